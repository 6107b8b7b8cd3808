/- Generic texts: S3 S4 S5 S6 S7. No condition. -/
import Derived.Test.YtecdefhecaeclaaDoorN4
import Derived.Laws.CopyOwn
namespace Go.Proofs.YtecdefhecaeclaaDoor.K
open Go Go.RowKit Go.Proofs.YtecdefhecaeclaaDoor.T
attribute [local simp] eTm eCo pNo gTp gTn qv qcall vop iop
set_option linter.unusedSimpArgs false
set_option linter.unusedVariables false
def sc_has (T0 T1:Nat):SC:=.seq (.reg [⟨some 2,.box T0 (.tmp 0),none⟩,⟨some 4,.assign (.const (.bool false)),none⟩]) (.seq (.reg [fa 5 T0 2 1,ld 6 T1 5,mv 7 1,⟨some 8,.binOp .leq T1 (.tmp 6) (.tmp 7) T1,none⟩,mv 9 8,⟨some 10,.fieldAddr T0 (.tmp 2) 2,some (4,true)⟩,⟨some 11,.load T1 (.tmp 10),some (4,true)⟩,⟨some 12,.binOp .lss T1 (.tmp 11) (.const (.int .i64 0)) T1,some (4,true)⟩,⟨some 13,.move (.tmp 12),some (4,true)⟩,⟨some 14,.move (.tmp 1),some (8,false)⟩,⟨some 15,.fieldAddr T0 (.tmp 2) 2,some (8,false)⟩,⟨some 16,.load T1 (.tmp 15),some (8,false)⟩,⟨some 17,.binOp .leq T1 (.tmp 14) (.tmp 16) T1,some (8,false)⟩,⟨some 18,.pick (.tmp 13) (.const (.bool true)) (.tmp 17),some (4,true)⟩,⟨some 19,.pick (.tmp 9) (.tmp 18) (.const (.bool false)),none⟩,asg 4 19]) (.ret))
def sc_isnull (T0 T1 T2 T3:Nat):SC:=.seq (.reg [⟨some 3,.box T0 (.tmp 0),none⟩,⟨some 5,.box T1 (.tmp 2),none⟩,⟨some 6,.assign (.const (.bool false)),none⟩]) (.seq (.reg [fa 7 T1 5 2,ld 8 T2 7,mv 9 8,⟨some 10,.fieldAddr T0 (.tmp 3) 3,some (2,true)⟩,⟨some 11,.load T3 (.tmp 10),some (2,true)⟩,⟨some 12,.binOp .geq T3 (.tmp 11) (.const (.int .i64 0)) T3,some (2,true)⟩,⟨some 13,.pick (.tmp 9) (.tmp 12) (.const (.bool false)),none⟩,mv 14 13,⟨some 15,.move (.tmp 1),some (7,true)⟩,⟨some 16,.fieldAddr T0 (.tmp 3) 3,some (7,true)⟩,⟨some 17,.load T3 (.tmp 16),some (7,true)⟩,⟨some 18,.binOp .geq T3 (.tmp 15) (.tmp 17) T3,some (7,true)⟩,⟨some 19,.pick (.tmp 14) (.tmp 18) (.const (.bool false)),none⟩,asg 6 19]) (.ret))
def sc_whole (T0 T1:Nat):SC:=.seq (.reg [⟨some 2,.assign (.const (.slice none 0 0)),none⟩]) (.seq (.reg [mv 3 0,mv 4 0,lenOp 5 T0 4,⟨some 6,.call ⟨.builtin .min,#[(.tmp 5),(.const (.int .i64 32767))],#[T1,T1]⟩,none⟩,⟨some 7,.slice T0 (.tmp 3) none (some (.tmp 6)) none,none⟩,asg 2 7]) (.ret))
def sc_things (T0 T1:Nat):SC:=.seq (.reg [⟨some 2,.assign (.const (.slice none 0 0)),none⟩]) (.seq (.reg [mv 3 0,mv 4 0,lenOp 5 T0 4,⟨some 6,.call ⟨.builtin .min,#[(.tmp 5),(.const (.int .i64 32767))],#[T1,T1]⟩,none⟩,⟨some 7,.slice T0 (.tmp 3) none (some (.tmp 6)) none,none⟩,asg 2 7]) (.ret))
def sc_at (T0 T1 T2:Nat):SC:=.seq (.reg [⟨some 2,.box T0 (.tmp 0),none⟩,⟨some 4,.alloc T0,none⟩]) (.seq (.seq (.reg [mv 5 1,fa 6 T0 2 3,ld 7 T1 6,lenOp 8 T1 7,⟨some 9,.binOp .lss T2 (.tmp 5) (.tmp 8) T2,none⟩]) (.cond (.tmp 9) (.seq (.reg [fa 10 T0 2 3,ld 11 T1 10,mv 12 1,⟨some 13,.indexAddr T1 (.tmp 11) (.tmp 12),none⟩,ld 14 T0 13,⟨none,.store T0 (.tmp 4) (.tmp 14),none⟩]) (.ret)) (.skip))) (.seq (.reg [⟨some 15,.build T0 #[],none⟩,⟨none,.store T0 (.tmp 4) (.tmp 15),none⟩]) (.ret)))
def sc_Uvarint (T0 T1 T2 T3:Nat):SC:=.seq (.reg [⟨some 2,.assign (.const (.slice none 0 0)),none⟩]) (.seq (.reg [⟨some 3,.assign (.const (.slice none 0 0)),none⟩]) (.seq (.block 0 (.loop (.seq (.seq (.reg [mv 4 0,⟨some 5,.binOp .gtr T0 (.tmp 4) (.const (.int .u64 127)) T0,none⟩]) (.cond (.tmp 5) (.skip) (.exit 0))) (.block 1 (.seq (.reg [mv 6 3,mv 7 0,⟨some 8,.binOp .and T0 (.tmp 7) (.const (.int .u64 127)) T0,none⟩,⟨some 9,.convert T0 T1 (.tmp 8),none⟩,⟨some 10,.binOp .or T1 (.tmp 9) (.const (.int .u8 128)) T1,none⟩,⟨some 11,.buildSlice T2 1 #[(0,(.tmp 10))],none⟩,⟨some 12,.call ⟨.builtin .append,#[(.tmp 6),(.tmp 11)],#[T2,T2]⟩,none⟩,asg 3 12]) (.reg [mv 13 0,⟨some 14,.binOp .shr T0 (.tmp 13) (.const (.int .u64 7)) T3,none⟩,asg 0 14])))))) (.seq (.reg [mv 15 3,mv 16 0,⟨some 17,.convert T0 T1 (.tmp 16),none⟩,⟨some 18,.buildSlice T2 1 #[(0,(.tmp 17))],none⟩,⟨some 19,.call ⟨.builtin .append,#[(.tmp 15),(.tmp 18)],#[T2,T2]⟩,none⟩,asg 2 19]) (.ret))))
def sc_Fixed (T0 T1 T2 T3:Nat):SC:=.seq (.reg [⟨some 4,.assign (.const (.slice none 0 0)),none⟩]) (.seq (.reg [⟨some 5,.assign (.const (.slice none 0 0)),none⟩]) (.seq (.seq (.reg [mv 7 1,⟨some 8,.binOp .sub T0 (.tmp 7) (.const (.int .i64 1)) T0,none⟩,asg 6 8]) (.block 0 (.loop (.seq (.seq (.reg [mv 9 6,⟨some 10,.binOp .geq T0 (.tmp 9) (.const (.int .i64 0)) T0,none⟩]) (.cond (.tmp 10) (.skip) (.exit 0))) (.seq (.block 1 (.reg [mv 13 5,mv 14 0,mv 15 6,⟨some 16,.binOp .mul T0 (.const (.int .i64 8)) (.tmp 15) T0,none⟩,⟨some 17,.binOp .shr T1 (.tmp 14) (.tmp 16) T0,none⟩,⟨some 18,.convert T1 T2 (.tmp 17),none⟩,⟨some 19,.buildSlice T3 1 #[(0,(.tmp 18))],none⟩,⟨some 20,.call ⟨.builtin .append,#[(.tmp 13),(.tmp 19)],#[T3,T3]⟩,none⟩,asg 5 20])) (.reg [mv 11 6,⟨some 12,.binOp .sub T0 (.tmp 11) (.const (.int .i64 1)) T0,none⟩,asg 6 12])))))) (.seq (.reg [mv 21 5,asg 4 21]) (.ret))))
def sc_width (T0:Nat):SC:=.seq (.reg [⟨some 2,.assign (.const (.int .i64 0)),none⟩]) (.seq (.seq (.reg [mv 3 0]) (.block 0 (.seq (.reg [⟨some 5,.binOp .eql T0 (.tmp 3) (.const (.int .i64 1)) T0,none⟩,asg 4 5]) (.cond (.tmp 4) (.seq (.reg [⟨some 2,.assign (.const (.int .i64 1)),none⟩]) (.ret)) (.seq (.seq (.reg [⟨some 7,.binOp .eql T0 (.tmp 3) (.const (.int .i64 2)) T0,none⟩,asg 6 7]) (.cond (.tmp 6) (.skip) (.reg [⟨some 8,.binOp .eql T0 (.tmp 3) (.const (.int .i64 5)) T0,none⟩,asg 6 8]))) (.cond (.tmp 6) (.seq (.reg [⟨some 2,.assign (.const (.int .i64 2)),none⟩]) (.ret)) (.seq (.reg [⟨some 10,.binOp .eql T0 (.tmp 3) (.const (.int .i64 3)) T0,none⟩,asg 9 10]) (.cond (.tmp 9) (.seq (.reg [⟨some 2,.assign (.const (.int .i64 4)),none⟩]) (.ret)) (.skip))))))))) (.seq (.reg [⟨some 2,.assign (.const (.int .i64 8)),none⟩]) (.ret)))
def sc_counted (T0 T1 T2 F0 F1:Nat):SC:=.seq (.reg [⟨some 8,.assign (.const (.slice none 0 0)),none⟩]) (.seq (.block 0 (.seq (.reg [mv 10 0,mv 11 10,⟨some 12,.move (.tmp 1),some (1,true)⟩,⟨some 13,.pick (.tmp 11) (.tmp 12) (.const (.bool false)),none⟩,asg 9 13]) (.cond (.tmp 9) (.seq (.reg [⟨some 14,.buildSlice T0 1 #[(0,(.const (.int .u8 0)))],none⟩,asg 8 14]) (.ret)) (.seq (.reg [mv 16 0,asg 15 16]) (.cond (.tmp 15) (.seq (.reg [mv 17 2,⟨some 18,.convert T1 T2 (.tmp 17),none⟩,⟨some 19,.binOp .add T2 (.tmp 18) (.const (.int .u64 1)) T2,none⟩,cal 20 F0 [19],asg 8 20]) (.ret)) (.seq (.reg [mv 22 1,asg 21 22]) (.cond (.tmp 21) (.seq (.reg [mv 23 3,⟨some 24,.call ⟨.value (.func F1),#[(.const (.int .i64 (-1))),(.tmp 23)],#[]⟩,none⟩,asg 8 24]) (.ret)) (.skip)))))))) (.seq (.reg [mv 25 2,mv 26 3,cal 27 F1 [25,26],asg 8 27]) (.ret)))
def sc_value (T0 T1 T2 T3 T4 F0 F1 F2 F3 F4:Nat):SC:=.seq (.reg [⟨some 11,.box T0 (.tmp 5),none⟩,⟨some 12,.assign (.const (.slice none 0 0)),none⟩]) (.seq (.seq (.reg [mv 16 0]) (.block 0 (.seq (.reg [⟨some 18,.binOp .eql T1 (.tmp 16) (.const (.int .i64 0)) T1,none⟩,asg 17 18]) (.cond (.tmp 17) (.seq (.reg [fa 19 T0 11 0,ld 20 T2 19,⟨some 21,.binOp .and T2 (.tmp 20) (.const (.int .i64 1)) T2,none⟩,⟨some 22,.convert T2 T3 (.tmp 21),none⟩,⟨some 23,.buildSlice T4 1 #[(0,(.tmp 22))],none⟩,asg 12 23]) (.ret)) (.seq (.reg [⟨some 25,.binOp .eql T1 (.tmp 16) (.const (.int .i64 7)) T1,none⟩,asg 24 25]) (.cond (.tmp 24) (.seq (.reg [⟨some 26,.makeSlice T4 (.const (.int .i64 16)) (.const (.int .i64 16)),none⟩,asg 13 26]) (.seq (.reg [mv 27 13,fa 28 T0 11 1,ld 29 T4 28,⟨some 30,.call ⟨.builtin .copy,#[(.tmp 27),(.tmp 29)],#[T4,T4]⟩,none⟩]) (.seq (.reg [mv 31 13,asg 12 31]) (.ret)))) (.seq (.reg [⟨some 33,.binOp .eql T1 (.tmp 16) (.const (.int .i64 8)) T1,none⟩,asg 32 33]) (.cond (.tmp 32) (.seq (.reg [fa 34 T0 11 1,ld 35 T4 34,cal 36 F0 [35],asg 14 36]) (.seq (.seq (.reg [mv 37 2]) (.cond (.tmp 37) (.reg [⟨some 14,.assign (.const (.slice none 0 0)),none⟩]) (.skip))) (.seq (.reg [mv 38 4,mv 39 2,mv 40 14,lenOp 41 T4 40,⟨some 42,.call ⟨.value (.func F1),#[(.tmp 38),(.tmp 39),(.tmp 41),(.const (.int .i64 2))],#[]⟩,none⟩,mv 43 14,⟨some 44,.call ⟨.builtin .append,#[(.tmp 42),(.tmp 43)],#[T4,T4]⟩,none⟩,asg 12 44]) (.ret)))) (.seq (.reg [⟨some 46,.binOp .eql T1 (.tmp 16) (.const (.int .i64 9)) T1,none⟩,asg 45 46]) (.cond (.tmp 45) (.seq (.reg [fa 47 T0 11 1,ld 48 T4 47,cal 49 F0 [48],asg 15 49]) (.seq (.seq (.reg [mv 50 2]) (.cond (.tmp 50) (.reg [⟨some 15,.assign (.const (.slice none 0 0)),none⟩]) (.skip))) (.seq (.reg [mv 51 4,mv 52 2,mv 53 15,lenOp 54 T4 53,⟨some 55,.call ⟨.value (.func F1),#[(.tmp 51),(.tmp 52),(.tmp 54),(.const (.int .i64 4))],#[]⟩,none⟩,mv 56 15,⟨some 57,.call ⟨.builtin .append,#[(.tmp 55),(.tmp 56)],#[T4,T4]⟩,none⟩,asg 12 57]) (.ret)))) (.seq (.reg [⟨some 59,.binOp .eql T1 (.tmp 16) (.const (.int .i64 10)) T1,none⟩,asg 58 59]) (.cond (.tmp 58) (.seq (.reg [mv 60 1,mv 61 3,mv 62 4,ld 63 T0 11,cal 64 F2 [60,61,62,63],asg 12 64]) (.ret)) (.skip))))))))))))) (.seq (.dreg [fa 65 T0 11 0,ld 66 T2 65,mv 67 0,cal 68 F3 [67],cal 69 F4 [66,68],asg 12 69] [[],[0],[],[2],[1,3,3],[4,4,0,1,2,3,4]]) (.ret)))
def sc_sfield (T0 T1 T2 T3 T4 T5 F0 F1 F2 F3 F4 F5:Nat):SC:=.seq (.reg [⟨some 4,.box T0 (.tmp 0),none⟩,⟨some 7,.box T1 (.tmp 3),none⟩,⟨some 8,.assign (.const (.slice none 0 0)),none⟩]) (.seq (.reg [ld 13 T0 4,mv 14 1,ld 15 T1 7,cal 16 F0 [13,14,15],asg 9 16]) (.seq (.seq (.reg [fa 17 T0 4 0,ld 18 T2 17,⟨some 19,.binOp .eql T2 (.tmp 18) (.const (.int .i64 11)) T2,none⟩]) (.cond (.tmp 19) (.seq (.reg [fa 20 T1 7 3,ld 21 T3 20,cal 22 F1 [21],asg 10 22]) (.seq (.seq (.reg [mv 23 9]) (.cond (.tmp 23) (.reg [⟨some 10,.assign (.const (.slice none 0 0)),none⟩]) (.skip))) (.seq (.reg [mv 24 2,mv 25 9,mv 26 10,lenOp 27 T3 26,⟨some 28,.call ⟨.value (.func F2),#[(.tmp 24),(.tmp 25),(.tmp 27),(.const (.int .i64 4))],#[]⟩,none⟩,asg 11 28]) (.seq (.seq (.reg [mv 29 10,lenOp 30 T3 29,⟨some 31,.move (.const (.int .i64 0)),none⟩]) (.block 0 (.loop (.seq (.reg [⟨some 32,.binOp .lss T2 (.tmp 31) (.tmp 30) T2,none⟩]) (.seq (.cond (.tmp 32) (.skip) (.exit 0)) (.seq (.block 1 (.seq (.reg [mv 33 31,asg 12 33]) (.dreg [mv 34 11,fa 35 T0 4 6,ld 36 T2 35,fa 37 T0 4 7,ld 38 T4 37,mv 39 1,mv 40 2,mv 41 10,mv 42 12,⟨some 43,.indexAddr T3 (.tmp 41) (.tmp 42),none⟩,ld 44 T1 43,⟨some 45,.call ⟨.value (.func F3),#[(.tmp 36),(.tmp 38),(.const (.bool false)),(.tmp 39),(.tmp 40),(.tmp 44)],#[]⟩,none⟩,⟨some 46,.call ⟨.builtin .append,#[(.tmp 34),(.tmp 45)],#[T5,T5]⟩,none⟩,asg 11 46] [[],[],[1],[],[3],[],[],[],[],[7,8],[9],[2,4,5,6,10],[0,11,11],[12,12,0,1,2,3,4,5,6,7,8,9,10,11,12]]))) (.reg [⟨some 47,.binOp .add T2 (.tmp 31) (.const (.int .i64 1)) T2,none⟩,mv 31 47]))))))) (.seq (.reg [mv 48 11,asg 8 48]) (.ret)))))) (.skip))) (.seq (.seq (.reg [fa 49 T0 4 0,ld 50 T2 49,⟨some 51,.binOp .eql T2 (.tmp 50) (.const (.int .i64 10)) T2,none⟩,mv 52 51,⟨some 53,.fieldAddr T0 (.tmp 4) 3,some (3,true)⟩,⟨some 54,.load T2 (.tmp 53),some (3,true)⟩,⟨some 55,.binOp .geq T2 (.tmp 54) (.const (.int .i64 0)) T2,some (3,true)⟩,⟨some 56,.pick (.tmp 52) (.tmp 55) (.const (.bool false)),none⟩]) (.cond (.tmp 56) (.seq (.seq (.reg [mv 57 9]) (.cond (.tmp 57) (.seq (.reg [⟨some 58,.call ⟨.value (.func F4),#[(.const (.int .i64 (-1))),(.const (.int .i64 1))],#[]⟩,none⟩,asg 8 58]) (.ret)) (.skip))) (.seq (.dreg [⟨some 59,.call ⟨.value (.func F4),#[(.const (.int .i64 1)),(.const (.int .i64 1))],#[]⟩,none⟩,fa 60 T0 4 7,ld 61 T4 60,mv 62 1,mv 63 2,ld 64 T1 7,cal 65 F5 [61,62,63,64],⟨some 66,.call ⟨.builtin .append,#[(.tmp 59),(.tmp 65)],#[T5,T5]⟩,none⟩,asg 8 66] [[],[],[1],[],[],[],[2,3,4,5,0],[0,6,6],[7,7,0,1,2,3,4,5,6,7]]) (.ret))) (.skip))) (.seq (.reg [fa 67 T0 4 0,ld 68 T2 67,fa 69 T0 4 7,ld 70 T4 69,mv 71 9,mv 72 1,mv 73 2,ld 74 T1 7,cal 75 F3 [68,70,71,72,73,74],asg 8 75]) (.ret)))))
def sc_known (T0 T1 T2 T3:Nat):SC:=.seq (.reg [⟨some 2,.assign (.const (.int .u32 0)),none⟩]) (.seq (.reg [⟨some 3,.assign (.const (.int .u32 0)),none⟩]) (.seq (.seq (.reg [mv 6 0,lenOp 7 T0 6,⟨some 8,.move (.const (.int .i64 0)),none⟩]) (.block 0 (.loop (.seq (.reg [⟨some 9,.binOp .lss T1 (.tmp 8) (.tmp 7) T1,none⟩]) (.seq (.cond (.tmp 9) (.skip) (.exit 0)) (.seq (.block 1 (.seq (.reg [⟨some 10,.indexAddr T0 (.tmp 6) (.tmp 8),none⟩,ld 11 T2 10,⟨some 5,.alloc T2,none⟩,⟨none,.store T2 (.tmp 5) (.tmp 11),none⟩]) (.seq (.reg [fa 12 T2 5 4,ld 13 T1 12,⟨some 14,.binOp .geq T1 (.tmp 13) (.const (.int .i64 0)) T1,none⟩]) (.cond (.tmp 14) (.reg [mv 15 3,fa 16 T2 5 4,ld 17 T1 16,⟨some 18,.convert T1 T3 (.tmp 17),none⟩,⟨some 19,.binOp .add T3 (.tmp 18) (.const (.int .u32 1)) T3,none⟩,⟨some 20,.call ⟨.builtin .max,#[(.tmp 15),(.tmp 19)],#[T3,T3]⟩,none⟩,asg 3 20]) (.skip))))) (.reg [⟨some 21,.binOp .add T1 (.tmp 8) (.const (.int .i64 1)) T1,none⟩,mv 8 21]))))))) (.seq (.reg [mv 22 3,asg 2 22]) (.ret))))
def sc_part (T0 T1 T2 T3 T4 T5 T6 T7 T8 T9 F0 F1 F2 F3 F4 F5 F6 F7:Nat):SC:=.seq (.reg [⟨some 7,.box T0 (.tmp 3),none⟩,⟨some 8,.assign (.const (.slice none 0 0)),none⟩]) (.seq (.reg [⟨some 9,.assign (.const (.slice none 0 0)),none⟩,⟨some 10,.assign (.const (.slice none 0 0)),none⟩]) (.seq (.reg [⟨some 11,.assign (.const (.int .i64 0)),none⟩]) (.seq (.seq (.reg [mv 21 0,lenOp 22 T1 21,⟨some 23,.move (.const (.int .i64 0)),none⟩]) (.block 0 (.loop (.seq (.reg [⟨some 24,.binOp .lss T2 (.tmp 23) (.tmp 22) T2,none⟩]) (.seq (.cond (.tmp 24) (.skip) (.exit 0)) (.seq (.block 1 (.seq (.reg [mv 25 23,⟨some 26,.indexAddr T1 (.tmp 21) (.tmp 23),none⟩,ld 27 T3 26,⟨some 13,.alloc T3,none⟩,asg 12 25,⟨none,.store T3 (.tmp 13) (.tmp 27),none⟩]) (.seq (.reg [fa 28 T3 13 4,ld 29 T2 28,⟨some 30,.binOp .lss T2 (.tmp 29) (.const (.int .i64 0)) T2,none⟩,mv 31 30,⟨some 32,.load T3 (.tmp 13),some (3,true)⟩,⟨some 33,.move (.tmp 1),some (3,true)⟩,⟨some 34,.call ⟨.value (.func F0),#[(.tmp 32),(.tmp 33)],#[]⟩,some (3,true)⟩,⟨some 35,.pick (.tmp 31) (.tmp 34) (.const (.bool false)),none⟩]) (.cond (.tmp 35) (.dreg [mv 36 9,ld 37 T3 13,mv 38 1,mv 39 2,ld 40 T0 7,mv 41 12,cal 42 F1 [40,41],cal 43 F2 [37,38,39,42],⟨some 44,.call ⟨.builtin .append,#[(.tmp 36),(.tmp 43)],#[T4,T4]⟩,none⟩,asg 9 44] [[],[],[],[],[],[],[4,5],[1,2,3,6,6],[0,7,7],[8,8,0,1,2,3,4,5,6,7,8]]) (.skip))))) (.reg [⟨some 45,.binOp .add T2 (.tmp 23) (.const (.int .i64 1)) T2,none⟩,mv 23 45]))))))) (.seq (.seq (.reg [mv 46 2,⟨some 47,.unOp .not T5 (.tmp 46),none⟩]) (.cond (.tmp 47) (.seq (.reg [mv 48 9,asg 8 48]) (.ret)) (.skip))) (.seq (.seq (.reg [mv 49 0,cal 50 F3 [49],⟨some 51,.convert T6 T2 (.tmp 50),none⟩,⟨some 52,.move (.const (.int .i64 0)),none⟩]) (.block 2 (.loop (.seq (.reg [⟨some 53,.binOp .lss T2 (.tmp 52) (.tmp 51) T2,none⟩]) (.seq (.cond (.tmp 53) (.skip) (.exit 2)) (.seq (.block 3 (.seq (.reg [mv 54 52,asg 14 54]) (.seq (.reg [mv 55 0,lenOp 56 T1 55,⟨some 57,.move (.const (.int .i64 0)),none⟩]) (.block 4 (.loop (.seq (.reg [⟨some 58,.binOp .lss T2 (.tmp 57) (.tmp 56) T2,none⟩]) (.seq (.cond (.tmp 58) (.skip) (.exit 4)) (.seq (.block 5 (.seq (.reg [mv 59 57,⟨some 60,.indexAddr T1 (.tmp 55) (.tmp 57),none⟩,ld 61 T3 60,⟨some 16,.alloc T3,none⟩,asg 15 59,⟨none,.store T3 (.tmp 16) (.tmp 61),none⟩]) (.seq (.dreg [fa 62 T3 16 4,ld 63 T2 62,mv 64 14,⟨some 65,.binOp .eql T2 (.tmp 63) (.tmp 64) T2,none⟩,mv 66 65,⟨some 67,.load T3 (.tmp 16),some (4,true)⟩,⟨some 68,.load T0 (.tmp 7),some (4,true)⟩,⟨some 69,.move (.tmp 15),some (4,true)⟩,⟨some 70,.call ⟨.value (.func F1),#[(.tmp 68),(.tmp 69)],#[]⟩,some (4,true)⟩,⟨some 71,.call ⟨.value (.func F4),#[(.tmp 67),(.tmp 70)],#[]⟩,some (4,true)⟩,⟨some 72,.unOp .not T5 (.tmp 71),some (4,true)⟩,⟨some 73,.pick (.tmp 66) (.tmp 72) (.const (.bool false)),none⟩] [[],[0],[],[1,2],[3],[4],[4],[4],[6,7,4,4],[5,8,8,4],[9,4],[4,10]]) (.cond (.tmp 73) (.seq (.dreg [ld 74 T3 16,mv 75 1,mv 76 2,ld 77 T0 7,mv 78 15,cal 79 F1 [77,78],cal 80 F2 [74,75,76,79],asg 17 80] [[],[],[],[],[],[3,4],[0,1,2,5,5],[6,6,0,1,2,3,4,5,6]]) (.seq (.reg [mv 81 10,mv 82 14,⟨some 83,.convert T2 T7 (.tmp 82),none⟩,cal 84 F5 [83],⟨some 85,.call ⟨.builtin .append,#[(.tmp 81),(.tmp 84)],#[T4,T4]⟩,none⟩,mv 86 17,lenOp 87 T4 86,⟨some 88,.convert T2 T7 (.tmp 87),none⟩,cal 89 F5 [88],⟨some 90,.call ⟨.builtin .append,#[(.tmp 85),(.tmp 89)],#[T4,T4]⟩,none⟩,mv 91 17,⟨some 92,.call ⟨.builtin .append,#[(.tmp 90),(.tmp 91)],#[T4,T4]⟩,none⟩,asg 10 92]) (.reg [mv 93 11,⟨some 94,.binOp .add T2 (.tmp 93) (.const (.int .i64 1)) T2,none⟩,asg 11 94]))) (.skip))))) (.reg [⟨some 95,.binOp .add T2 (.tmp 57) (.const (.int .i64 1)) T2,none⟩,mv 57 95]))))))))) (.reg [⟨some 96,.binOp .add T2 (.tmp 52) (.const (.int .i64 1)) T2,none⟩,mv 52 96]))))))) (.seq (.seq (.reg [mv 97 0,fa 98 T0 7 4,ld 99 T8 98,cal 100 F6 [97,99],lenOp 101 T8 100,⟨some 102,.move (.const (.int .i64 0)),none⟩]) (.block 6 (.loop (.seq (.reg [⟨some 103,.binOp .lss T2 (.tmp 102) (.tmp 101) T2,none⟩]) (.seq (.cond (.tmp 103) (.skip) (.exit 6)) (.seq (.block 7 (.seq (.reg [⟨some 104,.indexAddr T8 (.tmp 100) (.tmp 102),none⟩,ld 105 T9 104,⟨some 19,.alloc T9,none⟩,⟨none,.store T9 (.tmp 19) (.tmp 105),none⟩]) (.seq (.reg [fa 106 T9 19 1,ld 107 T4 106,cal 108 F7 [107],asg 20 108]) (.seq (.reg [mv 109 10,fa 110 T9 19 0,ld 111 T6 110,⟨some 112,.convert T6 T7 (.tmp 111),none⟩,cal 113 F5 [112],⟨some 114,.call ⟨.builtin .append,#[(.tmp 109),(.tmp 113)],#[T4,T4]⟩,none⟩,mv 115 20,lenOp 116 T4 115,⟨some 117,.convert T2 T7 (.tmp 116),none⟩,cal 118 F5 [117],⟨some 119,.call ⟨.builtin .append,#[(.tmp 114),(.tmp 118)],#[T4,T4]⟩,none⟩,mv 120 20,⟨some 121,.call ⟨.builtin .append,#[(.tmp 119),(.tmp 120)],#[T4,T4]⟩,none⟩,asg 10 121]) (.reg [mv 122 11,⟨some 123,.binOp .add T2 (.tmp 122) (.const (.int .i64 1)) T2,none⟩,asg 11 123]))))) (.reg [⟨some 124,.binOp .add T2 (.tmp 102) (.const (.int .i64 1)) T2,none⟩,mv 102 124]))))))) (.seq (.reg [mv 125 9,mv 126 11,⟨some 127,.convert T2 T7 (.tmp 126),none⟩,cal 128 F5 [127],⟨some 129,.call ⟨.builtin .append,#[(.tmp 125),(.tmp 128)],#[T4,T4]⟩,none⟩,mv 130 10,⟨some 131,.call ⟨.builtin .append,#[(.tmp 129),(.tmp 130)],#[T4,T4]⟩,none⟩,asg 8 131]) (.ret))))))))
def sc_Write (T0 T1 T2 T3 F0:Nat):SC:=.seq (.reg [⟨some 3,.box T0 (.tmp 0),none⟩,⟨some 5,.box T1 (.tmp 2),none⟩,⟨some 6,.assign (.const (.slice none 0 0)),none⟩]) (.seq (.reg [fa 7 T0 3 0,ld 8 T2 7,mv 9 1,fa 10 T0 3 1,ld 11 T3 10,⟨some 12,.binOp .geq T3 (.tmp 11) (.const (.int .i64 0)) T3,none⟩,mv 13 12,⟨some 14,.move (.tmp 1),some (6,true)⟩,⟨some 15,.fieldAddr T0 (.tmp 3) 1,some (6,true)⟩,⟨some 16,.load T3 (.tmp 15),some (6,true)⟩,⟨some 17,.binOp .geq T3 (.tmp 14) (.tmp 16) T3,some (6,true)⟩,⟨some 18,.pick (.tmp 13) (.tmp 17) (.const (.bool false)),none⟩,ld 19 T1 5,cal 20 F0 [8,9,18,19],asg 6 20]) (.ret))
def sc_SDefault (T0 T1 T2 T3 T4 T5 F0:Nat):SC:=.seq (.reg [⟨some 2,.alloc T0,none⟩]) (.seq (.reg [⟨some 3,.alloc T0,none⟩]) (.seq (.seq (.reg [mv 7 0,lenOp 8 T1 7,⟨some 9,.move (.const (.int .i64 0)),none⟩]) (.block 0 (.loop (.seq (.reg [⟨some 10,.binOp .lss T2 (.tmp 9) (.tmp 8) T2,none⟩]) (.seq (.cond (.tmp 10) (.skip) (.exit 0)) (.seq (.block 1 (.seq (.reg [⟨some 11,.indexAddr T1 (.tmp 7) (.tmp 9),none⟩,ld 12 T3 11,⟨some 5,.alloc T3,none⟩,⟨none,.store T3 (.tmp 5) (.tmp 12),none⟩]) (.seq (.reg [fa 13 T3 5 5,ld 14 T4 13,fa 15 T3 5 3,ld 16 T2 15,⟨some 17,.binOp .geq T2 (.tmp 16) (.const (.int .i64 0)) T2,none⟩,⟨some 18,.build T0 #[(0,(.tmp 14)),(2,(.tmp 17))],none⟩,⟨some 6,.alloc T0,none⟩,⟨none,.store T0 (.tmp 6) (.tmp 18),none⟩]) (.seq (.seq (.reg [fa 19 T3 5 0,ld 20 T2 19,⟨some 21,.binOp .eql T2 (.tmp 20) (.const (.int .i64 10)) T2,none⟩]) (.cond (.tmp 21) (.reg [fa 22 T3 5 7,ld 23 T1 22,cal 24 F0 [23],⟨some 25,.field T0 (.tmp 24) 3,none⟩,fa 26 T0 6 3,⟨none,.store T5 (.tmp 26) (.tmp 25),none⟩]) (.skip))) (.reg [fa 27 T0 3 3,ld 28 T5 27,ld 29 T0 6,⟨some 30,.buildSlice T5 1 #[(0,(.tmp 29))],none⟩,⟨some 31,.call ⟨.builtin .append,#[(.tmp 28),(.tmp 30)],#[T5,T5]⟩,none⟩,fa 32 T0 3 3,⟨none,.store T5 (.tmp 32) (.tmp 31),none⟩]))))) (.reg [⟨some 33,.binOp .add T2 (.tmp 9) (.const (.int .i64 1)) T2,none⟩,mv 9 33]))))))) (.seq (.reg [ld 34 T0 3,⟨none,.store T0 (.tmp 2) (.tmp 34),none⟩]) (.ret))))
def sc_Same (T0 T1 T2:Nat):SC:=.seq (.reg [⟨some 4,.assign (.const (.bool false)),none⟩]) (.seq (.seq (.reg [mv 6 0,lenOp 7 T0 6,mv 8 1,lenOp 9 T0 8,⟨some 10,.binOp .neq T1 (.tmp 7) (.tmp 9) T1,none⟩]) (.cond (.tmp 10) (.seq (.reg [⟨some 4,.assign (.const (.bool false)),none⟩]) (.ret)) (.skip))) (.seq (.seq (.reg [mv 11 0,lenOp 12 T0 11,⟨some 13,.move (.const (.int .i64 0)),none⟩]) (.block 0 (.loop (.seq (.reg [⟨some 14,.binOp .lss T1 (.tmp 13) (.tmp 12) T1,none⟩]) (.seq (.cond (.tmp 14) (.skip) (.exit 0)) (.seq (.block 1 (.seq (.reg [mv 15 13,asg 5 15]) (.seq (.dreg [mv 16 0,mv 17 5,⟨some 18,.indexAddr T0 (.tmp 16) (.tmp 17),none⟩,ld 19 T2 18,mv 20 1,mv 21 5,⟨some 22,.indexAddr T0 (.tmp 20) (.tmp 21),none⟩,ld 23 T2 22,⟨some 24,.binOp .neq T2 (.tmp 19) (.tmp 23) T2,none⟩] [[],[],[0,1],[2],[],[],[4,5],[6],[3,7]]) (.cond (.tmp 24) (.seq (.reg [⟨some 4,.assign (.const (.bool false)),none⟩]) (.ret)) (.skip))))) (.reg [⟨some 25,.binOp .add T1 (.tmp 13) (.const (.int .i64 1)) T1,none⟩,mv 13 25]))))))) (.seq (.reg [⟨some 4,.assign (.const (.bool true)),none⟩]) (.ret))))
def sc_version (T0 T1:Nat):SC:=.seq (.reg [⟨some 4,.assign (.const (.int .i64 0)),none⟩]) (.seq (.reg [mv 5 0,⟨some 6,.convert T0 T1 (.tmp 5),none⟩,mv 7 1,⟨some 8,.binOp .add T1 (.tmp 7) (.const (.int .i64 1)) T1,none⟩,⟨some 9,.binOp .rem T1 (.tmp 6) (.tmp 8) T1,none⟩,asg 4 9]) (.ret))
def sc_unknown (T0 T1 T2 T3 F0:Nat):SC:=.seq (.reg [⟨some 4,.assign (.const (.slice none 0 0)),none⟩]) (.seq (.reg [mv 11 0,cal 12 F0 [11],asg 5 12]) (.seq (.reg [⟨some 6,.assign (.const (.slice none 0 0)),none⟩]) (.seq (.seq (.reg [mv 13 1,mv 14 1,lenOp 15 T0 14,⟨some 16,.call ⟨.builtin .min,#[(.tmp 15),(.const (.int .i64 32767))],#[T1,T1]⟩,none⟩,⟨some 17,.slice T0 (.tmp 13) none (some (.tmp 16)) none,none⟩,lenOp 18 T0 17,⟨some 19,.move (.const (.int .i64 0)),none⟩]) (.block 0 (.loop (.seq (.reg [⟨some 20,.binOp .lss T1 (.tmp 19) (.tmp 18) T1,none⟩]) (.seq (.cond (.tmp 20) (.skip) (.exit 0)) (.seq (.block 1 (.seq (.reg [⟨some 21,.indexAddr T0 (.tmp 17) (.tmp 19),none⟩,ld 22 T2 21,⟨some 8,.alloc T2,none⟩,⟨none,.store T2 (.tmp 8) (.tmp 22),none⟩]) (.seq (.reg [⟨some 9,.assign (.const (.int .i64 0)),none⟩]) (.seq (.block 2 (.loop (.seq (.seq (.dreg [mv 23 9,mv 24 6,lenOp 25 T0 24,⟨some 26,.binOp .lss T1 (.tmp 23) (.tmp 25) T1,none⟩,mv 27 26,⟨some 28,.move (.tmp 6),some (4,true)⟩,⟨some 29,.move (.tmp 9),some (4,true)⟩,⟨some 30,.indexAddr T0 (.tmp 28) (.tmp 29),some (4,true)⟩,⟨some 31,.fieldAddr T2 (.tmp 30) 0,some (4,true)⟩,⟨some 32,.load T3 (.tmp 31),some (4,true)⟩,⟨some 33,.fieldAddr T2 (.tmp 8) 0,some (4,true)⟩,⟨some 34,.load T3 (.tmp 33),some (4,true)⟩,⟨some 35,.binOp .lss T3 (.tmp 32) (.tmp 34) T3,some (4,true)⟩,⟨some 36,.pick (.tmp 27) (.tmp 35) (.const (.bool false)),none⟩] [[],[],[1],[0,2],[3],[4],[4],[5,6,4],[7,4],[8,4],[4],[10,4],[9,11,4],[4,12]]) (.cond (.tmp 36) (.skip) (.exit 2))) (.block 3 (.reg [mv 37 9,⟨some 38,.binOp .add T1 (.tmp 37) (.const (.int .i64 1)) T1,none⟩,asg 9 38]))))) (.seq (.seq (.dreg [fa 39 T2 8 0,ld 40 T3 39,mv 41 5,⟨some 42,.binOp .lss T3 (.tmp 40) (.tmp 41) T3,none⟩,mv 43 42,⟨some 44,.move (.tmp 9),some (4,false)⟩,⟨some 45,.move (.tmp 6),some (4,false)⟩,⟨some 46,.call ⟨.builtin .len,#[(.tmp 45)],#[T0]⟩,some (4,false)⟩,⟨some 47,.binOp .lss T1 (.tmp 44) (.tmp 46) T1,some (4,false)⟩,⟨some 48,.move (.tmp 47),some (4,false)⟩,⟨some 49,.move (.tmp 6),some (9,true)⟩,⟨some 50,.move (.tmp 9),some (9,true)⟩,⟨some 51,.indexAddr T0 (.tmp 49) (.tmp 50),some (9,true)⟩,⟨some 52,.fieldAddr T2 (.tmp 51) 0,some (9,true)⟩,⟨some 53,.load T3 (.tmp 52),some (9,true)⟩,⟨some 54,.fieldAddr T2 (.tmp 8) 0,some (9,true)⟩,⟨some 55,.load T3 (.tmp 54),some (9,true)⟩,⟨some 56,.binOp .eql T3 (.tmp 53) (.tmp 55) T3,some (9,true)⟩,⟨some 57,.pick (.tmp 48) (.tmp 56) (.const (.bool false)),some (4,false)⟩,⟨some 58,.pick (.tmp 43) (.const (.bool true)) (.tmp 57),none⟩] [[],[0],[],[1,2],[3],[4],[4],[6,4],[5,7,4],[8,4,4],[9],[9],[10,11,9],[12,9],[13,9],[9],[15,9],[14,16,9],[9,17,4],[4,18]]) (.cond (.tmp 58) (.exit 1) (.skip))) (.seq (.reg [mv 59 6,⟨some 60,.build T2 #[],none⟩,⟨some 61,.buildSlice T0 1 #[(0,(.tmp 60))],none⟩,⟨some 62,.call ⟨.builtin .append,#[(.tmp 59),(.tmp 61)],#[T0,T0]⟩,none⟩,asg 6 62]) (.seq (.seq (.reg [mv 63 6,lenOp 64 T0 63,⟨some 65,.binOp .sub T1 (.tmp 64) (.const (.int .i64 1)) T1,none⟩,asg 10 65]) (.block 4 (.loop (.seq (.seq (.reg [mv 66 10,mv 67 9,⟨some 68,.binOp .gtr T1 (.tmp 66) (.tmp 67) T1,none⟩]) (.cond (.tmp 68) (.skip) (.exit 4))) (.seq (.block 5 (.reg [mv 71 6,mv 72 10,mv 73 6,mv 74 10,⟨some 75,.binOp .sub T1 (.tmp 74) (.const (.int .i64 1)) T1,none⟩,⟨some 76,.indexAddr T0 (.tmp 73) (.tmp 75),none⟩,ld 77 T2 76,⟨some 78,.indexAddr T0 (.tmp 71) (.tmp 72),none⟩,⟨none,.store T2 (.tmp 78) (.tmp 77),none⟩])) (.reg [mv 69 10,⟨some 70,.binOp .sub T1 (.tmp 69) (.const (.int .i64 1)) T1,none⟩,asg 10 70])))))) (.reg [mv 79 6,mv 80 9,ld 81 T2 8,⟨some 82,.indexAddr T0 (.tmp 79) (.tmp 80),none⟩,⟨none,.store T2 (.tmp 82) (.tmp 81),none⟩])))))))) (.reg [⟨some 83,.binOp .add T1 (.tmp 19) (.const (.int .i64 1)) T1,none⟩,mv 19 83]))))))) (.seq (.reg [mv 84 6,asg 4 84]) (.ret)))))
structure STy where
  I:Nat
  B:Nat
  U8:Nat
  U32:Nat
  U64:Nat
  Bs:Nat
  F:Nat
  Fs:Nat
  T:Nat
  Ts:Nat
  Tg:Nat
  Tgs:Nat
  I64:Nat
  M:Nat
  U:Nat
def stOK (P:Program) (X:STy):Bool :=
  intK P X.I == some .i64 && intK P X.I64 == some .i64 && intK P X.U8 == some .u8 && intK P X.U32 == some .u32 && intK P X.U64 == some .u64 &&
  oneB P X.I && oneB P X.B && oneB P X.I64 && oneB P X.U8 && oneB P X.U32 && oneB P X.Bs && oneB P X.Fs && oneB P X.Ts && oneB P X.Tgs &&
  u8sB P X.Bs X.U8 && aggN P X.F == some 8 && aggN P X.T == some 5 && aggN P X.M == some 2 && aggN P X.Tg == some 2 &&
  sliceN P X.Bs == some 1 && sliceN P X.Fs == some 8 && sliceN P X.Ts == some 5 && sliceN P X.Tgs == some 2 &&
  fieldOff P X.F 0 == some 0 && fieldOff P X.F 1 == some 1 && fieldOff P X.F 2 == some 2 && fieldOff P X.F 3 == some 3 && fieldOff P X.F 4 == some 4 && fieldOff P X.F 5 == some 5 && fieldOff P X.F 6 == some 6 && fieldOff P X.F 7 == some 7 &&
  fieldOff P X.T 0 == some 0 && fieldOff P X.T 1 == some 1 && fieldOff P X.T 2 == some 2 && fieldOff P X.T 3 == some 3 && fieldOff P X.T 4 == some 4 &&
  fieldOff P X.M 0 == some 0 && fieldOff P X.M 1 == some 1 && fieldOff P X.Tg 0 == some 0 && fieldOff P X.Tg 1 == some 1 &&
  !oneB P X.F && !oneB P X.T && !oneB P X.M && !oneB P X.Tg
theorem st_facts {P:Program} {X:STy} (h:stOK P X=true) :
    (intK P X.I=some .i64∧intK P X.I64=some .i64∧intK P X.U8=some .u8∧intK P X.U32=some .u32∧intK P X.U64=some .u64) ∧
    (oneB P X.I=true∧oneB P X.B=true∧oneB P X.I64=true∧oneB P X.U8=true∧oneB P X.U32=true∧oneB P X.Bs=true∧oneB P X.Fs=true∧oneB P X.Ts=true∧oneB P X.Tgs=true) ∧
    (u8sB P X.Bs X.U8=true∧aggN P X.F=some 8∧aggN P X.T=some 5∧aggN P X.M=some 2∧aggN P X.Tg=some 2) ∧
    (sliceN P X.Bs=some 1∧sliceN P X.Fs=some 8∧sliceN P X.Ts=some 5∧sliceN P X.Tgs=some 2) ∧
    (fieldOff P X.F 0=some 0∧fieldOff P X.F 1=some 1∧fieldOff P X.F 2=some 2∧fieldOff P X.F 3=some 3∧fieldOff P X.F 4=some 4∧fieldOff P X.F 5=some 5∧fieldOff P X.F 6=some 6∧fieldOff P X.F 7=some 7) ∧
    (fieldOff P X.T 0=some 0∧fieldOff P X.T 1=some 1∧fieldOff P X.T 2=some 2∧fieldOff P X.T 3=some 3∧fieldOff P X.T 4=some 4) ∧
    (fieldOff P X.M 0=some 0∧fieldOff P X.M 1=some 1∧fieldOff P X.Tg 0=some 0∧fieldOff P X.Tg 1=some 1) ∧
    (oneB P X.F=false∧oneB P X.T=false∧oneB P X.M=false∧oneB P X.Tg=false):=by
  simp only [stOK,Bool.and_eq_true,beq_iff_eq,Bool.not_eq_true'] at h
  simp only [h,and_self]
def fldV (k fr to nu tg df of_:Int) (sub:Value):Value:=.agg #[.int .i64 k,.int .i64 fr,.int .i64 to,.int .i64 nu,.int .i64 tg,.int .i64 df,.int .i64 of_,sub]
def treV (n:Int) (s:Value) (null:Bool) (l u:Value):Value:=.agg #[.int .i64 n,s,.bool null,l,u]
section
variable {P:Program} {X:STy} {f:FuncId} {fn:Func}
theorem ops_box {all:List SOp} {a:Act} {w w0:World} {K:Act→World→Prop} {T d B:Nat} {x:Operand} {cs:Array Value} {r:List SOp} (hx:a.eval x=.agg cs) (hB:B≤w.heap.size) (hb:Below B w0 w)
    (h:∀ w',Below w.heap.size w w'→Below B w0 w'→w'.heap.size=w.heap.size+1→(∀ j,w'.cell? ⟨w.heap.size,j,none⟩=cs[j]?)→w'.heap[w.heap.size]?=some (.cells cs T (0,0))→opsw P all r K (a.put (some d) (.pointer (some ⟨w.heap.size,0,none⟩))) w'):opsw P all (⟨some d,.box T x,none⟩ :: r) K a w :=
  oNo rfl (opw_box hx (h _ ((Below.refl _ w).alloc (Nat.le_refl _) _) (hb.alloc hB _) (by simp) (fun j=>cell_of_row _ _ _ _ _ _ (heap_alloc_new w _)) (heap_alloc_new w _)))
theorem has_ok (hX:stOK P X=true) (hf:P.funcs[f]?=some fn) (hb:fn.body.map strip=some (sc_has X.F X.I)) (hn:fn.ntmps=20) (hr:fn.results=#[.tmp 4])
    (w:World) (k fr to nu tg df of_:Int) (sub:Value) (ver:Int) :
    Calls P f #[fldV k fr to nu tg df of_ sub,.int .i64 ver] w fun e w'=>e=.returned (.bool (decide (fr≤ver) && (decide (to < 0) || decide (ver≤to))))∧Below w.heap.size w w':=by
  have hst:=st_facts hX
  refine fCa hf hb hn (by simp) fun a0 hs hd ha=>?_
  have h0:=ha 0 _ rfl
  have h1:=ha 1 _ rfl
  refine SC.wp_seq (SC.wp_reg (ops_box (B:=w.heap.size) (w0:=w) (by rw [eTm,h0];rfl) (Nat.le_refl _) (Below.refl _ _) fun w1 q1 q2 q3 hc q5=>?_))
  (first | (apply ops_1;(focus (simp (disch:=(try simp only [sPu]);omega) [eTm,eCo,gTp,gTn];try rfl))) | (apply ops_y;(focus rfl);(focus ((try simp only [sPu]);omega));(focus (simp (disch:=(try simp only [sPu]);omega) [gTp,gTn];done));(focus (simp (disch:=(try simp only [sPu]);omega) [eTm,eCo,gTp,gTn];try rfl))) | (apply ops_n;(focus rfl);(focus ((try simp only [sPu]);omega));(focus (first | (left;simp (disch:=(try simp only [sPu]);omega) [gTp,gTn];done) | (right;simp (disch:=(try simp only [sPu]);omega) [gTp,gTn];done)))))
  refine oNi ?_
  generalize w.heap.size=b0 at *
  simp only [List.getElem_toArray,List.getElem_cons_zero,List.getElem_cons_succ] at h0 h1
  cases e1:decide (fr≤ver)
  · refine SC.wp_seq (SC.wp_reg ?_)
    repeat (first | (apply ops_1;(focus (simp (disch:=(try simp only [sPu]);omega) [eTm,eCo,gTp,gTn,hst,hc,e1,h0,h1];try rfl))) | (apply ops_y;(focus rfl);(focus ((try simp only [sPu]);omega));(focus (simp (disch:=(try simp only [sPu]);omega) [gTp,gTn,hst,hc,e1,h0,h1];done));(focus (simp (disch:=(try simp only [sPu]);omega) [eTm,eCo,gTp,gTn,hst,hc,e1,h0,h1];try rfl))) | (apply ops_n;(focus rfl);(focus ((try simp only [sPu]);omega));(focus (first | (left;simp (disch:=(try simp only [sPu]);omega) [gTp,gTn,hst,hc,e1,h0,h1];done) | (right;simp (disch:=(try simp only [sPu]);omega) [gTp,gTn];done)))))
    refine oNi (SC.wp_ret (ret_tmp hr (by simp [dPu,hd]) ⟨?_,q2⟩))
    simp (disch:=(try simp only [sPu]);omega) [eTm,eCo,gTp,gTn,e1]
  · cases e2:decide (to < 0)
    · cases e3:decide (ver≤to)
      · refine SC.wp_seq (SC.wp_reg ?_)
        repeat (first | (apply ops_1;(focus (simp (disch:=(try simp only [sPu]);omega) [eTm,eCo,gTp,gTn,hst,hc,e1,e2,e3,h0,h1];try rfl))) | (apply ops_y;(focus rfl);(focus ((try simp only [sPu]);omega));(focus (simp (disch:=(try simp only [sPu]);omega) [gTp,gTn,hst,hc,e1,e2,e3,h0,h1];done));(focus (simp (disch:=(try simp only [sPu]);omega) [eTm,eCo,gTp,gTn,hst,hc,e1,e2,e3,h0,h1];try rfl))) | (apply ops_n;(focus rfl);(focus ((try simp only [sPu]);omega));(focus (first | (left;simp (disch:=(try simp only [sPu]);omega) [gTp,gTn,hst,hc,e1,e2,e3,h0,h1];done) | (right;simp (disch:=(try simp only [sPu]);omega) [gTp,gTn];done)))))
        refine oNi (SC.wp_ret (ret_tmp hr (by simp [dPu,hd]) ⟨?_,q2⟩))
        simp (disch:=(try simp only [sPu]);omega) [eTm,eCo,gTp,gTn,e1,e2,e3]
      · refine SC.wp_seq (SC.wp_reg ?_)
        repeat (first | (apply ops_1;(focus (simp (disch:=(try simp only [sPu]);omega) [eTm,eCo,gTp,gTn,hst,hc,e1,e2,e3,h0,h1];try rfl))) | (apply ops_y;(focus rfl);(focus ((try simp only [sPu]);omega));(focus (simp (disch:=(try simp only [sPu]);omega) [gTp,gTn,hst,hc,e1,e2,e3,h0,h1];done));(focus (simp (disch:=(try simp only [sPu]);omega) [eTm,eCo,gTp,gTn,hst,hc,e1,e2,e3,h0,h1];try rfl))) | (apply ops_n;(focus rfl);(focus ((try simp only [sPu]);omega));(focus (first | (left;simp (disch:=(try simp only [sPu]);omega) [gTp,gTn,hst,hc,e1,e2,e3,h0,h1];done) | (right;simp (disch:=(try simp only [sPu]);omega) [gTp,gTn];done)))))
        refine oNi (SC.wp_ret (ret_tmp hr (by simp [dPu,hd]) ⟨?_,q2⟩))
        simp (disch:=(try simp only [sPu]);omega) [eTm,eCo,gTp,gTn,e1,e2,e3]
    · refine SC.wp_seq (SC.wp_reg ?_)
      repeat (first | (apply ops_1;(focus (simp (disch:=(try simp only [sPu]);omega) [eTm,eCo,gTp,gTn,hst,hc,e1,e2,h0,h1];try rfl))) | (apply ops_y;(focus rfl);(focus ((try simp only [sPu]);omega));(focus (simp (disch:=(try simp only [sPu]);omega) [gTp,gTn,hst,hc,e1,e2,h0,h1];done));(focus (simp (disch:=(try simp only [sPu]);omega) [eTm,eCo,gTp,gTn,hst,hc,e1,e2,h0,h1];try rfl))) | (apply ops_n;(focus rfl);(focus ((try simp only [sPu]);omega));(focus (first | (left;simp (disch:=(try simp only [sPu]);omega) [gTp,gTn,hst,hc,e1,e2,h0,h1];done) | (right;simp (disch:=(try simp only [sPu]);omega) [gTp,gTn];done)))))
      refine oNi (SC.wp_ret (ret_tmp hr (by simp [dPu,hd]) ⟨?_,q2⟩))
      simp (disch:=(try simp only [sPu]);omega) [eTm,eCo,gTp,gTn,e1,e2]
theorem isnull_ok (hX:stOK P X=true) (hf:P.funcs[f]?=some fn) (hb:fn.body.map strip=some (sc_isnull X.F X.T X.B X.I)) (hn:fn.ntmps=20) (hr:fn.results=#[.tmp 6])
    (w:World) (k fr to nu tg df of_:Int) (sub:Value) (ver:Int) (n:Int) (s l u:Value) (null:Bool) :
    Calls P f #[fldV k fr to nu tg df of_ sub,.int .i64 ver,treV n s null l u] w fun e w'=>e=.returned (.bool (null && (decide (0≤nu) && decide (nu≤ver))))∧Below w.heap.size w w':=by
  have hst:=st_facts hX
  refine fCa hf hb hn (by simp) fun a0 hs hd ha=>?_
  have h0:=ha 0 _ rfl
  have h1:=ha 1 _ rfl
  have h2:=ha 2 _ rfl
  simp only [List.getElem_toArray,List.getElem_cons_zero,List.getElem_cons_succ] at h0 h1 h2
  refine SC.wp_seq (SC.wp_reg (ops_box (B:=w.heap.size) (w0:=w) (by rw [eTm,h0];rfl) (Nat.le_refl _) (Below.refl _ _) fun w1 q1 q2 q3 hc q5=>?_))
  refine ops_box (B:=w.heap.size) (w0:=w) (cs:=#[.int .i64 n,s,.bool null,l,u]) (by simp (disch:=(try simp only [sPu]);omega) [eTm,eCo,gTp,gTn,h2,treV]) (by omega) q2 fun w2 r1 r2 r3 hd2 r5=>?_
  repeat (first | (apply ops_1;(focus (simp (disch:=(try simp only [sPu]);omega) [eTm,eCo,gTp,gTn];try rfl))) | (apply ops_y;(focus rfl);(focus ((try simp only [sPu]);omega));(focus (simp (disch:=(try simp only [sPu]);omega) [gTp,gTn];done));(focus (simp (disch:=(try simp only [sPu]);omega) [eTm,eCo,gTp,gTn];try rfl))) | (apply ops_n;(focus rfl);(focus ((try simp only [sPu]);omega));(focus (first | (left;simp (disch:=(try simp only [sPu]);omega) [gTp,gTn];done) | (right;simp (disch:=(try simp only [sPu]);omega) [gTp,gTn];done)))))
  refine oNi ?_
  have hc2:∀ j,w2.cell? ⟨w.heap.size,j,none⟩=#[Value.int .i64 k,.int .i64 fr,.int .i64 to,.int .i64 nu,.int .i64 tg,.int .i64 df,.int .i64 of_,sub][j]?:=fun j=>by rw [r1.cell (by show w.heap.size < w1.heap.size;omega)];exact hc j
  clear hc
  generalize w.heap.size=b0 at *
  generalize w1.heap.size=b1 at *
  cases null
  · refine SC.wp_seq (SC.wp_reg ?_)
    repeat (first | (apply ops_1;(focus (simp (disch:=(try simp only [sPu]);omega) [eTm,eCo,gTp,gTn,hst,hc2,hd2,h0,h1];try rfl))) | (apply ops_y;(focus rfl);(focus ((try simp only [sPu]);omega));(focus (simp (disch:=(try simp only [sPu]);omega) [gTp,gTn,hst,hc2,hd2,h0,h1];done));(focus (simp (disch:=(try simp only [sPu]);omega) [eTm,eCo,gTp,gTn,hst,hc2,hd2,h0,h1];try rfl))) | (apply ops_n;(focus rfl);(focus ((try simp only [sPu]);omega));(focus (first | (left;simp (disch:=(try simp only [sPu]);omega) [gTp,gTn,hst,hc2,hd2,h0,h1];done) | (right;simp (disch:=(try simp only [sPu]);omega) [gTp,gTn];done)))))
    refine oNi (SC.wp_ret (ret_tmp hr (by simp [dPu,hd]) ⟨?_,r2⟩))
    simp (disch:=(try simp only [sPu]);omega) [eTm,eCo,gTp,gTn]
  cases e1:decide (0≤nu)
  · refine SC.wp_seq (SC.wp_reg ?_)
    repeat (first | (apply ops_1;(focus (simp (disch:=(try simp only [sPu]);omega) [eTm,eCo,gTp,gTn,hst,hc2,hd2,e1,h0,h1];try rfl))) | (apply ops_y;(focus rfl);(focus ((try simp only [sPu]);omega));(focus (simp (disch:=(try simp only [sPu]);omega) [gTp,gTn,hst,hc2,hd2,e1,h0,h1];done));(focus (simp (disch:=(try simp only [sPu]);omega) [eTm,eCo,gTp,gTn,hst,hc2,hd2,e1,h0,h1];try rfl))) | (apply ops_n;(focus rfl);(focus ((try simp only [sPu]);omega));(focus (first | (left;simp (disch:=(try simp only [sPu]);omega) [gTp,gTn,hst,hc2,hd2,e1,h0,h1];done) | (right;simp (disch:=(try simp only [sPu]);omega) [gTp,gTn];done)))))
    refine oNi (SC.wp_ret (ret_tmp hr (by simp [dPu,hd]) ⟨?_,r2⟩))
    simp (disch:=(try simp only [sPu]);omega) [eTm,eCo,gTp,gTn,e1]
  · cases e2:decide (nu≤ver)
    · refine SC.wp_seq (SC.wp_reg ?_)
      repeat (first | (apply ops_1;(focus (simp (disch:=(try simp only [sPu]);omega) [eTm,eCo,gTp,gTn,hst,hc2,hd2,e1,e2,h0,h1];try rfl))) | (apply ops_y;(focus rfl);(focus ((try simp only [sPu]);omega));(focus (simp (disch:=(try simp only [sPu]);omega) [gTp,gTn,hst,hc2,hd2,e1,e2,h0,h1];done));(focus (simp (disch:=(try simp only [sPu]);omega) [eTm,eCo,gTp,gTn,hst,hc2,hd2,e1,e2,h0,h1];try rfl))) | (apply ops_n;(focus rfl);(focus ((try simp only [sPu]);omega));(focus (first | (left;simp (disch:=(try simp only [sPu]);omega) [gTp,gTn,hst,hc2,hd2,e1,e2,h0,h1];done) | (right;simp (disch:=(try simp only [sPu]);omega) [gTp,gTn];done)))))
      refine oNi (SC.wp_ret (ret_tmp hr (by simp [dPu,hd]) ⟨?_,r2⟩))
      simp (disch:=(try simp only [sPu]);omega) [eTm,eCo,gTp,gTn,e1,e2]
    · refine SC.wp_seq (SC.wp_reg ?_)
      repeat (first | (apply ops_1;(focus (simp (disch:=(try simp only [sPu]);omega) [eTm,eCo,gTp,gTn,hst,hc2,hd2,e1,e2,h0,h1];try rfl))) | (apply ops_y;(focus rfl);(focus ((try simp only [sPu]);omega));(focus (simp (disch:=(try simp only [sPu]);omega) [gTp,gTn,hst,hc2,hd2,e1,e2,h0,h1];done));(focus (simp (disch:=(try simp only [sPu]);omega) [eTm,eCo,gTp,gTn,hst,hc2,hd2,e1,e2,h0,h1];try rfl))) | (apply ops_n;(focus rfl);(focus ((try simp only [sPu]);omega));(focus (first | (left;simp (disch:=(try simp only [sPu]);omega) [gTp,gTn,hst,hc2,hd2,e1,e2,h0,h1];done) | (right;simp (disch:=(try simp only [sPu]);omega) [gTp,gTn];done)))))
      refine oNi (SC.wp_ret (ret_tmp hr (by simp [dPu,hd]) ⟨?_,r2⟩))
      simp (disch:=(try simp only [sPu]);omega) [eTm,eCo,gTp,gTn,e1,e2]
theorem whole_ok {T:Nat} {n:Nat} (hI:intK P X.I=some .i64) (hT:sliceN P T=some n) (hf:P.funcs[f]?=some fn) (hb:fn.body.map strip=some (sc_whole T X.I)) (hn:fn.ntmps=8) (hr:fn.results=#[.tmp 2])
    (w:World) (base:Option Addr) (len cap:Nat) (hlc:len≤cap) :
    Calls P f #[.slice base len cap] w fun e w'=>e=.returned (.slice base (min len most) cap)∧w=w':=by
  refine fCa hf hb hn (by simp) fun a0 hs hd ha=>?_
  have h0:=ha 0 _ rfl
  simp only [List.getElem_toArray,List.getElem_cons_zero,List.getElem_cons_succ] at h0
  refine SC.wp_seq (SC.wp_reg ?_)
  repeat (apply ops_1;(focus (simp (disch:=(try simp only [sPu]);omega) [eTm,eCo,gTp,gTn];try rfl)))
  refine oNi ?_
  have hm:most=32767:=rfl
  have e:(if (32767:Int) < (len:Int) then 32767 else (len:Int))=((min len most:Nat):Int):=by
    rw [hm];split <;> omega
  have e2:min len most≤cap:=by omega
  refine SC.wp_seq (SC.wp_reg ?_)
  iterate 4 (apply ops_1;(focus (simp (disch:=(try simp only [sPu]);omega) [eTm,eCo,gTp,gTn,hI,hT,h0,e];try rfl)))
  generalize min len most=m at *
  repeat (apply ops_1;(focus (simp (disch:=(try simp only [sPu]);omega) [eTm,eCo,gTp,gTn,hI,hT,h0,e2];try rfl)))
  refine oNi (SC.wp_ret (ret_tmp hr (by simp [dPu,hd]) ⟨?_,rfl⟩))
  simp (disch:=(try simp only [sPu]);omega) [eTm,eCo,gTp,gTn]
end
end Go.Proofs.YtecdefhecaeclaaDoor.K
namespace Go.Proofs.YtecdefhecaeclaaDoor.K
open Go Go.RowKit Go.Proofs.YtecdefhecaeclaaDoor.T
attribute [local simp] eTm eCo pNo gTp gTn qv qcall vop iop
set_option linter.unusedSimpArgs false
set_option linter.unusedVariables false
set_option maxHeartbeats 1000000
def RetOwn (tU8:Nat) (w:World) (out:Bytes) (e:Ending) (w':World):Prop :=
  ∃ v,e=.returned v∧Own tU8 w' w.heap.size v out∧Below w.heap.size w w'
section
variable {P:Program} {X:STy} {f:FuncId} {fn:Func}
theorem ret_cell {T b p:Nat} {R:Ending→World→Prop} {a:Act} {w:World} {cs:Array Value} {E:TypeId} (hr:fn.results=#[.cell p T]) (hT:aggN P T=some cs.size) (hp:getT a p=.pointer (some ⟨b,0,none⟩)) (hg:w.heap[b]?=some (.cells cs E (0,0)))
    (hd:a.defers=[]) (hR:R (.returned (.agg cs)) w):bodyPost P fn R .ret a w:=by
  refine bodyPost_ret_by ?_ hd hR
  unfold aggN at hT
  split at hT <;> try (simp at hT;done)
  · rename_i i f hi hu
    simp at hT
    exact results_cell_row hr a.tmps w b E cs (0,0) _ hp hg hu rfl (by rw [hi];simpa using hT)
  · rename_i i f e hi hu
    simp at hT
    exact results_cell_row hr a.tmps w b E cs (0,0) _ hp hg hu rfl (by rw [hi];simpa using hT)
theorem ops_u8app {all:List SOp} {a:Act} {w:World} {B T tU8 td ts tr n:Nat} {dv:Value} {xs bs:Bytes} {parts:Array (Nat × Operand)} {r:List SOp} {K:Act→World→Prop} (hT:u8sB P T tU8=true) (hn:n=bs.length) (hs:n≤100) (hn0:0 < n)
    (hp:(parts.map fun x=>(x.1,a.eval x.2)).toList=(List.range' 0 bs.length).zip (cellsOf bs)) (ho:Own tU8 w B dv xs) (hB:B≤w.heap.size) (hlen:xs.length+bs.length≤lim) (hdv:getT a td=dv) (hne:td ≠ ts) (hsz:ts < a.tmps.size)
    (hK:∀ dv' w' v1,Own tU8 w' B dv' (xs ++ bs)→Below B w w'→B≤w'.heap.size→opsw P all r K ((a.put (some ts) v1).put (some tr) dv') w') :
    opsw P all (⟨some ts,.buildSlice T n parts,none⟩ :: ⟨some tr,.call ⟨.builtin .append,#[.tmp td,.tmp ts],#[T,T]⟩,none⟩ :: r) K a w:=by
  refine oNo rfl (opw_buildU8s hT hn (by omega) hn0 hp (oNo rfl ?_))
  have hown:Own tU8 (w.alloc (.cells (cellsOf bs).toArray tU8)) B dv xs:=ho.alloc _
  obtain ⟨hu,_⟩:=u8s_of hT
  refine opw_appendU8 (B:=B) (dv:=dv) (xv:=.slice (some ⟨w.heap.size,0,none⟩) bs.length bs.length) (xs:=xs) (bs:=bs) hT ?_ ?_ rfl hown (by simp;omega) ?_ hlen ?_
  · rw [eTm,gTn hne];exact hdv
  · rw [eTm,gTp hsz]
  · refine Src.ofSlice _ hu ⟨w.heap.size,0,none⟩ _ _ _ (by rw [cLen,Nat.mul_one]) ?_ ?_
    · intro j u hj
      rw [add_none,cell_of_row _ _ _ _ _ _ (heap_alloc_new w _)]
      simpa using hj
    · intro u hu
      simp only [cellsOf,List.mem_map] at hu
      obtain ⟨c,_,rfl⟩:=hu
      rfl
  · intro dv' w' q1 q2 q3 _
    exact hK dv' w' _ q1 (((Below.refl B w).alloc hB _).trans q2) q3
theorem ops_u8lit {all:List SOp} {a:Act} {w:World} {B T tU8 ts n:Nat} {bs:Bytes} {parts:Array (Nat × Operand)} {r:List SOp} {K:Act→World→Prop} (hT:u8sB P T tU8=true) (hn:n=bs.length) (hs:n≤100) (hn0:0 < n)
    (hp:(parts.map fun x=>(x.1,a.eval x.2)).toList=(List.range' 0 bs.length).zip (cellsOf bs)) (hB:B≤w.heap.size)
    (hK:∀ dv' w',Own tU8 w' B dv' bs→Below B w w'→opsw P all r K (a.put (some ts) dv') w') :
    opsw P all (⟨some ts,.buildSlice T n parts,none⟩ :: r) K a w:=by
  refine oNo rfl (opw_buildU8s hT hn (by omega) hn0 hp (hK _ _ ?_ ((Below.refl B w).alloc hB _)))
  have h:=World.ownsRow_lit (base:=B) (e:=tU8) (size:=1) w (cellsOf bs).toArray bs.length hB (by simp only [maxLen];omega) (by simp [cLen])
  simpa [Own] using h
theorem own_eq {tU8:Nat} {w:World} {B:Nat} {v v':Value} {xs:Bytes} (h:Own tU8 w B v xs) (e:v'=v):Own tU8 w B v' xs:=e ▸ h
theorem own_nil (tU8:Nat) (w:World) (B:Nat):Own tU8 w B (.slice none 0 0) []:=World.ownsRow_nil w B tU8 1
theorem opw_and127 {a:Act} {w:World} {K:Act→World→Prop} {d:Option Tmp} {g:Option (Nat × Bool)} {T T':TypeId} {x:Operand} {m:Nat} (hx:a.eval x=.int .u64 (m:Int)) (hm:m < 18446744073709551616) (h:K (a.put d (.int .u64 ((m % 128:Nat):Int))) w):opw P ⟨d,.binOp .and T x (.const (.int .u64 127)) T',g⟩ a w K:=by
  refine oVa (by simp) (fun p hp=>?_) h
  have e:IntKind.u64.wrap (((BitVec.ofInt IntKind.u64.bits (m:Int)) &&& (BitVec.ofInt IntKind.u64.bits 127)).toNat:Int)=((m % 128:Nat):Int):=by
    have h1:((BitVec.ofInt 64 (m:Int)) &&& (BitVec.ofInt 64 127)).toNat=m % 128:=by
      rw [BitVec.toNat_and]
      have e1:(BitVec.ofInt 64 (m:Int)).toNat=m:=by simp [BitVec.toNat_ofInt];omega
      have e2:(BitVec.ofInt 64 127).toNat=2 ^ 7 - 1:=by decide
      rw [e1,e2,Nat.and_two_pow_sub_one_eq_mod]
    show IntKind.u64.wrap (((BitVec.ofInt 64 (m:Int)) &&& (BitVec.ofInt 64 127)).toNat:Int)=_
    rw [h1,wrap_u64]
    omega
  simp only [execOp,hp,hx,eCo]
  simp [run_eqGuard_int,binOp,Op.intBits]
  exact e
theorem opw_or128 {a:Act} {w:World} {K:Act→World→Prop} {d:Option Tmp} {g:Option (Nat × Bool)} {T T':TypeId} {x:Operand} {m:Nat} (hx:a.eval x=.int .u8 (m:Int)) (hm:m < 128) (h:K (a.put d (.int .u8 ((m+128:Nat):Int))) w):opw P ⟨d,.binOp .or T x (.const (.int .u8 128)) T',g⟩ a w K:=by
  refine oVa (by simp) (fun p hp=>?_) h
  have e:IntKind.u8.wrap (((BitVec.ofInt IntKind.u8.bits (m:Int)) ||| (BitVec.ofInt IntKind.u8.bits 128)).toNat:Int)=((m+128:Nat):Int):=by
    have h1:((BitVec.ofInt 8 (m:Int)) ||| (BitVec.ofInt 8 128)).toNat=m+128:=by
      rw [BitVec.toNat_or]
      have e1:(BitVec.ofInt 8 (m:Int)).toNat=m:=by simp [BitVec.toNat_ofInt];omega
      have e2:(BitVec.ofInt 8 128).toNat=2 ^ 7 * 1:=by decide
      rw [e1,e2,Nat.or_comm,← Nat.two_pow_add_eq_or_of_lt (by omega) 1]
      omega
    show IntKind.u8.wrap (((BitVec.ofInt 8 (m:Int)) ||| (BitVec.ofInt 8 128)).toNat:Int)=_
    rw [h1,wrap_u8]
    omega
  simp only [execOp,hp,hx,eCo]
  simp [run_eqGuard_int,binOp,Op.intBits]
  exact e
theorem uvarint_length (n:Nat):n < 18446744073709551616→(uvarint n).length≤10:=by
  intro h
  have aux:∀ k n:Nat,n < 128 ^ k→(uvarint n).length≤max k 1:=by
    intro k
    induction k with
    | zero =>
      intro n hn
      have h0:n=0:=by simpa using hn
      rw [h0,uvarint_lt (by decide)]
      exact Nat.le_refl 1
    | succ k ih =>
      intro n hn
      by_cases h:n≤127
      · rw [uvarint_lt h]
        show 1≤_
        omega
      · rw [uvarint_ge (by omega),List.length_cons]
        have h1:n / 128 < 128 ^ k:=by rw [Nat.pow_succ] at hn;omega
        have h2:=ih _ h1
        have:0 < k:=by
          cases k with
          | zero=>simp at h1;omega
          | succ k=>omega
        omega
  have := aux 10 n (by have:(128:Nat) ^ 10=1180591620717411303424:=by decide
                       omega)
  omega
theorem sUvarint_ok (hX:stOK P X=true) (hf:P.funcs[f]?=some fn) (hb:fn.body.map strip=some (sc_Uvarint X.U64 X.U8 X.Bs X.U)) (hn:fn.ntmps=20) (hr:fn.results=#[.tmp 2])
    (w:World) (n:Nat) (hn64:n < 18446744073709551616):Calls P f #[.int .u64 (n:Int)] w (RetOwn X.U8 w (uvarint n)):=by
  have hst:=st_facts hX
  have hU8s:=hst.2.2.1.1
  refine fCa hf hb hn (by simp) fun a0 hs hd ha=>?_
  have h0:=ha 0 _ rfl
  simp only [List.getElem_toArray,List.getElem_cons_zero,List.getElem_cons_succ] at h0
  have hlim:lim=70368744177664:=rfl
  have hlen:=uvarint_length n hn64
  refine SC.wp_seq (SC.wp_reg ?_)
  repeat (apply ops_1;(focus (simp (disch:=(try simp only [sPu]);omega) [eTm,eCo,gTp,gTn];try rfl)))
  refine oNi (SC.wp_seq (SC.wp_reg ?_))
  repeat (apply ops_1;(focus (simp (disch:=(try simp only [sPu]);omega) [eTm,eCo,gTp,gTn];try rfl)))
  refine oNi (SC.wp_seq (SC.wp_block ?_))
  refine SC.wp_loop (fun a w1=>∃ (m:Nat) (xs:Bytes),a.tmps.size=20∧a.defers=[]∧getT a 0=.int .u64 (m:Int)∧Own X.U8 w1 w.heap.size (getT a 3) xs∧xs ++ uvarint m=uvarint n∧m≤n∧Below w.heap.size w w1∧w.heap.size≤w1.heap.size)
    (fun a _=>match getT a 0 with | .int _ m=>m.toNat | _=>0) ⟨n,[],by simp [sPu,hs],by simp [dPu,hd],by simp (disch:=(try simp only [sPu]);omega) [eTm,eCo,gTp,gTn,h0],by simp (disch:=(try simp only [sPu]);omega) [eTm,eCo,gTp,gTn];exact own_nil _ _ _,by simp,Nat.le_refl _,Below.refl _ _,Nat.le_refl _⟩ ?_
  rintro a w1 ⟨m,xs,hs1,hd1,g0,ho,hx,hm,hbw,hsz⟩
  have hxl:xs.length+(uvarint m).length≤10:=by rw [← List.length_append,hx];exact hlen
  refine SC.wp_seq (SC.wp_seq (SC.wp_reg ?_))
  repeat (apply ops_1;(focus (simp (disch:=(try simp only [sPu]);omega) [eTm,eCo,gTp,gTn,hst,g0];try rfl)))
  refine oNi (SC.wp_cond (t:=decide ((127:Int) < (m:Int))) (by simp (disch:=(try simp only [sPu]);omega) [eTm,eCo,gTp,gTn]) ?_)
  cases e1:decide ((127:Int) < (m:Int))
  · rw [if_neg (by simp)]
    have hm127:m≤127:=by simp at e1;omega
    rw [uvarint_lt hm127] at hx
    refine SC.wp_exit ?_
    simp only [Exit.then,Exit.inBlock,if_true]
    refine SC.wp_seq (SC.wp_reg ?_)
    have e8:(m:Int) % 256=(m:Int):=by omega
    iterate 3 (apply ops_1;(focus (simp (disch:=(try simp only [sPu]);omega) [eTm,eCo,gTp,gTn,hst,g0,wrap_u8,e8];try rfl)))
    refine ops_u8app (B:=w.heap.size) (dv:=getT a 3) (xs:=xs) (bs:=[UInt8.ofNat m]) hU8s rfl (by decide) (by decide) ?_ ho hsz (by simp;omega) ?_ (by decide) (by simp only [sPu];omega) ?_
    · simp only [cellsOf,List.map_cons,List.map_nil]
      rw [cell_ofNat (by omega)]
      simp (disch:=(try simp only [sPu]);omega) [eTm,eCo,gTp,gTn,List.range']
    · simp (disch:=(try simp only [sPu]);omega) [eTm,eCo,gTp,gTn]
    intro dv' w2 v1 q1 q2 q3
    repeat (apply ops_1;(focus (simp (disch:=(try simp only [sPu]);omega) [eTm,eCo,gTp,gTn];try rfl)))
    refine oNi (SC.wp_ret (ret_tmp hr (by simp [dPu,hd1]) ⟨dv',?_,?_,hbw.trans q2⟩))
    · simp (disch:=(try simp only [sPu]);omega) [eTm,eCo,gTp,gTn]
    · rw [← hx];exact q1
  · rw [if_pos rfl]
    have hm127:127 < m:=by simp at e1;omega
    rw [uvarint_ge hm127] at hx hxl
    refine SC.wp_skip ?_
    simp only [Exit.then]
    refine SC.wp_block (SC.wp_seq (SC.wp_reg ?_))
    iterate 2 (apply ops_1;(focus (simp (disch:=(try simp only [sPu]);omega) [eTm,eCo,gTp,gTn,g0];try rfl)))
    refine oNo rfl (opw_and127 (m:=m) (by simp (disch:=(try simp only [sPu]);omega) [eTm,eCo,gTp,gTn,g0]) (by omega) ?_)
    have e8:((m % 128:Nat):Int) % 256=((m % 128:Nat):Int):=by omega
    generalize hm8:m % 128=m8 at *
    iterate 1 (apply ops_1;(focus (simp (disch:=(try simp only [sPu]);omega) [eTm,eCo,gTp,gTn,hst,wrap_u8,e8];try rfl)))
    refine oNo rfl (opw_or128 (m:=m8) (by simp (disch:=(try simp only [sPu]);omega) [eTm,eCo,gTp,gTn]) (by omega) ?_)
    refine ops_u8app (B:=w.heap.size) (dv:=getT a 3) (xs:=xs) (bs:=[UInt8.ofNat (m8+128)]) hU8s rfl (by decide) (by decide) ?_ ho hsz (by simp at hxl ⊢;omega) ?_ (by decide) (by simp only [sPu];omega) ?_
    · simp only [cellsOf,List.map_cons,List.map_nil]
      rw [cell_ofNat (by omega)]
      simp (disch:=(try simp only [sPu]);omega) [eTm,eCo,gTp,gTn,List.range']
    · simp (disch:=(try simp only [sPu]);omega) [eTm,eCo,gTp,gTn]
    intro dv' w2 v1 q1 q2 q3
    repeat (apply ops_1;(focus (simp (disch:=(try simp only [sPu]);omega) [eTm,eCo,gTp,gTn];try rfl)))
    refine oNi ?_
    simp only [Exit.then]
    refine SC.wp_reg ?_
    repeat (apply ops_1;(focus (simp (disch:=(try simp only [sPu]);omega) [eTm,eCo,gTp,gTn,g0,IntKind.bits];try rfl)))
    refine oNi ?_
    simp only [Exit.inBlock,Exit.then]
    have e128:(m:Int) / 128=((m / 128:Nat):Int):=by omega
    refine ⟨⟨m / 128,xs ++ [UInt8.ofNat (m8+128)],by simp [sPu,hs1],by simp [dPu,hd1],?_,?_,?_,by omega,hbw.trans q2,q3⟩,?_⟩
    · simp (disch:=(try simp only [sPu]);omega) [eTm,eCo,gTp,gTn]
    · refine own_eq q1 ?_
      simp (disch:=(try simp only [sPu]);omega) [eTm,eCo,gTp,gTn]
    · rw [List.append_assoc];exact hx
    · simp (disch:=(try simp only [sPu]);omega) [eTm,eCo,gTp,gTn,g0];omega
end
end Go.Proofs.YtecdefhecaeclaaDoor.K
namespace Go.Proofs.YtecdefhecaeclaaDoor.K
open Go Go.RowKit Go.Proofs.YtecdefhecaeclaaDoor.T
attribute [local simp] eTm eCo pNo gTp gTn qv qcall vop iop
set_option linter.unusedSimpArgs false
set_option linter.unusedVariables false
set_option maxHeartbeats 1000000
section
variable {P:Program} {X:STy} {f:FuncId} {fn:Func}
theorem fixed_length (n:Int):∀ k,(fixed n k).length=k
  | 0=>rfl
  | k+1=>by rw [fixed,List.length_cons,fixed_length n k]
theorem sFixed_ok (hX:stOK P X=true) (hf:P.funcs[f]?=some fn) (hb:fn.body.map strip=some (sc_Fixed X.I X.I64 X.U8 X.Bs)) (hn:fn.ntmps=22) (hr:fn.results=#[.tmp 4])
    (w:World) (n:Int) (size:Nat) (hs8:size≤8):Calls P f #[.int .i64 n,.int .i64 (size:Int)] w (RetOwn X.U8 w (fixed n size)):=by
  have hst:=st_facts hX
  have hU8s:=hst.2.2.1.1
  refine fCa hf hb hn (by simp) fun a0 hs hd ha=>?_
  have h0:=ha 0 _ rfl
  have h1:=ha 1 _ rfl
  simp only [List.getElem_toArray,List.getElem_cons_zero,List.getElem_cons_succ] at h0 h1
  have hlim:lim=70368744177664:=rfl
  have ew:IntKind.i64.wrap ((size:Int) - 1)=(size:Int) - 1:=by rw [wrap_i64'];split <;> omega
  refine SC.wp_seq (SC.wp_reg ?_)
  repeat (apply ops_1;(focus (simp (disch:=(try simp only [sPu]);omega) [eTm,eCo,gTp,gTn];try rfl)))
  refine oNi (SC.wp_seq (SC.wp_reg ?_))
  repeat (apply ops_1;(focus (simp (disch:=(try simp only [sPu]);omega) [eTm,eCo,gTp,gTn];try rfl)))
  refine oNi (SC.wp_seq (SC.wp_seq (SC.wp_reg ?_)))
  repeat (apply ops_1;(focus (simp (disch:=(try simp only [sPu]);omega) [eTm,eCo,gTp,gTn,h1,ew];try rfl)))
  refine oNi (SC.wp_block ?_)
  refine SC.wp_loop (fun a w1=>∃ (j:Nat) (xs:Bytes),a.tmps.size=22∧a.defers=[]∧getT a 0=.int .i64 n∧getT a 6=.int .i64 ((j:Int) - 1)∧j≤size∧Own X.U8 w1 w.heap.size (getT a 5) xs∧xs ++ fixed n j=fixed n size∧Below w.heap.size w w1∧w.heap.size≤w1.heap.size)
    (fun a _=>match getT a 6 with | .int _ m=>(m+1).toNat | _=>0) ⟨size,[],by simp [sPu,hs],by simp [dPu,hd],by simp (disch:=(try simp only [sPu]);omega) [eTm,eCo,gTp,gTn,h0],by simp (disch:=(try simp only [sPu]);omega) [eTm,eCo,gTp,gTn],Nat.le_refl _,by simp (disch:=(try simp only [sPu]);omega) [eTm,eCo,gTp,gTn];exact own_nil _ _ _,by simp,Below.refl _ _,Nat.le_refl _⟩ ?_
  rintro a w1 ⟨j,xs,hs1,hd1,g0,g6,hj,ho,hx,hbw,hsz⟩
  have hxl:xs.length+j≤8:=by
    have:=congrArg List.length hx
    rw [List.length_append,fixed_length,fixed_length] at this
    omega
  refine SC.wp_seq (SC.wp_seq (SC.wp_reg ?_))
  repeat (apply ops_1;(focus (simp (disch:=(try simp only [sPu]);omega) [eTm,eCo,gTp,gTn,hst,g6];try rfl)))
  refine oNi (SC.wp_cond (t:=decide ((0:Int)≤(j:Int) - 1)) (by simp (disch:=(try simp only [sPu]);omega) [eTm,eCo,gTp,gTn]) ?_)
  cases j with
  | zero =>
    rw [if_neg (by simp)]
    refine SC.wp_exit ?_
    simp only [Exit.then,Exit.inBlock,if_true]
    refine SC.wp_seq (SC.wp_reg ?_)
    repeat (apply ops_1;(focus (simp (disch:=(try simp only [sPu]);omega) [eTm,eCo,gTp,gTn];try rfl)))
    refine oNi (SC.wp_ret (ret_tmp hr (by simp [dPu,hd1]) ⟨_,rfl,?_,hbw⟩))
    rw [fixed,List.append_nil] at hx
    rw [← hx]
    refine own_eq ho ?_
    simp (disch:=(try simp only [sPu]);omega) [eTm,eCo,gTp,gTn]
  | succ i =>
    have ei:((i+1:Nat):Int) - 1=(i:Int):=by omega
    rw [ei] at g6
    rw [if_pos (by simp)]
    refine SC.wp_skip ?_
    simp only [Exit.then]
    refine SC.wp_seq (SC.wp_block (SC.wp_reg ?_))
    have ew8:IntKind.i64.wrap (8 * (i:Int))=8 * (i:Int):=by rw [wrap_i64'];split <;> omega
    have h8b:(8 * (i:Int)).toNat=8 * i:=by omega
    have h8a:(0:Int)≤8 * (i:Int):=by omega
    have h8c:8 * i≤64:=by omega
    have e256:(2:Int) ^ (8 * i)=256 ^ i:=by rw [Int.pow_mul];rfl
    iterate 6 (apply ops_1;(focus (simp (disch:=(try simp only [sPu]);omega) [eTm,eCo,gTp,gTn,hst,g0,g6,ew8,h8b,h8a,h8c,e256,IntKind.bits,wrap_u8];try rfl)))
    refine ops_u8app (B:=w.heap.size) (dv:=getT a 5) (xs:=xs) (bs:=[T.byteOf (n / 256 ^ i)]) hU8s rfl (by decide) (by decide) ?_ ho hsz (by simp;omega) ?_ (by decide) (by simp only [sPu];omega) ?_
    · simp only [cellsOf,List.map_cons,List.map_nil]
      rw [byteOf_cell]
      simp (disch:=(try simp only [sPu]);omega) [eTm,eCo,gTp,gTn,List.range']
    · simp (disch:=(try simp only [sPu]);omega) [eTm,eCo,gTp,gTn]
    intro dv' w2 v1 q1 q2 q3
    have ewi:IntKind.i64.wrap ((i:Int) - 1)=(i:Int) - 1:=by rw [wrap_i64'];split <;> omega
    repeat (apply ops_1;(focus (simp (disch:=(try simp only [sPu]);omega) [eTm,eCo,gTp,gTn];try rfl)))
    refine oNi ?_
    simp only [Exit.inBlock,Exit.then]
    refine SC.wp_reg ?_
    repeat (apply ops_1;(focus (simp (disch:=(try simp only [sPu]);omega) [eTm,eCo,gTp,gTn,g6,ewi];try rfl)))
    refine oNi ?_
    try simp only [Exit.then]
    refine ⟨⟨i,xs ++ [T.byteOf (n / 256 ^ i)],by simp [sPu,hs1],by simp [dPu,hd1],?_,?_,by omega,?_,?_,hbw.trans q2,q3⟩,?_⟩
    · simp (disch:=(try simp only [sPu]);omega) [eTm,eCo,gTp,gTn,g0]
    · simp (disch:=(try simp only [sPu]);omega) [eTm,eCo,gTp,gTn]
    · refine own_eq q1 ?_
      simp (disch:=(try simp only [sPu]);omega) [eTm,eCo,gTp,gTn]
    · rw [List.append_assoc];exact hx
    · simp (disch:=(try simp only [sPu]);omega) [eTm,eCo,gTp,gTn,g6]
def widthOf (kind:Int):Nat:=if kind=1 then 1 else if kind=2∨kind=5 then 2 else if kind=3 then 4 else 8
theorem width_ok (hf:P.funcs[f]?=some fn) (hb:fn.body.map strip=some (sc_width X.I)) (hn:fn.ntmps=11) (hr:fn.results=#[.tmp 2])
    (w:World) (kind:Int):Calls P f #[.int .i64 kind] w fun e w'=>e=.returned (.int .i64 (widthOf kind:Int))∧w=w':=by
  refine fCa hf hb hn (by simp) fun a0 hs hd ha=>?_
  have h0:=ha 0 _ rfl
  simp only [List.getElem_toArray,List.getElem_cons_zero,List.getElem_cons_succ] at h0
  refine SC.wp_seq (SC.wp_reg ?_)
  repeat (apply ops_1;(focus (simp (disch:=(try simp only [sPu]);omega) [eTm,eCo,gTp,gTn];try rfl)))
  refine oNi (SC.wp_seq (SC.wp_seq (SC.wp_reg ?_)))
  repeat (apply ops_1;(focus (simp (disch:=(try simp only [sPu]);omega) [eTm,eCo,gTp,gTn,h0];try rfl)))
  refine oNi (SC.wp_block (SC.wp_seq (SC.wp_reg ?_)))
  repeat (apply ops_1;(focus (simp (disch:=(try simp only [sPu]);omega) [eTm,eCo,gTp,gTn];try rfl)))
  refine oNi (SC.wp_cond (t:=kind == 1) (by simp (disch:=(try simp only [sPu]);omega) [eTm,eCo,gTp,gTn]) ?_)
  by_cases e1:kind=1
  · subst e1
    rw [if_pos (by decide)]
    refine SC.wp_seq (SC.wp_reg ?_)
    repeat (apply ops_1;(focus (simp (disch:=(try simp only [sPu]);omega) [eTm,eCo,gTp,gTn];try rfl)))
    refine oNi (SC.wp_ret ?_)
    simp only [Exit.then,Exit.inBlock]
    refine ret_tmp hr (by simp [dPu,hd]) ⟨?_,rfl⟩
    simp (disch:=(try simp only [sPu]);omega) [eTm,eCo,gTp,gTn,widthOf]
  rw [if_neg (by simpa using e1)]
  refine SC.wp_seq (SC.wp_seq (SC.wp_reg ?_))
  repeat (apply ops_1;(focus (simp (disch:=(try simp only [sPu]);omega) [eTm,eCo,gTp,gTn];try rfl)))
  refine oNi (SC.wp_cond (t:=kind == 2) (by simp (disch:=(try simp only [sPu]);omega) [eTm,eCo,gTp,gTn]) ?_)
  by_cases e2:kind=2
  · subst e2
    rw [if_pos (by decide)]
    refine SC.wp_skip ?_
    simp only [Exit.then]
    refine SC.wp_cond (t:=true) (by simp (disch:=(try simp only [sPu]);omega) [eTm,eCo,gTp,gTn]) ?_
    rw [if_pos (by decide)]
    refine SC.wp_seq (SC.wp_reg ?_)
    repeat (apply ops_1;(focus (simp (disch:=(try simp only [sPu]);omega) [eTm,eCo,gTp,gTn];try rfl)))
    refine oNi (SC.wp_ret ?_)
    simp only [Exit.then,Exit.inBlock]
    refine ret_tmp hr (by simp [dPu,hd]) ⟨?_,rfl⟩
    simp (disch:=(try simp only [sPu]);omega) [eTm,eCo,gTp,gTn,widthOf]
  rw [if_neg (by simpa using e2)]
  refine SC.wp_reg ?_
  repeat (apply ops_1;(focus (simp (disch:=(try simp only [sPu]);omega) [eTm,eCo,gTp,gTn];try rfl)))
  refine oNi ?_
  simp only [Exit.then]
  refine SC.wp_cond (t:=kind == 5) (by simp (disch:=(try simp only [sPu]);omega) [eTm,eCo,gTp,gTn]) ?_
  by_cases e5:kind=5
  · subst e5
    rw [if_pos (by decide)]
    refine SC.wp_seq (SC.wp_reg ?_)
    repeat (apply ops_1;(focus (simp (disch:=(try simp only [sPu]);omega) [eTm,eCo,gTp,gTn];try rfl)))
    refine oNi (SC.wp_ret ?_)
    simp only [Exit.then,Exit.inBlock]
    refine ret_tmp hr (by simp [dPu,hd]) ⟨?_,rfl⟩
    simp (disch:=(try simp only [sPu]);omega) [eTm,eCo,gTp,gTn,widthOf]
  rw [if_neg (by simpa using e5)]
  refine SC.wp_seq (SC.wp_reg ?_)
  repeat (apply ops_1;(focus (simp (disch:=(try simp only [sPu]);omega) [eTm,eCo,gTp,gTn];try rfl)))
  refine oNi (SC.wp_cond (t:=kind == 3) (by simp (disch:=(try simp only [sPu]);omega) [eTm,eCo,gTp,gTn]) ?_)
  by_cases e3:kind=3
  · subst e3
    rw [if_pos (by decide)]
    refine SC.wp_seq (SC.wp_reg ?_)
    repeat (apply ops_1;(focus (simp (disch:=(try simp only [sPu]);omega) [eTm,eCo,gTp,gTn];try rfl)))
    refine oNi (SC.wp_ret ?_)
    simp only [Exit.then,Exit.inBlock]
    refine ret_tmp hr (by simp [dPu,hd]) ⟨?_,rfl⟩
    simp (disch:=(try simp only [sPu]);omega) [eTm,eCo,gTp,gTn,widthOf]
  rw [if_neg (by simpa using e3)]
  refine SC.wp_skip ?_
  simp only [Exit.then,Exit.inBlock]
  refine SC.wp_seq (SC.wp_reg ?_)
  repeat (apply ops_1;(focus (simp (disch:=(try simp only [sPu]);omega) [eTm,eCo,gTp,gTn];try rfl)))
  refine oNi (SC.wp_ret ?_)
  refine ret_tmp hr (by simp [dPu,hd]) ⟨?_,rfl⟩
  simp (disch:=(try simp only [sPu]);omega) [eTm,eCo,gTp,gTn,widthOf,e1,e2,e3,e5]
theorem ops_call {all:List SOp} {a:Act} {w:World} {t g:Nat} {args:Array Operand} {argsV:Array Value} {r:List SOp} {K:Act→World→Prop} {R:Ending→World→Prop} (hf:FnOK P g) (hc:Calls P g argsV w R) (hargs:args.map a.eval=argsV)
    (hR:∀ e w',R e w'→∃ v,e=.returned v∧opsw P all r K (a.put (some t) v) w'):opsw P all (⟨some t,.call ⟨.value (.func g),args,#[]⟩,none⟩ :: r) K a w:=by
  obtain ⟨fn,h1,h2,h3⟩:=hf
  exact oNo rfl (opw_call (R:=R) h1 h2 h3 (by rw [hargs];exact hc) hR)
theorem counted_ok {gU gF:FuncId} (hX:stOK P X=true) (hf:P.funcs[f]?=some fn) (hb:fn.body.map strip=some (sc_counted X.Bs X.I X.U64 gU gF)) (hn:fn.ntmps=28) (hr:fn.results=#[.tmp 8])
    (oU:FnOK P gU) (cU:∀ (w:World) (n:Nat),n < 18446744073709551616→Calls P gU #[.int .u64 (n:Int)] w (RetOwn X.U8 w (uvarint n)))
    (oF:FnOK P gF) (cF:∀ (w:World) (n:Int) (size:Nat),size≤8→Calls P gF #[.int .i64 n,.int .i64 (size:Int)] w (RetOwn X.U8 w (fixed n size)))
    (w:World) (flex null:Bool) (n size:Nat) (hn63:n < 9223372036854775807) (hs8:size≤8):Calls P f #[.bool flex,.bool null,.int .i64 (n:Int),.int .i64 (size:Int)] w (RetOwn X.U8 w (counted flex null n size)):=by
  have hst:=st_facts hX
  have hU8s:=hst.2.2.1.1
  refine fCa hf hb hn (by simp) fun a0 hs hd ha=>?_
  have h0:=ha 0 _ rfl
  have h1:=ha 1 _ rfl
  have h2:=ha 2 _ rfl
  have h3:=ha 3 _ rfl
  simp only [List.getElem_toArray,List.getElem_cons_zero,List.getElem_cons_succ] at h0 h1 h2 h3
  refine SC.wp_seq (SC.wp_reg ?_)
  repeat (first | (apply ops_1;(focus (simp (disch:=(try simp only [sPu]);omega) [eTm,eCo,gTp,gTn];try rfl))) | (apply ops_y;(focus rfl);(focus ((try simp only [sPu]);omega));(focus (simp (disch:=(try simp only [sPu]);omega) [gTp,gTn];done));(focus (simp (disch:=(try simp only [sPu]);omega) [eTm,eCo,gTp,gTn];try rfl))) | (apply ops_n;(focus rfl);(focus ((try simp only [sPu]);omega));(focus (first | (left;simp (disch:=(try simp only [sPu]);omega) [gTp,gTn];done) | (right;simp (disch:=(try simp only [sPu]);omega) [gTp,gTn];done)))))
  refine oNi (SC.wp_seq (SC.wp_block (SC.wp_seq (SC.wp_reg ?_))))
  have fin:∀ (out:Bytes) (a:Act) (w':World) (v:Value),a.tmps.size=28→a.defers=[]→getT a 8=v→Own X.U8 w' w.heap.size v out→Below w.heap.size w w'→out=counted flex null n size→bodyPost P fn (RetOwn X.U8 w (counted flex null n size)) .ret a w':=by
    intro out a w' v q1 q2 q3 q4 q5 q6
    subst q6
    exact ret_tmp hr q2 ⟨v,by rw [q3],q4,q5⟩
  cases flex
  · repeat (first | (apply ops_1;(focus (simp (disch:=(try simp only [sPu]);omega) [eTm,eCo,gTp,gTn,h0,h1];try rfl))) | (apply ops_y;(focus rfl);(focus ((try simp only [sPu]);omega));(focus (simp (disch:=(try simp only [sPu]);omega) [gTp,gTn,h0,h1];done));(focus (simp (disch:=(try simp only [sPu]);omega) [eTm,eCo,gTp,gTn,h0,h1];try rfl))) | (apply ops_n;(focus rfl);(focus ((try simp only [sPu]);omega));(focus (first | (left;simp (disch:=(try simp only [sPu]);omega) [gTp,gTn,h0,h1];done) | (right;simp (disch:=(try simp only [sPu]);omega) [gTp,gTn];done)))))
    refine oNi (SC.wp_cond (t:=false) (by simp (disch:=(try simp only [sPu]);omega) [eTm,eCo,gTp,gTn]) ?_)
    rw [if_neg (by simp)]
    refine SC.wp_seq (SC.wp_reg ?_)
    repeat (first | (apply ops_1;(focus (simp (disch:=(try simp only [sPu]);omega) [eTm,eCo,gTp,gTn,h0];try rfl))) | (apply ops_y;(focus rfl);(focus ((try simp only [sPu]);omega));(focus (simp (disch:=(try simp only [sPu]);omega) [gTp,gTn,h0];done));(focus (simp (disch:=(try simp only [sPu]);omega) [eTm,eCo,gTp,gTn,h0];try rfl))) | (apply ops_n;(focus rfl);(focus ((try simp only [sPu]);omega));(focus (first | (left;simp (disch:=(try simp only [sPu]);omega) [gTp,gTn,h0];done) | (right;simp (disch:=(try simp only [sPu]);omega) [gTp,gTn];done)))))
    refine oNi (SC.wp_cond (t:=false) (by simp (disch:=(try simp only [sPu]);omega) [eTm,eCo,gTp,gTn]) ?_)
    rw [if_neg (by simp)]
    refine SC.wp_seq (SC.wp_reg ?_)
    repeat (first | (apply ops_1;(focus (simp (disch:=(try simp only [sPu]);omega) [eTm,eCo,gTp,gTn,h1];try rfl))) | (apply ops_y;(focus rfl);(focus ((try simp only [sPu]);omega));(focus (simp (disch:=(try simp only [sPu]);omega) [gTp,gTn,h1];done));(focus (simp (disch:=(try simp only [sPu]);omega) [eTm,eCo,gTp,gTn,h1];try rfl))) | (apply ops_n;(focus rfl);(focus ((try simp only [sPu]);omega));(focus (first | (left;simp (disch:=(try simp only [sPu]);omega) [gTp,gTn,h1];done) | (right;simp (disch:=(try simp only [sPu]);omega) [gTp,gTn];done)))))
    refine oNi (SC.wp_cond (t:=null) (by simp (disch:=(try simp only [sPu]);omega) [eTm,eCo,gTp,gTn]) ?_)
    cases null
    · rw [if_neg (by simp)]
      refine SC.wp_skip ?_
      simp only [Exit.then,Exit.inBlock]
      refine SC.wp_seq (SC.wp_reg ?_)
      iterate 2 (first | (apply ops_1;(focus (simp (disch:=(try simp only [sPu]);omega) [eTm,eCo,gTp,gTn,h2,h3];try rfl))) | (apply ops_y;(focus rfl);(focus ((try simp only [sPu]);omega));(focus (simp (disch:=(try simp only [sPu]);omega) [gTp,gTn,h2,h3];done));(focus (simp (disch:=(try simp only [sPu]);omega) [eTm,eCo,gTp,gTn,h2,h3];try rfl))) | (apply ops_n;(focus rfl);(focus ((try simp only [sPu]);omega));(focus (first | (left;simp (disch:=(try simp only [sPu]);omega) [gTp,gTn,h2,h3];done) | (right;simp (disch:=(try simp only [sPu]);omega) [gTp,gTn];done)))))
      refine ops_call oF (cF w n size hs8) (by simp (disch:=(try simp only [sPu]);omega) [eTm,eCo,gTp,gTn]) ?_
      rintro e w' ⟨v,rfl,q1,q2⟩
      refine ⟨v,rfl,?_⟩
      repeat (first | (apply ops_1;(focus (simp (disch:=(try simp only [sPu]);omega) [eTm,eCo,gTp,gTn];try rfl))) | (apply ops_y;(focus rfl);(focus ((try simp only [sPu]);omega));(focus (simp (disch:=(try simp only [sPu]);omega) [gTp,gTn];done));(focus (simp (disch:=(try simp only [sPu]);omega) [eTm,eCo,gTp,gTn];try rfl))) | (apply ops_n;(focus rfl);(focus ((try simp only [sPu]);omega));(focus (first | (left;simp (disch:=(try simp only [sPu]);omega) [gTp,gTn];done) | (right;simp (disch:=(try simp only [sPu]);omega) [gTp,gTn];done)))))
      refine oNi (SC.wp_ret ?_)
      refine fin _ _ _ v (by simp [sPu,hs]) (by simp [dPu,hd]) (by simp (disch:=(try simp only [sPu]);omega) [eTm,eCo,gTp,gTn]) q1 q2 (by simp [counted])
    · rw [if_pos rfl]
      refine SC.wp_seq (SC.wp_reg ?_)
      iterate 1 (first | (apply ops_1;(focus (simp (disch:=(try simp only [sPu]);omega) [eTm,eCo,gTp,gTn,h3];try rfl))) | (apply ops_y;(focus rfl);(focus ((try simp only [sPu]);omega));(focus (simp (disch:=(try simp only [sPu]);omega) [gTp,gTn,h3];done));(focus (simp (disch:=(try simp only [sPu]);omega) [eTm,eCo,gTp,gTn,h3];try rfl))) | (apply ops_n;(focus rfl);(focus ((try simp only [sPu]);omega));(focus (first | (left;simp (disch:=(try simp only [sPu]);omega) [gTp,gTn,h3];done) | (right;simp (disch:=(try simp only [sPu]);omega) [gTp,gTn];done)))))
      refine ops_call oF (cF w (-1) size hs8) (by simp (disch:=(try simp only [sPu]);omega) [eTm,eCo,gTp,gTn]) ?_
      rintro e w' ⟨v,rfl,q1,q2⟩
      refine ⟨v,rfl,?_⟩
      repeat (first | (apply ops_1;(focus (simp (disch:=(try simp only [sPu]);omega) [eTm,eCo,gTp,gTn];try rfl))) | (apply ops_y;(focus rfl);(focus ((try simp only [sPu]);omega));(focus (simp (disch:=(try simp only [sPu]);omega) [gTp,gTn];done));(focus (simp (disch:=(try simp only [sPu]);omega) [eTm,eCo,gTp,gTn];try rfl))) | (apply ops_n;(focus rfl);(focus ((try simp only [sPu]);omega));(focus (first | (left;simp (disch:=(try simp only [sPu]);omega) [gTp,gTn];done) | (right;simp (disch:=(try simp only [sPu]);omega) [gTp,gTn];done)))))
      refine oNi (SC.wp_ret ?_)
      simp only [Exit.then,Exit.inBlock]
      refine fin _ _ _ v (by simp [sPu,hs]) (by simp [dPu,hd]) (by simp (disch:=(try simp only [sPu]);omega) [eTm,eCo,gTp,gTn]) q1 q2 (by simp [counted])
  · cases null
    · repeat (first | (apply ops_1;(focus (simp (disch:=(try simp only [sPu]);omega) [eTm,eCo,gTp,gTn,h0,h1];try rfl))) | (apply ops_y;(focus rfl);(focus ((try simp only [sPu]);omega));(focus (simp (disch:=(try simp only [sPu]);omega) [gTp,gTn,h0,h1];done));(focus (simp (disch:=(try simp only [sPu]);omega) [eTm,eCo,gTp,gTn,h0,h1];try rfl))) | (apply ops_n;(focus rfl);(focus ((try simp only [sPu]);omega));(focus (first | (left;simp (disch:=(try simp only [sPu]);omega) [gTp,gTn,h0,h1];done) | (right;simp (disch:=(try simp only [sPu]);omega) [gTp,gTn];done)))))
      refine oNi (SC.wp_cond (t:=false) (by simp (disch:=(try simp only [sPu]);omega) [eTm,eCo,gTp,gTn]) ?_)
      rw [if_neg (by simp)]
      refine SC.wp_seq (SC.wp_reg ?_)
      repeat (first | (apply ops_1;(focus (simp (disch:=(try simp only [sPu]);omega) [eTm,eCo,gTp,gTn,h0];try rfl))) | (apply ops_y;(focus rfl);(focus ((try simp only [sPu]);omega));(focus (simp (disch:=(try simp only [sPu]);omega) [gTp,gTn,h0];done));(focus (simp (disch:=(try simp only [sPu]);omega) [eTm,eCo,gTp,gTn,h0];try rfl))) | (apply ops_n;(focus rfl);(focus ((try simp only [sPu]);omega));(focus (first | (left;simp (disch:=(try simp only [sPu]);omega) [gTp,gTn,h0];done) | (right;simp (disch:=(try simp only [sPu]);omega) [gTp,gTn];done)))))
      refine oNi (SC.wp_cond (t:=true) (by simp (disch:=(try simp only [sPu]);omega) [eTm,eCo,gTp,gTn]) ?_)
      rw [if_pos rfl]
      refine SC.wp_seq (SC.wp_reg ?_)
      have e1:(n:Int) % 18446744073709551616=(n:Int):=by omega
      have e2:((n:Int)+1) % 18446744073709551616=((n+1:Nat):Int):=by omega
      iterate 1 (first | (apply ops_1;(focus (simp (disch:=(try simp only [sPu]);omega) [eTm,eCo,gTp,gTn,h2];try rfl))) | (apply ops_y;(focus rfl);(focus ((try simp only [sPu]);omega));(focus (simp (disch:=(try simp only [sPu]);omega) [gTp,gTn,h2];done));(focus (simp (disch:=(try simp only [sPu]);omega) [eTm,eCo,gTp,gTn,h2];try rfl))) | (apply ops_n;(focus rfl);(focus ((try simp only [sPu]);omega));(focus (first | (left;simp (disch:=(try simp only [sPu]);omega) [gTp,gTn,h2];done) | (right;simp (disch:=(try simp only [sPu]);omega) [gTp,gTn];done)))))
      iterate 1 (first | (apply ops_1;(focus (simp (disch:=(try simp only [sPu]);omega) [eTm,eCo,gTp,gTn,hst,wrap_u64,e1];try rfl))) | (apply ops_y;(focus rfl);(focus ((try simp only [sPu]);omega));(focus (simp (disch:=(try simp only [sPu]);omega) [gTp,gTn,hst,wrap_u64,e1];done));(focus (simp (disch:=(try simp only [sPu]);omega) [eTm,eCo,gTp,gTn,hst,wrap_u64,e1];try rfl))) | (apply ops_n;(focus rfl);(focus ((try simp only [sPu]);omega));(focus (first | (left;simp (disch:=(try simp only [sPu]);omega) [gTp,gTn,hst,wrap_u64,e1];done) | (right;simp (disch:=(try simp only [sPu]);omega) [gTp,gTn];done)))))
      iterate 1 (first | (apply ops_1;(focus (simp (disch:=(try simp only [sPu]);omega) [eTm,eCo,gTp,gTn,hst,wrap_u64,e2];try rfl))) | (apply ops_y;(focus rfl);(focus ((try simp only [sPu]);omega));(focus (simp (disch:=(try simp only [sPu]);omega) [gTp,gTn,hst,wrap_u64,e2];done));(focus (simp (disch:=(try simp only [sPu]);omega) [eTm,eCo,gTp,gTn,hst,wrap_u64,e2];try rfl))) | (apply ops_n;(focus rfl);(focus ((try simp only [sPu]);omega));(focus (first | (left;simp (disch:=(try simp only [sPu]);omega) [gTp,gTn,hst,wrap_u64,e2];done) | (right;simp (disch:=(try simp only [sPu]);omega) [gTp,gTn];done)))))
      refine ops_call oU (cU w (n+1) (by omega)) (by simp (disch:=(try simp only [sPu]);omega) [eTm,eCo,gTp,gTn]) ?_
      rintro e w' ⟨v,rfl,q1,q2⟩
      refine ⟨v,rfl,?_⟩
      repeat (first | (apply ops_1;(focus (simp (disch:=(try simp only [sPu]);omega) [eTm,eCo,gTp,gTn];try rfl))) | (apply ops_y;(focus rfl);(focus ((try simp only [sPu]);omega));(focus (simp (disch:=(try simp only [sPu]);omega) [gTp,gTn];done));(focus (simp (disch:=(try simp only [sPu]);omega) [eTm,eCo,gTp,gTn];try rfl))) | (apply ops_n;(focus rfl);(focus ((try simp only [sPu]);omega));(focus (first | (left;simp (disch:=(try simp only [sPu]);omega) [gTp,gTn];done) | (right;simp (disch:=(try simp only [sPu]);omega) [gTp,gTn];done)))))
      refine oNi (SC.wp_ret ?_)
      simp only [Exit.then,Exit.inBlock]
      refine fin _ _ _ v (by simp [sPu,hs]) (by simp [dPu,hd]) (by simp (disch:=(try simp only [sPu]);omega) [eTm,eCo,gTp,gTn]) q1 q2 (by simp [counted])
    · repeat (first | (apply ops_1;(focus (simp (disch:=(try simp only [sPu]);omega) [eTm,eCo,gTp,gTn,h0,h1];try rfl))) | (apply ops_y;(focus rfl);(focus ((try simp only [sPu]);omega));(focus (simp (disch:=(try simp only [sPu]);omega) [gTp,gTn,h0,h1];done));(focus (simp (disch:=(try simp only [sPu]);omega) [eTm,eCo,gTp,gTn,h0,h1];try rfl))) | (apply ops_n;(focus rfl);(focus ((try simp only [sPu]);omega));(focus (first | (left;simp (disch:=(try simp only [sPu]);omega) [gTp,gTn,h0,h1];done) | (right;simp (disch:=(try simp only [sPu]);omega) [gTp,gTn];done)))))
      refine oNi (SC.wp_cond (t:=true) (by simp (disch:=(try simp only [sPu]);omega) [eTm,eCo,gTp,gTn]) ?_)
      rw [if_pos rfl]
      refine SC.wp_seq (SC.wp_reg ?_)
      refine ops_u8lit (B:=w.heap.size) (bs:=[0]) hU8s rfl (by decide) (by decide) (by simp [cellsOf,cell,eCo]) (Nat.le_refl _) ?_
      intro v w' q1 q2
      repeat (first | (apply ops_1;(focus (simp (disch:=(try simp only [sPu]);omega) [eTm,eCo,gTp,gTn];try rfl))) | (apply ops_y;(focus rfl);(focus ((try simp only [sPu]);omega));(focus (simp (disch:=(try simp only [sPu]);omega) [gTp,gTn];done));(focus (simp (disch:=(try simp only [sPu]);omega) [eTm,eCo,gTp,gTn];try rfl))) | (apply ops_n;(focus rfl);(focus ((try simp only [sPu]);omega));(focus (first | (left;simp (disch:=(try simp only [sPu]);omega) [gTp,gTn];done) | (right;simp (disch:=(try simp only [sPu]);omega) [gTp,gTn];done)))))
      refine oNi (SC.wp_ret ?_)
      simp only [Exit.then,Exit.inBlock]
      refine fin _ _ _ v (by simp [sPu,hs]) (by simp [dPu,hd]) (by simp (disch:=(try simp only [sPu]);omega) [eTm,eCo,gTp,gTn]) q1 q2 (by simp [counted])
end
end Go.Proofs.YtecdefhecaeclaaDoor.K
namespace Go.Proofs.YtecdefhecaeclaaDoor.K
open Go Go.RowKit Go.Proofs.YtecdefhecaeclaaDoor.T
attribute [local simp] eTm eCo pNo gTp gTn qv qcall vop iop
set_option linter.unusedSimpArgs false
set_option linter.unusedVariables false
set_option maxHeartbeats 1000000
def kindOf:Ty→Int
  | .prim .bool=>0
  | .prim .i8=>1
  | .prim .i16=>2
  | .prim .i32=>3
  | .prim .i64=>4
  | .prim .u16=>5
  | .prim .uuid=>7
  | .prim .str=>8
  | .prim .bytes=>9
  | .struct _ _ _ _ _=>10
  | .list _ _ _ _=>11
def Fs.len:Fs→Nat
  | .nil=>0
  | .cons _ _ r=>Fs.len r+1
def Fs.drop:Nat→Fs→Fs
  | 0,fs=>fs
  | _+1,.nil=>.nil
  | n+1,.cons _ _ r=>Fs.drop n r
def isList:Ty→Bool
  | .list _ _ _ _=>true
  | _=>false
def ofOK (of_:Int):Ty→Prop
  | .list _ _ _ of=>of_=kindOf of∧isList of=false
  | _=>True
mutual
def SubV (w:World) (F:Nat→Prop):Ty→Value→Prop
  | .prim _,_=>True
  | .struct _ _ _ _ fs,v=>∃ base cap,v=.slice base (Fs.len fs) cap∧(Fs.len fs=0∨∃ b o,base=some ⟨b,o,none⟩∧F b∧FsAt w F fs b o)
  | .list _ _ _ of,v=>SubV w F of v
def FsAt (w:World) (F:Nat→Prop):Fs→Nat→Nat→Prop
  | .nil,_,_=>True
  | .cons h ty r,b,o=>(∃ of_ sub,rangeV w b o 8=some [.int .i64 (kindOf ty),.int .i64 h.from_,.int .i64 h.to,.int .i64 h.null,.int .i64 (-1),.int .i64 h.dflt,.int .i64 of_,sub]∧sub.oneCell'=true∧ofOK of_ ty∧SubV w F ty sub)∧FsAt w F r b (o+8)
end
def FsV (w:World) (F:Nat→Prop) (fs:Fs) (v:Value):Prop :=
  ∃ base cap,v=.slice base (Fs.len fs) cap∧(Fs.len fs=0∨∃ b o,base=some ⟨b,o,none⟩∧F b∧FsAt w F fs b o)
def UTagsAt (w:World) (F:Nat→Prop) (base:Option Addr) (u:List (Nat × Bytes)):Prop :=
  u=[]∨∃ b o,base=some ⟨b,o,none⟩∧F b∧∀ i x,u[i]?=some x→x.1 < 4294967296∧∃ vb vc,rangeV w b (o+i * 2) 2=some [.int .u32 (x.1:Int),.slice vb x.2.length vc]∧BytesAt w F vb x.2∧x.2.length≤vc
inductive TV (G:List (Nat × Bytes)→Prop) (w:World) (F:Nat→Prop):Tree→Value→Prop where
  | mk (n:Int) (s:Bytes) (null:Bool) (l:List Tree) (u:List (Nat × Bytes)) (sb lb ub:Option Addr) (sc lc uc:Nat) (b o:Nat) (cs:Nat→List Value)
      (hs:BytesAt w F sb s) (hsc:s.length≤sc) (hlc:l.length≤lc) (huc:u.length≤uc)
      (hl:l ≠ []→lb=some ⟨b,o,none⟩∧F b)
      (hr:∀ i,i < l.length→rangeV w b (o+i * 5) 5=some (cs i))
      (ht:∀ i x,l[i]?=some x→TV G w F x (.agg (cs i).toArray))
      (hG:G u) (hu:UTagsAt w F ub u) :
      TV G w F (.mk n s null l u) (treV n (.slice sb s.length sc) null (.slice lb l.length lc) (.slice ub u.length uc))
def zeroTV:Value:=treV 0 (.slice none 0 0) false (.slice none 0 0) (.slice none 0 0)
section
variable {G:List (Nat × Bytes)→Prop} {P:Program} {X:STy} {f:FuncId} {fn:Func}
theorem bytesAt_mono {w0 w:World} {F F':Nat→Prop} {base:Option Addr} {bs:Bytes} (h:BytesAt w0 F base bs) (hF:∀ k,F k→F' k) (hw:∀ k,F k→w.heap[k]?=w0.heap[k]?):BytesAt w F' base bs:=by
  rcases h with h | ⟨b,o,h1,h2,h3⟩
  · exact .inl h
  · exact .inr ⟨b,o,h1,hF _ h2,fun j u hu=>by rw [World.cell?_of_block (hw b h2)];exact h3 j u hu⟩
theorem rangeV_mono {w0 w:World} {b:Nat} (hw:w.heap[b]?=w0.heap[b]?):∀ (n o:Nat),rangeV w b o n=rangeV w0 b o n
  | 0,_=>rfl
  | n+1,o=>by
    unfold rangeV
    rw [World.cell?_of_block (a:=⟨b,o,none⟩) hw,rangeV_mono hw n (o+1)]
theorem tagsAt_mono {w0 w:World} {F F':Nat→Prop} {base:Option Addr} {u:List (Nat × Bytes)} (h:UTagsAt w0 F base u) (hF:∀ k,F k→F' k) (hw:∀ k,F k→w.heap[k]?=w0.heap[k]?):UTagsAt w F' base u:=by
  rcases h with h | ⟨b,o,h1,h2,h3⟩
  · exact .inl h
  · refine .inr ⟨b,o,h1,hF _ h2,fun i x hx=>?_⟩
    obtain ⟨q0,vb,vc,q1,q2,q3⟩:=h3 i x hx
    exact ⟨q0,vb,vc,by rw [rangeV_mono (hw b h2)];exact q1,bytesAt_mono q2 hF hw,q3⟩
theorem TV.mono {w0 w:World} {F F':Nat→Prop} (hF:∀ k,F k→F' k) (hw:∀ k,F k→w.heap[k]?=w0.heap[k]?) {t:Tree} {v:Value} (h:TV G w0 F t v):TV G w F' t v:=by
  induction h with
  | mk n s null l u sb lb ub sc lc uc b o cs hs hsc hlc huc hl hr ht hG hu ih =>
    refine .mk n s null l u sb lb ub sc lc uc b o cs (bytesAt_mono hs hF hw) hsc hlc huc (fun h=>⟨(hl h).1,hF _ (hl h).2⟩) (fun i hi=>?_) ih hG (tagsAt_mono hu hF hw)
    have hne:l ≠ []:=by intro e;subst e;simp at hi
    rw [rangeV_mono (hw b (hl hne).2)]
    exact hr i hi
mutual
theorem SubV.mono {w0 w:World} {F F':Nat→Prop} (hF:∀ k,F k→F' k) (hw:∀ k,F k→w.heap[k]?=w0.heap[k]?):∀ (ty:Ty) (v:Value),SubV w0 F ty v→SubV w F' ty v
  | .prim _,_,_=>by simp [SubV]
  | .struct _ _ _ _ fs,v,h=>by
    simp only [SubV] at h ⊢
    obtain ⟨base,cap,h1,h2⟩:=h
    exact ⟨base,cap,h1,h2.imp id fun ⟨b,o,q1,q2,q3⟩=>⟨b,o,q1,hF _ q2,FsAt.mono hF hw fs b o q2 q3⟩⟩
  | .list _ _ _ of,v,h=>by
    simp only [SubV] at h ⊢
    exact SubV.mono hF hw of v h
theorem FsAt.mono {w0 w:World} {F F':Nat→Prop} (hF:∀ k,F k→F' k) (hw:∀ k,F k→w.heap[k]?=w0.heap[k]?):∀ (fs:Fs) (b o:Nat),F b→FsAt w0 F fs b o→FsAt w F' fs b o
  | .nil,_,_,_,_=>by simp [FsAt]
  | .cons h ty r,b,o,hb,hh=>by
    simp only [FsAt] at hh ⊢
    obtain ⟨⟨of_,sub,h1,h2,h3,h4⟩,h5⟩:=hh
    exact ⟨⟨of_,sub,by rw [rangeV_mono (hw b hb)];exact h1,h2,h3,SubV.mono hF hw ty sub h4⟩,FsAt.mono hF hw r b (o+8) hb h5⟩
end
theorem FsV.mono {w0 w:World} {F F':Nat→Prop} (hF:∀ k,F k→F' k) (hw:∀ k,F k→w.heap[k]?=w0.heap[k]?) {fs:Fs} {v:Value} (h:FsV w0 F fs v):FsV w F' fs v:=by
  obtain ⟨base,cap,h1,h2⟩:=h
  exact ⟨base,cap,h1,h2.imp id fun ⟨b,o,q1,q2,q3⟩=>⟨b,o,q1,hF _ q2,FsAt.mono hF hw fs b o q2 q3⟩⟩
theorem TV.down {w0 w:World} {B:Nat} (hb:Below B w0 w) (hB:B≤w.heap.size) {t:Tree} {v:Value} (h:TV G w0 (· < B) t v):TV G w (· < w.heap.size) t v :=
  h.mono (fun k hk=>Nat.lt_of_lt_of_le hk hB) (fun k hk=>hb.block k hk)
theorem FsV.down {w0 w:World} {B:Nat} (hb:Below B w0 w) (hB:B≤w.heap.size) {fs:Fs} {v:Value} (h:FsV w0 (· < B) fs v):FsV w (· < w.heap.size) fs v :=
  h.mono (fun k hk=>Nat.lt_of_lt_of_le hk hB) (fun k hk=>hb.block k hk)
theorem TV.zero (h0:G []) (w:World) (F:Nat→Prop):TV G w F Tree.zero zeroTV :=
  .mk 0 [] false [] [] none none none 0 0 0 0 0 (fun _=>[]) (.inl rfl) (Nat.le_refl _) (Nat.le_refl _) (Nat.le_refl _) (fun h=>absurd rfl h) (fun i hi=>by simp at hi) (fun i x hx=>by simp at hx) h0 (.inl rfl)
theorem opw_build {a:Act} {w:World} {K:Act→World→Prop} {d:Option Tmp} {g:Option (Nat × Bool)} {T:TypeId} {parts:Array (Nat × Operand)} {cs:Array Value} (hp:P.built T (parts.map fun x=>(x.1,a.eval x.2)).toList=some cs)
    (h:K (a.put d (.agg cs)) w):opw P ⟨d,.build T parts,g⟩ a w K:=by
  refine oVa (v:=.agg cs) (by simp) (fun p hp2=>?_) h
  have hr:=run_build (P:=P) w T (parts.map fun x=>(x.1,a.eval x.2)) cs hp
  simp only [execOp,hp2]
  simp only [Sem.run_bind]
  rw [hr]
  rfl
theorem at_ok (hX:stOK P X=true) (hz:P.built X.T []=some #[.int .i64 0,.slice none 0 0,.bool false,.slice none 0 0,.slice none 0 0]) (hTa:arrB P X.T 5=true)
    (hf:P.funcs[f]?=some fn) (hb:fn.body.map strip=some (sc_at X.T X.Ts X.I)) (hn:fn.ntmps=16) (hr:fn.results=#[.cell 4 X.T]) (h0G:G [])
    (w:World) (t:Tree) (tv:Value) (i:Nat) (ht:TV G w (· < w.heap.size) t tv) :
    Calls P f #[tv,.int .i64 (i:Int)] w fun e w'=>∃ v,e=.returned v∧TV G w (· < w.heap.size) ((t.l.drop i).headD Tree.zero) v∧Below w.heap.size w w':=by
  have hst:=st_facts hX
  refine fCa hf hb hn (by simp) fun a0 hs hd ha=>?_
  have h0:=ha 0 _ rfl
  have h1:=ha 1 _ rfl
  simp only [List.getElem_toArray,List.getElem_cons_zero,List.getElem_cons_succ] at h0 h1
  cases ht with
  | mk n s null l u sb lb ub sc lc uc b o cs hs1 hsc hlc huc hl hrr htt hG hu =>
  refine SC.wp_seq (SC.wp_reg (ops_box (B:=w.heap.size) (w0:=w) (by rw [eTm,h0];rfl) (Nat.le_refl _) (Below.refl _ _) fun w1 q1 q2 q3 hc q5=>?_))
  obtain ⟨hTa1,iT,zT,hiT,hzT,hzs⟩:=arr_of hTa
  refine oNo rfl (opw_alloc hiT hzT (oNi ?_))
  have hal:=heap_alloc_new w1 (.cells zT.cells X.T)
  have hc2:∀ j,(w1.alloc (.cells zT.cells X.T)).cell? ⟨w.heap.size,j,none⟩=#[Value.int .i64 n,.slice sb s.length sc,.bool null,.slice lb l.length lc,.slice ub u.length uc][j]?:=fun j=>by
    rw [World.cell?_of_block (a:=⟨w.heap.size,j,none⟩) (Below.heap_alloc w1 _ w.heap.size (by omega))]
    exact hc j
  have hbw:Below w.heap.size w (w1.alloc (.cells zT.cells X.T)):=q2.alloc (by omega) _
  have hsz2:(w1.alloc (.cells zT.cells X.T)).heap.size=w.heap.size+2:=by simp [q3]
  generalize w1.alloc (.cells zT.cells X.T)=w2 at *
  rw [q3] at hal ⊢
  clear hc q1 q2 q5
  have fin:∀ (a:Act) (vs:List Value) (t':Tree),a.tmps.size=16→a.defers=[]→getT a 4=.pointer (some ⟨w.heap.size+1,0,none⟩)→vs.length=5→TV G w (· < w.heap.size) t' (.agg vs.toArray)→t'=(l.drop i).headD Tree.zero →
      bodyPost P fn (fun e w'=>∃ v,e=.returned v∧TV G w (· < w.heap.size) (((Tree.mk n s null l u).l.drop i).headD Tree.zero) v∧Below w.heap.size w w') .ret a (w2.setRow (w.heap.size+1) vs.toArray):=by
    intro a vs t' p1 p2 p3 p4 p5 p6
    subst p6
    exact ret_cell hr (by simp [hst,p4]) p3 (setRow_heap w2 _ _ _ _ _ hal) p2 ⟨_,rfl,p5,below_setRow hbw (by omega) _⟩
  refine SC.wp_seq (SC.wp_seq (SC.wp_reg ?_))
  repeat (apply ops_1;(focus (simp (disch:=(try simp only [sPu]);omega) [hst,hc2,h1];try rfl)))
  refine oNi (SC.wp_cond (t:=decide ((i:Int) < (l.length:Int))) (by simp (disch:=(try simp only [sPu]);omega)) ?_)
  cases e1:decide ((i:Int) < (l.length:Int))
  · rw [if_neg (by simp)]
    refine SC.wp_skip ?_
    simp only [Exit.then]
    have hi:l.length≤i:=by simp at e1;omega
    refine SC.wp_seq (SC.wp_reg (oNo rfl (opw_build (cs:=#[.int .i64 0,.slice none 0 0,.bool false,.slice none 0 0,.slice none 0 0]) (by simpa using hz) ?_)))
    refine oNo rfl (opw_store_agg (b:=w.heap.size+1) (cs:=[.int .i64 0,.slice none 0 0,.bool false,.slice none 0 0,.slice none 0 0]) hTa1 ?_ ?_ hal (by simp [hzs]) (by simp [Value.oneCell']) (oNi (SC.wp_ret ?_)))
    · simp (disch:=(try simp only [sPu]);omega)
    · simp (disch:=(try simp only [sPu]);omega)
    refine fin _ _ Tree.zero (by simp [sPu,hs]) (by simp [dPu,hd]) ?_ rfl (TV.zero h0G _ _) ?_
    · simp (disch:=(try simp only [sPu]);omega)
    · rw [List.drop_eq_nil_of_le hi];rfl
  · rw [if_pos rfl]
    have hi:i < l.length:=by simp at e1;omega
    have hne:l ≠ []:=by intro e;subst e;simp at hi
    obtain ⟨hlb,hbF⟩:=hl hne
    subst hlb
    have hri:=hrr i hi
    rw [← rangeV_mono (w:=w2) (hbw.block b hbF)] at hri
    obtain ⟨hl5,_⟩:=rangeV_get _ _ _ hri
    have hti:=htt i _ (List.getElem?_eq_getElem hi)
    refine SC.wp_seq (SC.wp_reg ?_)
    have ei:(0:Int)≤(i:Int)∧(i:Int) < (l.length:Int):=by omega
    repeat (apply ops_1;(focus (simp (disch:=(try simp only [sPu]);omega) [hst,hc2,h1,ei,hri,hi];try rfl)))
    refine oNo rfl (opw_store_agg (b:=w.heap.size+1) (cs:=cs i) (by rw [hl5];exact hTa1) ?_ ?_ hal (by rw [hzs,hl5]) ?_ (oNi (SC.wp_ret ?_)))
    · simp (disch:=(try simp only [sPu]);omega)
    · simp (disch:=(try simp only [sPu]);omega)
    · intro v hv
      have hti':=hti
      generalize cs i=ci at hv hti'
      generalize l[i]=ti at hti'
      cases hti'
      simp at hv
      rcases hv with rfl | rfl | rfl | rfl | rfl <;> rfl
    refine fin _ _ l[i] (by simp [sPu,hs]) (by simp [dPu,hd]) ?_ hl5 hti ?_
    · simp (disch:=(try simp only [sPu]);omega)
    · rw [List.drop_eq_getElem_cons hi];rfl
end
end Go.Proofs.YtecdefhecaeclaaDoor.K
namespace Go.Proofs.YtecdefhecaeclaaDoor.K
open Go Go.RowKit Go.Proofs.YtecdefhecaeclaaDoor.T
attribute [local simp] eTm eCo pNo gTp gTn qv qcall vop iop
set_option linter.unusedSimpArgs false
set_option linter.unusedVariables false
set_option maxHeartbeats 2000000
def PartC (G:List (Nat × Bytes)→Prop) (P:Program) (X:STy) (f:FuncId) (fs:Fs):Prop :=
  ∀ (w:World) (fv:Value) (ver:Int) (flex:Bool) (tv:Value) (t:Tree),FsV w (· < w.heap.size) fs fv→TV G w (· < w.heap.size) t tv→(wFs ver flex fs t.l ++ wTags flex t.u).length≤lim →
    Calls P f #[fv,.int .i64 ver,.bool flex,tv] w (RetOwn X.U8 w (wFs ver flex fs t.l ++ wTags flex t.u))
def SubC (C:Fs→Prop):Ty→Prop
  | .struct _ _ _ _ fs=>C fs
  | .list _ _ _ of=>SubC C of
  | .prim _=>True
structure SmallC (P:Program) (X:STy) (fW fTh fC fWi fF fU fHas fNull fAt:FuncId) (G:List (Nat × Bytes)→Prop):Prop where
  oW:FnOK P fW
  cW:∀ (w:World) (base:Option Addr) (len cap:Nat),len≤cap→Calls P fW #[.slice base len cap] w fun e w'=>e=.returned (.slice base (min len most) cap)∧w=w'
  oTh:FnOK P fTh
  cTh:∀ (w:World) (base:Option Addr) (len cap:Nat),len≤cap→Calls P fTh #[.slice base len cap] w fun e w'=>e=.returned (.slice base (min len most) cap)∧w=w'
  oC:FnOK P fC
  cC:∀ (w:World) (flex null:Bool) (n size:Nat),n < 9223372036854775807→size≤8→Calls P fC #[.bool flex,.bool null,.int .i64 (n:Int),.int .i64 (size:Int)] w (RetOwn X.U8 w (counted flex null n size))
  oWi:FnOK P fWi
  cWi:∀ (w:World) (kind:Int),Calls P fWi #[.int .i64 kind] w fun e w'=>e=.returned (.int .i64 (widthOf kind:Int))∧w=w'
  oF:FnOK P fF
  cF:∀ (w:World) (n:Int) (size:Nat),size≤8→Calls P fF #[.int .i64 n,.int .i64 (size:Int)] w (RetOwn X.U8 w (fixed n size))
  oU:FnOK P fU
  cU:∀ (w:World) (n:Nat),n < 18446744073709551616→Calls P fU #[.int .u64 (n:Int)] w (RetOwn X.U8 w (uvarint n))
  oH:FnOK P fHas
  cH:∀ (w:World) (k fr to nu tg df of_:Int) (sub:Value) (ver:Int),Calls P fHas #[fldV k fr to nu tg df of_ sub,.int .i64 ver] w fun e w'=>e=.returned (.bool (decide (fr≤ver) && (decide (to < 0) || decide (ver≤to))))∧Below w.heap.size w w'
  oN:FnOK P fNull
  cN:∀ (w:World) (k fr to nu tg df of_:Int) (sub:Value) (ver:Int) (n:Int) (s l u:Value) (null:Bool),Calls P fNull #[fldV k fr to nu tg df of_ sub,.int .i64 ver,treV n s null l u] w fun e w'=>e=.returned (.bool (null && (decide (0≤nu) && decide (nu≤ver))))∧Below w.heap.size w w'
  oA:FnOK P fAt
  cA:∀ (w:World) (t:Tree) (tv:Value) (i:Nat),TV G w (· < w.heap.size) t tv→Calls P fAt #[tv,.int .i64 (i:Int)] w fun e w'=>∃ v,e=.returned v∧TV G w (· < w.heap.size) ((t.l.drop i).headD Tree.zero) v∧Below w.heap.size w w'
section
variable {G:List (Nat × Bytes)→Prop} {P:Program} {X:STy} {f:FuncId} {fn:Func} {fW fTh fC fWi fF fU fHas fNull fAt fPart:FuncId}
theorem setCells_row (P:Program) {w:World} {g o:Nat} {t:TypeId} {vs:List Value} {cur:Array Value} (hg:w.heap[g]?=some (.cells cur t (0,0))) (hl:o+vs.length≤cur.size) (h1:∀ v ∈ vs,v.oneCell'=true) :
    w.setCells g o vs=w.setRow g (cur.toList.take o ++ vs ++ cur.toList.drop (o+vs.length)).toArray:=by
  have e1:=run_storeCells_at P g o t vs 0 cur w hg (by simpa using hl) h1
  have e2:=run_storeCells_cells (P:=P) g o vs 0 w (fun j hj=>by
      rw [cell_of_row _ _ _ _ _ _ hg]
      simp only [Nat.add_zero]
      rw [Array.getElem?_eq_getElem (by omega)]
      rfl) (fun j hj=>by simp [World.frozen?,hg]) h1
  rw [e1] at e2
  simp only [Nat.add_zero,Result.ok.injEq,true_and] at e2
  exact e2.symm
theorem bytesAt_whole {w:World} {F:Nat→Prop} {base:Option Addr} {bs:Bytes} (h:BytesAt w F base bs) (n:Nat):BytesAt w F base (bs.take n):=by
  rcases h with h2 | ⟨b,o,h1,h2,h3⟩
  · exact .inl (by rw [h2];simp)
  · refine .inr ⟨b,o,h1,h2,fun j u hu=>h3 j u ?_⟩
    rw [List.getElem?_take] at hu
    split at hu
    · exact hu
    · cases hu
theorem own_down {tU8:Nat} {w:World} {B B':Nat} {v:Value} {xs:Bytes} (h:Own tU8 w B v xs) (hB:B'≤B):Own tU8 w B' v xs:=by
  refine ⟨h.1,h.2.imp id ?_⟩
  rintro ⟨g,cap,cur,h1,h2,h3⟩
  exact ⟨g,cap,cur,h1,Nat.le_trans hB h2,h3⟩
theorem text_tail (hX:stOK P X=true) (S:SmallC P X fW fTh fC fWi fF fU fHas fNull fAt G) {a:Act} {w w1:World} {Q:Exit→Act→World→Prop} (s d size:Nat) (hs8:size≤8) (h12:12 < s) (hsd:s < d) (hd70:d+6 < a.tmps.size)
    (bs:Bytes) (base:Option Addr) (cap:Nat) (flex null:Bool) (h4:getT a 4=.bool flex) (h2:getT a 2=.bool null) (hsv:getT a s=.slice base bs.length cap) (hb:BytesAt w1 (· < w1.heap.size) base bs) (hbw:Below w.heap.size w w1) (hsz:w.heap.size≤w1.heap.size)
    (hl:(counted flex null bs.length size ++ bs).length≤lim)
    (hQ:∀ (a':Act) (w':World) (v:Value),a'.defers=a.defers→getT a' 12=v→Own X.U8 w' w.heap.size v (counted flex null bs.length size ++ bs)→Below w.heap.size w w'→Q .ret a' w') :
    SC.wp P (.seq (.reg [mv d 4,mv (d+1) 2,mv (d+2) s,lenOp (d+3) X.Bs (d+2),⟨some (d+4),.call ⟨.value (.func fC),#[.tmp d,.tmp (d+1),.tmp (d+3),.const (.int .i64 (size:Int))],#[]⟩,none⟩,mv (d+5) s,⟨some (d+6),.call ⟨.builtin .append,#[.tmp (d+4),.tmp (d+5)],#[X.Bs,X.Bs]⟩,none⟩,asg 12 (d+6)]) .ret) Q a w1:=by
  have hst:=st_facts hX
  have hU8s:=hst.2.2.1.1
  have hlim:lim=70368744177664:=rfl
  have hbl:bs.length < 9223372036854775807:=by rw [List.length_append] at hl;omega
  refine SC.wp_seq (SC.wp_reg ?_)
  iterate 4 (apply ops_1;(focus (simp (disch:=(try simp only [sPu]);omega) [hst,h4,h2,hsv];try rfl)))
  refine ops_call S.oC (S.cC w1 flex null bs.length size hbl hs8) (by simp (disch:=(try simp only [sPu]);omega)) ?_
  rintro e w2 ⟨v,rfl,r1,r2⟩
  refine ⟨v,rfl,?_⟩
  iterate 1 (apply ops_1;(focus (simp (disch:=(try simp only [sPu]);omega) [hsv];try rfl)))
  refine oNo rfl (opw_appendU8 (B:=w.heap.size) (dv:=v) (xv:=.slice base bs.length cap) (xs:=counted flex null bs.length size) (bs:=bs) hU8s (by simp (disch:=(try simp only [sPu]);omega)) (by simp (disch:=(try simp only [sPu]);omega)) rfl (own_down r1 hsz) (Nat.le_trans hsz r2.size) (src_bytes hU8s (bytesAt_mono (F':=fun _=>True) hb (fun _ _=>trivial) (fun k hk=>r2.block k hk)) cap) (by rw [List.length_append] at hl;exact hl) ?_)
  intro v2 w3 p1 p2 p3 _
  repeat (apply ops_1;(focus (simp (disch:=(try simp only [sPu]);omega) ;try rfl)))
  refine oNi (SC.wp_ret (hQ _ _ v2 (by simp [dPu]) (by simp (disch:=(try simp only [sPu]);omega)) p1 ((hbw.trans (r2.mono hsz)).trans p2)))
theorem value_ok (hX:stOK P X=true) (S:SmallC P X fW fTh fC fWi fF fU fHas fNull fAt G) (hm:P.follows .mixedOrders=true) (oP:FnOK P fPart)
    (hf:P.funcs[f]?=some fn) (hb:fn.body.map strip=some (sc_value X.T X.I X.I64 X.U8 X.Bs fW fC fPart fWi fF)) (hn:fn.ntmps=70) (hr:fn.results=#[.tmp 12])
    (w:World) (ty:Ty) (hty:isList ty=false) (sub:Value) (null:Bool) (ver:Int) (flex:Bool) (t:Tree) (tv:Value) (hsub:SubV w (· < w.heap.size) ty sub) (cP:SubC (PartC G P X fPart) ty)
    (ht:TV G w (· < w.heap.size) t tv) (hl:(wTy ver flex ty null t).length≤lim) :
    Calls P f #[.int .i64 (kindOf ty),sub,.bool null,.int .i64 ver,.bool flex,tv] w (RetOwn X.U8 w (wTy ver flex ty null t)):=by
  have hst:=st_facts hX
  have hU8s:=hst.2.2.1.1
  refine fCa hf hb hn (by simp) fun a0 hs hd ha=>?_
  have h0:=ha 0 _ rfl
  have h1:=ha 1 _ rfl
  have h2:=ha 2 _ rfl
  have h3:=ha 3 _ rfl
  have h4:=ha 4 _ rfl
  have h5:=ha 5 _ rfl
  simp only [List.getElem_toArray,List.getElem_cons_zero,List.getElem_cons_succ] at h0 h1 h2 h3 h4 h5
  have ht0:=ht
  cases ht with
  | mk n s tnull l u sb lb ub sc lc uc b o cs hs1 hsc hlc huc hll hrr htt hG hu =>
  refine SC.wp_seq (SC.wp_reg (ops_box (B:=w.heap.size) (w0:=w) (by rw [eTm,h5];rfl) (Nat.le_refl _) (Below.refl _ _) fun w1 q1 q2 q3 hc q5=>?_))
  repeat (apply ops_1;(focus (simp (disch:=(try simp only [sPu]);omega) ;try rfl)))
  refine oNi (SC.wp_seq (SC.wp_seq (SC.wp_reg ?_)))
  repeat (apply ops_1;(focus (simp (disch:=(try simp only [sPu]);omega) [h0];try rfl)))
  refine oNi (SC.wp_block ?_)
  have hsz1:w.heap.size≤w1.heap.size:=by omega
  clear q1 q5
  have fin:∀ (out:Bytes) (a:Act) (w':World) (v:Value),a.defers=[]→getT a 12=v→Own X.U8 w' w.heap.size v out→Below w.heap.size w w'→out=wTy ver flex ty null (.mk n s tnull l u)→bodyPost P fn (RetOwn X.U8 w (wTy ver flex ty null (.mk n s tnull l u))) .ret a w':=by
    intro out a w' v q2 q3 q4 q5 q6
    subst q6
    exact ret_tmp hr q2 ⟨v,by rw [q3],q4,q5⟩
  cases ty with
  | list _ _ _ _=>simp [isList] at hty
  | struct typ size dflt tags fs =>
    simp only [SubC] at cP
    simp only [SubV] at hsub
    simp only [kindOf] at h0 ⊢
    iterate 4 (refine SC.wp_seq (SC.wp_reg ?_);(repeat (apply ops_1;(focus (simp (disch:=(try simp only [sPu]);omega) ;try rfl))));refine oNi (SC.wp_cond (t:=false) (by simp (disch:=(try simp only [sPu]);omega)) ?_);rw [if_neg (by simp)])
    (refine SC.wp_seq (SC.wp_reg ?_);(repeat (apply ops_1;(focus (simp (disch:=(try simp only [sPu]);omega) ;try rfl))));refine oNi (SC.wp_cond (t:=true) (by simp (disch:=(try simp only [sPu]);omega)) ?_);rw [if_pos rfl])
    refine SC.wp_seq (SC.wp_reg ?_)
    have hr5:rangeV w1 w.heap.size 0 5=some [.int .i64 n,.slice sb s.length sc,.bool tnull,.slice lb l.length lc,.slice ub u.length uc]:=by simp [rangeV,hc]
    iterate 4 (apply ops_1;(focus (simp (disch:=(try simp only [sPu]);omega) [hst,h1,h3,h4,hr5];try rfl)))
    have hfv:FsV w1 (· < w1.heap.size) fs sub:=FsV.down q2 hsz1 hsub
    have htv:=TV.down q2 hsz1 ht0
    refine ops_call oP (cP w1 sub ver flex _ _ hfv htv (by simpa [wTy] using hl)) (by simp (disch:=(try simp only [sPu]);omega) [h1,h3,h4];rfl) ?_
    rintro e w2 ⟨v,rfl,r1,r2⟩
    refine ⟨v,rfl,?_⟩
    repeat (apply ops_1;(focus (simp (disch:=(try simp only [sPu]);omega) ;try rfl)))
    refine oNi (SC.wp_ret ?_)
    simp only [Exit.then,Exit.inBlock]
    refine fin _ _ _ v (by simp [dPu,hd]) (by simp (disch:=(try simp only [sPu]);omega)) (own_down r1 hsz1) (q2.trans (r2.mono hsz1)) (by simp [wTy,Tree.l,Tree.u])
  | prim k =>
    have hBs:BytesAt w1 (· < w1.heap.size) sb s:=bytesAt_mono hs1 (fun k hk=>Nat.lt_of_lt_of_le hk hsz1) (fun k hk=>q2.block k hk)
    have nums:∀ (a:Act) (kd:Int),a.tmps.size=70→a.defers=[]→getT a 11=.pointer (some ⟨w.heap.size,0,none⟩)→getT a 0=.int .i64 kd→widthOf kd≤8→fixed n (widthOf kd)=wTy ver flex (.prim k) null (.mk n s tnull l u) →
        SC.wp P (.seq (.dreg [fa 65 X.T 11 0,ld 66 X.I64 65,mv 67 0,cal 68 fWi [67],cal 69 fF [66,68],asg 12 69] [[],[0],[],[2],[1,3,3],[4,4,0,1,2,3,4]]) .ret) (bodyPost P fn (RetOwn X.U8 w (wTy ver flex (.prim k) null (.mk n s tnull l u)))) a w1:=by
      intro a kd p1 p2 p3 p4 p5 p6
      refine SC.wp_seq (SC.wp_dreg hm (Below w1.heap.size w1.drew) [(0,true),(1,true),(2,true),(3,false),(4,false),(5,true)] (by rfl) (by rfl) (by decide) (Below.refl _ _) ?_)
      have hlt:w.heap.size < w1.heap.size:=by omega
      have hcd:∀ j,w1.drew.cell? ⟨w.heap.size,j,none⟩=#[Value.int .i64 n,.slice sb s.length sc,.bool tnull,.slice lb l.length lc,.slice ub u.length uc][j]?:=hc
      repeat (apply dr_1;(focus rfl);(focus (simp (disch:=(try simp only [sPu]);omega) [hst,p3,p4,hlt,hcd];try rfl)))
      refine dreg_n rfl rfl ?_
      obtain ⟨fn1,g1,g2,g3⟩:=S.oWi
      refine opw_call g1 g2 g3 (R:=fun e w'=>e=.returned (.int .i64 (widthOf kd:Int))∧w1.drew=w') ?_ ?_
      · refine Eq.mp (congrArg (fun z=>Calls P fWi z w1.drew _) ?_) (S.cWi w1.drew kd)
        simp (disch:=(try simp only [sPu]);omega) [p4]
      rintro e w2 ⟨rfl,rfl⟩
      refine ⟨_,rfl,Below.refl _ _,?_⟩
      refine dreg_n rfl rfl ?_
      obtain ⟨fn1,g1,g2,g3⟩:=S.oF
      refine opw_call g1 g2 g3 (R:=RetOwn X.U8 w1.drew (fixed n (widthOf kd))) ?_ ?_
      · refine Eq.mp (congrArg (fun z=>Calls P fF z w1.drew _) ?_) (S.cF w1.drew n (widthOf kd) p5)
        simp (disch:=(try simp only [sPu]);omega)
      rintro e w2 ⟨v,rfl,r1,r2⟩
      refine ⟨v,rfl,r2,?_⟩
      repeat (apply dr_1;(focus rfl);(focus (simp (disch:=(try simp only [sPu]);omega) ;try rfl)))
      refine dreg_nil ?_
      simp only [Exit.then]
      refine SC.wp_ret ?_
      refine fin _ _ _ v (by simp [dPu,p2]) (by simp (disch:=(try simp only [sPu]);omega)) (own_down r1 hsz1) (q2.drew.trans (r2.mono hsz1)) p6
    cases k with
    | i8 =>
      simp only [kindOf] at h0 ⊢
      iterate 4 (refine SC.wp_seq (SC.wp_reg ?_);(repeat (apply ops_1;(focus (simp (disch:=(try simp only [sPu]);omega) ;try rfl))));refine oNi (SC.wp_cond (t:=false) (by simp (disch:=(try simp only [sPu]);omega)) ?_);rw [if_neg (by simp)])
      refine SC.wp_seq (SC.wp_reg ?_)
      repeat (apply ops_1;(focus (simp (disch:=(try simp only [sPu]);omega) ;try rfl)))
      refine oNi (SC.wp_cond (t:=false) (by simp (disch:=(try simp only [sPu]);omega)) ?_)
      rw [if_neg (by simp)]
      refine SC.wp_skip ?_
      simp only [Exit.then,Exit.inBlock]
      exact nums _ 1 (by simp [sPu,hs]) (by simp [dPu,hd]) (by simp (disch:=(try simp only [sPu]);omega)) (by simp (disch:=(try simp only [sPu]);omega) [h0]) (by decide) (by simp only [wTy,wPrim];rfl)
    | i16 =>
      simp only [kindOf] at h0 ⊢
      iterate 4 (refine SC.wp_seq (SC.wp_reg ?_);(repeat (apply ops_1;(focus (simp (disch:=(try simp only [sPu]);omega) ;try rfl))));refine oNi (SC.wp_cond (t:=false) (by simp (disch:=(try simp only [sPu]);omega)) ?_);rw [if_neg (by simp)])
      refine SC.wp_seq (SC.wp_reg ?_)
      repeat (apply ops_1;(focus (simp (disch:=(try simp only [sPu]);omega) ;try rfl)))
      refine oNi (SC.wp_cond (t:=false) (by simp (disch:=(try simp only [sPu]);omega)) ?_)
      rw [if_neg (by simp)]
      refine SC.wp_skip ?_
      simp only [Exit.then,Exit.inBlock]
      exact nums _ 2 (by simp [sPu,hs]) (by simp [dPu,hd]) (by simp (disch:=(try simp only [sPu]);omega)) (by simp (disch:=(try simp only [sPu]);omega) [h0]) (by decide) (by simp only [wTy,wPrim];rfl)
    | i32 =>
      simp only [kindOf] at h0 ⊢
      iterate 4 (refine SC.wp_seq (SC.wp_reg ?_);(repeat (apply ops_1;(focus (simp (disch:=(try simp only [sPu]);omega) ;try rfl))));refine oNi (SC.wp_cond (t:=false) (by simp (disch:=(try simp only [sPu]);omega)) ?_);rw [if_neg (by simp)])
      refine SC.wp_seq (SC.wp_reg ?_)
      repeat (apply ops_1;(focus (simp (disch:=(try simp only [sPu]);omega) ;try rfl)))
      refine oNi (SC.wp_cond (t:=false) (by simp (disch:=(try simp only [sPu]);omega)) ?_)
      rw [if_neg (by simp)]
      refine SC.wp_skip ?_
      simp only [Exit.then,Exit.inBlock]
      exact nums _ 3 (by simp [sPu,hs]) (by simp [dPu,hd]) (by simp (disch:=(try simp only [sPu]);omega)) (by simp (disch:=(try simp only [sPu]);omega) [h0]) (by decide) (by simp only [wTy,wPrim];rfl)
    | i64 =>
      simp only [kindOf] at h0 ⊢
      iterate 4 (refine SC.wp_seq (SC.wp_reg ?_);(repeat (apply ops_1;(focus (simp (disch:=(try simp only [sPu]);omega) ;try rfl))));refine oNi (SC.wp_cond (t:=false) (by simp (disch:=(try simp only [sPu]);omega)) ?_);rw [if_neg (by simp)])
      refine SC.wp_seq (SC.wp_reg ?_)
      repeat (apply ops_1;(focus (simp (disch:=(try simp only [sPu]);omega) ;try rfl)))
      refine oNi (SC.wp_cond (t:=false) (by simp (disch:=(try simp only [sPu]);omega)) ?_)
      rw [if_neg (by simp)]
      refine SC.wp_skip ?_
      simp only [Exit.then,Exit.inBlock]
      exact nums _ 4 (by simp [sPu,hs]) (by simp [dPu,hd]) (by simp (disch:=(try simp only [sPu]);omega)) (by simp (disch:=(try simp only [sPu]);omega) [h0]) (by decide) (by simp only [wTy,wPrim];rfl)
    | u16 =>
      simp only [kindOf] at h0 ⊢
      iterate 4 (refine SC.wp_seq (SC.wp_reg ?_);(repeat (apply ops_1;(focus (simp (disch:=(try simp only [sPu]);omega) ;try rfl))));refine oNi (SC.wp_cond (t:=false) (by simp (disch:=(try simp only [sPu]);omega)) ?_);rw [if_neg (by simp)])
      refine SC.wp_seq (SC.wp_reg ?_)
      repeat (apply ops_1;(focus (simp (disch:=(try simp only [sPu]);omega) ;try rfl)))
      refine oNi (SC.wp_cond (t:=false) (by simp (disch:=(try simp only [sPu]);omega)) ?_)
      rw [if_neg (by simp)]
      refine SC.wp_skip ?_
      simp only [Exit.then,Exit.inBlock]
      exact nums _ 5 (by simp [sPu,hs]) (by simp [dPu,hd]) (by simp (disch:=(try simp only [sPu]);omega)) (by simp (disch:=(try simp only [sPu]);omega) [h0]) (by decide) (by simp only [wTy,wPrim];rfl)
    | bool =>
      simp only [kindOf] at h0 ⊢
      (refine SC.wp_seq (SC.wp_reg ?_);(repeat (apply ops_1;(focus (simp (disch:=(try simp only [sPu]);omega) ;try rfl))));refine oNi (SC.wp_cond (t:=true) (by simp (disch:=(try simp only [sPu]);omega)) ?_);rw [if_pos rfl])
      refine SC.wp_seq (SC.wp_reg ?_)
      iterate 2 (apply ops_1;(focus (simp (disch:=(try simp only [sPu]);omega) [hst,hc];try rfl)))
      refine oNo rfl (opw_andOne (m:=n) (by simp (disch:=(try simp only [sPu]);omega)) ?_)
      have e2:(n % 2) % 256=n % 2:=by omega
      iterate 1 (apply ops_1;(focus (simp (disch:=(try simp only [sPu]);omega) [hst,wrap_u8,e2];try rfl)))
      refine ops_u8lit (B:=w.heap.size) (bs:=[T.byteOf (n % 2)]) hU8s rfl (by decide) (by decide) ?_ hsz1 ?_
      · simp only [cellsOf,List.map_cons,List.map_nil]
        rw [byteOf_cell,e2]
        simp (disch:=(try simp only [sPu]);omega) [List.range']
      intro v w2 r1 r2
      repeat (apply ops_1;(focus (simp (disch:=(try simp only [sPu]);omega) ;try rfl)))
      refine oNi (SC.wp_ret ?_)
      simp only [Exit.then,Exit.inBlock]
      exact fin _ _ _ v (by simp [dPu,hd]) (by simp (disch:=(try simp only [sPu]);omega)) r1 (q2.trans r2) (by simp [wTy,wPrim,Tree.n])
    | uuid =>
      simp only [kindOf] at h0 ⊢
      iterate 1 (refine SC.wp_seq (SC.wp_reg ?_);(repeat (apply ops_1;(focus (simp (disch:=(try simp only [sPu]);omega) ;try rfl))));refine oNi (SC.wp_cond (t:=false) (by simp (disch:=(try simp only [sPu]);omega)) ?_);rw [if_neg (by simp)])
      (refine SC.wp_seq (SC.wp_reg ?_);(repeat (apply ops_1;(focus (simp (disch:=(try simp only [sPu]);omega) ;try rfl))));refine oNi (SC.wp_cond (t:=true) (by simp (disch:=(try simp only [sPu]);omega)) ?_);rw [if_pos rfl])
      refine SC.wp_seq (SC.wp_reg ?_)
      refine oNo rfl (opw_mkU8s (n:=16) hU8s rfl rfl (by decide) fun w2 hw2=>?_)
      repeat (apply ops_1;(focus (simp (disch:=(try simp only [sPu]);omega) ;try rfl)))
      refine oNi (SC.wp_seq (SC.wp_reg ?_))
      have hnew:w2.heap[w1.heap.size]?=some (.cells (madeCells #[.int .u8 0] (16 * 1)) X.U8 (0,0)):=by rw [hw2];exact heap_alloc_new w1 _
      have hb2:Below w.heap.size w w2:=by rw [hw2];exact q2.alloc hsz1 _
      have hold:∀ k,k < w1.heap.size→w2.heap[k]?=w1.heap[k]?:=fun k hk=>by rw [hw2];exact Below.heap_alloc w1 _ k hk
      have hc2:∀ j,w2.cell? ⟨w.heap.size,j,none⟩=#[Value.int .i64 n,.slice sb s.length sc,.bool tnull,.slice lb l.length lc,.slice ub u.length uc][j]?:=fun j=>by
        rw [World.cell?_of_block (a:=⟨w.heap.size,j,none⟩) (hold w.heap.size (by omega))];exact hc j
      clear hw2
      iterate 3 (apply ops_1;(focus (simp (disch:=(try simp only [sPu]);omega) [hst,hc2];try rfl)))
      have hB2:BytesAt w2 (· < w1.heap.size) sb s:=bytesAt_mono hBs (fun _ h=>h) hold
      obtain ⟨hu8,i8,hi8,hz8,hs8,hby8⟩:=u8s_of hU8s
      have hsize8:(P.info? X.U8).map (·.size)=some 1:=by rw [hi8];simp [hs8]
      have hmade:(madeCells #[Value.int .u8 0] (16 * 1)).toList=List.replicate 16 (Value.int .u8 0):=by simp [madeCells,List.range,List.range.loop,Array.range,List.replicate]
      have hcopy:∃ (k:Int) (w3:World),(∀ ty,(Builtin.copy_ #[X.Bs,X.Bs] ty #[.slice (some ⟨w1.heap.size,0,none⟩) 16 16,.slice sb s.length sc]).run P w2=.ok (.int .i64 k) w3)∧Below w.heap.size w w3∧Own X.U8 w3 w.heap.size (.slice (some ⟨w1.heap.size,0,none⟩) 16 16) (uuidOf (.mk n s tnull l u)):=by
        have own:∀ (w3:World) (cells:List Value),w3.heap[w1.heap.size]?=some (.cells cells.toArray X.U8 (0,0))→cells=cellsOf (uuidOf (.mk n s tnull l u))→Own X.U8 w3 w.heap.size (.slice (some ⟨w1.heap.size,0,none⟩) 16 16) (uuidOf (.mk n s tnull l u)):=by
          intro w3 cells p1 p2
          subst p2
          have hlen:=uuidOf_length (.mk n s tnull l u)
          refine ⟨by rw [cLen,hlen],.inr ⟨w1.heap.size,16,_,by rw [hlen],hsz1,p1,by rw [hlen];exact Nat.le_refl _,by decide,by simp [cLen,hlen],?_⟩⟩
          rw [hlen]
          simp
          rw [List.take_of_length_le (by rw [cLen,hlen];exact Nat.le_refl _)]
        by_cases hmin:min s.length 16=0
        · have hs0:s=[]:=List.eq_nil_of_length_eq_zero (by omega)
          refine ⟨0,w2,fun ty=>?_,hb2,own w2 (List.replicate 16 (Value.int .u8 0)) (by rw [hnew,← hmade]) ?_⟩
          · exact run_copy_none w2 X.Bs X.Bs ty X.U8 _ _ 16 16 s.length sc hu8 hsize8 hmin
          · subst hs0
            simp [uuidOf,Tree.s,cellsOf,cell]
        · rcases hB2 with e | ⟨sb',so',rfl,_,hcells⟩
          · subst e;simp at hmin
          · have hcl:(cellsOf (s.take 16)).length=min s.length 16:=by rw [cLen,List.length_take];omega
            have hone:∀ v ∈ cellsOf (s.take 16),v.oneCell'=true:=by
              intro v hv
              simp only [cellsOf,List.mem_map] at hv
              obtain ⟨c,_,rfl⟩:=hv
              rfl
            have hrow:=setCells_row P (w:=w2) (g:=w1.heap.size) (o:=0) (vs:=cellsOf (s.take 16)) hnew (by rw [hcl];simp [madeCells];omega) hone
            refine ⟨(cellsOf (s.take 16)).length,w2.setCells w1.heap.size 0 (cellsOf (s.take 16)),fun ty=>?_,?_,?_⟩
            · refine run_copy_cells w2 X.Bs X.Bs ty X.U8 w1.heap.size 0 16 16 ⟨sb',so',none⟩ s.length sc _ hu8 hsize8 hcl ?_ ?_ ?_ hone
              · intro j v hj
                rw [add_none]
                refine cells_cell (bs:=s) hcells j v ?_
                simp only [cellsOf,List.getElem?_map] at hj ⊢
                rw [List.getElem?_take] at hj
                split at hj
                · exact hj
                · simp at hj
              · intro j hj
                rw [cell_of_row _ _ _ _ _ _ hnew,Array.getElem?_eq_getElem (by rw [hcl] at hj;simp [madeCells];omega)]
                rfl
              · intro j hj
                simp [World.frozen?,hnew]
            · rw [hrow]
              exact below_setRow hb2 (by omega) _
            · rw [hrow]
              refine own _ _ (setRow_heap w2 _ _ _ _ _ hnew) ?_
              rw [hmade,hcl]
              simp only [List.take_zero,List.nil_append,Nat.zero_add]
              unfold uuidOf
              simp only [Tree.s]
              rw [List.take_append,cellsOf_append]
              congr 1
              simp only [List.drop_replicate,List.take_replicate,cellsOf,List.map_replicate]
              congr 1
              omega
      obtain ⟨k,w3,hrun,hb3,ho3⟩:=hcopy
      refine oNo rfl (opw_of fun o next Q hdd ho hnn=>?_)
      have hop:=stripOp_eq (by simp) ho
      have hr':∀ av:Operand→Value,av (.tmp 27)=.slice (some ⟨w1.heap.size,0,none⟩) 16 16→av (.tmp 29)=.slice sb s.length sc→(execOp av o).run P w2=.ok (.value (.int .i64 k)) w3:=by
        intro av e1 e2
        simp [execOp,hop,resolve,invoke,builtin,e1,e2,hrun]
      rw [hr' _ (by simp (disch:=(try simp only [sPu]);omega)) (by simp (disch:=(try simp only [sPu]);omega)),Oper.upon_value,hdd]
      refine hnn _ _ (oNi ?_)
      simp only [Exit.then]
      refine SC.wp_seq (SC.wp_reg ?_)
      repeat (apply ops_1;(focus (simp (disch:=(try simp only [sPu]);omega) ;try rfl)))
      refine oNi (SC.wp_ret ?_)
      simp only [Exit.then,Exit.inBlock]
      exact fin _ _ _ _ (by simp [dPu,hd]) (by simp (disch:=(try simp only [sPu]);omega)) ho3 hb3 (by simp [wTy,wPrim,uuidOf,Tree.s])
    | str =>
      simp only [kindOf] at h0 ⊢
      iterate 2 (refine SC.wp_seq (SC.wp_reg ?_);(repeat (apply ops_1;(focus (simp (disch:=(try simp only [sPu]);omega) ;try rfl))));refine oNi (SC.wp_cond (t:=false) (by simp (disch:=(try simp only [sPu]);omega)) ?_);rw [if_neg (by simp)])
      (refine SC.wp_seq (SC.wp_reg ?_);(repeat (apply ops_1;(focus (simp (disch:=(try simp only [sPu]);omega) ;try rfl))));refine oNi (SC.wp_cond (t:=true) (by simp (disch:=(try simp only [sPu]);omega)) ?_);rw [if_pos rfl])
      refine SC.wp_seq (SC.wp_reg ?_)
      iterate 2 (apply ops_1;(focus (simp (disch:=(try simp only [sPu]);omega) [hst,hc];try rfl)))
      refine ops_call S.oW (S.cW w1 sb s.length sc hsc) (by simp (disch:=(try simp only [sPu]);omega)) ?_
      rintro e w2 ⟨rfl,rfl⟩
      refine ⟨_,rfl,?_⟩
      repeat (apply ops_1;(focus (simp (disch:=(try simp only [sPu]);omega) ;try rfl)))
      refine oNi (SC.wp_seq (SC.wp_seq (SC.wp_reg ?_)))
      repeat (apply ops_1;(focus (simp (disch:=(try simp only [sPu]);omega) [h2];try rfl)))
      refine oNi (SC.wp_cond (t:=null) (by simp (disch:=(try simp only [sPu]);omega)) ?_)
      have ew:(whole s).length=min s.length most:=by simp [whole,Nat.min_comm]
      cases null
      · rw [if_neg (by simp)]
        refine SC.wp_skip ?_
        simp only [Exit.then]
        refine text_tail hX S 14 38 2 (by decide) (by decide) (by decide) (by simp only [sPu];omega) (whole s) sb sc flex false (by simp (disch:=(try simp only [sPu]);omega) [h4]) (by simp (disch:=(try simp only [sPu]);omega) [h2]) (by simp (disch:=(try simp only [sPu]);omega) [ew]) (bytesAt_whole hBs most) q2 hsz1 (by simpa [wTy,wPrim,Tree.s] using hl) ?_
        intro a' w' v p1 p2 p3 p4
        simp only [Exit.inBlock]
        exact fin _ _ _ v (by rw [p1];simp [dPu,hd]) p2 p3 p4 (by simp [wTy,wPrim,Tree.s])
      · rw [if_pos rfl]
        refine SC.wp_reg ?_
        repeat (apply ops_1;(focus (simp (disch:=(try simp only [sPu]);omega) ;try rfl)))
        refine oNi ?_
        simp only [Exit.then]
        refine text_tail hX S 14 38 2 (by decide) (by decide) (by decide) (by simp only [sPu];omega) [] none 0 flex true (by simp (disch:=(try simp only [sPu]);omega) [h4]) (by simp (disch:=(try simp only [sPu]);omega) [h2]) (by simp (disch:=(try simp only [sPu]);omega)) (.inl rfl) q2 hsz1 (by simpa [wTy,wPrim,Tree.s] using hl) ?_
        intro a' w' v p1 p2 p3 p4
        simp only [Exit.inBlock]
        exact fin _ _ _ v (by rw [p1];simp [dPu,hd]) p2 p3 p4 (by simp [wTy,wPrim,Tree.s])
    | bytes =>
      simp only [kindOf] at h0 ⊢
      iterate 3 (refine SC.wp_seq (SC.wp_reg ?_);(repeat (apply ops_1;(focus (simp (disch:=(try simp only [sPu]);omega) ;try rfl))));refine oNi (SC.wp_cond (t:=false) (by simp (disch:=(try simp only [sPu]);omega)) ?_);rw [if_neg (by simp)])
      (refine SC.wp_seq (SC.wp_reg ?_);(repeat (apply ops_1;(focus (simp (disch:=(try simp only [sPu]);omega) ;try rfl))));refine oNi (SC.wp_cond (t:=true) (by simp (disch:=(try simp only [sPu]);omega)) ?_);rw [if_pos rfl])
      refine SC.wp_seq (SC.wp_reg ?_)
      iterate 2 (apply ops_1;(focus (simp (disch:=(try simp only [sPu]);omega) [hst,hc];try rfl)))
      refine ops_call S.oW (S.cW w1 sb s.length sc hsc) (by simp (disch:=(try simp only [sPu]);omega)) ?_
      rintro e w2 ⟨rfl,rfl⟩
      refine ⟨_,rfl,?_⟩
      repeat (apply ops_1;(focus (simp (disch:=(try simp only [sPu]);omega) ;try rfl)))
      refine oNi (SC.wp_seq (SC.wp_seq (SC.wp_reg ?_)))
      repeat (apply ops_1;(focus (simp (disch:=(try simp only [sPu]);omega) [h2];try rfl)))
      refine oNi (SC.wp_cond (t:=null) (by simp (disch:=(try simp only [sPu]);omega)) ?_)
      have ew:(whole s).length=min s.length most:=by simp [whole,Nat.min_comm]
      cases null
      · rw [if_neg (by simp)]
        refine SC.wp_skip ?_
        simp only [Exit.then]
        refine text_tail hX S 15 51 4 (by decide) (by decide) (by decide) (by simp only [sPu];omega) (whole s) sb sc flex false (by simp (disch:=(try simp only [sPu]);omega) [h4]) (by simp (disch:=(try simp only [sPu]);omega) [h2]) (by simp (disch:=(try simp only [sPu]);omega) [ew]) (bytesAt_whole hBs most) q2 hsz1 (by simpa [wTy,wPrim,Tree.s] using hl) ?_
        intro a' w' v p1 p2 p3 p4
        simp only [Exit.inBlock]
        exact fin _ _ _ v (by rw [p1];simp [dPu,hd]) p2 p3 p4 (by simp [wTy,wPrim,Tree.s])
      · rw [if_pos rfl]
        refine SC.wp_reg ?_
        repeat (apply ops_1;(focus (simp (disch:=(try simp only [sPu]);omega) ;try rfl)))
        refine oNi ?_
        simp only [Exit.then]
        refine text_tail hX S 15 51 4 (by decide) (by decide) (by decide) (by simp only [sPu];omega) [] none 0 flex true (by simp (disch:=(try simp only [sPu]);omega) [h4]) (by simp (disch:=(try simp only [sPu]);omega) [h2]) (by simp (disch:=(try simp only [sPu]);omega)) (.inl rfl) q2 hsz1 (by simpa [wTy,wPrim,Tree.s] using hl) ?_
        intro a' w' v p1 p2 p3 p4
        simp only [Exit.inBlock]
        exact fin _ _ _ v (by rw [p1];simp [dPu,hd]) p2 p3 p4 (by simp [wTy,wPrim,Tree.s])
end
end Go.Proofs.YtecdefhecaeclaaDoor.K
