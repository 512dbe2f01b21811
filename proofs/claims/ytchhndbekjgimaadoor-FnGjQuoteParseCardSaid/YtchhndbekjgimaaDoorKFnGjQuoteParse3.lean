/- The words, walks and laws that the proof rests on, laid together (part 3). -/
import Derived.Test.YtchhndbekjgimaaDoorKFnGjQuoteParse2
section
namespace Go.Proofs.YtchhndbekjgimaaDoor.H
open Go.RowKit Go.Proofs.YtchhndbekjgimaaDoorW.PrintWords Go.Proofs.YtchhndbekjgimaaDoorW.PrintLast Go.Proofs.YtchhndbekjgimaaDoorW.PrintMore
attribute [local go_sem] max2_int min2_int max_two min_two max_three min_three max_four min_four
set_option linter.unusedVariables false
set_option linter.unusedSimpArgs false
def j1l.l0 : Nat → ByteArray→Int→Option (Bool)
  | 0,_,_=>none
  | k+1,x0,x3=>if x3<(x0.size:Int) then (if 0≤x3 then (if 97≤(bt x0 x3) then (if (bt x0 x3)≤122 then (j1l.l0 k x0 (wrap64 (x3+1))) else (if 65≤(bt x0 x3) then (if (bt x0 x3)≤90 then (j1l.l0 k x0 (wrap64 (x3+1))) else (if 48≤(bt x0 x3) then (if (bt x0 x3)≤57 then (j1l.l0 k x0 (wrap64 (x3+1))) else (if ((bt x0 x3)=95) then (j1l.l0 k x0 (wrap64 (x3+1))) else (some false))) else (if ((bt x0 x3)=95) then (j1l.l0 k x0 (wrap64 (x3+1))) else (some false)))) else (if 48≤(bt x0 x3) then (if (bt x0 x3)≤57 then (j1l.l0 k x0 (wrap64 (x3+1))) else (if ((bt x0 x3)=95) then (j1l.l0 k x0 (wrap64 (x3+1))) else (some false))) else (if ((bt x0 x3)=95) then (j1l.l0 k x0 (wrap64 (x3+1))) else (some false))))) else (if 65≤(bt x0 x3) then (if (bt x0 x3)≤90 then (j1l.l0 k x0 (wrap64 (x3+1))) else (if 48≤(bt x0 x3) then (if (bt x0 x3)≤57 then (j1l.l0 k x0 (wrap64 (x3+1))) else (if ((bt x0 x3)=95) then (j1l.l0 k x0 (wrap64 (x3+1))) else (some false))) else (if ((bt x0 x3)=95) then (j1l.l0 k x0 (wrap64 (x3+1))) else (some false)))) else (if 48≤(bt x0 x3) then (if (bt x0 x3)≤57 then (j1l.l0 k x0 (wrap64 (x3+1))) else (if ((bt x0 x3)=95) then (j1l.l0 k x0 (wrap64 (x3+1))) else (some false))) else (if ((bt x0 x3)=95) then (j1l.l0 k x0 (wrap64 (x3+1))) else (some false))))) else (none)) else (some (x0.toList != ([]:List UInt8)))
def j1l.f (k : Nat) (a0:ByteArray):Option (Bool):=j1l.l0 k a0 0
theorem j1l.mono_l : ∀ k,(∀ y0 y1,LeO (j1l.l0 k y0 y1) (j1l.l0 (k+1) y0 y1))
 | 0=>fun _ _ r h=>by simp [j1l.l0] at h
 | k+1=>by
  have ih0:=j1l.mono_l k
  ·intro y0 y1;unfold j1l.l0
   exact zm
theorem j1l.mono : ∀ a0 k,LeO (j1l.f k a0) (j1l.f (k+1) a0):=by
 intro a0 k;have ih0:=j1l.mono_l k;unfold j1l.f
 exact zm
set_option maxHeartbeats 8000000 in
set_option maxRecDepth 100000 in
theorem j1l.calls (k : Nat) (a0:ByteArray) (r:Bool) (w:World) (h:j1l.f k a0=some r) :
 Calls Tryd.prog 7 #[.string a0] w fun e w'=>e = .returned (.bool r)∧Drawn0 w w':=by
 have H:(j1l.l0 k a0 0)=some r:=h;clear h;have H':=mk0 H;clear H;go_enter Tryd.func7,Tryd.ntmps7;go_wp2;go_loopg [3] k (fun kq v3 w'=>∃ (x3_1:Int),v3 = .int .i64 x3_1∧Aside0 (j1l.l0 kq a0 x3_1=some r)∧Aside0 (kq≤k)∧Drawn0 w w')
 case atStart=>exact ⟨(0),zq6,H',⟨Nat.le_refl _⟩,by repeat (first|exact Drawn0.refl _|apply Drawn0.step)⟩
 case round =>
  clear H';obtain ⟨x3_1,rfl,HA,HK1,⟨m1,rfl⟩⟩:=hrel;cases gk with
  | zero=>exact absurd HA.out (by simp [j1l.l0])
  | succ k1 =>
   have H:=HA.out;clear HA;simp only [j1l.l0] at H;by_cases c2:x3_1<(a0.size:Int)
   rotate_left
   ·rw [if_neg c2] at H;have c2b0:decide (x3_1<(a0.size:Int))=false:=decide_eq_false c2;clear c2;obtain rfl:=Option.some.inj H;go_wp2;go_ret;exact ⟨by first|rfl|(generalize a0.toList=z;cases z<;>rfl)|(simp;done)|(simp [*];done),by repeat (first|exact Drawn0.refl _|apply Drawn0.step)⟩
   rw [if_pos c2] at H;have c2b0:decide (x3_1<(a0.size:Int))=true:=decide_eq_true c2;clear c2;by_cases c3:0≤x3_1
   rotate_left
   ·rw [if_neg c3] at H;exact absurd H (by simp)
   rw [if_pos c3] at H;have c3b0:decide (0≤x3_1)=true:=decide_eq_true c3;clear c3;by_cases c5:97≤(bt a0 x3_1)
   rotate_left
   ·rw [if_neg c5] at H;have c5b0:decide (97≤(bt a0 x3_1))=false:=decide_eq_false c5;clear c5;by_cases c17:65≤(bt a0 x3_1)
    rotate_left
    ·rw [if_neg c17] at H;have c17b0:decide (65≤(bt a0 x3_1))=false:=decide_eq_false c17;clear c17;by_cases c23:48≤(bt a0 x3_1)
     rotate_left
     ·rw [if_neg c23] at H;have c23b0:decide (48≤(bt a0 x3_1))=false:=decide_eq_false c23;clear c23;by_cases c26:((bt a0 x3_1)=95)
      rotate_left
      ·rw [if_neg c26] at H;have c26b0:((bt a0 x3_1) == 95)=false:=beq_eq_false_iff_ne.mpr c26;have c26b1:((bt a0 x3_1) != 95)=true:=bne_iff_ne.mpr c26;obtain rfl:=Option.some.inj H;have p4:0≤(x3_1:Int):=of_decide_eq_true zq1;have q4:x3_1<(a0.size:Int):=of_decide_eq_true zq1;have hx4:=bt_at a0 x3_1;replace p4:=eq_true p4;replace q4:=eq_true q4;go_wp2;go_ret;exact ⟨by first|rfl|(simp;done)|(simp [*];done),by repeat (first|exact Drawn0.refl _|apply Drawn0.step)⟩
      rw [if_pos c26] at H;have c26b0:((bt a0 x3_1) == 95)=true:=beq_iff_eq.mpr c26;have c26b1:((bt a0 x3_1) != 95)=false:=bne_eq_false_iff_eq.mpr c26;clear c26;have H':=mk0 H;clear H;have p4:0≤(x3_1:Int):=of_decide_eq_true zq1;have q4:x3_1<(a0.size:Int):=of_decide_eq_true zq1;have hx4:=bt_at a0 x3_1;replace p4:=eq_true p4;replace q4:=eq_true q4;go_wp2;go_roundg k1
      case measure=>have:=HK1.out;omega
      case rel=>exact ⟨(wrap64 (x3_1+1)),zq6,H',⟨by have:=HK1.out;omega⟩,by repeat (first|exact Drawn0.refl _|apply Drawn0.step)⟩
     rw [if_pos c23] at H;have c23b0:decide (48≤(bt a0 x3_1))=true:=decide_eq_true c23;clear c23;by_cases c24:(bt a0 x3_1)≤57
     ·rw [if_pos c24] at H;have c24b0:decide ((bt a0 x3_1)≤57)=true:=decide_eq_true c24;clear c24;have H':=mk0 H;clear H;have p4:0≤(x3_1:Int):=of_decide_eq_true zq1;have q4:x3_1<(a0.size:Int):=of_decide_eq_true zq1;have hx4:=bt_at a0 x3_1;replace p4:=eq_true p4;replace q4:=eq_true q4;go_wp2;go_roundg k1
      case measure=>have:=HK1.out;omega
      case rel=>exact ⟨(wrap64 (x3_1+1)),zq6,H',⟨by have:=HK1.out;omega⟩,by repeat (first|exact Drawn0.refl _|apply Drawn0.step)⟩
     rw [if_neg c24] at H;have c24b0:decide ((bt a0 x3_1)≤57)=false:=decide_eq_false c24;clear c24;by_cases c25:((bt a0 x3_1)=95)
     rotate_left
     ·rw [if_neg c25] at H;have c25b0:((bt a0 x3_1) == 95)=false:=beq_eq_false_iff_ne.mpr c25;have c25b1:((bt a0 x3_1) != 95)=true:=bne_iff_ne.mpr c25;obtain rfl:=Option.some.inj H;have p4:0≤(x3_1:Int):=of_decide_eq_true zq1;have q4:x3_1<(a0.size:Int):=of_decide_eq_true zq1;have hx4:=bt_at a0 x3_1;replace p4:=eq_true p4;replace q4:=eq_true q4;go_wp2;go_ret;exact ⟨by first|rfl|(simp;done)|(simp [*];done),by repeat (first|exact Drawn0.refl _|apply Drawn0.step)⟩
     rw [if_pos c25] at H;have c25b0:((bt a0 x3_1) == 95)=true:=beq_iff_eq.mpr c25;have c25b1:((bt a0 x3_1) != 95)=false:=bne_eq_false_iff_eq.mpr c25;clear c25;have H':=mk0 H;clear H;have p4:0≤(x3_1:Int):=of_decide_eq_true zq1;have q4:x3_1<(a0.size:Int):=of_decide_eq_true zq1;have hx4:=bt_at a0 x3_1;replace p4:=eq_true p4;replace q4:=eq_true q4;go_wp2;go_roundg k1
     case measure=>have:=HK1.out;omega
     case rel=>exact ⟨(wrap64 (x3_1+1)),zq6,H',⟨by have:=HK1.out;omega⟩,by repeat (first|exact Drawn0.refl _|apply Drawn0.step)⟩
    rw [if_pos c17] at H;have c17b0:decide (65≤(bt a0 x3_1))=true:=decide_eq_true c17;clear c17;by_cases c18:(bt a0 x3_1)≤90
    ·rw [if_pos c18] at H;have c18b0:decide ((bt a0 x3_1)≤90)=true:=decide_eq_true c18;clear c18;have H':=mk0 H;clear H;have p4:0≤(x3_1:Int):=of_decide_eq_true zq1;have q4:x3_1<(a0.size:Int):=of_decide_eq_true zq1;have hx4:=bt_at a0 x3_1;replace p4:=eq_true p4;replace q4:=eq_true q4;go_wp2;go_roundg k1
     case measure=>have:=HK1.out;omega
     case rel=>exact ⟨(wrap64 (x3_1+1)),zq6,H',⟨by have:=HK1.out;omega⟩,by repeat (first|exact Drawn0.refl _|apply Drawn0.step)⟩
    rw [if_neg c18] at H;have c18b0:decide ((bt a0 x3_1)≤90)=false:=decide_eq_false c18;clear c18;by_cases c19:48≤(bt a0 x3_1)
    rotate_left
    ·rw [if_neg c19] at H;have c19b0:decide (48≤(bt a0 x3_1))=false:=decide_eq_false c19;clear c19;by_cases c22:((bt a0 x3_1)=95)
     rotate_left
     ·rw [if_neg c22] at H;have c22b0:((bt a0 x3_1) == 95)=false:=beq_eq_false_iff_ne.mpr c22;have c22b1:((bt a0 x3_1) != 95)=true:=bne_iff_ne.mpr c22;obtain rfl:=Option.some.inj H;have p4:0≤(x3_1:Int):=of_decide_eq_true zq1;have q4:x3_1<(a0.size:Int):=of_decide_eq_true zq1;have hx4:=bt_at a0 x3_1;replace p4:=eq_true p4;replace q4:=eq_true q4;go_wp2;go_ret;exact ⟨by first|rfl|(simp;done)|(simp [*];done),by repeat (first|exact Drawn0.refl _|apply Drawn0.step)⟩
     rw [if_pos c22] at H;have c22b0:((bt a0 x3_1) == 95)=true:=beq_iff_eq.mpr c22;have c22b1:((bt a0 x3_1) != 95)=false:=bne_eq_false_iff_eq.mpr c22;clear c22;have H':=mk0 H;clear H;have p4:0≤(x3_1:Int):=of_decide_eq_true zq1;have q4:x3_1<(a0.size:Int):=of_decide_eq_true zq1;have hx4:=bt_at a0 x3_1;replace p4:=eq_true p4;replace q4:=eq_true q4;go_wp2;go_roundg k1
     case measure=>have:=HK1.out;omega
     case rel=>exact ⟨(wrap64 (x3_1+1)),zq6,H',⟨by have:=HK1.out;omega⟩,by repeat (first|exact Drawn0.refl _|apply Drawn0.step)⟩
    rw [if_pos c19] at H;have c19b0:decide (48≤(bt a0 x3_1))=true:=decide_eq_true c19;clear c19;by_cases c20:(bt a0 x3_1)≤57
    ·rw [if_pos c20] at H;have c20b0:decide ((bt a0 x3_1)≤57)=true:=decide_eq_true c20;clear c20;have H':=mk0 H;clear H;have p4:0≤(x3_1:Int):=of_decide_eq_true zq1;have q4:x3_1<(a0.size:Int):=of_decide_eq_true zq1;have hx4:=bt_at a0 x3_1;replace p4:=eq_true p4;replace q4:=eq_true q4;go_wp2;go_roundg k1
     case measure=>have:=HK1.out;omega
     case rel=>exact ⟨(wrap64 (x3_1+1)),zq6,H',⟨by have:=HK1.out;omega⟩,by repeat (first|exact Drawn0.refl _|apply Drawn0.step)⟩
    rw [if_neg c20] at H;have c20b0:decide ((bt a0 x3_1)≤57)=false:=decide_eq_false c20;clear c20;by_cases c21:((bt a0 x3_1)=95)
    rotate_left
    ·rw [if_neg c21] at H;have c21b0:((bt a0 x3_1) == 95)=false:=beq_eq_false_iff_ne.mpr c21;have c21b1:((bt a0 x3_1) != 95)=true:=bne_iff_ne.mpr c21;obtain rfl:=Option.some.inj H;have p4:0≤(x3_1:Int):=of_decide_eq_true zq1;have q4:x3_1<(a0.size:Int):=of_decide_eq_true zq1;have hx4:=bt_at a0 x3_1;replace p4:=eq_true p4;replace q4:=eq_true q4;go_wp2;go_ret;exact ⟨by first|rfl|(simp;done)|(simp [*];done),by repeat (first|exact Drawn0.refl _|apply Drawn0.step)⟩
    rw [if_pos c21] at H;have c21b0:((bt a0 x3_1) == 95)=true:=beq_iff_eq.mpr c21;have c21b1:((bt a0 x3_1) != 95)=false:=bne_eq_false_iff_eq.mpr c21;clear c21;have H':=mk0 H;clear H;have p4:0≤(x3_1:Int):=of_decide_eq_true zq1;have q4:x3_1<(a0.size:Int):=of_decide_eq_true zq1;have hx4:=bt_at a0 x3_1;replace p4:=eq_true p4;replace q4:=eq_true q4;go_wp2;go_roundg k1
    case measure=>have:=HK1.out;omega
    case rel=>exact ⟨(wrap64 (x3_1+1)),zq6,H',⟨by have:=HK1.out;omega⟩,by repeat (first|exact Drawn0.refl _|apply Drawn0.step)⟩
   rw [if_pos c5] at H;have c5b0:decide (97≤(bt a0 x3_1))=true:=decide_eq_true c5;clear c5;by_cases c6:(bt a0 x3_1)≤122
   ·rw [if_pos c6] at H;have c6b0:decide ((bt a0 x3_1)≤122)=true:=decide_eq_true c6;clear c6;have H':=mk0 H;clear H;have p4:0≤(x3_1:Int):=of_decide_eq_true zq1;have q4:x3_1<(a0.size:Int):=of_decide_eq_true zq1;have hx4:=bt_at a0 x3_1;replace p4:=eq_true p4;replace q4:=eq_true q4;go_wp2;go_roundg k1
    case measure=>have:=HK1.out;omega
    case rel=>exact ⟨(wrap64 (x3_1+1)),zq6,H',⟨by have:=HK1.out;omega⟩,by repeat (first|exact Drawn0.refl _|apply Drawn0.step)⟩
   rw [if_neg c6] at H;have c6b0:decide ((bt a0 x3_1)≤122)=false:=decide_eq_false c6;clear c6;by_cases c7:65≤(bt a0 x3_1)
   rotate_left
   ·rw [if_neg c7] at H;have c7b0:decide (65≤(bt a0 x3_1))=false:=decide_eq_false c7;clear c7;by_cases c13:48≤(bt a0 x3_1)
    rotate_left
    ·rw [if_neg c13] at H;have c13b0:decide (48≤(bt a0 x3_1))=false:=decide_eq_false c13;clear c13;by_cases c16:((bt a0 x3_1)=95)
     rotate_left
     ·rw [if_neg c16] at H;have c16b0:((bt a0 x3_1) == 95)=false:=beq_eq_false_iff_ne.mpr c16;have c16b1:((bt a0 x3_1) != 95)=true:=bne_iff_ne.mpr c16;obtain rfl:=Option.some.inj H;have p4:0≤(x3_1:Int):=of_decide_eq_true zq1;have q4:x3_1<(a0.size:Int):=of_decide_eq_true zq1;have hx4:=bt_at a0 x3_1;replace p4:=eq_true p4;replace q4:=eq_true q4;go_wp2;go_ret;exact ⟨by first|rfl|(simp;done)|(simp [*];done),by repeat (first|exact Drawn0.refl _|apply Drawn0.step)⟩
     rw [if_pos c16] at H;have c16b0:((bt a0 x3_1) == 95)=true:=beq_iff_eq.mpr c16;have c16b1:((bt a0 x3_1) != 95)=false:=bne_eq_false_iff_eq.mpr c16;clear c16;have H':=mk0 H;clear H;have p4:0≤(x3_1:Int):=of_decide_eq_true zq1;have q4:x3_1<(a0.size:Int):=of_decide_eq_true zq1;have hx4:=bt_at a0 x3_1;replace p4:=eq_true p4;replace q4:=eq_true q4;go_wp2;go_roundg k1
     case measure=>have:=HK1.out;omega
     case rel=>exact ⟨(wrap64 (x3_1+1)),zq6,H',⟨by have:=HK1.out;omega⟩,by repeat (first|exact Drawn0.refl _|apply Drawn0.step)⟩
    rw [if_pos c13] at H;have c13b0:decide (48≤(bt a0 x3_1))=true:=decide_eq_true c13;clear c13;by_cases c14:(bt a0 x3_1)≤57
    ·rw [if_pos c14] at H;have c14b0:decide ((bt a0 x3_1)≤57)=true:=decide_eq_true c14;clear c14;have H':=mk0 H;clear H;have p4:0≤(x3_1:Int):=of_decide_eq_true zq1;have q4:x3_1<(a0.size:Int):=of_decide_eq_true zq1;have hx4:=bt_at a0 x3_1;replace p4:=eq_true p4;replace q4:=eq_true q4;go_wp2;go_roundg k1
     case measure=>have:=HK1.out;omega
     case rel=>exact ⟨(wrap64 (x3_1+1)),zq6,H',⟨by have:=HK1.out;omega⟩,by repeat (first|exact Drawn0.refl _|apply Drawn0.step)⟩
    rw [if_neg c14] at H;have c14b0:decide ((bt a0 x3_1)≤57)=false:=decide_eq_false c14;clear c14;by_cases c15:((bt a0 x3_1)=95)
    rotate_left
    ·rw [if_neg c15] at H;have c15b0:((bt a0 x3_1) == 95)=false:=beq_eq_false_iff_ne.mpr c15;have c15b1:((bt a0 x3_1) != 95)=true:=bne_iff_ne.mpr c15;obtain rfl:=Option.some.inj H;have p4:0≤(x3_1:Int):=of_decide_eq_true zq1;have q4:x3_1<(a0.size:Int):=of_decide_eq_true zq1;have hx4:=bt_at a0 x3_1;replace p4:=eq_true p4;replace q4:=eq_true q4;go_wp2;go_ret;exact ⟨by first|rfl|(simp;done)|(simp [*];done),by repeat (first|exact Drawn0.refl _|apply Drawn0.step)⟩
    rw [if_pos c15] at H;have c15b0:((bt a0 x3_1) == 95)=true:=beq_iff_eq.mpr c15;have c15b1:((bt a0 x3_1) != 95)=false:=bne_eq_false_iff_eq.mpr c15;clear c15;have H':=mk0 H;clear H;have p4:0≤(x3_1:Int):=of_decide_eq_true zq1;have q4:x3_1<(a0.size:Int):=of_decide_eq_true zq1;have hx4:=bt_at a0 x3_1;replace p4:=eq_true p4;replace q4:=eq_true q4;go_wp2;go_roundg k1
    case measure=>have:=HK1.out;omega
    case rel=>exact ⟨(wrap64 (x3_1+1)),zq6,H',⟨by have:=HK1.out;omega⟩,by repeat (first|exact Drawn0.refl _|apply Drawn0.step)⟩
   rw [if_pos c7] at H;have c7b0:decide (65≤(bt a0 x3_1))=true:=decide_eq_true c7;clear c7;by_cases c8:(bt a0 x3_1)≤90
   ·rw [if_pos c8] at H;have c8b0:decide ((bt a0 x3_1)≤90)=true:=decide_eq_true c8;clear c8;have H':=mk0 H;clear H;have p4:0≤(x3_1:Int):=of_decide_eq_true zq1;have q4:x3_1<(a0.size:Int):=of_decide_eq_true zq1;have hx4:=bt_at a0 x3_1;replace p4:=eq_true p4;replace q4:=eq_true q4;go_wp2;go_roundg k1
    case measure=>have:=HK1.out;omega
    case rel=>exact ⟨(wrap64 (x3_1+1)),zq6,H',⟨by have:=HK1.out;omega⟩,by repeat (first|exact Drawn0.refl _|apply Drawn0.step)⟩
   rw [if_neg c8] at H;have c8b0:decide ((bt a0 x3_1)≤90)=false:=decide_eq_false c8;clear c8;by_cases c9:48≤(bt a0 x3_1)
   rotate_left
   ·rw [if_neg c9] at H;have c9b0:decide (48≤(bt a0 x3_1))=false:=decide_eq_false c9;clear c9;by_cases c12:((bt a0 x3_1)=95)
    rotate_left
    ·rw [if_neg c12] at H;have c12b0:((bt a0 x3_1) == 95)=false:=beq_eq_false_iff_ne.mpr c12;have c12b1:((bt a0 x3_1) != 95)=true:=bne_iff_ne.mpr c12;obtain rfl:=Option.some.inj H;have p4:0≤(x3_1:Int):=of_decide_eq_true zq1;have q4:x3_1<(a0.size:Int):=of_decide_eq_true zq1;have hx4:=bt_at a0 x3_1;replace p4:=eq_true p4;replace q4:=eq_true q4;go_wp2;go_ret;exact ⟨by first|rfl|(simp;done)|(simp [*];done),by repeat (first|exact Drawn0.refl _|apply Drawn0.step)⟩
    rw [if_pos c12] at H;have c12b0:((bt a0 x3_1) == 95)=true:=beq_iff_eq.mpr c12;have c12b1:((bt a0 x3_1) != 95)=false:=bne_eq_false_iff_eq.mpr c12;clear c12;have H':=mk0 H;clear H;have p4:0≤(x3_1:Int):=of_decide_eq_true zq1;have q4:x3_1<(a0.size:Int):=of_decide_eq_true zq1;have hx4:=bt_at a0 x3_1;replace p4:=eq_true p4;replace q4:=eq_true q4;go_wp2;go_roundg k1
    case measure=>have:=HK1.out;omega
    case rel=>exact ⟨(wrap64 (x3_1+1)),zq6,H',⟨by have:=HK1.out;omega⟩,by repeat (first|exact Drawn0.refl _|apply Drawn0.step)⟩
   rw [if_pos c9] at H;have c9b0:decide (48≤(bt a0 x3_1))=true:=decide_eq_true c9;clear c9;by_cases c10:(bt a0 x3_1)≤57
   ·rw [if_pos c10] at H;have c10b0:decide ((bt a0 x3_1)≤57)=true:=decide_eq_true c10;clear c10;have H':=mk0 H;clear H;have p4:0≤(x3_1:Int):=of_decide_eq_true zq1;have q4:x3_1<(a0.size:Int):=of_decide_eq_true zq1;have hx4:=bt_at a0 x3_1;replace p4:=eq_true p4;replace q4:=eq_true q4;go_wp2;go_roundg k1
    case measure=>have:=HK1.out;omega
    case rel=>exact ⟨(wrap64 (x3_1+1)),zq6,H',⟨by have:=HK1.out;omega⟩,by repeat (first|exact Drawn0.refl _|apply Drawn0.step)⟩
   rw [if_neg c10] at H;have c10b0:decide ((bt a0 x3_1)≤57)=false:=decide_eq_false c10;clear c10;by_cases c11:((bt a0 x3_1)=95)
   rotate_left
   ·rw [if_neg c11] at H;have c11b0:((bt a0 x3_1) == 95)=false:=beq_eq_false_iff_ne.mpr c11;have c11b1:((bt a0 x3_1) != 95)=true:=bne_iff_ne.mpr c11;obtain rfl:=Option.some.inj H;have p4:0≤(x3_1:Int):=of_decide_eq_true zq1;have q4:x3_1<(a0.size:Int):=of_decide_eq_true zq1;have hx4:=bt_at a0 x3_1;replace p4:=eq_true p4;replace q4:=eq_true q4;go_wp2;go_ret;exact ⟨by first|rfl|(simp;done)|(simp [*];done),by repeat (first|exact Drawn0.refl _|apply Drawn0.step)⟩
   rw [if_pos c11] at H;have c11b0:((bt a0 x3_1) == 95)=true:=beq_iff_eq.mpr c11;have c11b1:((bt a0 x3_1) != 95)=false:=bne_eq_false_iff_eq.mpr c11;clear c11;have H':=mk0 H;clear H;have p4:0≤(x3_1:Int):=of_decide_eq_true zq1;have q4:x3_1<(a0.size:Int):=of_decide_eq_true zq1;have hx4:=bt_at a0 x3_1;replace p4:=eq_true p4;replace q4:=eq_true q4;go_wp2;go_roundg k1
   case measure=>have:=HK1.out;omega
   case rel=>exact ⟨(wrap64 (x3_1+1)),zq6,H',⟨by have:=HK1.out;omega⟩,by repeat (first|exact Drawn0.refl _|apply Drawn0.step)⟩
theorem run_store_float3 (P : Program) (w:World) (a:Addr) (m:Mode) (k:FloatKind) (b:Nat):(store a (.float k b) m).run P w=stored P w a (.float k b) m:=run_store P w a _ m rfl
attribute [local go_sem] run_store_float3
mutual
def laws_FnGjQuoteParse.j0 : Nat → ByteArray→Bool→Option (Bool)
  | 0,_,_=>none
  | k+1,x0,x16=>if x16=true then (some true) else ((j2c.f k x0).bind fun t102=>((j2a.f k t102).bind fun bt103=>(if bt103.2.2.2.2=true then (if bt103.1=3 then (if bt103.2.2.1.toList=x0.toList then (laws_FnGjQuoteParse.j1 k x0 t102 (bt103.2.1.toList != t102.toList)) else (laws_FnGjQuoteParse.j1 k x0 t102 true)) else (laws_FnGjQuoteParse.j1 k x0 t102 true)) else (laws_FnGjQuoteParse.j1 k x0 t102 true))))
def laws_FnGjQuoteParse.j1 : Nat → ByteArray→ByteArray→Bool→Option (Bool)
  | 0,_,_,_=>none
  | k+1,x0,x3,x40=>if x40=true then (some false) else (laws_FnGjQuoteParse.l0 k x0 x3 0)
def laws_FnGjQuoteParse.l0 : Nat → ByteArray→ByteArray→Int→Option (Bool)
  | 0,_,_,_=>none
  | k+1,x0,x3,x5=>if x5<(x0.size:Int) then (if 0≤x5 then (if (bt x0 x5)=32 then (laws_FnGjQuoteParse.l0 k x0 x3 (wrap64 (x5+1))) else (if x5≤(wrap64 (x5+1)) then (if (wrap64 (x5+1))≤(x0.size:Int) then ((j1l.f k (x0.extract (x5:Int).toNat ((wrap64 (x5+1)):Int).toNat)).bind fun t109=>(if t109=true then (laws_FnGjQuoteParse.l0 k x0 x3 (wrap64 (x5+1))) else (some true))) else (none)) else (none))) else (none)) else (if 1+x0.size≤9223372036854775807 then (if ((⟨#[34]⟩:ByteArray)++x0).size+1≤9223372036854775807 then (some (x3.toList == (((⟨#[34]⟩:ByteArray)++x0)++(⟨#[34]⟩:ByteArray)).toList)) else (none)) else (none))
end
def laws_FnGjQuoteParse.f (k : Nat) (a0:ByteArray):Option (Bool):=if (a0.size:Int)>2147483647 then (some true) else (if (a0.size:Int)>4096 then (laws_FnGjQuoteParse.j0 k a0 true) else ((j1v.f k a0).bind fun t101=>(laws_FnGjQuoteParse.j0 k a0 (!t101))))
theorem laws_FnGjQuoteParse.mono_l : ∀ k,(∀ y0 y1,LeO (laws_FnGjQuoteParse.j0 k y0 y1) (laws_FnGjQuoteParse.j0 (k+1) y0 y1))∧(∀ y0 y1 y2,LeO (laws_FnGjQuoteParse.j1 k y0 y1 y2) (laws_FnGjQuoteParse.j1 (k+1) y0 y1 y2))∧(∀ y0 y1 y2,LeO (laws_FnGjQuoteParse.l0 k y0 y1 y2) (laws_FnGjQuoteParse.l0 (k+1) y0 y1 y2))
 | 0=>⟨fun _ _ r h=>by simp [laws_FnGjQuoteParse.j0] at h,fun _ _ _ r h=>by simp [laws_FnGjQuoteParse.j1] at h,fun _ _ _ r h=>by simp [laws_FnGjQuoteParse.l0] at h⟩
 | k+1=>by
  obtain ⟨ih0,ih1,ih2⟩:=laws_FnGjQuoteParse.mono_l k;refine ⟨?_,?_,?_⟩
  ·intro y0 y1;unfold laws_FnGjQuoteParse.j0
   exact zm
  ·intro y0 y1 y2;unfold laws_FnGjQuoteParse.j1
   exact zm
  ·intro y0 y1 y2;unfold laws_FnGjQuoteParse.l0
   exact zm
theorem laws_FnGjQuoteParse.mono : ∀ a0 k,LeO (laws_FnGjQuoteParse.f k a0) (laws_FnGjQuoteParse.f (k+1) a0):=by
 intro a0 k;obtain ⟨ih0,ih1,ih2⟩:=laws_FnGjQuoteParse.mono_l k;unfold laws_FnGjQuoteParse.f
 exact zm
set_option maxHeartbeats 8000000 in
set_option maxRecDepth 100000 in
theorem laws_FnGjQuoteParse.calls (k : Nat) (a0:ByteArray) (r:Bool) (w:World) (hG:Laid w) (h:laws_FnGjQuoteParse.f k a0=some r) :
 Calls Tryd.prog 3 #[.string a0] w fun e w'=>e = .returned (.bool r)∧Below w.heap.size w w':=by
 have HG:=mk0 hG;clear hG;have hu26:=Tryd.underlying26;have HB:=mk0 (Below.refl w.heap.size w);have H:(if (a0.size:Int)>2147483647 then (some true) else (if (a0.size:Int)>4096 then (laws_FnGjQuoteParse.j0 k a0 true) else ((j1v.f k a0).bind fun t101=>(laws_FnGjQuoteParse.j0 k a0 (!t101)))))=some r:=h;clear h;by_cases c2:(a0.size:Int)>2147483647
 ·rw [if_pos c2] at H;have c2b0:decide (2147483647<(a0.size:Int))=true:=decide_eq_true c2;have c2b1:decide (2147483647<a0.size)=true:=decide_eq_true (by omega);clear c2;obtain rfl:=Option.some.inj H;go_enter Tryd.func3,Tryd.ntmps3;go_wp2;go_ret;exact ⟨by first|rfl|(simp [j1t,j1s]<;>rfl)|(simp [*, j1t,j1s]<;>rfl),by repeat (first|(with_reducible first|exact HB.out|apply j1i|apply j1d|apply j1h)|exact HB.out)⟩
 rw [if_neg c2] at H;have c2b0:decide (2147483647<(a0.size:Int))=false:=decide_eq_false c2;have c2b1:decide (2147483647<a0.size)=false:=decide_eq_false (by omega);clear c2;have HC3:=mk0 H;clear H;go_enter Tryd.func3,Tryd.ntmps3;go_upto_region 3 with (fail)
 go_cut [16] (fun v16 wc=>∃ (kq:Nat) (x16_2:Bool),v16 = .bool x16_2∧Aside0 (laws_FnGjQuoteParse.j0 kq a0 x16_2=some r)∧Aside0 (kq≤k)∧Aside0 (Below w.heap.size w wc))
 case first =>
  have H:=HC3.out;clear HC3;by_cases c4:(a0.size:Int)>4096
  ·rw [if_pos c4] at H;have c4b0:decide (4096<(a0.size:Int))=true:=decide_eq_true c4;have c4b1:decide (4096<a0.size)=true:=decide_eq_true (by omega);clear c4;(first|rw [c4b0]|(simp only [i64_w,i32_w];rw [c4b0])|rw [c4b1]|rw [if_pos (of_decide_eq_true c4b1)]|skip);have H':=mk0 H;clear H;go_wp2;go_meet
   case rel=>exact ⟨_,(true),zq6,H',⟨by first|omega|exact Nat.le_refl _⟩,⟨by repeat (first|(with_reducible first|exact HB.out|apply j1i|apply j1d|apply j1h)|exact HB.out)⟩⟩
  rw [if_neg c4] at H;have c4b0:decide (4096<(a0.size:Int))=false:=decide_eq_false c4;have c4b1:decide (4096<a0.size)=false:=decide_eq_false (by omega);clear c4;(first|rw [c4b0]|(simp only [i64_w,i32_w];rw [c4b0])|rw [c4b1]|rw [if_neg (of_decide_eq_false c4b1)]|skip);replace H:=Option.bind_eq_some_iff.mp H;obtain ⟨t101,A50,H⟩:=H;replace H:(laws_FnGjQuoteParse.j0 k a0 (!t101))=some r:=H;have A5:=mk0 A50;clear A50;have H':=mk0 H;clear H;go_wp2_with (first|(go_at_call 4;(with_reducible refine (j1v.calls k a0 t101 _ A5.out).mono ?_);rintro e w' ⟨rfl,⟨nd,rfl⟩⟩))
  go_meet
  case rel=>exact ⟨_,(!t101),zq6,H',⟨by first|omega|exact Nat.le_refl _⟩,⟨by repeat (first|(with_reducible first|exact HB.out|apply j1i|apply j1d|apply j1h)|exact HB.out)⟩⟩
 case rest =>
  clear HC3
  try clear c2
  try clear c2b0
  try clear c2b1
  try clear p2
  try clear c3
  try clear c4
  try clear c4b0
  try clear c4b1
  obtain ⟨kq,x16_2,rfl,HA,HJ2,HB⟩:=hcut;cases kq with
  | zero=>exact absurd HA.out (by simp [laws_FnGjQuoteParse.j0])
  | succ kj2 =>
   have H:=HA.out;clear HA;simp only [laws_FnGjQuoteParse.j0] at H;by_cases c6:x16_2=true
   ·subst c6;have H1:(some true)=some r:=by rw [if_pos rfl] at H;exact H
    clear H;have H:=H1;clear H1;obtain rfl:=Option.some.inj H;go_wp2;go_ret;exact zl2
   replace c6:=Bool.eq_false_iff.mpr c6;subst c6;have H1:((j2c.f kj2 a0).bind fun t102=>((j2a.f kj2 t102).bind fun bt103=>(if bt103.2.2.2.2=true then (if bt103.1=3 then (if bt103.2.2.1.toList=a0.toList then (laws_FnGjQuoteParse.j1 kj2 a0 t102 (bt103.2.1.toList != t102.toList)) else (laws_FnGjQuoteParse.j1 kj2 a0 t102 true)) else (laws_FnGjQuoteParse.j1 kj2 a0 t102 true)) else (laws_FnGjQuoteParse.j1 kj2 a0 t102 true))))=some r:=by rw [if_neg (show ¬ (false=true) by decide)] at H;exact H
   clear H;have H:=H1;clear H1;replace H:=Option.bind_eq_some_iff.mp H;obtain ⟨t102,A70,H⟩:=H;replace H:((j2a.f kj2 t102).bind fun bt103=>(if bt103.2.2.2.2=true then (if bt103.1=3 then (if bt103.2.2.1.toList=a0.toList then (laws_FnGjQuoteParse.j1 kj2 a0 t102 (bt103.2.1.toList != t102.toList)) else (laws_FnGjQuoteParse.j1 kj2 a0 t102 true)) else (laws_FnGjQuoteParse.j1 kj2 a0 t102 true)) else (laws_FnGjQuoteParse.j1 kj2 a0 t102 true)))=some r:=H;have A7:=mk0 A70;clear A70;replace H:=Option.bind_eq_some_iff.mp H;obtain ⟨⟨t103,t104,t105,t106,t107⟩,A80,H⟩:=H;replace H:(if t107=true then (if t103=3 then (if t105.toList=a0.toList then (laws_FnGjQuoteParse.j1 kj2 a0 t102 (t104.toList != t102.toList)) else (laws_FnGjQuoteParse.j1 kj2 a0 t102 true)) else (laws_FnGjQuoteParse.j1 kj2 a0 t102 true)) else (laws_FnGjQuoteParse.j1 kj2 a0 t102 true))=some r:=H;have A8:=mk0 A80;clear A80;have HC9:=mk0 H;clear H;go_upto_region 7 with (first|((with_reducible refine j1z (f:=5) rfl ?_);refine j2l (some 18) rfl rfl Tryd.func5 zq12 rfl #[.string a0] rfl zq3 ?_;(with_reducible refine (j2c.calls kj2 a0 t102 _ ?side1 A7.out).mono ?_);(case side1=>exact zq11);rintro e w10 ⟨rfl,hb⟩;refine ⟨_,rfl,?_⟩;have n0_:=mk0 (j1r zq0 hb);clear HB;have HB:=n0_;clear n0_;(try clear hb);(try clear hb2);(try clear hk);(try clear hi))|((with_reducible refine j1z (f:=6) rfl ?_);refine j2l (some 20) rfl rfl Tryd.func6 zq12 rfl #[.string t102] rfl zq3 ?_;(with_reducible refine (j2a.calls kj2 t102 t103 t104 t105 t106 t107 _ ?side1 A8.out).mono ?_);(case side1=>exact zq11);rintro e w11 ⟨rfl,hb⟩;refine ⟨_,rfl,?_⟩;have n0_:=mk0 (j1r zq0 hb);clear HB;have HB:=n0_;clear n0_;(try clear hb);(try clear hb2);(try clear hk);(try clear hi))|((with_reducible refine j2j (N:=4) rfl ?_);refine box_event ?hg (N:=4) ?hd (cs:=#[.int .i64 0, .string (⟨#[]⟩:ByteArray), .string (⟨#[]⟩:ByteArray), .float .f64 0, .bool false]) (t:=26) ?hr ?_;(case hd=>rfl);(case hg=>rfl);(case hr=>exact zq18);intro gb108 hg w12 hbox hb;have n0_:=mk0 (j1r zq0 hb);have n1_:=mk0 (hbox);have n2_:=mk0 ((zq21:w.heap.size≤gb108));have n3_:=mk0 ((zq21:w.heap.size≤gb108));clear HB;have HB:=n0_;have BK108:=n1_;have GW108:=n2_;have GE108:=n3_;clear n0_ n1_ n2_ n3_;clear hb hbox hg;have hcz13_0:w12.cell? ⟨gb108,0,none⟩=some (.int .i64 0):=(j1g BK108.out 0).trans rfl;have hcz13_1:w12.cell? ⟨gb108,1,none⟩=some (.string (⟨#[]⟩:ByteArray)):=(j1g BK108.out 1).trans rfl;have hcz13_2:w12.cell? ⟨gb108,2,none⟩=some (.string (⟨#[]⟩:ByteArray)):=(j1g BK108.out 2).trans rfl;have hcz13_3:w12.cell? ⟨gb108,3,none⟩=some (.float .f64 0):=(j1g BK108.out 3).trans rfl;have hcz13_4:w12.cell? ⟨gb108,4,none⟩=some (.bool false):=(j1g BK108.out 4).trans rfl;have hfz13_0:=j1e BK108.out 0;have hfz13_1:=j1e BK108.out 1;have hfz13_2:=j1e BK108.out 2;have hfz13_3:=j1e BK108.out 3;have hfz13_4:=j1e BK108.out 4))
   (try simp only [Act.put,List.setIfInBounds_toArray,List.set_cons_zero,List.set_cons_succ]);go_cut [40] (fun v40 wc=>∃ (kq:Nat) (x40_8:Bool),v40 = .bool x40_8∧Aside0 (laws_FnGjQuoteParse.j1 kq a0 t102 x40_8=some r)∧Aside0 (kq≤kj2)∧Aside0 (wc.heap[gb108]? = some (.cells #[.int .i64 t103, .string t104, .string t105, .float .f64 t106, .bool t107] 26 (0,0)))∧Aside0 (Below w.heap.size w wc))
   case first =>
    have H:=HC9.out;clear HC9;by_cases c14:t107=true
    rotate_left
    ·replace c14:=Bool.eq_false_iff.mpr c14;subst c14;have H1:(laws_FnGjQuoteParse.j1 kj2 a0 t102 true)=some r:=by rw [if_neg (show ¬ (false=true) by decide)] at H;exact H
     clear H;have H:=H1;clear H1;have H':=mk0 H;clear H;have hcz20_0:w12.cell? ⟨gb108,0,none⟩=some (.int .i64 0):=(j1g BK108.out 0).trans rfl;have hcz20_1:w12.cell? ⟨gb108,1,none⟩=some (.string (⟨#[]⟩:ByteArray)):=(j1g BK108.out 1).trans rfl;have hcz20_2:w12.cell? ⟨gb108,2,none⟩=some (.string (⟨#[]⟩:ByteArray)):=(j1g BK108.out 2).trans rfl;have hcz20_3:w12.cell? ⟨gb108,3,none⟩=some (.float .f64 0):=(j1g BK108.out 3).trans rfl;have hcz20_4:w12.cell? ⟨gb108,4,none⟩=some (.bool false):=(j1g BK108.out 4).trans rfl;have hfz20_0:=j1e BK108.out 0;have hfz20_1:=j1e BK108.out 1;have hfz20_2:=j1e BK108.out 2;have hfz20_3:=j1e BK108.out 3;have hfz20_4:=j1e BK108.out 4;go_wp2;go_meet
     case rel=>exact ⟨_,(true),zq6,H',⟨by have:=HJ2.out;first|omega|exact Nat.le_refl _⟩,⟨by (with_reducible repeat (first|refine j1j ?_ _|refine j1n ?_|refine j1k ?_ _));refine j1x (cs:=#[.int .i64 t103, .string t104, .string t105, .float .f64 t106, .bool false]) ?_ 4 _ rfl;(with_reducible repeat (first|refine j1j ?_ _|refine j1n ?_|refine j1k ?_ _));refine j1x (cs:=#[.int .i64 t103, .string t104, .string t105, .float .f64 0, .bool false]) ?_ 3 _ rfl;(with_reducible repeat (first|refine j1j ?_ _|refine j1n ?_|refine j1k ?_ _));refine j1x (cs:=#[.int .i64 t103, .string t104, .string (⟨#[]⟩:ByteArray), .float .f64 0, .bool false]) ?_ 2 _ rfl;(with_reducible repeat (first|refine j1j ?_ _|refine j1n ?_|refine j1k ?_ _));refine j1x (cs:=#[.int .i64 t103, .string (⟨#[]⟩:ByteArray), .string (⟨#[]⟩:ByteArray), .float .f64 0, .bool false]) ?_ 1 _ rfl;(with_reducible repeat (first|refine j1j ?_ _|refine j1n ?_|refine j1k ?_ _));refine j1x (cs:=#[.int .i64 0, .string (⟨#[]⟩:ByteArray), .string (⟨#[]⟩:ByteArray), .float .f64 0, .bool false]) ?_ 0 _ rfl;(with_reducible repeat (first|refine j1j ?_ _|refine j1n ?_|refine j1k ?_ _));exact BK108.out⟩,⟨by repeat (first|(with_reducible first|exact HB.out|apply j1i|apply j1d|apply j1h|refine j2e ?_ GE108.out)|exact HB.out)⟩⟩
    subst c14;have H1:(if t103=3 then (if t105.toList=a0.toList then (laws_FnGjQuoteParse.j1 kj2 a0 t102 (t104.toList != t102.toList)) else (laws_FnGjQuoteParse.j1 kj2 a0 t102 true)) else (laws_FnGjQuoteParse.j1 kj2 a0 t102 true))=some r:=by rw [if_pos rfl] at H;exact H
    clear H;have H:=H1;clear H1;by_cases c15:t103=3
    rotate_left
    ·rw [if_neg c15] at H;have c15b0:(t103 == 3)=false:=beq_eq_false_iff_ne.mpr c15;have c15b1:(t103 != 3)=true:=bne_iff_ne.mpr c15;(first|rw [c15b0]|(simp only [i64_w,i32_w];rw [c15b0])|skip);have H':=mk0 H;clear H;have hcz19_0:w12.cell? ⟨gb108,0,none⟩=some (.int .i64 0):=(j1g BK108.out 0).trans rfl;have hcz19_1:w12.cell? ⟨gb108,1,none⟩=some (.string (⟨#[]⟩:ByteArray)):=(j1g BK108.out 1).trans rfl;have hcz19_2:w12.cell? ⟨gb108,2,none⟩=some (.string (⟨#[]⟩:ByteArray)):=(j1g BK108.out 2).trans rfl;have hcz19_3:w12.cell? ⟨gb108,3,none⟩=some (.float .f64 0):=(j1g BK108.out 3).trans rfl;have hcz19_4:w12.cell? ⟨gb108,4,none⟩=some (.bool false):=(j1g BK108.out 4).trans rfl;have hfz19_0:=j1e BK108.out 0;have hfz19_1:=j1e BK108.out 1;have hfz19_2:=j1e BK108.out 2;have hfz19_3:=j1e BK108.out 3;have hfz19_4:=j1e BK108.out 4;go_wp2;go_meet
     case rel=>exact ⟨_,(true),zq6,H',⟨by have:=HJ2.out;first|omega|exact Nat.le_refl _⟩,⟨by (with_reducible repeat (first|refine j1j ?_ _|refine j1n ?_|refine j1k ?_ _));refine j1x (cs:=#[.int .i64 t103, .string t104, .string t105, .float .f64 t106, .bool false]) ?_ 4 _ rfl;(with_reducible repeat (first|refine j1j ?_ _|refine j1n ?_|refine j1k ?_ _));refine j1x (cs:=#[.int .i64 t103, .string t104, .string t105, .float .f64 0, .bool false]) ?_ 3 _ rfl;(with_reducible repeat (first|refine j1j ?_ _|refine j1n ?_|refine j1k ?_ _));refine j1x (cs:=#[.int .i64 t103, .string t104, .string (⟨#[]⟩:ByteArray), .float .f64 0, .bool false]) ?_ 2 _ rfl;(with_reducible repeat (first|refine j1j ?_ _|refine j1n ?_|refine j1k ?_ _));refine j1x (cs:=#[.int .i64 t103, .string (⟨#[]⟩:ByteArray), .string (⟨#[]⟩:ByteArray), .float .f64 0, .bool false]) ?_ 1 _ rfl;(with_reducible repeat (first|refine j1j ?_ _|refine j1n ?_|refine j1k ?_ _));refine j1x (cs:=#[.int .i64 0, .string (⟨#[]⟩:ByteArray), .string (⟨#[]⟩:ByteArray), .float .f64 0, .bool false]) ?_ 0 _ rfl;(with_reducible repeat (first|refine j1j ?_ _|refine j1n ?_|refine j1k ?_ _));exact BK108.out⟩,⟨by repeat (first|(with_reducible first|exact HB.out|apply j1i|apply j1d|apply j1h|refine j2e ?_ GE108.out)|exact HB.out)⟩⟩
    rw [if_pos c15] at H;have c15b0:(t103 == 3)=true:=beq_iff_eq.mpr c15;have c15b1:(t103 != 3)=false:=bne_eq_false_iff_eq.mpr c15;clear c15;(first|rw [c15b0]|(simp only [i64_w,i32_w];rw [c15b0])|skip);by_cases c16:t105.toList=a0.toList
    rotate_left
    ·rw [if_neg c16] at H;have c16b0:(t105.toList == a0.toList)=false:=beq_eq_false_iff_ne.mpr c16;have c16b1:(t105.toList != a0.toList)=true:=bne_iff_ne.mpr c16;have H':=mk0 H;clear H;have hcz18_0:w12.cell? ⟨gb108,0,none⟩=some (.int .i64 0):=(j1g BK108.out 0).trans rfl;have hcz18_1:w12.cell? ⟨gb108,1,none⟩=some (.string (⟨#[]⟩:ByteArray)):=(j1g BK108.out 1).trans rfl;have hcz18_2:w12.cell? ⟨gb108,2,none⟩=some (.string (⟨#[]⟩:ByteArray)):=(j1g BK108.out 2).trans rfl;have hcz18_3:w12.cell? ⟨gb108,3,none⟩=some (.float .f64 0):=(j1g BK108.out 3).trans rfl;have hcz18_4:w12.cell? ⟨gb108,4,none⟩=some (.bool false):=(j1g BK108.out 4).trans rfl;have hfz18_0:=j1e BK108.out 0;have hfz18_1:=j1e BK108.out 1;have hfz18_2:=j1e BK108.out 2;have hfz18_3:=j1e BK108.out 3;have hfz18_4:=j1e BK108.out 4;go_wp2;go_meet
     case rel=>exact ⟨_,(true),zq6,H',⟨by have:=HJ2.out;first|omega|exact Nat.le_refl _⟩,⟨by (with_reducible repeat (first|refine j1j ?_ _|refine j1n ?_|refine j1k ?_ _));refine j1x (cs:=#[.int .i64 t103, .string t104, .string t105, .float .f64 t106, .bool false]) ?_ 4 _ rfl;(with_reducible repeat (first|refine j1j ?_ _|refine j1n ?_|refine j1k ?_ _));refine j1x (cs:=#[.int .i64 t103, .string t104, .string t105, .float .f64 0, .bool false]) ?_ 3 _ rfl;(with_reducible repeat (first|refine j1j ?_ _|refine j1n ?_|refine j1k ?_ _));refine j1x (cs:=#[.int .i64 t103, .string t104, .string (⟨#[]⟩:ByteArray), .float .f64 0, .bool false]) ?_ 2 _ rfl;(with_reducible repeat (first|refine j1j ?_ _|refine j1n ?_|refine j1k ?_ _));refine j1x (cs:=#[.int .i64 t103, .string (⟨#[]⟩:ByteArray), .string (⟨#[]⟩:ByteArray), .float .f64 0, .bool false]) ?_ 1 _ rfl;(with_reducible repeat (first|refine j1j ?_ _|refine j1n ?_|refine j1k ?_ _));refine j1x (cs:=#[.int .i64 0, .string (⟨#[]⟩:ByteArray), .string (⟨#[]⟩:ByteArray), .float .f64 0, .bool false]) ?_ 0 _ rfl;(with_reducible repeat (first|refine j1j ?_ _|refine j1n ?_|refine j1k ?_ _));exact BK108.out⟩,⟨by repeat (first|(with_reducible first|exact HB.out|apply j1i|apply j1d|apply j1h|refine j2e ?_ GE108.out)|exact HB.out)⟩⟩
    rw [if_pos c16] at H;have c16b0:(t105.toList == a0.toList)=true:=beq_iff_eq.mpr c16;have c16b1:(t105.toList != a0.toList)=false:=bne_eq_false_iff_eq.mpr c16;clear c16;have H':=mk0 H;clear H;have hcz17_0:w12.cell? ⟨gb108,0,none⟩=some (.int .i64 0):=(j1g BK108.out 0).trans rfl;have hcz17_1:w12.cell? ⟨gb108,1,none⟩=some (.string (⟨#[]⟩:ByteArray)):=(j1g BK108.out 1).trans rfl;have hcz17_2:w12.cell? ⟨gb108,2,none⟩=some (.string (⟨#[]⟩:ByteArray)):=(j1g BK108.out 2).trans rfl;have hcz17_3:w12.cell? ⟨gb108,3,none⟩=some (.float .f64 0):=(j1g BK108.out 3).trans rfl;have hcz17_4:w12.cell? ⟨gb108,4,none⟩=some (.bool false):=(j1g BK108.out 4).trans rfl;have hfz17_0:=j1e BK108.out 0;have hfz17_1:=j1e BK108.out 1;have hfz17_2:=j1e BK108.out 2;have hfz17_3:=j1e BK108.out 3;have hfz17_4:=j1e BK108.out 4;go_wp2;go_meet
    case rel=>exact ⟨_,((t104.toList != t102.toList)),zq6,H',⟨by have:=HJ2.out;first|omega|exact Nat.le_refl _⟩,⟨by (with_reducible repeat (first|refine j1j ?_ _|refine j1n ?_|refine j1k ?_ _));refine j1x (cs:=#[.int .i64 t103, .string t104, .string t105, .float .f64 t106, .bool false]) ?_ 4 _ rfl;(with_reducible repeat (first|refine j1j ?_ _|refine j1n ?_|refine j1k ?_ _));refine j1x (cs:=#[.int .i64 t103, .string t104, .string t105, .float .f64 0, .bool false]) ?_ 3 _ rfl;(with_reducible repeat (first|refine j1j ?_ _|refine j1n ?_|refine j1k ?_ _));refine j1x (cs:=#[.int .i64 t103, .string t104, .string (⟨#[]⟩:ByteArray), .float .f64 0, .bool false]) ?_ 2 _ rfl;(with_reducible repeat (first|refine j1j ?_ _|refine j1n ?_|refine j1k ?_ _));refine j1x (cs:=#[.int .i64 t103, .string (⟨#[]⟩:ByteArray), .string (⟨#[]⟩:ByteArray), .float .f64 0, .bool false]) ?_ 1 _ rfl;(with_reducible repeat (first|refine j1j ?_ _|refine j1n ?_|refine j1k ?_ _));refine j1x (cs:=#[.int .i64 0, .string (⟨#[]⟩:ByteArray), .string (⟨#[]⟩:ByteArray), .float .f64 0, .bool false]) ?_ 0 _ rfl;(with_reducible repeat (first|refine j1j ?_ _|refine j1n ?_|refine j1k ?_ _));exact BK108.out⟩,⟨by repeat (first|(with_reducible first|exact HB.out|apply j1i|apply j1d|apply j1h|refine j2e ?_ GE108.out)|exact HB.out)⟩⟩
   case rest =>
    clear HC9
    try clear c1
    try clear c2
    try clear c2b0
    try clear c2b1
    try clear p2
    try clear c3
    try clear c4
    try clear c4b0
    try clear c4b1
    try clear c5
    try clear c6
    try clear c14
    try clear c15
    try clear c15b0
    try clear c15b1
    try clear c16
    try clear c16b0
    try clear c16b1
    try clear hcz13_0
    try clear hcz13_1
    try clear hcz13_2
    try clear hcz13_3
    try clear hcz13_4
    try clear hcz17_0
    try clear hcz17_1
    try clear hcz17_2
    try clear hcz17_3
    try clear hcz17_4
    try clear hcz18_0
    try clear hcz18_1
    try clear hcz18_2
    try clear hcz18_3
    try clear hcz18_4
    try clear hcz19_0
    try clear hcz19_1
    try clear hcz19_2
    try clear hcz19_3
    try clear hcz19_4
    try clear hcz20_0
    try clear hcz20_1
    try clear hcz20_2
    try clear hcz20_3
    try clear hcz20_4
    try clear hfz13_0
    try clear hfz13_1
    try clear hfz13_2
    try clear hfz13_3
    try clear hfz13_4
    try clear hfz17_0
    try clear hfz17_1
    try clear hfz17_2
    try clear hfz17_3
    try clear hfz17_4
    try clear hfz18_0
    try clear hfz18_1
    try clear hfz18_2
    try clear hfz18_3
    try clear hfz18_4
    try clear hfz19_0
    try clear hfz19_1
    try clear hfz19_2
    try clear hfz19_3
    try clear hfz19_4
    try clear hfz20_0
    try clear hfz20_1
    try clear hfz20_2
    try clear hfz20_3
    try clear hfz20_4
    try clear p2
    obtain ⟨kq,x40_8,rfl,HA,HJ8,BK108,HB⟩:=hcut;cases kq with
    | zero=>exact absurd HA.out (by simp [laws_FnGjQuoteParse.j1])
    | succ kj8 =>
     have H:=HA.out;clear HA;simp only [laws_FnGjQuoteParse.j1] at H;by_cases c21:x40_8=true
     ·subst c21;have H1:(some false)=some r:=by rw [if_pos rfl] at H;exact H
      clear H;have H:=H1;clear H1;obtain rfl:=Option.some.inj H;go_wp2;go_ret;exact zl6
     replace c21:=Bool.eq_false_iff.mpr c21;subst c21;have H1:(laws_FnGjQuoteParse.l0 kj8 a0 t102 0)=some r:=by rw [if_neg (show ¬ (false=true) by decide)] at H;exact H
     clear H;have H:=H1;clear H1;have H':=mk0 H;clear H;go_wp2;go_loopg [5] kj8 (fun kq v5 w'=>∃ (x5_3:Int),v5 = .int .i64 x5_3∧Aside0 (laws_FnGjQuoteParse.l0 kq a0 t102 x5_3=some r)∧Aside0 (kq≤kj8)∧Aside0 (w'.heap[gb108]? = some (.cells #[.int .i64 t103, .string t104, .string t105, .float .f64 t106, .bool t107] 26 (0,0)))∧Aside0 (Below w.heap.size w w'))
     case atStart=>exact ⟨(0),zq6,H',⟨Nat.le_refl _⟩,⟨by (with_reducible repeat (first|refine j1j ?_ _|refine j1n ?_|refine j1k ?_ _));exact BK108.out⟩,⟨by repeat (first|(with_reducible first|exact HB.out|apply j1i|apply j1d|apply j1h|refine j2e ?_ GE108.out)|exact HB.out)⟩⟩
     case round =>
      clear H'
      try clear c1
      try clear c2
      try clear c2b0
      try clear c2b1
      try clear p2
      try clear c3
      try clear c4
      try clear c4b0
      try clear c4b1
      try clear c5
      try clear c6
      try clear c14
      try clear c15
      try clear c15b0
      try clear c15b1
      try clear c16
      try clear c16b0
      try clear c16b1
      try clear c21
      try clear hcz13_0
      try clear hcz13_1
      try clear hcz13_2
      try clear hcz13_3
      try clear hcz13_4
      try clear hcz17_0
      try clear hcz17_1
      try clear hcz17_2
      try clear hcz17_3
      try clear hcz17_4
      try clear hcz18_0
      try clear hcz18_1
      try clear hcz18_2
      try clear hcz18_3
      try clear hcz18_4
      try clear hcz19_0
      try clear hcz19_1
      try clear hcz19_2
      try clear hcz19_3
      try clear hcz19_4
      try clear hcz20_0
      try clear hcz20_1
      try clear hcz20_2
      try clear hcz20_3
      try clear hcz20_4
      try clear hfz13_0
      try clear hfz13_1
      try clear hfz13_2
      try clear hfz13_3
      try clear hfz13_4
      try clear hfz17_0
      try clear hfz17_1
      try clear hfz17_2
      try clear hfz17_3
      try clear hfz17_4
      try clear hfz18_0
      try clear hfz18_1
      try clear hfz18_2
      try clear hfz18_3
      try clear hfz18_4
      try clear hfz19_0
      try clear hfz19_1
      try clear hfz19_2
      try clear hfz19_3
      try clear hfz19_4
      try clear hfz20_0
      try clear hfz20_1
      try clear hfz20_2
      try clear hfz20_3
      try clear hfz20_4
      try clear p2
      obtain ⟨x5_3,rfl,HA,HK3,BK108,HB⟩:=hrel;cases gk with
      | zero=>exact absurd HA.out (by simp [laws_FnGjQuoteParse.l0])
      | succ k3 =>
       have H:=HA.out;clear HA;simp only [laws_FnGjQuoteParse.l0] at H;by_cases c22:x5_3<(a0.size:Int)
       rotate_left
       ·rw [if_neg c22] at H;have c22b0:decide (x5_3<(a0.size:Int))=false:=decide_eq_false c22;clear c22;by_cases c31:1+a0.size≤9223372036854775807
        rotate_left
        ·rw [if_neg c31] at H;exact absurd H (by simp)
        rw [if_pos c31] at H;have c31b0:=eq_true c31;have c31b1:decide (1+a0.size≤9223372036854775807)=true:=decide_eq_true c31
        try have c31b2:(9223372036854775807<1+a0.size)=False:=eq_false (Nat.not_lt.2 c31)
        by_cases c32:((⟨#[34]⟩:ByteArray)++a0).size+1≤9223372036854775807
        rotate_left
        ·rw [if_neg c32] at H;exact absurd H (by simp)
        rw [if_pos c32] at H;have c32b0:=eq_true c32;have c32b1:decide (((⟨#[34]⟩:ByteArray)++a0).size+1≤9223372036854775807)=true:=decide_eq_true c32
        try have c32b2:(9223372036854775807<((⟨#[34]⟩:ByteArray)++a0).size+1)=False:=eq_false (Nat.not_lt.2 c32)
        try have c32b3:(9223372036854775807<1+a0.size+1)=False:=eq_false (Nat.not_lt.2 (by have h_:=c32;simp only [ByteArray.size_append] at h_;exact h_))
        obtain rfl:=Option.some.inj H;go_wp2;go_ret;exact zl6
       rw [if_pos c22] at H;have c22b0:decide (x5_3<(a0.size:Int))=true:=decide_eq_true c22;clear c22;by_cases c23:0≤x5_3
       rotate_left
       ·rw [if_neg c23] at H;exact absurd H (by simp)
       rw [if_pos c23] at H;have c23b0:decide (0≤x5_3)=true:=decide_eq_true c23;clear c23;by_cases c25:(bt a0 x5_3)=32
       ·rw [if_pos c25] at H;have c25b0:((bt a0 x5_3) == 32)=true:=beq_iff_eq.mpr c25;have c25b1:((bt a0 x5_3) != 32)=false:=bne_eq_false_iff_eq.mpr c25;clear c25;have H':=mk0 H;clear H;have p24:0≤(x5_3:Int):=of_decide_eq_true zq1;have q24:x5_3<(a0.size:Int):=of_decide_eq_true zq1;have hx24:=bt_at a0 x5_3;replace p24:=eq_true p24;replace q24:=eq_true q24;go_wp2;go_roundg k3
        case measure=>have:=HJ2.out;have:=HJ8.out;have:=HK3.out;omega
        case rel=>exact ⟨(wrap64 (x5_3+1)),zq6,H',⟨by have:=HJ2.out;have:=HJ8.out;have:=HK3.out;omega⟩,⟨by (with_reducible repeat (first|refine j1j ?_ _|refine j1n ?_|refine j1k ?_ _));exact BK108.out⟩,⟨by repeat (first|(with_reducible first|exact HB.out|apply j1i|apply j1d|apply j1h|refine j2e ?_ GE108.out)|exact HB.out)⟩⟩
       rw [if_neg c25] at H;have c25b0:((bt a0 x5_3) == 32)=false:=beq_eq_false_iff_ne.mpr c25;have c25b1:((bt a0 x5_3) != 32)=true:=bne_iff_ne.mpr c25;have c26b0:=eq_true (of_decide_eq_true zq1:0≤x5_3);by_cases c27:x5_3≤(wrap64 (x5_3+1))
       rotate_left
       ·rw [if_neg c27] at H;exact absurd H (by simp)
       rw [if_pos c27] at H;have c27b0:=eq_true c27;have c27b1:decide (x5_3≤(wrap64 (x5_3+1)))=true:=decide_eq_true c27;by_cases c28:(wrap64 (x5_3+1))≤(a0.size:Int)
       rotate_left
       ·rw [if_neg c28] at H;exact absurd H (by simp)
       rw [if_pos c28] at H;have c28b0:=eq_true c28;have c28b1:decide ((wrap64 (x5_3+1))≤(a0.size:Int))=true:=decide_eq_true c28;replace H:=Option.bind_eq_some_iff.mp H;obtain ⟨t109,A290,H⟩:=H;replace H:(if t109=true then (laws_FnGjQuoteParse.l0 k3 a0 t102 (wrap64 (x5_3+1))) else (some true))=some r:=H;have A29:=mk0 A290;clear A290;by_cases c30:t109=true
       rotate_left
       ·replace c30:=Bool.eq_false_iff.mpr c30;subst c30;have H1:(some true)=some r:=by rw [if_neg (show ¬ (false=true) by decide)] at H;exact H
        clear H;have H:=H1;clear H1;obtain rfl:=Option.some.inj H;have p24:0≤(x5_3:Int):=of_decide_eq_true zq1;have q24:x5_3<(a0.size:Int):=of_decide_eq_true zq1;have hx24:=bt_at a0 x5_3;replace p24:=eq_true p24;replace q24:=eq_true q24;go_wp2_with (first|(go_at_call 7;(with_reducible refine (j1l.calls k3 (a0.extract (x5_3:Int).toNat ((wrap64 (x5_3+1)):Int).toNat) false _ A29.out).mono ?_);rintro e w' ⟨rfl,⟨nd,rfl⟩⟩))
        go_ret;exact zl6
       subst c30;have H1:(laws_FnGjQuoteParse.l0 k3 a0 t102 (wrap64 (x5_3+1)))=some r:=by rw [if_pos rfl] at H;exact H
       clear H;have H:=H1;clear H1;have H':=mk0 H;clear H;have p24:0≤(x5_3:Int):=of_decide_eq_true zq1;have q24:x5_3<(a0.size:Int):=of_decide_eq_true zq1;have hx24:=bt_at a0 x5_3;replace p24:=eq_true p24;replace q24:=eq_true q24;go_wp2_with (first|(go_at_call 7;(with_reducible refine (j1l.calls k3 (a0.extract (x5_3:Int).toNat ((wrap64 (x5_3+1)):Int).toNat) true _ A29.out).mono ?_);rintro e w' ⟨rfl,⟨nd,rfl⟩⟩))
       go_roundg k3
       case measure=>have:=HJ2.out;have:=HJ8.out;have:=HK3.out;omega
       case rel=>exact ⟨(wrap64 (x5_3+1)),zq6,H',⟨by have:=HJ2.out;have:=HJ8.out;have:=HK3.out;omega⟩,⟨by (with_reducible repeat (first|refine j1j ?_ _|refine j1n ?_|refine j1k ?_ _));exact BK108.out⟩,⟨by repeat (first|(with_reducible first|exact HB.out|apply j1i|apply j1d|apply j1h|refine j2e ?_ GE108.out)|exact HB.out)⟩⟩
def laws_FnGjQuoteParse.Pure : Prop := ∀ (a0:ByteArray),a0.size≤140737488351232→∃ k,laws_FnGjQuoteParse.f k a0=some true
theorem laws_FnGjQuoteParse.walk (P : laws_FnGjQuoteParse.Pure) (a0:ByteArray) (w:World) (hG:Laid w) (w0:a0.size≤140737488351232) :
 Calls Tryd.prog 3 #[.string a0] w fun e w'=>e = .returned (.bool true)∧Below w.heap.size w w':=by
 obtain ⟨k,h⟩:=P a0 w0;refine (laws_FnGjQuoteParse.calls k a0 true w hG h).mono ?_;rintro e w' ⟨rfl,hd⟩;exact ⟨rfl,hd⟩
end Go.Proofs.YtchhndbekjgimaaDoor.H
end
section
namespace Go.Proofs.YtchhndbekjgimaaDoor.U
open Go.RowKit Go.Proofs.YtchhndbekjgimaaDoor.H Go.Proofs.YtchhndbekjgimaaDoorW.PrintWords Go.Proofs.YtchhndbekjgimaaDoorW.PrintLast
theorem w64 {x : Int} (h : -9223372036854775808≤x∧x≤9223372036854775807):wrap64 x=x:=by
 unfold wrap64;omega
def nb (s : ByteArray) (i:Nat):Nat:=(s.get! i).toNat
theorem nb_bt (s : ByteArray) (i:Nat):bt s (i:Int)=(nb s i:Int):=by
 unfold bt nb;split
 ·rename_i h;have h':i<s.size:=by simpa using h
  have e:s.get! i=s[i]'h':=by cases s with|mk d=>exact getElem!_pos d i h'
  rw [e];simp
 ·rename_i h;have h':¬ i<s.size:=by simpa using h
  have e:s.get! i=default:=by cases s with|mk d=>exact getElem!_neg d i h'
  rw [e];rfl
theorem nb_lt (s : ByteArray) (i:Nat):nb s i<256:=(s.get! i).toNat_lt
structure Chr (s : ByteArray) (i c n:Nat):Prop where
  dec:Utf8.decode s i=(c,n)
  pos:1≤n
  fit:i+n≤s.size
  low:nb s i<128→c=nb s i∧n=1
  high:128≤nb s i→128≤c∧2≤n
  top:c≤1114111∧n≤4

theorem l0_more {s : ByteArray} (hs:s.size≤140737488351232) {i:Nat} (hi:i<s.size) (x7 x8 x9 x10:Nat) (hx:x10≤x8) (h7:x7≤1000000) (hj:i+x10<s.size) (h8:x8≤3) {r:Int × Int × Bool}
 (hb:128≤nb s (i+x10)∧nb s (i+x10)≤191)
 (h:Ev (fun k=>j1b.l0 k s i ((x7*64+(nb s (i+x10) - 128):Nat):Int) x8 x9 ((x10+1:Nat):Int)) r) :
 Ev (fun k=>j1b.l0 k s i x7 x8 x9 (x10:Int)) r:=by
 refine Ev.step (fun k=>?_) h;have e1:wrap64 ((i:Int)+(x10:Int))=((i+x10:Nat):Int):=by rw [w64 (by omega)];omega
 have e2:wrap64 (bt s ((i+x10:Nat):Int))=(nb s (i+x10):Int):=by rw [nb_bt,w64 (by omega)]
 simp only [j1b.l0,e1,e2];rw [if_pos (by omega),if_pos (by omega),if_pos (by omega),if_neg (by omega),if_neg (by omega)]
 congr 1
 ·rw [w64 (x:=(x7:Int)*64) (by omega),w64 (x:=(x7:Int)*64+_) (by omega),w64 (by omega)];omega
 ·rw [w64 (by omega)];omega
theorem l0_none {s : ByteArray} (hs:s.size≤140737488351232) {i:Nat} (hi:i<s.size) (x7 x8 x9 x10:Nat) (hx:x10≤x8) (hj:i+x10<s.size) (h8:x8≤3) (hb:¬ (128≤nb s (i+x10)∧nb s (i+x10)≤191)) :
 Ev (fun k=>j1b.l0 k s i x7 x8 x9 (x10:Int)) (65533,1,false):=by
 refine Ev.step (f:=fun _=>some (65533,1,false)) (fun k=>?_) (Ev.now _);have e1:wrap64 ((i:Int)+(x10:Int))=((i+x10:Nat):Int):=by rw [w64 (by omega)];omega
 have e2:wrap64 (bt s ((i+x10:Nat):Int))=(nb s (i+x10):Int):=by rw [nb_bt,w64 (by have:=nb_lt s (i+x10);omega)]
 simp only [j1b.l0,e1,e2];rw [if_pos (by omega),if_pos (by omega),if_pos (by omega)];by_cases h:nb s (i+x10)<128
 ·rw [if_pos (by omega)]
 rw [if_neg (by omega),if_pos (by omega)]
theorem l0_end {s : ByteArray} (_hs:s.size≤140737488351232) {i:Nat} (_hi:i<s.size) (x7 x8 x9:Nat) (h8:x8≤3) :
 Ev (fun k=>j1b.l0 k s i x7 x8 x9 ((x8+1:Nat):Int)) (if x9≤x7∧x7≤1114111∧¬ (55296≤x7∧x7≤57343) then ((x7:Int),((x8+1:Nat):Int),true) else (65533,1,false)):=by
 refine Ev.step (f:=fun _=>some _) (fun k=>?_) (Ev.now _);have eR:¬ (x9≤x7∧x7≤1114111∧¬ (55296≤x7∧x7≤57343))→(if x9≤x7∧x7≤1114111∧¬ (55296≤x7∧x7≤57343) then ((x7:Int),((x8+1:Nat):Int),true) else (65533,1,false))=(65533,1,false):=fun h=>if_neg h
 simp only [j1b.l0,spec_high.f,spec_low.f];rw [if_neg (by omega)];by_cases h1:x7<x9
 ·rw [if_pos (by omega),if_neg (by omega)]
 rw [if_neg (by omega)];by_cases h2:x7>1114111
 ·rw [if_pos (by omega),if_neg (by omega)]
 rw [if_neg (by omega),w64 (x:=(x8:Int)+1) (by omega)];by_cases h3:55296≤x7∧x7≤56319
 ·rw [eR (by omega),if_pos (by omega)];simp only [Option.bind_some];rw [if_pos (by simp;omega)]
 have e3:(if 55296≤(x7:Int) then some (decide ((x7:Int)≤56319)) else some false)=some false:=by
  split
  ·congr 1
   simp;omega
  ·rfl
 rw [e3];simp only [Option.bind_some];rw [if_neg zq24];by_cases h4:56320≤x7∧x7≤57343
 ·rw [eR (by omega),if_pos (by omega)];simp only [Option.bind_some];rw [if_pos (by simp;omega)]
 have e4:(if 56320≤(x7:Int) then some (decide ((x7:Int)≤57343)) else some false)=some false:=by
  split
  ·congr 1
   simp;omega
  ·rfl
 rw [e4];simp only [Option.bind_some];rw [if_neg zq24,if_pos (by omega)];simp
def Ans (s : ByteArray) (i:Nat) (r:Int × Int × Bool):Prop:=r=(65533,1,false)∨∃ c n:Nat,r=((c:Int),(n:Int),true)∧Chr s i c n
theorem j2_two {s : ByteArray} (hs:s.size≤140737488351232) {i:Nat} (hi:i<s.size) (h0:194≤nb s i∧nb s i≤223):∃ r,Ev (fun k=>j1b.j2 k s i ((nb s i - 192:Nat):Int) 1 128) r∧Ans s i r:=by
 by_cases hn:s.size≤i+1
 ·refine ⟨_,Ev.step (f:=fun _=>some (65533,1,false)) (fun k=>?_) (Ev.now _), .inl rfl⟩;simp only [j1b.j2];rw [if_pos zq26]
 have st:∀ {r},Ev (fun k=>j1b.l0 k s i ((nb s i - 192:Nat):Int) ((1:Nat):Int) ((128:Nat):Int) ((1:Nat):Int)) r→Ev (fun k=>j1b.j2 k s i ((nb s i - 192:Nat):Int) 1 128) r:=fun h=>by
  refine Ev.step (fun k=>?_) h;simp only [j1b.j2];rw [if_neg zq26];rfl
 by_cases h1:128≤nb s (i+1)∧nb s (i+1)≤191
 rotate_left
 ·exact ⟨_,st (l0_none hs hi _ 1 128 1 (by omega) (by omega) (by omega) h1), .inl rfl⟩
 refine ⟨_,st (l0_more hs hi _ 1 128 1 (by omega) (by omega) (by omega) (by omega) h1 (l0_end hs hi _ 1 128 (by omega))), .inr ⟨(nb s i - 192)*64+(nb s (i+1) - 128),2,?_,?_,by omega,by omega,fun h=>by omega,fun _=>by omega,by omega⟩⟩
 ·rw [if_pos (by omega)]
 ·rw [Lib.decode_at]
  change Lib.decodeN (s.size - i) (nb s i) (nb s (i+1)) (nb s (i+2)) (nb s (i+3))=_
  unfold Lib.decodeN;rw [if_neg (by omega),if_pos (by omega),if_pos (by omega)];refine congrArg (fun x=>(x,2)) ?_;omega
theorem j2_three {s : ByteArray} (hs:s.size≤140737488351232) {i:Nat} (hi:i<s.size) (h0:224≤nb s i∧nb s i≤239):∃ r,Ev (fun k=>j1b.j2 k s i ((nb s i - 224:Nat):Int) 2 2048) r∧Ans s i r:=by
 by_cases hn:s.size≤i+2
 ·refine ⟨_,Ev.step (f:=fun _=>some (65533,1,false)) (fun k=>?_) (Ev.now _), .inl rfl⟩;simp only [j1b.j2];rw [if_pos zq26]
 have st:∀ {r},Ev (fun k=>j1b.l0 k s i ((nb s i - 224:Nat):Int) ((2:Nat):Int) ((2048:Nat):Int) ((1:Nat):Int)) r→Ev (fun k=>j1b.j2 k s i ((nb s i - 224:Nat):Int) 2 2048) r:=fun h=>by
  refine Ev.step (fun k=>?_) h;simp only [j1b.j2];rw [if_neg zq26];rfl
 by_cases h1:128≤nb s (i+1)∧nb s (i+1)≤191
 rotate_left
 ·exact ⟨_,st (l0_none hs hi _ 2 2048 1 (by omega) (by omega) (by omega) h1), .inl rfl⟩
 by_cases h2:128≤nb s (i+2)∧nb s (i+2)≤191
 rotate_left
 ·exact ⟨_,st (l0_more hs hi _ 2 2048 1 (by omega) (by omega) (by omega) (by omega) h1 (l0_none hs hi _ 2 2048 2 (by omega) (by omega) (by omega) h2)), .inl rfl⟩
 have hE:=st (l0_more hs hi _ 2 2048 1 (by omega) (by omega) (by omega) (by omega) h1 (l0_more hs hi _ 2 2048 2 (by omega) (by omega) (by omega) (by omega) h2 (l0_end hs hi _ 2 2048 (by omega))));refine ⟨_,hE,?_⟩;by_cases hx:2048≤((nb s i - 224)*64+(nb s (i+1) - 128))*64+(nb s (i+2) - 128)∧((nb s i - 224)*64+(nb s (i+1) - 128))*64+(nb s (i+2) - 128)≤1114111∧¬ (55296≤((nb s i - 224)*64+(nb s (i+1) - 128))*64+(nb s (i+2) - 128)∧((nb s i - 224)*64+(nb s (i+1) - 128))*64+(nb s (i+2) - 128)≤57343)
 rotate_left
 ·exact .inl (if_neg hx)
 refine .inr ⟨((nb s i - 224)*64+(nb s (i+1) - 128))*64+(nb s (i+2) - 128),3,by rw [if_pos hx],?_,by omega,by omega,fun h=>by omega,fun _=>by omega,by omega⟩;rw [Lib.decode_at]
 change Lib.decodeN (s.size - i) (nb s i) (nb s (i+1)) (nb s (i+2)) (nb s (i+3))=_
 unfold Lib.decodeN;rw [if_neg (by omega),if_neg (by omega),if_pos (by omega),if_pos (by omega)];refine congrArg (fun x=>(x,3)) ?_;omega
theorem j2_four {s : ByteArray} (hs:s.size≤140737488351232) {i:Nat} (hi:i<s.size) (h0:240≤nb s i∧nb s i≤244):∃ r,Ev (fun k=>j1b.j2 k s i ((nb s i - 240:Nat):Int) 3 65536) r∧Ans s i r:=by
 by_cases hn:s.size≤i+3
 ·refine ⟨_,Ev.step (f:=fun _=>some (65533,1,false)) (fun k=>?_) (Ev.now _), .inl rfl⟩;simp only [j1b.j2];rw [if_pos zq26]
 have st:∀ {r},Ev (fun k=>j1b.l0 k s i ((nb s i - 240:Nat):Int) ((3:Nat):Int) ((65536:Nat):Int) ((1:Nat):Int)) r→Ev (fun k=>j1b.j2 k s i ((nb s i - 240:Nat):Int) 3 65536) r:=fun h=>by
  refine Ev.step (fun k=>?_) h;simp only [j1b.j2];rw [if_neg zq26];rfl
 by_cases h1:128≤nb s (i+1)∧nb s (i+1)≤191
 rotate_left
 ·exact ⟨_,st (l0_none hs hi _ 3 65536 1 (by omega) (by omega) (by omega) h1), .inl rfl⟩
 by_cases h2:128≤nb s (i+2)∧nb s (i+2)≤191
 rotate_left
 ·exact ⟨_,st (l0_more hs hi _ 3 65536 1 (by omega) (by omega) (by omega) (by omega) h1 (l0_none hs hi _ 3 65536 2 (by omega) (by omega) (by omega) h2)), .inl rfl⟩
 by_cases h3:128≤nb s (i+3)∧nb s (i+3)≤191
 rotate_left
 ·exact ⟨_,st (l0_more hs hi _ 3 65536 1 (by omega) (by omega) (by omega) (by omega) h1 (l0_more hs hi _ 3 65536 2 (by omega) (by omega) (by omega) (by omega) h2 (l0_none hs hi _ 3 65536 3 (by omega) (by omega) (by omega) h3))), .inl rfl⟩
 have hE:=st (l0_more hs hi _ 3 65536 1 (by omega) (by omega) (by omega) (by omega) h1 (l0_more hs hi _ 3 65536 2 (by omega) (by omega) (by omega) (by omega) h2 (l0_more hs hi _ 3 65536 3 (by omega) (by omega) (by omega) (by omega) h3 (l0_end hs hi _ 3 65536 (by omega)))));refine ⟨_,hE,?_⟩;obtain ⟨x,hxe⟩:∃ x,x=(((nb s i - 240)*64+(nb s (i+1) - 128))*64+(nb s (i+2) - 128))*64+(nb s (i+3) - 128):=⟨_,rfl⟩;rw [← hxe];by_cases hx:65536≤x∧x≤1114111∧¬ (55296≤x∧x≤57343)
 rotate_left
 ·exact .inl (if_neg hx)
 refine .inr ⟨x,4,by rw [if_pos hx],?_,by omega,by omega,fun h=>by omega,fun _=>by omega,by omega⟩;rw [Lib.decode_at]
 change Lib.decodeN (s.size - i) (nb s i) (nb s (i+1)) (nb s (i+2)) (nb s (i+3))=_
 unfold Lib.decodeN;rw [if_neg (by omega),if_neg (by omega),if_neg (by omega),if_pos (by omega),if_pos (by omega)]
 congr 1
 omega
theorem char_ans {s : ByteArray} (hs:s.size≤140737488351232) {i:Nat} (hi:i<s.size):∃ r,Ev (fun k=>j1b.f k s i) r∧Ans s i r:=by
 have hb:=nb_lt s i;have e2:wrap64 (bt s (i:Int))=(nb s i:Int):=by rw [nb_bt,w64 (by omega)]
 have no:∀ {f:Nat→Option (Int × Int × Bool)},(∀ k,f k=some (65533,1,false))→∃ r,Ev f r∧Ans s i r:=fun h=>⟨_,Ev.congr h (Ev.now _), .inl rfl⟩
 have fore:∀ {g f:Nat→Option (Int × Int × Bool)},(∀ k,g (k+1)=f k)→(∃ r,Ev f r∧Ans s i r)→∃ r,Ev g r∧Ans s i r:=fun h ⟨r,h1,h2⟩=>⟨r,Ev.step h h1,h2⟩
 have same:∀ {g f:Nat→Option (Int × Int × Bool)},(∀ k,g k=f k)→(∃ r,Ev f r∧Ans s i r)→∃ r,Ev g r∧Ans s i r:=fun h ⟨r,h1,h2⟩=>⟨r,Ev.congr h h1,h2⟩
 by_cases h1:nb s i<128
 ·refine ⟨_,Ev.congr (f:=fun _=>some ((nb s i:Int),((1:Nat):Int),true)) (fun k=>?_) (Ev.now _), .inr ⟨nb s i,1,rfl,?_,by omega,by omega,fun _=>⟨rfl,rfl⟩,fun h=>by omega,by omega⟩⟩
  ·simp only [j1b.f,e2];rw [if_pos (by omega),if_pos (by omega),if_pos (by omega)];rfl
  ·rw [Lib.decode_at]
   change Lib.decodeN (s.size - i) (nb s i) (nb s (i+1)) (nb s (i+2)) (nb s (i+3))=_
   unfold Lib.decodeN;rw [if_pos h1]
 by_cases h2:194≤nb s i∧nb s i≤223
 ·refine same (f:=fun k=>j1b.j0 k s i (nb s i:Int) true) (fun k=>?_) (fore (fun k=>?_) (j2_two hs hi h2))
  ·simp only [j1b.f,e2];rw [if_pos (by omega),if_pos (by omega),if_neg (by omega),if_pos (by omega)]
   congr 1
   simp;omega
  ·simp only [j1b.j0];rw [if_pos trivial,w64 (by omega)]
   congr 1
   omega
 refine same (f:=fun k=>j1b.j0 k s i (nb s i:Int) false) (fun k=>?_) ?_
 ·simp only [j1b.f,e2];rw [if_pos (by omega),if_pos (by omega),if_neg (by omega)];by_cases h:194≤nb s i
  rotate_left
  ·rw [if_neg (by omega)]
  rw [if_pos (by omega)]
  congr 1
  simp;omega
 by_cases h3:224≤nb s i∧nb s i≤239
 ·refine fore (f:=fun k=>j1b.j1 k s i (nb s i:Int) true) (fun k=>?_) (fore (fun k=>?_) (j2_three hs hi h3))
  ·simp only [j1b.j0];rw [if_neg zq24,if_pos (by omega)]
   congr 1
   simp;omega
  ·simp only [j1b.j1];rw [if_pos trivial,w64 (by omega)]
   congr 1
   omega
 refine fore (f:=fun k=>j1b.j1 k s i (nb s i:Int) false) (fun k=>?_) ?_
 ·simp only [j1b.j0];rw [if_neg zq24];by_cases h:224≤nb s i
  rotate_left
  ·rw [if_neg (by omega)]
  rw [if_pos (by omega)]
  congr 1
  simp;omega
 by_cases h4:240≤nb s i∧nb s i≤244
 ·refine fore (fun k=>?_) (j2_four hs hi h4);simp only [j1b.j1];rw [if_neg zq24,if_pos (by omega),if_pos (by omega),w64 (by omega)]
  congr 1
  omega
 refine fore (f:=fun _=>some (65533,1,false)) (fun k=>?_) (no fun _=>rfl);simp only [j1b.j1];rw [if_neg zq24];by_cases h:240≤nb s i
 rotate_left
 ·rw [if_neg (by omega)]
 rw [if_pos (by omega),if_neg (by omega)]
inductive Val (s : ByteArray):Nat→Prop
  | done:Val s s.size
  | step {i c n:Nat}:i<s.size→Chr s i c n→Ev (fun k=>j1b.f k s i) ((c:Int),(n:Int),true)→Val s (i+n)→Val s i
theorem utf8_val {s : ByteArray} (hs:s.size≤140737488351232):∀ d i,s.size - i=d→i≤s.size→∃ t,Ev (fun k=>j1v.l0 k s i) t∧(t=true→Val s i):=by
 intro d
 induction d using Nat.strongRecOn with
 | ind d ih =>
  intro i hd hi;by_cases h:i<s.size
  rotate_left
  ·refine ⟨true,Ev.step (f:=fun _=>some true) (fun k=>?_) (Ev.now _),fun _=>?_⟩
   ·simp only [j1v.l0];rw [if_neg (by omega)]
   ·have e:i=s.size:=by omega
    subst e;exact Val.done
  obtain ⟨r,h1,h2⟩:=char_ans hs h;rcases h2 with rfl|⟨c,n,rfl,hc⟩
  ·refine ⟨false,Ev.step (f:=fun k=>(j1b.f k s i).bind fun b=>if b.2.2=true then j1v.l0 k s (wrap64 (i+b.2.1)) else some false) (fun k=>?_) (Ev.bind h1 ?_),fun h=>by simp at h⟩
   ·simp only [j1v.l0];rw [if_pos (by omega)]
   ·exact Ev.congr (fun k=>by rw [if_neg zq24]) (Ev.now _)
  ·have hf:=hc.fit;have hp:=hc.pos;obtain ⟨t,h3,h4⟩:=ih (s.size - (i+n)) (by omega) (i+n) rfl hf;refine ⟨t,Ev.step (f:=fun k=>(j1b.f k s i).bind fun b=>if b.2.2=true then j1v.l0 k s (wrap64 (i+b.2.1)) else some false) (fun k=>?_) (Ev.bind h1 ?_),fun h5=>Val.step h hc h1 (h4 h5)⟩
   ·simp only [j1v.l0];rw [if_pos (by omega)]
   ·refine Ev.congr (fun k=>?_) h3
    change j1v.l0 k s (wrap64 ((i:Int)+(n:Int)))=_
    rw [w64 (by omega)]
    congr 1
def hexd (n : Nat):Int:=bt (⟨#[48,49,50,51,52,53,54,55,56,57,97,98,99,100,101,102]⟩:ByteArray) (n:Int)
theorem and15b : ∀ c ∈ [8232,8233],Go.bits .and .i32 ((c:Nat):Int) 15=((c % 16:Nat):Int):=by decide
def esc (s : ByteArray) (i c n:Nat):List Int :=
  if c=34∨c=92 then [92,(c:Int)] else if c=8 then [92,98] else if c=12 then [92,102] else if c=10 then [92,110] else if c=13 then [92,114] else if c=9 then [92,116]
  else if c<32∨c=38∨c=60∨c=62 then [92,117,48,48,hexd (c / 16),hexd (c % 16)]
  else if c=8232∨c=8233 then [92,117,50,48,50,hexd (c % 16)]
  else bytesOf (s.extract i (i+n))
theorem ext_size (s : ByteArray) (i n:Nat) (h:i+n≤s.size):(s.extract i (i+n)).size=n:=by
 rw [ByteArray.size_extract];omega
theorem ext_one (s : ByteArray) (i:Nat) (h:i<s.size):bytesOf (s.extract i (i+1))=[(nb s i:Int)]:=by
 have hl:(bytesOf (s.extract i (i+1))).length=1:=by rw [bytesOf_length,ext_size s i 1 (by omega)]
 obtain ⟨a,ha⟩:=List.length_eq_one_iff.1 hl
 have h1:rd (bytesOf (s.extract i (i+1))) 0=bt s i:=by
  rw [rd_bytesOf];unfold bt;have hz:(0:Int).toNat<(s.extract i (i+1)).size:=by rw [ext_size s i 1 (by omega)];decide
  rw [dif_pos hz,dif_pos (by simpa using h)];simp [ByteArray.getElem_extract]
 rw [ha] at h1 ⊢;rw [← nb_bt,← h1];rfl
theorem esc_len (s : ByteArray) {i c n:Nat} (h:i+n≤s.size) (hn:n≤4):(esc s i c n).length≤6:=by
 unfold esc
 repeat' split
 all_goals first|simp|(rw [bytesOf_length,ext_size s i n h];omega)
theorem nat_in {c : Nat} (h:c<32∨c=38∨c=60∨c=62):c ∈ List.range 32++[38,60,62]:=by
 simp only [List.mem_append,List.mem_range,List.mem_cons,List.not_mem_nil,or_false];exact h
theorem nat_in2 {c : Nat} (h:c=8232∨c=8233):c ∈ [8232,8233]:=by
 simp only [List.mem_cons,List.not_mem_nil,or_false];exact h
theorem nb_ext (s : ByteArray) (i j:Nat):nb (s.extract i s.size) j=nb s (i+j):=by
 have e:bt (s.extract i s.size) ((j:Nat):Int)=bt s ((i+j:Nat):Int):=by
  unfold bt;simp only [Int.toNat_natCast];by_cases h:i+j<s.size
  rotate_left
  ·rw [dif_neg (by rw [ByteArray.size_extract];omega),dif_neg h]
  rw [dif_pos (by rw [ByteArray.size_extract];omega),dif_pos h];simp [ByteArray.getElem_extract]
 rw [nb_bt,nb_bt] at e;omega
theorem decodeGo_ext (s : ByteArray) (i:Nat) (hi:i<s.size):Lib.decodeGo (s.extract i s.size)=Utf8.decode s i:=by
 have hz:(s.extract i s.size).size=s.size - i:=by rw [ByteArray.size_extract];omega
 unfold Lib.decodeGo;rw [if_neg (by omega),Lib.decode_at,Lib.decode_at,hz];have e:=fun j=>nb_ext s i j
 unfold nb at e;rw [e,e,e,e];rfl
set_option maxRecDepth 100000 in
theorem h16 : ∀ c ∈ List.range 32++[38,60,62],IntKind.u16.wrap ((c:Nat):Int)=(c:Int)∧Go.bits .and .u16 ((c:Int) / 4096) 15=0∧Go.bits .and .u16 ((c:Int) / 256) 15=0∧Go.bits .and .u16 ((c:Int) / 16) 15=((c / 16:Nat):Int)∧Go.bits .and .u16 (c:Int) 15=((c % 16:Nat):Int):=by decide +kernel
theorem hex16 {c : Nat} (h:c<32∨c=38∨c=60∨c=62) (l:List Int) (hl:l.length+4<140737488355328):j1o.f l (IntKind.u16.wrap ((c:Nat):Int))=some (l++[48,48,hexd (c / 16),hexd (c % 16)]):=by
 obtain ⟨h0,h1,h2,h3,h4⟩:=h16 c (nat_in h);have hm:c % 16<16:=Nat.mod_lt _ zq24;rw [h0];simp only [j1o.f,h1,h2,h3,h4];rw [if_pos zq24,if_pos zq24,if_pos zq24,if_pos zq24,if_pos (by omega),if_pos (by omega),if_pos (by omega),if_pos (by omega)];simp only [Option.bind_some];rw [if_pos (by simp;omega)];rfl
theorem gq_step {s : ByteArray} (hs:s.size≤140737488351232) {i c n:Nat} (hi:i<s.size) (hc:Chr s i c n) (x0:List Int) (hx:x0.length+8<140737488355328) {r:List Int}
 (h:Ev (fun k=>j1a.l0 k (x0++esc s i c n) s ((i+n:Nat):Int)) r):Ev (fun k=>j1a.l0 k x0 s (i:Int)) r:=by
 have hf:=hc.fit;have hp:=hc.pos;have ht:=hc.top;by_cases hb:nb s i<128
 rotate_left
 ·have hh:=hc.high (by omega);have hd:Lib.decodeGo (s.extract i s.size)=(c,n):=by rw [decodeGo_ext s i hi,hc.dec]
  have fore:Ev (fun k=>j1a.j2 k x0 s (i:Int) (c:Int) (n:Int) false) r→Ev (fun k=>j1a.l0 k x0 s (i:Int)) r:=fun h1=>by
   refine Ev.step (f:=fun k=>j1a.j1 k x0 s (i:Int) false) (fun k=>?_) (Ev.step (fun k=>?_) h1)
   ·simp only [j1a.l0,nb_bt];rw [if_pos (by omega),if_pos (by omega),if_neg (by omega),if_neg (by omega),if_neg (by omega)]
    congr 1
    simp;omega
   ·simp only [j1a.j1,nb_bt,utf8_DecodeRuneInString.f,Int.toNat_natCast,hd,Option.bind_some];rw [if_neg zq24,if_pos (by omega),if_pos (by omega),if_neg (by omega),if_neg (by omega),if_pos (by omega),if_pos (by omega),if_neg (by omega)];split
    ·congr 1
     simp;omega
    ·rfl
  refine fore (Ev.step (fun k=>?_) h);have e0:wrap64 ((i:Int)+(n:Int))=((i+n:Nat):Int):=by rw [w64 (by omega)];omega
  have e1:wrap64 (((i+n:Nat):Int) - 1)=((i+n:Nat):Int) - 1:=w64 (by omega);have e2:wrap64 ((((i+n:Nat):Int) - 1)+1)=((i+n:Nat):Int):=by rw [w64 (by omega)];omega
  by_cases h1:c=8232∨c=8233
  rotate_left
  ·have he:esc s i c n=bytesOf (s.extract i (i+n)):=by
    unfold esc;rw [if_neg (by omega),if_neg (by omega),if_neg (by omega),if_neg (by omega),if_neg (by omega),if_neg (by omega),if_neg (by omega),if_neg h1]
   have len:x0.length+(s.extract i (i+n)).size<140737488355328:=by rw [ext_size s i n hf];omega
   rw [he];simp only [j1a.j2,e0,e1,e2,Int.toNat_natCast];rw [if_neg zq24,if_neg (by omega),if_neg (by omega),if_pos (by omega),if_pos (by omega),if_pos (by omega),if_pos len]
  have he:esc s i c n=[92,117,50,48,50,hexd (c % 16)]:=by
   unfold esc;rw [if_neg (by omega),if_neg (by omega),if_neg (by omega),if_neg (by omega),if_neg (by omega),if_neg (by omega),if_neg (by omega),if_pos h1]
  have ha:=and15b _ (nat_in2 h1);have hm:c % 16<16:=Nat.mod_lt _ zq24
  have len:(x0++bytesOf (⟨#[92,117,50,48,50]⟩:ByteArray)).length<140737488355328:=by
   rw [List.length_append]
   change x0.length+5<_
   omega
  have fin:(x0++bytesOf (⟨#[92,117,50,48,50]⟩:ByteArray))++[hexd (c % 16)]=x0++[92,117,50,48,50,hexd (c % 16)]:=by
   rw [List.append_assoc];rfl
  rw [he,← fin];simp only [j1a.j2,e0,e1,e2,ha,Option.bind_some];rw [if_neg zq24];rcases h1 with e|e
  ·rw [if_pos (by omega),if_pos (by omega),if_pos (by omega),if_pos (by omega),if_pos len];rfl
  rw [if_neg (by omega),if_pos (by omega),if_pos (by omega),if_pos (by omega),if_pos (by omega),if_pos len];rfl
 obtain ⟨rfl,rfl⟩:=hc.low hb;have ew:wrap64 ((i:Int)+1)=((i+1:Nat):Int):=by rw [w64 (by omega)];omega
 by_cases h32:nb s i<32
 ·have short:∀ l:Int,esc s i (nb s i) 1=[92,l]→(∀ k,j1a.l0 (k+1) x0 s (i:Int)=j1a.l0 k (x0++[92]++[l]) s ((i+1:Nat):Int))→Ev (fun k=>j1a.l0 k x0 s (i:Int)) r:=fun l he h1=>by
   refine Ev.step h1 ?_;rw [he] at h
   simpa using h
  have start:∀ k,j1a.l0 (k+1) x0 s (i:Int)=_:=fun k=>by
   simp only [j1a.l0,nb_bt,ew];rw [if_pos (by omega),if_pos (by omega),if_pos (by omega),if_pos (by omega)]
  have len:(x0++[92]).length<140737488355328:=by simp;omega
  by_cases h8:nb s i=8
  ·refine short 98 (by simp [esc,h8]) fun k=>?_
   rw [start,Option.bind_some,if_pos (by omega),if_pos len]
  by_cases h12:nb s i=12
  ·refine short 102 (by simp [esc,h12]) fun k=>?_
   rw [start,Option.bind_some,if_neg (by omega),if_pos (by omega),if_pos len]
  by_cases h10:nb s i=10
  ·refine short 110 (by simp [esc,h10]) fun k=>?_
   rw [start,Option.bind_some,if_neg (by omega),if_neg (by omega),if_pos (by omega),if_pos len]
  by_cases h13:nb s i=13
  ·refine short 114 (by simp [esc,h13]) fun k=>?_
   rw [start,Option.bind_some,if_neg (by omega),if_neg (by omega),if_neg (by omega),if_pos (by omega),if_pos len]
  by_cases h9:nb s i=9
  ·refine short 116 (by simp [esc,h9]) fun k=>?_
   rw [start,Option.bind_some,if_neg (by omega),if_neg (by omega),if_neg (by omega),if_neg (by omega),if_pos (by omega),if_pos len]
  refine Ev.step (fun k=>?_) h
  have he:esc s i (nb s i) 1=[92,117,48,48,hexd (nb s i / 16),hexd (nb s i % 16)]:=by
   unfold esc;rw [if_neg (by omega),if_neg h8,if_neg h12,if_neg h10,if_neg h13,if_neg h9,if_pos (by omega)]
  rw [start,Option.bind_some,if_neg (by omega),if_neg (by omega),if_neg (by omega),if_neg (by omega),if_neg (by omega),if_pos len,hex16 (.inl h32) _ (by simp;omega),he];simp
 have fore:∀ b:Bool,(nb s i=38∨nb s i=60∨nb s i=62↔b=true)→Ev (fun k=>j1a.j1 k x0 s (i:Int) b) r→Ev (fun k=>j1a.l0 k x0 s (i:Int)) r:=fun b hbb h1=>by
  refine Ev.step (fun k=>?_) h1;simp only [j1a.l0,nb_bt];rw [if_pos (by omega),if_pos (by omega),if_neg (by omega)];by_cases h62:nb s i=62
  ·rw [if_pos (by omega),hbb.1 (by omega)]
  rw [if_neg (by omega)];by_cases h60:nb s i=60
  ·rw [if_pos (by omega),hbb.1 (by omega)]
  rw [if_neg (by omega)]
  congr 1
  cases b with
  | true=>have:=hbb.2 rfl;simp;omega
  | false =>
   have h386062:¬ (nb s i=38∨nb s i=60∨nb s i=62):=fun e=>(by simpa using hbb.1 e)
   simp;omega
 by_cases hm:nb s i=38∨nb s i=60∨nb s i=62
 ·have he:esc s i (nb s i) 1=[92,117,48,48,hexd (nb s i / 16),hexd (nb s i % 16)]:=by
   unfold esc;rw [if_neg (by omega),if_neg (by omega),if_neg (by omega),if_neg (by omega),if_neg (by omega),if_neg (by omega),if_pos (by omega)]
  refine fore true (by simpa using hm) (Ev.step (fun k=>?_) h);simp only [j1a.j1,j2f.f,nb_bt,Option.bind_some,ew];rw [if_pos trivial,if_pos trivial,if_pos (by simp;omega),if_pos (by omega),if_pos (by omega),hex16 (.inr hm) _ (by simp;omega),he];simp
 refine fore false (by simpa using hm) (Ev.step (fun k=>?_) h);simp only [j1a.j1,nb_bt,Option.bind_some,ew];rw [if_neg zq24,if_pos (by omega),if_pos (by omega)];by_cases h92:nb s i=92
 ·rw [if_pos (by omega),if_pos (by simp;omega),show esc s i (nb s i) 1=[92,92] by simp [esc,h92]]
 rw [if_neg (by omega)];by_cases h34:nb s i=34
 ·rw [if_pos (by omega),if_pos (by simp;omega),show esc s i (nb s i) 1=[92,34] by simp [esc,h34]]
 have he:esc s i (nb s i) 1=[(nb s i:Int)]:=by
  unfold esc;rw [if_neg (by omega),if_neg (by omega),if_neg (by omega),if_neg (by omega),if_neg (by omega),if_neg (by omega),if_neg (by omega),if_neg (by omega),ext_one s i hi]
 rw [if_neg (by omega),if_neg (by omega),if_pos (by omega),he]
def hv (d : Int):Int:=if d<58 then d - 48 else d - 87
def unl (b : Int):Int:=if b=98 then 8 else if b=102 then 12 else if b=110 then 10 else if b=114 then 13 else if b=116 then 9 else b
theorem chr_bytes {s : ByteArray} {i c n:Nat} (hc:Chr s i c n) (h:128≤nb s i):∀ j,j<n→128≤nb s (i+j):=by
 have hd:=hc.dec;have h2:=(hc.high h).2;rw [Lib.decode_at] at hd
 change Lib.decodeN (s.size - i) (nb s i) (nb s (i+1)) (nb s (i+2)) (nb s (i+3))=_ at hd
 unfold Lib.decodeN at hd;rw [if_neg (by omega)] at hd;intro j hj;have hj4:j=0∨j=1∨j=2∨j=3:=by have:=hc.top.2;omega
 split at hd
 ·split at hd
  ·injection hd with e1 e2
   rcases hj4 with rfl|rfl|rfl|rfl<;>first|exact h|omega
  ·injection hd with e1 e2
   omega
 ·split at hd
  ·split at hd
   ·injection hd with e1 e2
    rcases hj4 with rfl|rfl|rfl|rfl<;>first|exact h|omega
   ·injection hd with e1 e2
    omega
  ·split at hd
   ·split at hd
    ·injection hd with e1 e2
     rcases hj4 with rfl|rfl|rfl|rfl<;>first|exact h|omega
    ·injection hd with e1 e2
     omega
   ·injection hd with e1 e2
    omega
theorem ext_list (s : ByteArray) (i n:Nat) (h:i+n≤s.size):bytesOf (s.extract i (i+n))=(List.range n).map fun j=>(nb s (i+j):Int):=by
 have hl:(bytesOf (s.extract i (i+n))).length=n:=by rw [bytesOf_length,ext_size s i n h]
 refine List.ext_getElem (by simp [hl]) fun j h1 h2=>?_
 have hj:j<n:=by omega
 have h3:rd (bytesOf (s.extract i (i+n))) (j:Int)=bt s ((i+j:Nat):Int):=by
  rw [rd_bytesOf];unfold bt;simp only [Int.toNat_natCast];rw [dif_pos (by rw [ext_size s i n h];exact hj),dif_pos (by omega)];simp [ByteArray.getElem_extract]
 rw [nb_bt] at h3;simp only [List.getElem_map,List.getElem_range];rw [← h3];simp [rd,h1]
theorem esc_least {s : ByteArray} {i c n:Nat} (hc:Chr s i c n):n≤(esc s i c n).length∧(esc s i c n).length≤6*n:=by
 have hf:=hc.fit;have ht:=hc.top;have hp:=hc.pos
 have h1:c<128→n=1:=fun h=>by
  by_cases hb:nb s i<128
  ·exact (hc.low hb).2
  have:=(hc.high (by omega)).1;omega
 unfold esc
 repeat' split
 all_goals first|(rw [bytesOf_length,ext_size s i n hf];omega)|(simp only [List.length_cons,List.length_nil];omega)
theorem esc_range (s : ByteArray) (i c n:Nat):∀ a ∈ esc s i c n,0≤a∧a≤255:=by
 intro a ha;have hx:∀ n:Nat,0≤hexd n∧hexd n≤255:=fun n=>bt_range _ _
 have h1:=hx (c / 16);have h2:=hx (c % 16);unfold esc at ha
 repeat' split at ha
 all_goals first
  | (simp only [List.mem_cons,List.not_mem_nil,or_false] at ha;rcases ha with rfl|rfl|rfl|rfl|rfl|rfl<;>omega)
  | (simp only [List.mem_cons,List.not_mem_nil,or_false] at ha;rcases ha with rfl|rfl<;>omega)
  | (simp only [bytesOf,List.mem_map] at ha;obtain ⟨b,_,rfl⟩:=ha;have:=b.toNat_lt;omega)
end Go.Proofs.YtchhndbekjgimaaDoor.U
end
section
namespace Go.Proofs.YtchhndbekjgimaaDoor.U
open Go.RowKit Go.Proofs.YtchhndbekjgimaaDoor.H Go.Proofs.YtchhndbekjgimaaDoorW.PrintWords Go.Proofs.YtchhndbekjgimaaDoorW.PrintLast
open J (Body unqL hexv hex4 isE utf hiS loS)
theorem hexv_hexd : ∀ n:Fin 16,hexv (hexd n.val)=some (n.val:Int):=by decide
theorem append_ev {s : ByteArray} (hs:s.size≤4096) {L:List Int} (h:Ev (fun k=>j1a.l0 k [34] s ((0:Nat):Int)) L):Ev (fun k=>j1a.f k [] s) L:=by
 refine Ev.congr (fun k=>?_) h;have e0:wrap64 ((s.size:Int)+2)=((s.size+2:Nat):Int):=by rw [w64 (by omega)];omega
 have e1:wrap64 (((s.size+2:Nat):Int) - (s.size:Int))=2:=by rw [w64 (by omega)];omega
 have e2:wrap64 ((2:Int) - 2)=0:=w64 (by omega);simp only [j1a.f,e0,Int.toNat_natCast,List.nil_append,Option.bind_some,List.length_replicate,e1,e2];rw [if_pos (by omega),if_pos (by simp;omega),if_pos zq24,if_pos (by omega),if_pos (by simp)];rfl
end Go.Proofs.YtchhndbekjgimaaDoor.U
end
section
namespace Go.Proofs.YtchhndbekjgimaaDoor.J
open Go.RowKit Go.Proofs.YtchhndbekjgimaaDoor.H Go.Proofs.YtchhndbekjgimaaDoor.U Go.Proofs.YtchhndbekjgimaaDoorW.PrintWords Go.Proofs.YtchhndbekjgimaaDoorW.PrintLast
set_option linter.unusedVariables false
set_option linter.unusedSimpArgs false

theorem hiS_eq (c : Int):hiS c=true↔55296≤c∧c≤56319:=by unfold hiS;simp
theorem loS_eq (c : Int):loS c=true↔56320≤c∧c≤57343:=by unfold loS;simp
inductive Pc : List Int→List Int→Prop
  | raw {p:List Int}:(∀ x ∈ p,32≤x∧x≠34∧x≠92)→Pc p p
  | two {d:Int}:isE d=true→Pc [92,d] [unl d]
  | six {a b c d v:Int}:hex4 [a,b,c,d]=some v→¬ (55296≤v∧v≤57343)→Pc [92,117,a,b,c,d] (utf v)
  | pair {a b c d v e f g h m:Int}:hex4 [a,b,c,d]=some v→hex4 [e,f,g,h]=some m→55296≤v→v≤56319→56320≤m→m≤57343→Pc [92,117,a,b,c,d,92,117,e,f,g,h] (utf (65536+(v - 55296)*1024+(m - 56320)))
inductive DB : List Int→List Int→Prop
  | nil:DB [] []
  | cons {p x t u:List Int}:Pc p x→DB t u→DB (p++t) (x++u)
theorem gU_raw {c : Int} (l:List Int) (h1:c≠92) (h2:¬ c<32):gU (c :: l)=(gU l).map (c :: ·):=by
 match l with
 | [] =>
  rw [gU_nil,gU,if_neg (by omega)];rfl
 | d :: r=>rw [gU,if_neg h1,if_neg h2]
theorem gU_raws : ∀ (p l:List Int),(∀ x ∈ p,32≤x∧x≠34∧x≠92)→gU (p++l)=(gU l).map (p ++ ·)
 | [],l,_=>by simp
 | c :: p,l,h=>by
  have h1:=h c (by simp);rw [List.cons_append,gU_raw _ h1.2.2 (by omega),gU_raws p l fun x hx=>h x (by simp [hx]),Option.map_map];rfl
theorem eB_utf {c : Int}:eB c=utf c:=by
 unfold eB utf;split
 ·rfl
 split
 ·rfl
 by_cases h:55296≤c∧c≤57343
 ·have h':hiS c=true∨loS c=true:=by rw [hiS_eq,loS_eq];omega
  rw [if_pos h,if_pos h']
 have h':¬ (hiS c=true∨loS c=true):=by rw [hiS_eq,loS_eq];omega
 rw [if_neg h,if_neg h']
theorem gU_db {t u : List Int} (h:DB t u) (r:List Int):gU (t++r)=(gU r).map (u ++ ·):=by
 induction h with
 | nil=>simp
 | @cons p x t u hp _ ih =>
  have hm:(gU r).map ((x++u) ++ ·)=((gU r).map (u ++ ·)).map (x ++ ·):=by
   rw [Option.map_map]
   congr 1
   funext z
   simp [Function.comp]
  rw [List.append_assoc,hm,← ih];cases hp with
  | raw h1=>exact gU_raws _ _ h1
  | two h1 =>
   rw [List.cons_append,List.cons_append,List.nil_append,gU,if_pos rfl,if_pos h1];rfl
  | six h1 h2 =>
   simp only [List.cons_append,List.nil_append];rw [gU,if_pos rfl,if_neg (by rw [isE_117];decide),if_pos rfl,hex4_more _ [],h1];simp only;rw [if_neg (by omega),eB_utf];rfl
  | @pair a b c d v e f g h m h1 h2 h3 h4 h5 h6 =>
   simp only [List.cons_append,List.nil_append];rw [gU,if_pos rfl,if_neg (by rw [isE_117];decide),if_pos rfl,hex4_more _ [],h1];simp only
   have hu:unitL (List.drop 4 (a :: b :: c :: d :: 92 :: 117 :: e :: f :: g :: h :: (t++r)))=some m:=by
    simp only [List.drop_succ_cons,List.drop_zero];exact unitL_six ((hex4_more _ []).trans h2)
   rw [if_pos (by omega),hu];simp only;rw [if_pos (by omega),eB_utf];rfl
theorem gunescape_eq {s t u:ByteArray} (hz:t.size≤2147483647) (h:DB (bytesOf t) (bytesOf u)):j1q.f t=some u:=by
 unfold j1q.f;rw [if_pos hz];have:=gU_db h [];rw [List.append_nil,gU_nil] at this;rw [this];simp only [Option.map_some,List.append_nil];rw [strOfNums_bytesOf]
def rn (s : ByteArray):Nat→Nat
  | 0=>0
  | i+1=>if nb s i=92 then rn s i+1 else 0
theorem rn_no {s : ByteArray} {i:Nat} (h:nb s i≠92):rn s (i+1)=0:=by
 unfold rn;rw [if_neg h]
section
variable {s : ByteArray} (hs:s.size≤2147483647)
include hs
theorem wi {i : Nat} (h:i<s.size):wrap64 ((i:Int)+1)=((i+1:Nat):Int):=by unfold wrap64;omega
theorem l2_go {i : Nat} (hi:i<s.size) (h1:1≤i) {R:ByteArray × ByteArray}:∀ (j n:Nat),j<s.size→n+j≤4294967296→nb s 0≠92 →
 ((n+rn s (j+1)) % 2=0→Ev (fun k=>j1c.l1 k s ((i+1:Nat):Int)) R)→((n+rn s (j+1)) % 2=1→∃ u,j1q.f (s.extract 1 i)=some u∧R=(s.extract 0 (i+1),u)) →
 Ev (fun k=>j1c.l2 k s i n j) R:=by
 have hfin:∀ (n:Nat),(n % 2=0→Ev (fun k=>j1c.l1 k s ((i+1:Nat):Int)) R)→(n % 2=1→∃ u,j1q.f (s.extract 1 i)=some u∧R=(s.extract 0 (i+1),u)) →
  Ev (fun k=>if (Int.tmod (n:Int) 2)=0 then (j1c.l1 k s (wrap64 ((i:Int)+1))) else (if 0≤(wrap64 ((i:Int)+1)) then (if (wrap64 ((i:Int)+1))≤(s.size:Int) then (if 1≤(i:Int) then (if (i:Int)≤(s.size:Int) then ((j1q.f (s.extract 1 (i:Int).toNat)).bind fun t104=>(some (s.extract 0 ((wrap64 ((i:Int)+1)):Int).toNat,t104))) else (none)) else (none)) else (none)) else (none))) R:=by
  intro n hE hO;have hm:Int.tmod (n:Int) 2=(n:Int) % 2:=Int.tmod_eq_emod_of_nonneg (by omega);rw [hm,wi hs hi];by_cases hz:n % 2=0
  ·exact Ev.congr (fun _=>if_pos (by omega)) (hE hz)
  obtain ⟨u,e1,rfl⟩:=hO (by omega);refine Ev.congr (fun _=>?_) (Ev.now _);rw [if_neg (by omega),if_pos (by omega),if_pos (by omega),if_pos (by omega),if_pos (by omega),Int.toNat_natCast,Int.toNat_natCast,e1];rfl
 intro j
 induction j with
 | zero =>
  intro n hj hn h0 hE hO
  have e:rn s (0+1)=0:=by
   unfold rn;rw [if_neg h0]
  rw [e] at hE hO;refine Ev.step (fun k=>?_) (hfin n hE hO);simp only [j1c.l2];rw [if_neg (by omega)]
 | succ j ih =>
  intro n hj hn h0 hE hO;have hb:bt s ((j+1:Nat):Int)=(nb s (j+1):Int):=nb_bt s _;by_cases hc:nb s (j+1)=92
  rotate_left
  ·have e:rn s (j+1+1)=0:=by
    conv=>lhs;unfold rn
    rw [if_neg hc]
   rw [e] at hE hO;refine Ev.step (fun k=>?_) (hfin n hE hO);simp only [j1c.l2];rw [if_pos (by omega),if_pos (by omega),if_pos (by omega),hb,if_neg (by omega)]
  have e:rn s (j+1+1)=rn s (j+1)+1:=by
   conv=>lhs;unfold rn
   rw [if_pos hc]
  rw [e] at hE hO;have:=ih (n+1) (by omega) (by omega) h0 (fun h=>hE (by omega)) (fun h=>hO (by omega));refine Ev.step (fun k=>?_) this;simp only [j1c.l2];rw [if_pos (by omega),if_pos (by omega),if_pos (by omega),hb,if_pos (by omega)];rw [show wrap64 ((n:Int)+1)=((n+1:Nat):Int) by unfold wrap64;omega,show wrap64 (((j+1:Nat):Int) - 1)=(j:Int) by unfold wrap64;omega]
theorem l1_go {e : Nat} (he:e<s.size) (h1:1≤e) (h0:nb s 0≠92) (hq:nb s e=34) (hv:rn s e % 2=0) {u:ByteArray} (hu:j1q.f (s.extract 1 e)=some u) :
 ∀ (d i:Nat),e=i+d→1≤i→(∀ j,i≤j→j<e→nb s j=34→rn s j % 2=1)→Ev (fun k=>j1c.l1 k s i) (s.extract 0 (e+1),u):=by
 have rnp:∀ i,1≤i→nb s (i - 1)=92→rn s i=rn s (i - 1)+1∧2≤i:=by
  intro i hi hb;obtain ⟨i,rfl⟩:∃ m,i=m+1:=⟨i - 1,by omega⟩;simp only [Nat.add_sub_cancel] at hb ⊢
  have hrn:rn s (i+1)=rn s i+1:=by
   conv=>lhs;unfold rn
   rw [if_pos hb]
  refine ⟨hrn,?_⟩;rcases Nat.eq_zero_or_pos i with h|h
  ·subst h;exact absurd hb h0
  ·omega
 have rnz:∀ i,1≤i→nb s (i - 1)≠92→rn s i=0:=by
  intro i hi hb;obtain ⟨i,rfl⟩:∃ m,i=m+1:=⟨i - 1,by omega⟩;simp only [Nat.add_sub_cancel] at hb;unfold rn;rw [if_neg hb]
 intro d
 induction d with
 | zero =>
  intro i hi hi1 _;obtain rfl:e=i:=by omega
  have hb:bt s (e:Int)=(nb s e:Int):=nb_bt s _;have hb1:bt s (((e - 1:Nat):Int))=(nb s (e - 1):Int):=nb_bt s _;have w1:wrap64 ((e:Int) - 1)=((e - 1:Nat):Int):=by unfold wrap64;omega
  by_cases hc:nb s (e - 1)=92
  rotate_left
  ·refine Ev.step (f:=fun _=>some (s.extract 0 (e+1),u)) (fun k=>?_) (Ev.now _);simp only [j1c.l1];rw [if_pos (by omega),if_pos (by omega),hb,if_neg (by omega),if_pos (by omega),w1,if_pos (by omega),if_pos (by omega),hb1,if_neg (by omega),wi hs he,if_pos (by omega),if_pos (by omega),if_pos (by omega),if_pos (by omega),Int.toNat_natCast,Int.toNat_natCast,hu];rfl
  obtain ⟨r1,r2⟩:=rnp e hi1 hc;have w2:wrap64 ((e:Int) - 2)=((e - 2:Nat):Int):=by unfold wrap64;omega
  have hl:=l2_go hs he hi1 (R:=(s.extract 0 (e+1),u)) (e - 2) 0 (by omega) (by omega) h0 (fun h=>by rw [show e - 2+1=e - 1 by omega] at h;omega) (fun _=>⟨u,hu,rfl⟩);refine Ev.step (fun k=>?_) hl;simp only [j1c.l1];rw [if_pos (by omega),if_pos (by omega),hb,if_neg (by omega),if_pos (by omega),w1,if_pos (by omega),if_pos (by omega),hb1,if_pos (by omega),w2];rfl
 | succ d ih =>
  intro i hi hi1 hall;have hlt:i<s.size:=by omega
  have next:=ih (i+1) (by omega) (by omega) (fun j hj hj2=>hall j (by omega) hj2);have hb:bt s (i:Int)=(nb s i:Int):=nb_bt s _;by_cases c1:nb s i>92
  ·refine Ev.step (fun k=>?_) next;simp only [j1c.l1];rw [if_pos (by omega),if_pos (by omega),hb,if_pos (by omega),wi hs hlt]
  by_cases c2:nb s i=34
  rotate_left
  ·refine Ev.step (fun k=>?_) next;simp only [j1c.l1];rw [if_pos (by omega),if_pos (by omega),hb,if_neg (by omega),if_neg (by omega),wi hs hlt]
  have hodd:=hall i (Nat.le_refl _) (by omega) c2;have hb1:bt s (((i - 1:Nat):Int))=(nb s (i - 1):Int):=nb_bt s _;have w1:wrap64 ((i:Int) - 1)=((i - 1:Nat):Int):=by unfold wrap64;omega
  have hc:nb s (i - 1)=92:=by
   by_cases hc:nb s (i - 1)=92
   ·exact hc
   rw [rnz i hi1 hc] at hodd;omega
  obtain ⟨r1,r2⟩:=rnp i hi1 hc;have w2:wrap64 ((i:Int) - 2)=((i - 2:Nat):Int):=by unfold wrap64;omega
  have hl:=l2_go hs hlt hi1 (R:=(s.extract 0 (e+1),u)) (i - 2) 0 (by omega) (by omega) h0 (fun _=>next) (fun h=>by rw [show i - 2+1=i - 1 by omega] at h;omega);refine Ev.step (fun k=>?_) hl;simp only [j1c.l1];rw [if_pos (by omega),if_pos (by omega),hb,if_neg (by omega),if_pos (by omega),w1,if_pos (by omega),if_pos (by omega),hb1,if_pos (by omega),w2];rfl
theorem l0_go {e : Nat} (he:e<s.size) (h0:nb s 0≠92) (hq:nb s e=34) (hv:rn s e % 2=0) {u:ByteArray} (hu:j1q.f (s.extract 1 e)=some u)
 (hraw:(∀ j,1≤j→j<e→nb s j≠92)→s.extract 1 e=u) (hodd:∀ j,1≤j→j<e→nb s j=34→rn s j % 2=1) :
 ∀ (d i:Nat),e=i+d→1≤i→(∀ j,1≤j→j<i→nb s j≠92)→rn s i=0→Ev (fun k=>j1c.l0 k s i) (s.extract 0 (e+1),u):=by
 intro d
 induction d with
 | zero =>
  intro i hi hi1 hno _;obtain rfl:e=i:=by omega
  have hb:bt s (e:Int)=(nb s e:Int):=nb_bt s _;refine Ev.step (f:=fun _=>some (s.extract 0 (e+1),u)) (fun k=>?_) (Ev.now _);simp only [j1c.l0];rw [if_pos (by omega),if_pos (by omega),hb,if_neg (by omega),if_pos (by omega),wi hs he,if_pos (by omega),if_pos (by omega),if_pos (by omega),if_pos (by omega),Int.toNat_natCast,Int.toNat_natCast,hraw hno]
 | succ d ih =>
  intro i hi hi1 hno hr;have hlt:i<s.size:=by omega
  have hb:bt s (i:Int)=(nb s i:Int):=nb_bt s _
  have c2:nb s i≠34:=fun c=>by
   have:=hodd i hi1 (by omega) c;omega
  by_cases c3:nb s i=92
  ·have:=l1_go hs he (by omega) h0 hq hv hu d (i+1) (by omega) (by omega) (fun j hj hj2=>hodd j (by omega) hj2);refine Ev.step (fun k=>?_) this;simp only [j1c.l0];rw [if_pos (by omega),if_pos (by omega),hb,if_neg (by omega),if_neg (by omega),if_pos (by omega),wi hs hlt]
  have next:=ih (i+1) (by omega) (by omega) (fun j hj hj2=>by
   by_cases hji:j=i
   ·subst hji;exact c3
   exact hno j hj (by omega)) (by unfold rn;rw [if_neg c3])
  by_cases c1:nb s i>92
  ·refine Ev.step (fun k=>?_) next;simp only [j1c.l0];rw [if_pos (by omega),if_pos (by omega),hb,if_pos (by omega),wi hs hlt]
  refine Ev.step (fun k=>?_) next;simp only [j1c.l0];rw [if_pos (by omega),if_pos (by omega),hb,if_neg (by omega),if_neg (by omega),if_neg (by omega),wi hs hlt]
end
theorem From.nb {s : ByteArray} {i:Nat} {a:Int} {l:List Int} (h:From s i (a :: l)):(nb s i:Int)=a:=by
 rw [← nb_bt];exact h.bt
theorem rn_raw {s : ByteArray}:∀ (p r:List Int) (i:Nat),From s i (p++r)→(∀ x ∈ p,32≤x∧x≠34∧x≠92)→rn s i % 2=0→(∀ j,i≤j→j<i+p.length→nb s j=34→rn s j % 2=1)∧rn s (i+p.length) % 2=0
 | [],r,i,_,_,h=>⟨fun j h1 h2=>(by simp at h2;omega),by simpa using h⟩
 | c :: p,r,i,hF,hp,h=>by
  have hc:=hp c (by simp);have hn:(nb s i:Int)=c:=From.nb hF;have ih:=rn_raw p r (i+1) hF.tail (fun x hx=>hp x (by simp [hx])) (by unfold rn;rw [if_neg (by omega)]);refine ⟨fun j h1 h2 h3=>?_,?_⟩
  ·by_cases hji:j=i
   ·subst hji;omega
   exact ih.1 j (by omega) (by simp at h2;omega) h3
  ·have:=ih.2
   rwa [show i+(c :: p).length=i+1+p.length by simp;omega]
theorem hexv_no {c v : Int} (h:hexv c=some v):c≠34∧c≠92:=by
 unfold hexv at h
 refine ⟨fun e=>?_,fun e=>?_⟩<;>(subst e;simp at h)
theorem rn_six {s : ByteArray} {a b c d v:Int} {i:Nat} {r:List Int} (hF:From s i ([92,117,a,b,c,d]++r)) (hx:hex4 [a,b,c,d]=some v) :
 (∀ j,i≤j→j<i+6→nb s j=34→rn s j % 2=1)∧rn s (i+6) % 2=0:=by
 unfold hex4 at hx;obtain ⟨x,hx1,hx⟩:=Option.bind_eq_some_iff.mp hx;obtain ⟨y,hy1,hx⟩:=Option.bind_eq_some_iff.mp hx;obtain ⟨z,hz1,hx⟩:=Option.bind_eq_some_iff.mp hx;obtain ⟨w,hw1,hx⟩:=Option.bind_eq_some_iff.mp hx;have a1:=hexv_no hx1;have a2:=hexv_no hy1;have a3:=hexv_no hz1;have a4:=hexv_no hw1;have f0:From s i (92 :: 117 :: a :: b :: c :: d :: r):=hF;have n0:=From.nb f0;have n1:=From.nb f0.tail;have n2:=From.nb f0.tail.tail;have n3:=From.nb f0.tail.tail.tail;have n4:=From.nb f0.tail.tail.tail.tail;have n5:=From.nb f0.tail.tail.tail.tail.tail;refine ⟨fun j h1 h2 h3=>?_,?_⟩
 ·have hj:j=i∨j=i+1∨j=i+1+1∨j=i+1+1+1∨j=i+1+1+1+1∨j=i+1+1+1+1+1:=by omega
  rcases hj with rfl|rfl|rfl|rfl|rfl|rfl<;>omega
 ·show rn s (i+1+1+1+1+1+1) % 2=0
  rw [rn_no (i:=i+1+1+1+1+1) (by omega)]
theorem rn_db {s : ByteArray} {t u:List Int} (h:DB t u):∀ (r:List Int) (i:Nat),From s i (t++r)→rn s i % 2=0→(∀ j,i≤j→j<i+t.length→nb s j=34→rn s j % 2=1)∧rn s (i+t.length) % 2=0:=by
 induction h with
 | nil=>exact fun r i _ h=>⟨fun j h1 h2=>(by simp at h2;omega),by simpa using h⟩
 | @cons p x t u hp _ ih =>
  intro r i hF h;rw [List.append_assoc] at hF
  have key:(∀ j,i≤j→j<i+p.length→nb s j=34→rn s j % 2=1)∧rn s (i+p.length) % 2=0:=by
   cases hp with
   | raw h1=>exact rn_raw _ _ i hF h1 h
   | @two d h1 =>
    have f0:From s i (92 :: d :: (t++r)):=hF;have n0:=From.nb f0;have n1:=From.nb f0.tail
    have r1:rn s (i+1)=rn s i+1:=by
     conv=>lhs;unfold rn
     rw [if_pos (by omega)]
    refine ⟨fun j h1 h2 h3=>?_,?_⟩
    ·simp only [List.length_cons,List.length_nil] at h2;have hj:j=i∨j=i+1:=by omega
     rcases hj with rfl|rfl<;>omega
    ·show rn s (i+1+1) % 2=0
     conv=>lhs;lhs;unfold rn
     split
     ·omega
     ·rfl
   | six h1 h2=>exact rn_six hF h1
   | @pair a b c d v e f g h' m h1 h2 h3 h4 h5 h6 =>
    have e0:[92,117,a,b,c,d,92,117,e,f,g,h']++(t++r)=[92,117,a,b,c,d]++([92,117,e,f,g,h']++(t++r)):=rfl;rw [e0] at hF;have k1:=rn_six hF h1;have k2:=rn_six (From.app hF) h2;refine ⟨fun j q1 q2 q3=>?_,k2.2⟩;simp only [List.length_cons,List.length_nil] at q2 k2;by_cases hj:j<i+6
    ·exact k1.1 j q1 hj q3
    exact k2.1 j (by omega) (by omega) q3
  have hA:From s (i+p.length) (t++r):=hF.app;have k:=ih r (i+p.length) hA key.2;rw [List.length_append];refine ⟨fun j h1 h2 h3=>?_,by rw [← Nat.add_assoc];exact k.2⟩;by_cases hj:j<i+p.length
  ·exact key.1 j h1 hj h3
  exact k.1 j (by omega) (by omega) h3
theorem db_raw {t u : List Int} (h:DB t u) (hno:∀ x ∈ t,x≠92):t=u:=by
 induction h with
 | nil=>rfl
 | @cons p x t u hp _ ih =>
  have:=ih (fun x hx=>hno x (by simp [hx]));subst this;cases hp with
  | raw h1=>rfl
  | two h1=>exact absurd rfl (hno 92 (by simp))
  | six h1 h2=>exact absurd rfl (hno 92 (by simp))
  | pair h1 h2 h3 h4 h5 h6=>exact absurd rfl (hno 92 (by simp))
theorem bytes_app (s t : ByteArray):bytesOf (s++t)=bytesOf s++bytesOf t:=by
 unfold bytesOf;rw [ByteArray.data_append,Array.toList_append,List.map_append]
theorem tostr_eq {s u : ByteArray} (hs:s.size≤2147483647) {t r:List Int} (e:bytesOf s=34 :: (t++34 :: r)) (h:DB t (bytesOf u)) :
 Ev (fun k=>j1c.f k s) (s.extract 0 (t.length+2),u):=by
 have hF0:=From.start s;rw [e] at hF0;have n0:=From.nb hF0;have r1:rn s 1=0:=rn_no (i:=0) (by omega);have hF1:From s 1 (t++34 :: r):=hF0.tail;have hk:=rn_db h (34 :: r) 1 hF1 (by omega);have hE:=hF1.app;have nE:=From.nb hE;have hlt:=hE.lt;have hx:bytesOf (s.extract 1 (1+t.length))=t:=hF1.extract;have hu:j1q.f (s.extract 1 (1+t.length))=some u:=gunescape_eq (s:=s) (by rw [ByteArray.size_extract];omega) (by rw [hx];exact h)
 have hg:=l0_go hs (e:=1+t.length) hlt (by omega) (by omega) hk.2 hu (fun hno=>bytesOf_inj (by
  rw [hx];refine db_raw h fun x hx'=>?_
  obtain ⟨j,hj,rfl⟩:=List.mem_iff_getElem.mp hx';have hFj:=hF1.drop j (by simp;omega);rw [List.drop_append_of_le_length (by omega),List.drop_eq_getElem_cons hj] at hFj;have:=From.nb hFj;have:=hno (1+j) (by omega) (by omega)
  omega)) hk.1 t.length 1 (by omega) (Nat.le_refl _) (fun j h1 h2=>(by omega)) r1
 rw [show 1+t.length+1=t.length+2 by omega] at hg;exact hg
theorem hexv_hexd' (n : Nat) (h:n<16):hexv (hexd n)=some (n:Int):=hexv_hexd ⟨n,h⟩
theorem esc_pc {s : ByteArray} {i c n:Nat} (hi:i<s.size) (hc:Chr s i c n):Pc (esc s i c n) (bytesOf (s.extract i (i+n))):=by
 by_cases hb:nb s i<128
 ·obtain ⟨rfl,rfl⟩:=hc.low hb;rw [ext_one s i hi]
  have letter:∀ l:Int,esc s i (nb s i) 1=[92,l]→isE l=true→J.unl l=(nb s i:Int)→Pc (esc s i (nb s i) 1) [(nb s i:Int)]:=fun l he h1 h2=>by
   rw [he,← h2];exact .two h1
  by_cases h1:nb s i=34∨nb s i=92
  ·exact letter _ (by unfold esc;rw [if_pos h1]) (by rcases h1 with e|e<;>rw [e]<;>decide) (by rcases h1 with e|e<;>rw [e]<;>decide)
  by_cases h8:nb s i=8
  ·exact letter 98 (by simp [esc,h8]) zq24 (by rw [h8];decide)
  by_cases h12:nb s i=12
  ·exact letter 102 (by simp [esc,h12]) zq24 (by rw [h12];decide)
  by_cases h10:nb s i=10
  ·exact letter 110 (by simp [esc,h10]) zq24 (by rw [h10];decide)
  by_cases h13:nb s i=13
  ·exact letter 114 (by simp [esc,h13]) zq24 (by rw [h13];decide)
  by_cases h9:nb s i=9
  ·exact letter 116 (by simp [esc,h9]) zq24 (by rw [h9];decide)
  unfold esc;rw [if_neg h1,if_neg h8,if_neg h12,if_neg h10,if_neg h13,if_neg h9];by_cases hx:nb s i<32∨nb s i=38∨nb s i=60∨nb s i=62
  rotate_left
  ·rw [if_neg hx,if_neg (by omega),ext_one s i hi];exact .raw (by simp;omega)
  rw [if_pos hx]
  have e4:hex4 [48,48,hexd (nb s i / 16),hexd (nb s i % 16)]=some (nb s i:Int):=by
   simp only [hex4,hexv_hexd' (nb s i / 16) (by omega),hexv_hexd' (nb s i % 16) (by omega)];rw [show hexv 48=some 0 by decide];simp only [Option.bind_some,Option.some.injEq];omega
  have:=Pc.six e4 (by omega)
  rwa [show utf (nb s i:Int)=[(nb s i:Int)] by unfold utf;rw [if_pos (by omega)]] at this
 have hall:=chr_bytes hc (by omega);have hh:=hc.high (by omega);unfold esc;rw [if_neg (by omega),if_neg (by omega),if_neg (by omega),if_neg (by omega),if_neg (by omega),if_neg (by omega),if_neg (by omega)];by_cases h1:c=8232∨c=8233
 rotate_left
 ·rw [if_neg h1];refine .raw ?_;intro a ha;rw [ext_list s i n hc.fit,List.mem_map] at ha;obtain ⟨j,hj,rfl⟩:=ha;have:=hall j (by simpa using hj);omega
 rw [if_pos h1,ext_list s i n hc.fit];have hd:=hc.dec;rw [Lib.decode_at] at hd
 change Lib.decodeN (s.size - i) (nb s i) (nb s (i+1)) (nb s (i+2)) (nb s (i+3))=_ at hd
 have l0:=nb_lt s i;have l1:=nb_lt s (i+1);have l2:=nb_lt s (i+2);have l3:=nb_lt s (i+3)
 have key:n=3∧nb s i=226∧nb s (i+1)=128∧nb s (i+2)=160+c % 16:=by
  unfold Lib.decodeN at hd;rw [if_neg (by omega)] at hd;split at hd
  ·split at hd<;>(injection hd with e1 e2;omega)
  ·split at hd
   ·split at hd<;>(injection hd with e1 e2;omega)
   ·split at hd
    ·split at hd<;>(injection hd with e1 e2;omega)
    ·injection hd with e1 e2
     omega
 obtain ⟨rfl,k1,k2,k3⟩:=key;have e:(List.range 3).map (fun j=>(nb s (i+j):Int))=[(nb s i:Int),(nb s (i+1):Int),(nb s (i+2):Int)]:=rfl
 have e4:hex4 [50,48,50,hexd (c % 16)]=some (c:Int):=by
  simp only [hex4,hexv_hexd' (c % 16) (by omega)];rw [show hexv 50=some 2 by decide,show hexv 48=some 0 by decide];simp only [Option.bind_some,Option.some.injEq];omega
 have:=Pc.six e4 (by omega);rw [e,k1,k2,k3];rcases h1 with rfl|rfl
 rotate_left
 ·exact this
 exact this
def plainC (c : Int):Prop:=32≤c∧c<128∧c≠34∧c≠92∧c≠38∧c≠60∧c≠62
theorem esc_plain {s : ByteArray} {i c n:Nat} (hi:i<s.size) (hc:Chr s i c n) (h:plainC (nb s i:Int)):esc s i c n=bytesOf (s.extract i (i+n)):=by
 unfold plainC at h
 obtain ⟨rfl,rfl⟩:=hc.low (by omega);unfold esc;rw [if_neg (by omega),if_neg (by omega),if_neg (by omega),if_neg (by omega),if_neg (by omega),if_neg (by omega),if_neg (by omega),if_neg (by omega)]
theorem quoted_db {s : ByteArray} (hs:s.size≤4096) {i:Nat} (hv:Val s i):∃ T:List Int,(∀ x0:List Int,x0.length≤1+6*i→Ev (fun k=>j1a.l0 k x0 s (i:Int)) (x0++T++[34]))∧DB T ((bytesOf s).drop i)∧T.length+6*i≤6*s.size∧(∀ a ∈ T,0≤a∧a≤255)∧((∀ a ∈ (bytesOf s).drop i,plainC a)→T=(bytesOf s).drop i):=by
 induction hv with
 | done =>
  refine ⟨[],fun x0 hx=>Ev.step (f:=fun _=>some _) (fun k=>?_) (Ev.now _),?_,by simp,by simp,fun _=>?_⟩
  ·simp only [j1a.l0];rw [if_neg (by omega),if_pos (by omega)];simp
  ·rw [List.drop_of_length_le (by rw [bytesOf_length];omega)];exact .nil
  ·rw [List.drop_of_length_le (by rw [bytesOf_length];omega)]
 | @step i c n hi hc he hv ih =>
  have hf:=hc.fit;have hp:=hc.pos;have hl:=esc_least hc;have h4:=hc.top.2;obtain ⟨T,h1,h2,h5,h7,h8⟩:=ih
  have hsplit:(bytesOf s).drop i=bytesOf (s.extract i (i+n))++(bytesOf s).drop (i+n):=by
   rw [J.bytesOf_extract,List.drop_take,← List.drop_drop,Nat.add_sub_cancel_left,List.take_append_drop]
  refine ⟨esc s i c n++T,fun x0 hx=>?_,?_,by rw [List.length_append];omega,fun a ha=>(List.mem_append.1 ha).elim (esc_range s i c n a) (h7 a),fun hall=>?_⟩
  ·have h6:=esc_len s (c:=c) hf h4;have:=h1 (x0++esc s i c n) (by rw [List.length_append];omega);refine gq_step (by omega) hi hc x0 (by omega) ?_
   simpa using this
  ·rw [hsplit];exact .cons (esc_pc hi hc) h2
  ·have hF:From s i ((bytesOf s).drop i):=⟨by omega,rfl⟩;have hlt:i<(bytesOf s).length:=by rw [bytesOf_length];exact hi
   have hd:=List.drop_eq_getElem_cons hlt
   have hn:(nb s i:Int)=(bytesOf s)[i]:=by
    rw [hd] at hF;exact From.nb hF
   have hpl:plainC (nb s i:Int):=by
    rw [hn];exact hall _ (by rw [hd];exact List.mem_cons_self ..)
   rw [hsplit,← esc_plain hi hc hpl,← h8 (fun a ha=>hall a (by rw [hsplit];simp [ha]))]
end Go.Proofs.YtchhndbekjgimaaDoor.J
end
section
namespace Go.Proofs.YtchhndbekjgimaaDoor.Pure
open Go.RowKit Go.Proofs.YtchhndbekjgimaaDoor.H Go.Proofs.YtchhndbekjgimaaDoor.U Go.Proofs.YtchhndbekjgimaaDoor.J Go.Proofs.YtchhndbekjgimaaDoorW.PrintWords Go.Proofs.YtchhndbekjgimaaDoorW.PrintLast
set_option linter.unusedVariables false
set_option linter.unusedSimpArgs false
theorem str_size (l : List Int):(strOfNums l).size=l.length:=by simp [strOfNums,ByteArray.size]
theorem ext_all (s : ByteArray) {n:Nat} (h:s.size≤n):s.extract 0 n=s:=by
 apply bytesOf_inj;rw [bytesOf_extract,List.drop_zero,List.take_of_length_le (by rw [bytesOf_length];exact h)]
theorem parse_eq {s u : ByteArray} (hs:s.size≤2147483647) {t:List Int} (e:bytesOf s=34 :: (t++[34])) (h:DB t (bytesOf u)) :
 Ev (fun k=>j2a.f k s) (3,s,u,0,true):=by
 have hz:s.size=t.length+2:=by
  rw [← bytesOf_length,e];simp
 have ht:=tostr_eq hs (t:=t) (r:=[]) e h;rw [ext_all s (by omega)] at ht;have hF:=From.start s;rw [e] at hF;have hb:bt s 0=34:=hF.bt;have hx:s.extract (0:Int).toNat s.size=s:=ext_all s (Nat.le_refl _)
 have hP:Ev (fun k=>j1u.f k s) (3,s,u,0,0,[]):=by
  refine Ev.step (f:=fun k=>(j1c.f k s).bind fun bt103=>((j1w.f 3 bt103.1 bt103.2 0 0 ([]:List Int)).bind fun t105=>(if t105=true then (some (3,bt103.1,bt103.2,0,0,([]:List Int))) else (some (3,bt103.1,bt103.2,0,0,([]:List Int)))))) (fun k=>?_) (Ev.bind ht (Ev.congr (f:=fun _=>some (3,s,u,0,0,[])) (fun _=>by simp [j1w.f]) (Ev.now _)));simp only [j1u.f,j1u.l0];rw [if_pos (by omega),if_pos (by omega),hb,hx]
  iterate 21 rw [if_neg zq24]
  rw [if_pos rfl,if_pos (by omega)]
 unfold j2a.f;exact Ev.bind hP (Ev.now _)
def W (c : Int):Prop:=(97≤c∧c≤122)∨(65≤c∧c≤90)∨(48≤c∧c≤57)∨c=95
instance (c : Int) : Decidable (W c):=by unfold W;infer_instance
theorem word_step (k : Nat) (z:ByteArray) (i:Int) (h0:0≤i) (h1:i<(z.size:Int)):j1l.l0 (k+1) z i=if W (bt z i) then j1l.l0 k z (wrap64 (i+1)) else some false:=by
 rw [j1l.l0,if_pos h1,if_pos h0]
 generalize bt z i=c
 by_cases hW:W c
 rotate_left
 ·rw [if_neg hW];unfold W at hW
  repeat' split
  all_goals first|rfl|(exfalso;omega)
 rw [if_pos hW];unfold W at hW
 repeat' split
 all_goals first|rfl|(exfalso;omega)
theorem word_one {z : ByteArray} (hz:z.size=1):∃ b,Ev (fun k=>j1l.f k z) b∧(b=true→plainC (bt z 0)):=by
 by_cases h:W (bt z 0)
 rotate_left
 ·refine ⟨false,Ev.step (f:=fun _=>some false) (fun k=>?_) (Ev.now _),fun h=>by cases h⟩
  show j1l.l0 (k+1) z 0=_
  rw [word_step k z 0 zq24 (by omega),if_neg h]
 refine ⟨_,Ev.step (f:=fun k=>j1l.l0 k z ((1:Nat):Int)) (fun k=>?_) (Ev.step (f:=fun _=>some (z.toList != ([]:List UInt8))) (fun k=>?_) (Ev.now _)),fun _=>?_⟩
 ·show j1l.l0 (k+1) z 0=_
  rw [word_step k z 0 zq24 (by omega),if_pos h,show wrap64 ((0:Int)+1)=((1:Nat):Int) from by rw [J.w64 (by omega)];rfl]
 ·simp only [j1l.l0];rw [if_neg (by omega)]
 ·unfold W at h
  unfold plainC;omega
theorem bt_ext1 {s : ByteArray} {i:Nat} (h:i<s.size):bt (s.extract i (i+1)) 0=(nb s i:Int):=by
 have hl:=ext_one s i h;have hF:=From.start (s.extract i (i+1));rw [hl] at hF;exact hF.bt
theorem each_l0 {s : ByteArray} (hs:s.size≤4096) {T:List Int} (hr:∀ a ∈ T,0≤a∧a≤255) (hT:(∀ a ∈ (bytesOf s).drop 0,plainC a)→T=(bytesOf s).drop 0) :
 ∀ (n i:Nat),s.size - i≤n→i≤s.size→(∀ a ∈ (bytesOf s).take i,plainC a)→Ev (fun k=>laws_FnGjQuoteParse.l0 k s (strOfNums ([34]++T++[34])) (i:Int)) true:=by
 have hend:∀ i:Nat,s.size≤i→(∀ a ∈ (bytesOf s).take i,plainC a)→Ev (fun k=>laws_FnGjQuoteParse.l0 k s (strOfNums ([34]++T++[34])) (i:Int)) true:=fun i hi hall=>by
  rw [List.take_of_length_le (by rw [bytesOf_length];exact hi)] at hall;have e:=hT (by rw [List.drop_zero];exact hall);rw [List.drop_zero] at e
  have hq:strOfNums ([34]++T++[34])=((⟨#[34]⟩:ByteArray)++s)++(⟨#[34]⟩:ByteArray):=by
   apply bytesOf_inj
   rw [J.bytesOf_strOfNums _ (by
    intro a ha;simp only [List.mem_append,List.mem_singleton] at ha;rcases ha with (rfl|ha)|rfl
    ·omega
    ·exact hr a ha
    ·omega),bytes_app,bytes_app,e]
   rfl
  have hz1:((⟨#[34]⟩:ByteArray)++s).size=1+s.size:=by
   rw [ByteArray.size_append];rfl
  refine Ev.step (f:=fun _=>some true) (fun k=>?_) (Ev.now _);simp only [laws_FnGjQuoteParse.l0];rw [if_neg (by omega),if_pos (by omega),if_pos (by rw [hz1];omega),hq];simp
 intro n
 induction n with
 | zero=>exact fun i hn hi hall=>hend i (by omega) hall
 | succ n ih =>
  intro i hn hi hall;by_cases hlt:i<s.size
  rotate_left
  ·exact hend i (by omega) hall
  have hb:bt s (i:Int)=(nb s i:Int):=nb_bt s i;have hw:wrap64 ((i:Int)+1)=((i+1:Nat):Int):=by rw [J.w64 (by omega)];omega
  have next:plainC (nb s i:Int)→Ev (fun k=>laws_FnGjQuoteParse.l0 k s (strOfNums ([34]++T++[34])) ((i+1:Nat):Int)) true:=fun hp=>ih (i+1) (by omega) (by omega) fun a ha=>by
   have hl:i<(bytesOf s).length:=by rw [bytesOf_length];exact hlt
   rw [List.take_add_one,List.mem_append,List.getElem?_eq_getElem hl] at ha;rcases ha with ha|ha
   ·exact hall a ha
   have hF:From s i ((bytesOf s).drop i):=⟨hi,rfl⟩;rw [List.drop_eq_getElem_cons hl] at hF;have:=From.nb hF;simp only [Option.toList_some,List.mem_singleton] at ha;rw [ha,← this];exact hp
  by_cases h32:bt s (i:Int)=32
  ·refine Ev.step (fun k=>?_) (next (by unfold plainC;omega));simp only [laws_FnGjQuoteParse.l0];rw [if_pos (by omega),if_pos (by omega),if_pos h32,hw]
  have hz:(s.extract i (i+1)).size=1:=ext_size s i 1 (by omega);obtain ⟨b,hE,hp⟩:=word_one hz
  have hk:Ev (fun k=>(j1l.f k (s.extract i (i+1))).bind fun t109=>(if t109=true then (laws_FnGjQuoteParse.l0 k s (strOfNums ([34]++T++[34])) ((i+1:Nat):Int)) else (some true))) true:=by
   refine Ev.bind hE ?_;cases b with
   | false=>exact Ev.congr (fun _=>if_neg zq24) (Ev.now _)
   | true =>
    have:=hp rfl;rw [bt_ext1 hlt] at this;exact Ev.congr (fun _=>if_pos rfl) (next this)
  refine Ev.step (fun k=>?_) hk;simp only [laws_FnGjQuoteParse.l0];rw [if_pos (by omega),if_pos (by omega),if_neg h32,hw,if_pos (by omega),if_pos (by omega),Int.toNat_natCast,Int.toNat_natCast]
theorem FnGjQuoteParse : laws_FnGjQuoteParse.Pure := by
 intro s h0;have j0t:Ev (fun k=>laws_FnGjQuoteParse.j0 k s true) true:=Ev.step (f:=fun _=>some true) (fun k=>by simp only [laws_FnGjQuoteParse.j0,if_true]) (Ev.now _)
 have main:Ev (fun k=>laws_FnGjQuoteParse.f k s) true:=by
  unfold laws_FnGjQuoteParse.f;by_cases c1:(s.size:Int)>2147483647
  ·exact Ev.congr (fun _=>if_pos c1) (Ev.now _)
  refine Ev.congr (fun _=>if_neg c1) ?_;by_cases c2:(s.size:Int)>4096
  ·exact Ev.congr (fun _=>if_pos c2) j0t
  refine Ev.congr (fun _=>if_neg c2) ?_;obtain ⟨t,e1,e2⟩:=utf8_val h0 _ 0 rfl (by omega);refine Ev.bind (show Ev (fun k=>j1v.f k s) t from e1) ?_;cases t with
  | false=>exact j0t
  | true =>
   have hs:s.size≤4096:=by omega
   obtain ⟨T,h1,h2,h3,h4,h5⟩:=quoted_db hs (e2 rfl);have hl:=h1 [34] (by simp)
   have hq:Ev (fun k=>j2c.f k s) (strOfNums ([34]++T++[34])):=by
    unfold j2c.f;exact Ev.bind (append_ev hs hl) (Ev.now _)
   have hr:∀ a ∈ [34]++T++[34],0≤a∧a≤255:=by
    intro a ha;simp only [List.mem_append,List.mem_singleton] at ha;rcases ha with (rfl|ha)|rfl
    ·omega
    ·exact h4 a ha
    ·omega
   have hqb:bytesOf (strOfNums ([34]++T++[34]))=34 :: (T++[34]):=by
    rw [J.bytesOf_strOfNums _ hr];simp
   have hp:=parse_eq (s:=strOfNums ([34]++T++[34])) (u:=s) (by rw [str_size];simp only [List.length_append,List.length_singleton];omega) hqb (by simpa using h2);have hl0:=each_l0 hs h4 h5 _ 0 (Nat.le_refl _) (Nat.zero_le _) (by simp);have j1f:Ev (fun k=>laws_FnGjQuoteParse.j1 k s (strOfNums ([34]++T++[34])) false) true:=Ev.step (fun k=>by simp only [laws_FnGjQuoteParse.j1,Bool.false_eq_true,if_false];rfl) hl0;have hb:((strOfNums ([34]++T++[34])).toList != (strOfNums ([34]++T++[34])).toList)=false:=by simp
   refine Ev.step (f:=fun k=>(j2c.f k s).bind fun t102=>((j2a.f k t102).bind fun bt103=>(if bt103.2.2.2.2=true then (if bt103.1=3 then (if bt103.2.2.1.toList=s.toList then (laws_FnGjQuoteParse.j1 k s t102 (bt103.2.1.toList != t102.toList)) else (laws_FnGjQuoteParse.j1 k s t102 true)) else (laws_FnGjQuoteParse.j1 k s t102 true)) else (laws_FnGjQuoteParse.j1 k s t102 true)))) (fun k=>by simp only [laws_FnGjQuoteParse.j0,Bool.not_true,Bool.false_eq_true,if_false]) ?_;refine Ev.bind hq (Ev.bind hp (Ev.congr (fun _=>if_pos rfl) (Ev.congr (fun _=>if_pos rfl) (Ev.congr (fun _=>if_pos rfl) ?_))));simp only [hb];exact j1f
 obtain ⟨K,hK⟩:=main;exact ⟨K,hK K (Nat.le_refl _)⟩
end Go.Proofs.YtchhndbekjgimaaDoor.Pure
end
