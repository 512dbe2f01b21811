/- The words, walks and laws that the proof rests on, laid together (part 4). -/
import Derived.Test.YtlokkefnbffjnaaDoorKFnFjCheckArray3
section
namespace Go.Proofs.YtlokkefnbffjnaaDoor.J
open Go.RowKit Go.Proofs.YtlokkefnbffjnaaDoorW.PrintWords Go.Proofs.YtlokkefnbffjnaaDoorW.PrintLast Go.Proofs.YtlokkefnbffjnaaDoorW.PrintMore
attribute [local go_sem] max2_int min2_int max_two min_two max_three min_three max_four min_four
set_option linter.unusedVariables false
set_option linter.unusedSimpArgs false
attribute [-simp] ByteArray.size_extract
mutual
def fastjson_validateArray.l0 : Nat → ByteArray → Option (ByteArray × Option Int)
  | 0, _ => none
  | k + 1, x0 => (fastjson_skipWS.f k x0).bind fun t103 => ((fastjson_validateValue.f k t103).bind fun bt104 => (if bt104.2.isNone = true then ((fastjson_skipWS.f k bt104.1).bind fun t107 => (if (t107.size : Int) = 0 then ((errors_New.f (⟨#[117, 110, 101, 120, 112, 101, 99, 116, 101, 100, 32, 101, 110, 100, 32, 111, 102, 32, 97, 114, 114, 97, 121]⟩ : ByteArray)).bind fun t108 => (some (t107, t108))) else (if 0 < (t107.size : Int) then (if (bt t107 0) = 44 then (if 1 ≤ (t107.size : Int) then (fastjson_validateArray.l0 k (t107.extract 1 t107.size)) else (none)) else (if (bt t107 0) = 93 then (if 1 ≤ (t107.size : Int) then (some (t107.extract 1 t107.size, none)) else (none)) else ((errors_New.f (⟨#[109, 105, 115, 115, 105, 110, 103, 32, 39, 44, 39, 32, 97, 102, 116, 101, 114, 32, 97, 114, 114, 97, 121, 32, 118, 97, 108, 117, 101]⟩ : ByteArray)).bind fun t109 => (some (t107, t109))))) else (none)))) else ((errors_New.f (⟨#[99, 97, 110, 110, 111, 116, 32, 112, 97, 114, 115, 101, 32, 97, 114, 114, 97, 121, 32, 118, 97, 108, 117, 101]⟩ : ByteArray)).bind fun t110 => (some (bt104.1, t110)))))
def fastjson_validateArray.f : Nat → ByteArray → Option (ByteArray × Option Int)
  | 0, _ => none
  | k + 1, a0 => (fastjson_skipWS.f k a0).bind fun t101 => (if (t101.size : Int) = 0 then ((errors_New.f (⟨#[109, 105, 115, 115, 105, 110, 103, 32, 39, 93]⟩ : ByteArray)).bind fun t102 => (some (t101, t102))) else (if 0 < (t101.size : Int) then (if (bt t101 0) = 93 then (if 1 ≤ (t101.size : Int) then (some (t101.extract 1 t101.size, none)) else (none)) else (fastjson_validateArray.l0 k t101)) else (none)))
def fastjson_validateValue.l0 : Nat → ByteArray → ByteArray → Int → Int → Option (ByteArray × Option Int)
  | 0, _, _, _, _ => none
  | k + 1, x8, x9, x62, x63 => if x63 < x62 then (if 0 ≤ x63 then (if x63 < (x8.size : Int) then (if (bt x8 x63) < 32 then ((errors_New.f (⟨#[115, 116, 114, 105, 110, 103, 32, 99, 97, 110, 110, 111, 116, 32, 99, 111, 110, 116, 97, 105, 110, 32, 99, 111, 110, 116, 114, 111, 108, 32, 99, 104, 97, 114, 32, 48, 120]⟩ : ByteArray)).bind fun t124 => (some (x9, t124))) else (fastjson_validateValue.l0 k x8 x9 x62 (wrap64 (x63 + 1)))) else (none)) else (none)) else (some (x9, none))
def fastjson_validateValue.f : Nat → ByteArray → Option (ByteArray × Option Int)
  | 0, _ => none
  | k + 1, a0 => if (a0.size : Int) = 0 then ((errors_New.f (⟨#[99, 97, 110, 110, 111, 116, 32, 112, 97, 114, 115, 101, 32, 101, 109, 112, 116, 121, 32, 115, 116, 114, 105, 110, 103]⟩ : ByteArray)).bind fun t111 => (some (a0, t111))) else (if 0 < (a0.size : Int) then (if (bt a0 0) = 123 then (if 1 ≤ (a0.size : Int) then ((fastjson_validateObject.f k (a0.extract 1 a0.size)).bind fun bt112 => (if bt112.2.isNone = true then (some (bt112.1, none)) else ((errors_New.f (⟨#[99, 97, 110, 110, 111, 116, 32, 112, 97, 114, 115, 101, 32, 111, 98, 106, 101, 99, 116]⟩ : ByteArray)).bind fun t115 => (some (bt112.1, t115))))) else (none)) else (if (bt a0 0) = 91 then (if 1 ≤ (a0.size : Int) then ((fastjson_validateArray.f k (a0.extract 1 a0.size)).bind fun bt116 => (if bt116.2.isNone = true then (some (bt116.1, none)) else ((errors_New.f (⟨#[99, 97, 110, 110, 111, 116, 32, 112, 97, 114, 115, 101, 32, 97, 114, 114, 97, 121]⟩ : ByteArray)).bind fun t119 => (some (bt116.1, t119))))) else (none)) else (if (bt a0 0) = 34 then (if 1 ≤ (a0.size : Int) then ((fastjson_validateString.f k (a0.extract 1 a0.size)).bind fun bt120 => (if bt120.2.2.isNone = true then (fastjson_validateValue.l0 k bt120.1 bt120.2.1 (bt120.1.size : Int) 0) else ((errors_New.f (⟨#[99, 97, 110, 110, 111, 116, 32, 112, 97, 114, 115, 101, 32, 115, 116, 114, 105, 110, 103]⟩ : ByteArray)).bind fun t125 => (some (bt120.2.1, t125))))) else (none)) else (if (bt a0 0) = 116 then (if (a0.size : Int) < 4 then ((errors_New.f (⟨#[117, 110, 101, 120, 112, 101, 99, 116, 101, 100, 32, 118, 97, 108, 117, 101, 32, 102, 111, 117, 110, 100]⟩ : ByteArray)).bind fun t126 => (some (a0, t126))) else (if 0 ≤ 4 then (if 4 ≤ (a0.size : Int) then (if (a0.extract 0 4).toList = ([116, 114, 117, 101] : List UInt8) then (some (a0.extract 4 a0.size, none)) else ((errors_New.f (⟨#[117, 110, 101, 120, 112, 101, 99, 116, 101, 100, 32, 118, 97, 108, 117, 101, 32, 102, 111, 117, 110, 100]⟩ : ByteArray)).bind fun t127 => (some (a0, t127)))) else (none)) else (none))) else (if (bt a0 0) = 102 then (if (a0.size : Int) < 5 then ((errors_New.f (⟨#[117, 110, 101, 120, 112, 101, 99, 116, 101, 100, 32, 118, 97, 108, 117, 101, 32, 102, 111, 117, 110, 100]⟩ : ByteArray)).bind fun t128 => (some (a0, t128))) else (if 0 ≤ 5 then (if 5 ≤ (a0.size : Int) then (if (a0.extract 0 5).toList = ([102, 97, 108, 115, 101] : List UInt8) then (some (a0.extract 5 a0.size, none)) else ((errors_New.f (⟨#[117, 110, 101, 120, 112, 101, 99, 116, 101, 100, 32, 118, 97, 108, 117, 101, 32, 102, 111, 117, 110, 100]⟩ : ByteArray)).bind fun t129 => (some (a0, t129)))) else (none)) else (none))) else (if (bt a0 0) = 110 then (if (a0.size : Int) < 4 then ((errors_New.f (⟨#[117, 110, 101, 120, 112, 101, 99, 116, 101, 100, 32, 118, 97, 108, 117, 101, 32, 102, 111, 117, 110, 100]⟩ : ByteArray)).bind fun t130 => (some (a0, t130))) else (if 0 ≤ 4 then (if 4 ≤ (a0.size : Int) then (if (a0.extract 0 4).toList = ([110, 117, 108, 108] : List UInt8) then (some (a0.extract 4 a0.size, none)) else ((errors_New.f (⟨#[117, 110, 101, 120, 112, 101, 99, 116, 101, 100, 32, 118, 97, 108, 117, 101, 32, 102, 111, 117, 110, 100]⟩ : ByteArray)).bind fun t131 => (some (a0, t131)))) else (none)) else (none))) else ((fastjson_validateNumber.f k a0).bind fun bt132 => (if bt132.2.isNone = true then (some (bt132.1, none)) else ((errors_New.f (⟨#[99, 97, 110, 110, 111, 116, 32, 112, 97, 114, 115, 101, 32, 110, 117, 109, 98, 101, 114]⟩ : ByteArray)).bind fun t135 => (some (bt132.1, t135))))))))))) else (none))
def fastjson_validateObject.l0 : Nat → ByteArray → Option (ByteArray × Option Int)
  | 0, _ => none
  | k + 1, x0 => (fastjson_skipWS.f k x0).bind fun t138 => (if (t138.size : Int) = 0 then (fastjson_validateObject.j1 k t138 true) else (if 0 < (t138.size : Int) then (fastjson_validateObject.j1 k t138 ((bt t138 0) != 34)) else (none)))
def fastjson_validateObject.j1 : Nat → ByteArray → Bool → Option (ByteArray × Option Int)
  | 0, _, _ => none
  | k + 1, x0, x28 => if x28 = true then ((errors_New.f (⟨#[99, 97, 110, 110, 111, 116, 32, 102, 105, 110, 100, 32, 111, 112, 101, 110, 105, 110, 103, 32, 39, 34, 34, 32, 102, 111, 114, 32, 111, 98, 106, 101, 99, 116, 32, 107, 101, 121]⟩ : ByteArray)).bind fun t139 => (some (x0, t139))) else (if 1 ≤ (x0.size : Int) then ((fastjson_validateKey.f k (x0.extract 1 x0.size)).bind fun bt140 => (if bt140.2.2.isNone = true then (fastjson_validateObject.l1 k bt140.2.1 bt140.1 (bt140.1.size : Int) 0) else ((errors_New.f (⟨#[99, 97, 110, 110, 111, 116, 32, 112, 97, 114, 115, 101, 32, 111, 98, 106, 101, 99, 116, 32, 107, 101, 121]⟩ : ByteArray)).bind fun t155 => (some (bt140.2.1, t155))))) else (none))
def fastjson_validateObject.l1 : Nat → ByteArray → ByteArray → Int → Int → Option (ByteArray × Option Int)
  | 0, _, _, _, _ => none
  | k + 1, x0, x5, x43, x44 => if x44 < x43 then (if 0 ≤ x44 then (if x44 < (x5.size : Int) then (if (bt x5 x44) < 32 then ((errors_New.f (⟨#[111, 98, 106, 101, 99, 116, 32, 107, 101, 121, 32, 99, 97, 110, 110, 111, 116, 32, 99, 111, 110, 116, 97, 105, 110, 32, 99, 111, 110, 116, 114, 111, 108, 32, 99, 104, 97, 114, 32, 48, 120]⟩ : ByteArray)).bind fun t144 => (some (x0, t144))) else (fastjson_validateObject.l1 k x0 x5 x43 (wrap64 (x44 + 1)))) else (none)) else (none)) else ((fastjson_skipWS.f k x0).bind fun t145 => (if (t145.size : Int) = 0 then (fastjson_validateObject.j3 k t145 true) else (if 0 < (t145.size : Int) then (fastjson_validateObject.j3 k t145 ((bt t145 0) != 58)) else (none))))
def fastjson_validateObject.j3 : Nat → ByteArray → Bool → Option (ByteArray × Option Int)
  | 0, _, _ => none
  | k + 1, x0, x63 => if x63 = true then ((errors_New.f (⟨#[109, 105, 115, 115, 105, 110, 103, 32, 39, 58, 39, 32, 97, 102, 116, 101, 114, 32, 111, 98, 106, 101, 99, 116, 32, 107, 101, 121]⟩ : ByteArray)).bind fun t146 => (some (x0, t146))) else (if 1 ≤ (x0.size : Int) then ((fastjson_skipWS.f k (x0.extract 1 x0.size)).bind fun t147 => ((fastjson_validateValue.f k t147).bind fun bt148 => (if bt148.2.isNone = true then ((fastjson_skipWS.f k bt148.1).bind fun t151 => (if (t151.size : Int) = 0 then ((errors_New.f (⟨#[117, 110, 101, 120, 112, 101, 99, 116, 101, 100, 32, 101, 110, 100, 32, 111, 102, 32, 111, 98, 106, 101, 99, 116]⟩ : ByteArray)).bind fun t152 => (some (t151, t152))) else (if 0 < (t151.size : Int) then (if (bt t151 0) = 44 then (if 1 ≤ (t151.size : Int) then (fastjson_validateObject.l0 k (t151.extract 1 t151.size)) else (none)) else (if (bt t151 0) = 125 then (if 1 ≤ (t151.size : Int) then (some (t151.extract 1 t151.size, none)) else (none)) else ((errors_New.f (⟨#[109, 105, 115, 115, 105, 110, 103, 32, 39, 44, 39, 32, 97, 102, 116, 101, 114, 32, 111, 98, 106, 101, 99, 116, 32, 118, 97, 108, 117, 101]⟩ : ByteArray)).bind fun t153 => (some (t151, t153))))) else (none)))) else ((errors_New.f (⟨#[99, 97, 110, 110, 111, 116, 32, 112, 97, 114, 115, 101, 32, 111, 98, 106, 101, 99, 116, 32, 118, 97, 108, 117, 101]⟩ : ByteArray)).bind fun t154 => (some (bt148.1, t154)))))) else (none))
def fastjson_validateObject.f : Nat → ByteArray → Option (ByteArray × Option Int)
  | 0, _ => none
  | k + 1, a0 => (fastjson_skipWS.f k a0).bind fun t136 => (if (t136.size : Int) = 0 then ((errors_New.f (⟨#[109, 105, 115, 115, 105, 110, 103, 32, 39, 125]⟩ : ByteArray)).bind fun t137 => (some (t136, t137))) else (if 0 < (t136.size : Int) then (if (bt t136 0) = 125 then (if 1 ≤ (t136.size : Int) then (some (t136.extract 1 t136.size, none)) else (none)) else (fastjson_validateObject.l0 k t136)) else (none)))
end
theorem grp80.mono_l : ∀ k, (∀ y0, LeO (fastjson_validateArray.f k y0) (fastjson_validateArray.f (k + 1) y0)) ∧ (∀ y0, LeO (fastjson_validateValue.f k y0) (fastjson_validateValue.f (k + 1) y0)) ∧ (∀ y0, LeO (fastjson_validateObject.f k y0) (fastjson_validateObject.f (k + 1) y0)) ∧ (∀ y0, LeO (fastjson_validateArray.l0 k y0) (fastjson_validateArray.l0 (k + 1) y0)) ∧ (∀ y0 y1 y2 y3, LeO (fastjson_validateValue.l0 k y0 y1 y2 y3) (fastjson_validateValue.l0 (k + 1) y0 y1 y2 y3)) ∧ (∀ y0, LeO (fastjson_validateObject.l0 k y0) (fastjson_validateObject.l0 (k + 1) y0)) ∧ (∀ y0 y1, LeO (fastjson_validateObject.j1 k y0 y1) (fastjson_validateObject.j1 (k + 1) y0 y1)) ∧ (∀ y0 y1 y2 y3, LeO (fastjson_validateObject.l1 k y0 y1 y2 y3) (fastjson_validateObject.l1 (k + 1) y0 y1 y2 y3)) ∧ (∀ y0 y1, LeO (fastjson_validateObject.j3 k y0 y1) (fastjson_validateObject.j3 (k + 1) y0 y1))
 | 0 => ⟨fun _ r h => by simp [fastjson_validateArray.f] at h, fun _ r h => by simp [fastjson_validateValue.f] at h, fun _ r h => by simp [fastjson_validateObject.f] at h, fun _ r h => by simp [fastjson_validateArray.l0] at h, fun _ _ _ _ r h => by simp [fastjson_validateValue.l0] at h, fun _ r h => by simp [fastjson_validateObject.l0] at h, fun _ _ r h => by simp [fastjson_validateObject.j1] at h, fun _ _ _ _ r h => by simp [fastjson_validateObject.l1] at h, fun _ _ r h => by simp [fastjson_validateObject.j3] at h⟩
 | k + 1 => by
  obtain ⟨ih0, ih1, ih2, ih3, ih4, ih5, ih6, ih7, ih8⟩ := grp80.mono_l k
  refine ⟨?_, ?_, ?_, ?_, ?_, ?_, ?_, ?_, ?_⟩
  ·intro y0
   unfold fastjson_validateArray.f
   repeat' first
   | (with_reducible exact ih0 _)
   | (with_reducible exact ih1 _)
   | (with_reducible exact ih2 _)
   | (with_reducible exact ih3 _)
   | (with_reducible exact ih4 _ _ _ _)
   | (with_reducible exact ih5 _)
   | (with_reducible exact ih6 _ _)
   | (with_reducible exact ih7 _ _ _ _)
   | (with_reducible exact ih8 _ _)
   | (with_reducible exact fastjson_skipWS.mono _ _)
   | (with_reducible exact fastjson_validateKey.mono _ _)
   | (with_reducible exact fastjson_validateNumber.mono _ _)
   | (with_reducible exact fastjson_validateString.mono _ _)
   | (with_reducible exact LeO.refl _)
   | (with_reducible exact LeO.none _)
   | (with_reducible refine LeO.ite ?_ ?_)
   | (with_reducible refine LeO.bind ?_ (fun _ => ?_))
  ·intro y0
   unfold fastjson_validateValue.f
   repeat' first
   | (with_reducible exact ih0 _)
   | (with_reducible exact ih1 _)
   | (with_reducible exact ih2 _)
   | (with_reducible exact ih3 _)
   | (with_reducible exact ih4 _ _ _ _)
   | (with_reducible exact ih5 _)
   | (with_reducible exact ih6 _ _)
   | (with_reducible exact ih7 _ _ _ _)
   | (with_reducible exact ih8 _ _)
   | (with_reducible exact fastjson_skipWS.mono _ _)
   | (with_reducible exact fastjson_validateKey.mono _ _)
   | (with_reducible exact fastjson_validateNumber.mono _ _)
   | (with_reducible exact fastjson_validateString.mono _ _)
   | (with_reducible exact LeO.refl _)
   | (with_reducible exact LeO.none _)
   | (with_reducible refine LeO.ite ?_ ?_)
   | (with_reducible refine LeO.bind ?_ (fun _ => ?_))
  ·intro y0
   unfold fastjson_validateObject.f
   repeat' first
   | (with_reducible exact ih0 _)
   | (with_reducible exact ih1 _)
   | (with_reducible exact ih2 _)
   | (with_reducible exact ih3 _)
   | (with_reducible exact ih4 _ _ _ _)
   | (with_reducible exact ih5 _)
   | (with_reducible exact ih6 _ _)
   | (with_reducible exact ih7 _ _ _ _)
   | (with_reducible exact ih8 _ _)
   | (with_reducible exact fastjson_skipWS.mono _ _)
   | (with_reducible exact fastjson_validateKey.mono _ _)
   | (with_reducible exact fastjson_validateNumber.mono _ _)
   | (with_reducible exact fastjson_validateString.mono _ _)
   | (with_reducible exact LeO.refl _)
   | (with_reducible exact LeO.none _)
   | (with_reducible refine LeO.ite ?_ ?_)
   | (with_reducible refine LeO.bind ?_ (fun _ => ?_))
  ·intro y0
   unfold fastjson_validateArray.l0
   repeat' first
   | (with_reducible exact ih0 _)
   | (with_reducible exact ih1 _)
   | (with_reducible exact ih2 _)
   | (with_reducible exact ih3 _)
   | (with_reducible exact ih4 _ _ _ _)
   | (with_reducible exact ih5 _)
   | (with_reducible exact ih6 _ _)
   | (with_reducible exact ih7 _ _ _ _)
   | (with_reducible exact ih8 _ _)
   | (with_reducible exact fastjson_skipWS.mono _ _)
   | (with_reducible exact fastjson_validateKey.mono _ _)
   | (with_reducible exact fastjson_validateNumber.mono _ _)
   | (with_reducible exact fastjson_validateString.mono _ _)
   | (with_reducible exact LeO.refl _)
   | (with_reducible exact LeO.none _)
   | (with_reducible refine LeO.ite ?_ ?_)
   | (with_reducible refine LeO.bind ?_ (fun _ => ?_))
  ·intro y0 y1 y2 y3
   unfold fastjson_validateValue.l0
   repeat' first
   | (with_reducible exact ih0 _)
   | (with_reducible exact ih1 _)
   | (with_reducible exact ih2 _)
   | (with_reducible exact ih3 _)
   | (with_reducible exact ih4 _ _ _ _)
   | (with_reducible exact ih5 _)
   | (with_reducible exact ih6 _ _)
   | (with_reducible exact ih7 _ _ _ _)
   | (with_reducible exact ih8 _ _)
   | (with_reducible exact fastjson_skipWS.mono _ _)
   | (with_reducible exact fastjson_validateKey.mono _ _)
   | (with_reducible exact fastjson_validateNumber.mono _ _)
   | (with_reducible exact fastjson_validateString.mono _ _)
   | (with_reducible exact LeO.refl _)
   | (with_reducible exact LeO.none _)
   | (with_reducible refine LeO.ite ?_ ?_)
   | (with_reducible refine LeO.bind ?_ (fun _ => ?_))
  ·intro y0
   unfold fastjson_validateObject.l0
   repeat' first
   | (with_reducible exact ih0 _)
   | (with_reducible exact ih1 _)
   | (with_reducible exact ih2 _)
   | (with_reducible exact ih3 _)
   | (with_reducible exact ih4 _ _ _ _)
   | (with_reducible exact ih5 _)
   | (with_reducible exact ih6 _ _)
   | (with_reducible exact ih7 _ _ _ _)
   | (with_reducible exact ih8 _ _)
   | (with_reducible exact fastjson_skipWS.mono _ _)
   | (with_reducible exact fastjson_validateKey.mono _ _)
   | (with_reducible exact fastjson_validateNumber.mono _ _)
   | (with_reducible exact fastjson_validateString.mono _ _)
   | (with_reducible exact LeO.refl _)
   | (with_reducible exact LeO.none _)
   | (with_reducible refine LeO.ite ?_ ?_)
   | (with_reducible refine LeO.bind ?_ (fun _ => ?_))
  ·intro y0 y1
   unfold fastjson_validateObject.j1
   repeat' first
   | (with_reducible exact ih0 _)
   | (with_reducible exact ih1 _)
   | (with_reducible exact ih2 _)
   | (with_reducible exact ih3 _)
   | (with_reducible exact ih4 _ _ _ _)
   | (with_reducible exact ih5 _)
   | (with_reducible exact ih6 _ _)
   | (with_reducible exact ih7 _ _ _ _)
   | (with_reducible exact ih8 _ _)
   | (with_reducible exact fastjson_skipWS.mono _ _)
   | (with_reducible exact fastjson_validateKey.mono _ _)
   | (with_reducible exact fastjson_validateNumber.mono _ _)
   | (with_reducible exact fastjson_validateString.mono _ _)
   | (with_reducible exact LeO.refl _)
   | (with_reducible exact LeO.none _)
   | (with_reducible refine LeO.ite ?_ ?_)
   | (with_reducible refine LeO.bind ?_ (fun _ => ?_))
  ·intro y0 y1 y2 y3
   unfold fastjson_validateObject.l1
   repeat' first
   | (with_reducible exact ih0 _)
   | (with_reducible exact ih1 _)
   | (with_reducible exact ih2 _)
   | (with_reducible exact ih3 _)
   | (with_reducible exact ih4 _ _ _ _)
   | (with_reducible exact ih5 _)
   | (with_reducible exact ih6 _ _)
   | (with_reducible exact ih7 _ _ _ _)
   | (with_reducible exact ih8 _ _)
   | (with_reducible exact fastjson_skipWS.mono _ _)
   | (with_reducible exact fastjson_validateKey.mono _ _)
   | (with_reducible exact fastjson_validateNumber.mono _ _)
   | (with_reducible exact fastjson_validateString.mono _ _)
   | (with_reducible exact LeO.refl _)
   | (with_reducible exact LeO.none _)
   | (with_reducible refine LeO.ite ?_ ?_)
   | (with_reducible refine LeO.bind ?_ (fun _ => ?_))
  ·intro y0 y1
   unfold fastjson_validateObject.j3
   repeat' first
   | (with_reducible exact ih0 _)
   | (with_reducible exact ih1 _)
   | (with_reducible exact ih2 _)
   | (with_reducible exact ih3 _)
   | (with_reducible exact ih4 _ _ _ _)
   | (with_reducible exact ih5 _)
   | (with_reducible exact ih6 _ _)
   | (with_reducible exact ih7 _ _ _ _)
   | (with_reducible exact ih8 _ _)
   | (with_reducible exact fastjson_skipWS.mono _ _)
   | (with_reducible exact fastjson_validateKey.mono _ _)
   | (with_reducible exact fastjson_validateNumber.mono _ _)
   | (with_reducible exact fastjson_validateString.mono _ _)
   | (with_reducible exact LeO.refl _)
   | (with_reducible exact LeO.none _)
   | (with_reducible refine LeO.ite ?_ ?_)
   | (with_reducible refine LeO.bind ?_ (fun _ => ?_))
theorem fastjson_validateArray.mono : ∀ a0 k, LeO (fastjson_validateArray.f k a0) (fastjson_validateArray.f (k + 1) a0) := by
 intro a0 k
 obtain ⟨ih0, ih1, ih2, ih3, ih4, ih5, ih6, ih7, ih8⟩ := grp80.mono_l k
 exact ih0 a0
theorem fastjson_validateValue.mono : ∀ a0 k, LeO (fastjson_validateValue.f k a0) (fastjson_validateValue.f (k + 1) a0) := by
 intro a0 k
 obtain ⟨ih0, ih1, ih2, ih3, ih4, ih5, ih6, ih7, ih8⟩ := grp80.mono_l k
 exact ih1 a0
theorem fastjson_validateObject.mono : ∀ a0 k, LeO (fastjson_validateObject.f k a0) (fastjson_validateObject.f (k + 1) a0) := by
 intro a0 k
 obtain ⟨ih0, ih1, ih2, ih3, ih4, ih5, ih6, ih7, ih8⟩ := grp80.mono_l k
 exact ih2 a0
@[reducible] def fastjson_validateArray.Stmt (k : Nat) : Prop := ∀ (a0 : ByteArray) (r1 : ByteArray) (r2 : Option Int) (w : World) (hG : Laid w) (h : fastjson_validateArray.f k a0 = some (r1, r2)),
    Calls Tryd.prog 80 #[.string a0] w fun e w' => ∃ z_r2 : Option Int, Zk z_r2 r2 ∧ e = .returned (.tuple #[.string r1, errW z_r2]) ∧ Below w.heap.size w w'
@[reducible] def fastjson_validateValue.Stmt (k : Nat) : Prop := ∀ (a0 : ByteArray) (r1 : ByteArray) (r2 : Option Int) (w : World) (hG : Laid w) (h : fastjson_validateValue.f k a0 = some (r1, r2)),
    Calls Tryd.prog 81 #[.string a0] w fun e w' => ∃ z_r2 : Option Int, Zk z_r2 r2 ∧ e = .returned (.tuple #[.string r1, errW z_r2]) ∧ Below w.heap.size w w'
@[reducible] def fastjson_validateObject.Stmt (k : Nat) : Prop := ∀ (a0 : ByteArray) (r1 : ByteArray) (r2 : Option Int) (w : World) (hG : Laid w) (h : fastjson_validateObject.f k a0 = some (r1, r2)),
    Calls Tryd.prog 106 #[.string a0] w fun e w' => ∃ z_r2 : Option Int, Zk z_r2 r2 ∧ e = .returned (.tuple #[.string r1, errW z_r2]) ∧ Below w.heap.size w w'

set_option maxHeartbeats 8000000 in
set_option maxRecDepth 100000 in
theorem fastjson_validateArray.step (k : Nat) (ih_80 : ∀ m, m < k → fastjson_validateArray.Stmt m) (ih_81 : ∀ m, m < k → fastjson_validateValue.Stmt m) (ih_106 : ∀ m, m < k → fastjson_validateObject.Stmt m) : fastjson_validateArray.Stmt k := by
 intro a0 r1 r2 w hG h
 cases k with
 | zero => exact absurd h (by simp [fastjson_validateArray.f])
 | succ k =>
 simp only [fastjson_validateArray.f] at h
 have HG := mk0 hG
 clear hG
 have hu55 := Tryd.underlying55
 have hu148 := Tryd.underlying148
 have HB := mk0 (Below.refl w.heap.size w)
 have H : ((fastjson_skipWS.f k a0).bind fun t101 => (if (t101.size : Int) = 0 then ((errors_New.f (⟨#[109, 105, 115, 115, 105, 110, 103, 32, 39, 93]⟩ : ByteArray)).bind fun t102 => (some (t101, t102))) else (if 0 < (t101.size : Int) then (if (bt t101 0) = 93 then (if 1 ≤ (t101.size : Int) then (some (t101.extract 1 t101.size, none)) else (none)) else (fastjson_validateArray.l0 k t101)) else (none)))) = some (r1, r2) := h
 clear h
 replace H := Option.bind_eq_some_iff.mp H
 obtain ⟨t101, A20, H⟩ := H
 (try dsimp only at H)
 have A2 := mk0 A20
 clear A20
 by_cases c3 : (t101.size : Int) = 0
 ·rw [if_pos c3] at H
  have c3b0 : ((t101.size : Int) == 0) = true := beq_iff_eq.mpr c3
  have c3b1 : ((t101.size : Int) != 0) = false := bne_eq_false_iff_eq.mpr c3
  clear c3
  replace H := Option.bind_eq_some_iff.mp H
  obtain ⟨t102, A40, H⟩ := H
  (try dsimp only at H)
  have A4 := mk0 A40
  clear A40
  simp only [Option.some.injEq, Prod.mk.injEq] at H
  obtain ⟨rfl, rfl⟩ := H
  go_enter Tryd.func80, Tryd.ntmps80
  go_wp2_with (first | ((with_reducible refine gate_callee (f := 74) rfl ?_); refine goesL_ (some 6) rfl rfl Tryd.func74 zq24 rfl #[.string a0] rfl zq0 ?_; (with_reducible refine (fastjson_skipWS.calls k a0 t101 _ A2.out).mono ?_); rintro e w' ⟨rfl, ⟨nd, rfl⟩⟩; refine ⟨_, rfl, ?_⟩) | ((with_reducible refine gate_callee (f := 54) rfl ?_); refine goesL_ (some 11) rfl rfl Tryd.func54 zq24 rfl #[.string (⟨#[109, 105, 115, 115, 105, 110, 103, 32, 39, 93]⟩ : ByteArray)] rfl zq0 ?_; (with_reducible refine (errors_New.calls (⟨#[109, 105, 115, 115, 105, 110, 103, 32, 39, 93]⟩ : ByteArray) t102 _ A4.out).mono ?_); rintro e w5 ⟨z_t102, hz_t102, rfl, hb⟩; have Hz_t102 := mk0 hz_t102; clear hz_t102; refine ⟨_, rfl, ?_⟩; have n0_ := mk0 (below_step zq1 hb); clear HB; have HB := n0_; clear n0_ hb; (try simp only [errW_none, errW_some])))
  go_ret2
  exact ⟨z_t102, Hz_t102.out, by rfl, by repeat (first | (with_reducible first | exact HB.out | apply below_alloc | apply pw_below_drewN | apply below_drew1) | exact HB.out)⟩
 rw [if_neg c3] at H
 have c3b0 : ((t101.size : Int) == 0) = false := beq_eq_false_iff_ne.mpr c3
 have c3b1 : ((t101.size : Int) != 0) = true := bne_iff_ne.mpr c3
 by_cases c6 : 0 < (t101.size : Int)
 rotate_left
 ·rw [if_neg c6] at H
  exact absurd H (by simp)
 rw [if_pos c6] at H
 have c6b0 : decide (0 < (t101.size : Int)) = true := decide_eq_true c6
 have c6b1 : decide (0 < t101.size) = true := decide_eq_true (by omega)
 clear c6
 by_cases c8 : (bt t101 0) = 93
 ·rw [if_pos c8] at H
  have c8b0 : ((bt t101 0) == 93) = true := beq_iff_eq.mpr c8
  have c8b1 : ((bt t101 0) != 93) = false := bne_eq_false_iff_eq.mpr c8
  clear c8
  by_cases c9 : 1 ≤ (t101.size : Int)
  rotate_left
  ·rw [if_neg c9] at H
   exact absurd H (by simp)
  rw [if_pos c9] at H
  have c9b0 := eq_true c9
  have c9b1 : decide (1 ≤ (t101.size : Int)) = true := decide_eq_true c9
  clear c9
  simp only [Option.some.injEq, Prod.mk.injEq] at H
  obtain ⟨rfl, rfl⟩ := H
  go_enter Tryd.func80, Tryd.ntmps80
  go_wp2_with (first | ((with_reducible refine gate_callee (f := 74) rfl ?_); refine goesL_ (some 6) rfl rfl Tryd.func74 zq24 rfl #[.string a0] rfl zq0 ?_; (with_reducible refine (fastjson_skipWS.calls k a0 t101 _ A2.out).mono ?_); rintro e w' ⟨rfl, ⟨nd, rfl⟩⟩; refine ⟨_, rfl, ?_⟩; have p7 : 0 ≤ (0 : Int) := (by omega); have q7 : 0 < t101.size := (by have : (0 : Int) < (t101.size : Int) := of_decide_eq_true zq5; omega); have hx7 : ∀ h : 0 < t101.size, ((t101[0]'h).toNat : Int) = bt t101 0 := bt_at t101 0; clear p7; have qi7 : (0 < (t101.size : Int)) = True := eq_true (of_decide_eq_true zq5); replace q7 := eq_true q7))
  go_ret2
  exact ⟨none, Zk.nn, by rfl, by repeat (first | (with_reducible first | exact HB.out | apply below_alloc | apply pw_below_drewN | apply below_drew1) | exact HB.out)⟩
 rw [if_neg c8] at H
 have c8b0 : ((bt t101 0) == 93) = false := beq_eq_false_iff_ne.mpr c8
 have c8b1 : ((bt t101 0) != 93) = true := bne_iff_ne.mpr c8
 have H' := mk0 H
 clear H
 go_enter Tryd.func80, Tryd.ntmps80
 go_wp2_with (first | ((with_reducible refine gate_callee (f := 74) rfl ?_); refine goesL_ (some 6) rfl rfl Tryd.func74 zq24 rfl #[.string a0] rfl zq0 ?_; (with_reducible refine (fastjson_skipWS.calls k a0 t101 _ A2.out).mono ?_); rintro e w' ⟨rfl, ⟨nd, rfl⟩⟩; refine ⟨_, rfl, ?_⟩; have p7 : 0 ≤ (0 : Int) := (by omega); have q7 : 0 < t101.size := (by have : (0 : Int) < (t101.size : Int) := of_decide_eq_true zq5; omega); have hx7 : ∀ h : 0 < t101.size, ((t101[0]'h).toNat : Int) = bt t101 0 := bt_at t101 0; clear p7; have qi7 : (0 < (t101.size : Int)) = True := eq_true (of_decide_eq_true zq5); replace q7 := eq_true q7))
 (try simp only [Act.put, List.setIfInBounds_toArray, List.set_cons_zero, List.set_cons_succ])
 go_loopg [0] k (fun kq v0 w' => ∃ (x0_1 : ByteArray), v0 = .string x0_1 ∧ Aside0 (fastjson_validateArray.l0 kq x0_1 = some (r1, r2)) ∧ Aside0 (kq ≤ k) ∧ Aside0 (Below w.heap.size w w'))
 case atStart => exact ⟨(t101), (by rfl), H', ⟨Nat.le_refl _⟩, ⟨by repeat (first | (with_reducible first | exact HB.out | apply below_alloc | apply pw_below_drewN | apply below_drew1) | exact HB.out)⟩⟩
 case round =>
  clear H'
  clear c3 c3b0 c3b1 c6b0 c6b1 q7 hx7 qi7 c8 c8b0 c8b1
  obtain ⟨x0_1, rfl, HA, HK1, HB⟩ := hrel
  cases gk with
  | zero => exact absurd HA.out (by simp [fastjson_validateArray.l0])
  | succ k1 =>
   have H := HA.out
   clear HA
   simp only [fastjson_validateArray.l0] at H
   replace H := Option.bind_eq_some_iff.mp H
   obtain ⟨t103, A100, H⟩ := H
   (try dsimp only at H)
   have A10 := mk0 A100
   clear A100
   replace H := Option.bind_eq_some_iff.mp H
   obtain ⟨⟨t104, t105⟩, A110, H⟩ := H
   (try dsimp only at H)
   have A11 := mk0 A110
   clear A110
   rcases t105 with _ | q106
   rotate_left
   ·rw [if_neg (show ¬ (some q106).isNone = true by simp)] at H
    (try (obtain ⟨m_q106, rfl⟩ := Zk.some_ Hz_t105.out))
    try simp only [errW_none, errW_some]
    replace H := Option.bind_eq_some_iff.mp H
    obtain ⟨t110, A290, H⟩ := H
    (try dsimp only at H)
    have A29 := mk0 A290
    clear A290
    simp only [Option.some.injEq, Prod.mk.injEq] at H
    obtain ⟨rfl, rfl⟩ := H
    go_wp2_with (first | ((with_reducible refine gate_callee (f := 74) rfl ?_); refine goesL_ (some 18) rfl rfl Tryd.func74 zq24 rfl #[.string x0_1] rfl zq0 ?_; (with_reducible refine (fastjson_skipWS.calls k1 x0_1 t103 _ A10.out).mono ?_); rintro e w' ⟨rfl, ⟨nd, rfl⟩⟩; refine ⟨_, rfl, ?_⟩) | ((with_reducible refine gate_callee (f := 81) rfl ?_); refine goesL_ (some 21) rfl rfl Tryd.func81 zq24 rfl #[.string t103] rfl zq0 ?_; (with_reducible refine (ih_81 k1 zq72 t103 t104 (some q106) _ ?side1 A11.out).mono ?_); (case side1 => exact zq25); rintro e w30 ⟨zs1_, hzs1_, rfl, hb⟩; obtain ⟨m_q106, rfl⟩ := Zk.some_ hzs1_; refine ⟨_, rfl, ?_⟩; have n0_ := mk0 (below_step zq1 hb); clear HB; have HB := n0_; clear n0_ hb; (try simp only [errW_none, errW_some])) | ((with_reducible refine gate_callee (f := 54) rfl ?_); refine goesL_ (some 27) rfl rfl Tryd.func54 zq24 rfl #[.string (⟨#[99, 97, 110, 110, 111, 116, 32, 112, 97, 114, 115, 101, 32, 97, 114, 114, 97, 121, 32, 118, 97, 108, 117, 101]⟩ : ByteArray)] rfl zq0 ?_; (with_reducible refine (errors_New.calls (⟨#[99, 97, 110, 110, 111, 116, 32, 112, 97, 114, 115, 101, 32, 97, 114, 114, 97, 121, 32, 118, 97, 108, 117, 101]⟩ : ByteArray) t110 _ A29.out).mono ?_); rintro e w31 ⟨z_t110, hz_t110, rfl, hb⟩; have Hz_t110 := mk0 hz_t110; clear hz_t110; refine ⟨_, rfl, ?_⟩; have n0_ := mk0 (below_step zq1 hb); clear HB; have HB := n0_; clear n0_ hb; (try simp only [errW_none, errW_some])))
    go_ret2
    exact ⟨z_t110, Hz_t110.out, by rfl, by repeat (first | (with_reducible first | exact HB.out | apply below_alloc | apply pw_below_drewN | apply below_drew1) | exact HB.out)⟩
   rw [if_pos (show (none : Option Int).isNone = true by rfl)] at H
   (try (obtain rfl := Zk.none_ Hz_t105.out))
   try simp only [errW_none, errW_some]
   replace H := Option.bind_eq_some_iff.mp H
   obtain ⟨t107, A120, H⟩ := H
   (try dsimp only at H)
   have A12 := mk0 A120
   clear A120
   by_cases c13 : (t107.size : Int) = 0
   ·rw [if_pos c13] at H
    have c13b0 : ((t107.size : Int) == 0) = true := beq_iff_eq.mpr c13
    have c13b1 : ((t107.size : Int) != 0) = false := bne_eq_false_iff_eq.mpr c13
    clear c13
    replace H := Option.bind_eq_some_iff.mp H
    obtain ⟨t108, A140, H⟩ := H
    (try dsimp only at H)
    have A14 := mk0 A140
    clear A140
    simp only [Option.some.injEq, Prod.mk.injEq] at H
    obtain ⟨rfl, rfl⟩ := H
    go_wp2_with (first | ((with_reducible refine gate_callee (f := 74) rfl ?_); refine goesL_ (some 18) rfl rfl Tryd.func74 zq24 rfl #[.string x0_1] rfl zq0 ?_; (with_reducible refine (fastjson_skipWS.calls k1 x0_1 t103 _ A10.out).mono ?_); rintro e w' ⟨rfl, ⟨nd, rfl⟩⟩; refine ⟨_, rfl, ?_⟩) | ((with_reducible refine gate_callee (f := 81) rfl ?_); refine goesL_ (some 21) rfl rfl Tryd.func81 zq24 rfl #[.string t103] rfl zq0 ?_; (with_reducible refine (ih_81 k1 zq72 t103 t104 none _ ?side1 A11.out).mono ?_); (case side1 => exact zq25); rintro e w15 ⟨zn1_, hzn1_, rfl, hb⟩; obtain rfl := Zk.none_ hzn1_; refine ⟨_, rfl, ?_⟩; have n0_ := mk0 (below_step zq1 hb); clear HB; have HB := n0_; clear n0_ hb; (try simp only [errW_none, errW_some])) | ((with_reducible refine gate_callee (f := 74) rfl ?_); refine goesL_ (some 29) rfl rfl Tryd.func74 zq24 rfl #[.string t104] rfl zq0 ?_; (with_reducible refine (fastjson_skipWS.calls k1 t104 t107 _ A12.out).mono ?_); rintro e w' ⟨rfl, ⟨nd, rfl⟩⟩; refine ⟨_, rfl, ?_⟩) | ((with_reducible refine gate_callee (f := 54) rfl ?_); refine goesL_ (some 34) rfl rfl Tryd.func54 zq24 rfl #[.string (⟨#[117, 110, 101, 120, 112, 101, 99, 116, 101, 100, 32, 101, 110, 100, 32, 111, 102, 32, 97, 114, 114, 97, 121]⟩ : ByteArray)] rfl zq0 ?_; (with_reducible refine (errors_New.calls (⟨#[117, 110, 101, 120, 112, 101, 99, 116, 101, 100, 32, 101, 110, 100, 32, 111, 102, 32, 97, 114, 114, 97, 121]⟩ : ByteArray) t108 _ A14.out).mono ?_); rintro e w16 ⟨z_t108, hz_t108, rfl, hb⟩; have Hz_t108 := mk0 hz_t108; clear hz_t108; refine ⟨_, rfl, ?_⟩; have n0_ := mk0 (below_step zq1 hb); clear HB; have HB := n0_; clear n0_ hb; (try simp only [errW_none, errW_some])))
    go_ret2
    exact ⟨z_t108, Hz_t108.out, by rfl, by repeat (first | (with_reducible first | exact HB.out | apply below_alloc | apply pw_below_drewN | apply below_drew1) | exact HB.out)⟩
   rw [if_neg c13] at H
   have c13b0 : ((t107.size : Int) == 0) = false := beq_eq_false_iff_ne.mpr c13
   have c13b1 : ((t107.size : Int) != 0) = true := bne_iff_ne.mpr c13
   by_cases c17 : 0 < (t107.size : Int)
   rotate_left
   ·rw [if_neg c17] at H
    exact absurd H (by simp)
   rw [if_pos c17] at H
   have c17b0 : decide (0 < (t107.size : Int)) = true := decide_eq_true c17
   have c17b1 : decide (0 < t107.size) = true := decide_eq_true (by omega)
   clear c17
   by_cases c19 : (bt t107 0) = 44
   ·rw [if_pos c19] at H
    have c19b0 : ((bt t107 0) == 44) = true := beq_iff_eq.mpr c19
    have c19b1 : ((bt t107 0) != 44) = false := bne_eq_false_iff_eq.mpr c19
    clear c19
    by_cases c20 : 1 ≤ (t107.size : Int)
    rotate_left
    ·rw [if_neg c20] at H
     exact absurd H (by simp)
    rw [if_pos c20] at H
    have c20b0 := eq_true c20
    have c20b1 : decide (1 ≤ (t107.size : Int)) = true := decide_eq_true c20
    clear c20
    have H' := mk0 H
    clear H
    go_wp2_with (first | ((with_reducible refine gate_callee (f := 74) rfl ?_); refine goesL_ (some 18) rfl rfl Tryd.func74 zq24 rfl #[.string x0_1] rfl zq0 ?_; (with_reducible refine (fastjson_skipWS.calls k1 x0_1 t103 _ A10.out).mono ?_); rintro e w' ⟨rfl, ⟨nd, rfl⟩⟩; refine ⟨_, rfl, ?_⟩) | ((with_reducible refine gate_callee (f := 81) rfl ?_); refine goesL_ (some 21) rfl rfl Tryd.func81 zq24 rfl #[.string t103] rfl zq0 ?_; (with_reducible refine (ih_81 k1 zq72 t103 t104 none _ ?side1 A11.out).mono ?_); (case side1 => exact zq25); rintro e w21 ⟨zn1_, hzn1_, rfl, hb⟩; obtain rfl := Zk.none_ hzn1_; refine ⟨_, rfl, ?_⟩; have n0_ := mk0 (below_step zq1 hb); clear HB; have HB := n0_; clear n0_ hb; (try simp only [errW_none, errW_some])) | ((with_reducible refine gate_callee (f := 74) rfl ?_); refine goesL_ (some 29) rfl rfl Tryd.func74 zq24 rfl #[.string t104] rfl zq0 ?_; (with_reducible refine (fastjson_skipWS.calls k1 t104 t107 _ A12.out).mono ?_); rintro e w' ⟨rfl, ⟨nd, rfl⟩⟩; refine ⟨_, rfl, ?_⟩; have p18 : 0 ≤ (0 : Int) := (by omega); have q18 : 0 < t107.size := (by have : (0 : Int) < (t107.size : Int) := of_decide_eq_true zq5; omega); have hx18 : ∀ h : 0 < t107.size, ((t107[0]'h).toNat : Int) = bt t107 0 := bt_at t107 0; clear p18; have qi18 : (0 < (t107.size : Int)) = True := eq_true (of_decide_eq_true zq5); replace q18 := eq_true q18))
    go_roundg k1
    case measure => have := HK1.out; omega
    case rel => exact ⟨(t107.extract 1 t107.size), (by rfl), H', ⟨by have := HK1.out; omega⟩, ⟨by repeat (first | (with_reducible first | exact HB.out | apply below_alloc | apply pw_below_drewN | apply below_drew1) | exact HB.out)⟩⟩
   rw [if_neg c19] at H
   have c19b0 : ((bt t107 0) == 44) = false := beq_eq_false_iff_ne.mpr c19
   have c19b1 : ((bt t107 0) != 44) = true := bne_iff_ne.mpr c19
   by_cases c23 : (bt t107 0) = 93
   ·rw [if_pos c23] at H
    have c23b0 : ((bt t107 0) == 93) = true := beq_iff_eq.mpr c23
    have c23b1 : ((bt t107 0) != 93) = false := bne_eq_false_iff_eq.mpr c23
    clear c23
    by_cases c24 : 1 ≤ (t107.size : Int)
    rotate_left
    ·rw [if_neg c24] at H
     exact absurd H (by simp)
    rw [if_pos c24] at H
    have c24b0 := eq_true c24
    have c24b1 : decide (1 ≤ (t107.size : Int)) = true := decide_eq_true c24
    clear c24
    simp only [Option.some.injEq, Prod.mk.injEq] at H
    obtain ⟨rfl, rfl⟩ := H
    go_wp2_with (first | ((with_reducible refine gate_callee (f := 74) rfl ?_); refine goesL_ (some 18) rfl rfl Tryd.func74 zq24 rfl #[.string x0_1] rfl zq0 ?_; (with_reducible refine (fastjson_skipWS.calls k1 x0_1 t103 _ A10.out).mono ?_); rintro e w' ⟨rfl, ⟨nd, rfl⟩⟩; refine ⟨_, rfl, ?_⟩) | ((with_reducible refine gate_callee (f := 81) rfl ?_); refine goesL_ (some 21) rfl rfl Tryd.func81 zq24 rfl #[.string t103] rfl zq0 ?_; (with_reducible refine (ih_81 k1 zq72 t103 t104 none _ ?side1 A11.out).mono ?_); (case side1 => exact zq25); rintro e w25 ⟨zn1_, hzn1_, rfl, hb⟩; obtain rfl := Zk.none_ hzn1_; refine ⟨_, rfl, ?_⟩; have n0_ := mk0 (below_step zq1 hb); clear HB; have HB := n0_; clear n0_ hb; (try simp only [errW_none, errW_some])) | ((with_reducible refine gate_callee (f := 74) rfl ?_); refine goesL_ (some 29) rfl rfl Tryd.func74 zq24 rfl #[.string t104] rfl zq0 ?_; (with_reducible refine (fastjson_skipWS.calls k1 t104 t107 _ A12.out).mono ?_); rintro e w' ⟨rfl, ⟨nd, rfl⟩⟩; refine ⟨_, rfl, ?_⟩; have p18 : 0 ≤ (0 : Int) := (by omega); have q18 : 0 < t107.size := (by have : (0 : Int) < (t107.size : Int) := of_decide_eq_true zq5; omega); have hx18 : ∀ h : 0 < t107.size, ((t107[0]'h).toNat : Int) = bt t107 0 := bt_at t107 0; clear p18; have qi18 : (0 < (t107.size : Int)) = True := eq_true (of_decide_eq_true zq5); replace q18 := eq_true q18; have p22 : 0 ≤ (0 : Int) := (by omega); have q22 : 0 < t107.size := (by have : (0 : Int) < (t107.size : Int) := of_decide_eq_true zq5; omega); have hx22 : ∀ h : 0 < t107.size, ((t107[0]'h).toNat : Int) = bt t107 0 := bt_at t107 0; clear p22; have qi22 : (0 < (t107.size : Int)) = True := eq_true (of_decide_eq_true zq5); replace q22 := eq_true q22))
    go_ret2
    exact ⟨none, Zk.nn, by rfl, by repeat (first | (with_reducible first | exact HB.out | apply below_alloc | apply pw_below_drewN | apply below_drew1) | exact HB.out)⟩
   rw [if_neg c23] at H
   have c23b0 : ((bt t107 0) == 93) = false := beq_eq_false_iff_ne.mpr c23
   have c23b1 : ((bt t107 0) != 93) = true := bne_iff_ne.mpr c23
   replace H := Option.bind_eq_some_iff.mp H
   obtain ⟨t109, A260, H⟩ := H
   (try dsimp only at H)
   have A26 := mk0 A260
   clear A260
   simp only [Option.some.injEq, Prod.mk.injEq] at H
   obtain ⟨rfl, rfl⟩ := H
   go_wp2_with (first | ((with_reducible refine gate_callee (f := 74) rfl ?_); refine goesL_ (some 18) rfl rfl Tryd.func74 zq24 rfl #[.string x0_1] rfl zq0 ?_; (with_reducible refine (fastjson_skipWS.calls k1 x0_1 t103 _ A10.out).mono ?_); rintro e w' ⟨rfl, ⟨nd, rfl⟩⟩; refine ⟨_, rfl, ?_⟩) | ((with_reducible refine gate_callee (f := 81) rfl ?_); refine goesL_ (some 21) rfl rfl Tryd.func81 zq24 rfl #[.string t103] rfl zq0 ?_; (with_reducible refine (ih_81 k1 zq72 t103 t104 none _ ?side1 A11.out).mono ?_); (case side1 => exact zq25); rintro e w27 ⟨zn1_, hzn1_, rfl, hb⟩; obtain rfl := Zk.none_ hzn1_; refine ⟨_, rfl, ?_⟩; have n0_ := mk0 (below_step zq1 hb); clear HB; have HB := n0_; clear n0_ hb; (try simp only [errW_none, errW_some])) | ((with_reducible refine gate_callee (f := 74) rfl ?_); refine goesL_ (some 29) rfl rfl Tryd.func74 zq24 rfl #[.string t104] rfl zq0 ?_; (with_reducible refine (fastjson_skipWS.calls k1 t104 t107 _ A12.out).mono ?_); rintro e w' ⟨rfl, ⟨nd, rfl⟩⟩; refine ⟨_, rfl, ?_⟩; have p18 : 0 ≤ (0 : Int) := (by omega); have q18 : 0 < t107.size := (by have : (0 : Int) < (t107.size : Int) := of_decide_eq_true zq5; omega); have hx18 : ∀ h : 0 < t107.size, ((t107[0]'h).toNat : Int) = bt t107 0 := bt_at t107 0; clear p18; have qi18 : (0 < (t107.size : Int)) = True := eq_true (of_decide_eq_true zq5); replace q18 := eq_true q18; have p22 : 0 ≤ (0 : Int) := (by omega); have q22 : 0 < t107.size := (by have : (0 : Int) < (t107.size : Int) := of_decide_eq_true zq5; omega); have hx22 : ∀ h : 0 < t107.size, ((t107[0]'h).toNat : Int) = bt t107 0 := bt_at t107 0; clear p22; have qi22 : (0 < (t107.size : Int)) = True := eq_true (of_decide_eq_true zq5); replace q22 := eq_true q22) | ((with_reducible refine gate_callee (f := 54) rfl ?_); refine goesL_ (some 47) rfl rfl Tryd.func54 zq24 rfl #[.string (⟨#[109, 105, 115, 115, 105, 110, 103, 32, 39, 44, 39, 32, 97, 102, 116, 101, 114, 32, 97, 114, 114, 97, 121, 32, 118, 97, 108, 117, 101]⟩ : ByteArray)] rfl zq0 ?_; (with_reducible refine (errors_New.calls (⟨#[109, 105, 115, 115, 105, 110, 103, 32, 39, 44, 39, 32, 97, 102, 116, 101, 114, 32, 97, 114, 114, 97, 121, 32, 118, 97, 108, 117, 101]⟩ : ByteArray) t109 _ A26.out).mono ?_); rintro e w28 ⟨z_t109, hz_t109, rfl, hb⟩; have Hz_t109 := mk0 hz_t109; clear hz_t109; refine ⟨_, rfl, ?_⟩; have n0_ := mk0 (below_step zq1 hb); clear HB; have HB := n0_; clear n0_ hb; (try simp only [errW_none, errW_some])))
   go_ret2
   exact ⟨z_t109, Hz_t109.out, by rfl, by repeat (first | (with_reducible first | exact HB.out | apply below_alloc | apply pw_below_drewN | apply below_drew1) | exact HB.out)⟩
set_option maxHeartbeats 8000000 in
set_option maxRecDepth 100000 in
theorem fastjson_validateValue.step (k : Nat) (ih_80 : ∀ m, m < k → fastjson_validateArray.Stmt m) (ih_81 : ∀ m, m < k → fastjson_validateValue.Stmt m) (ih_106 : ∀ m, m < k → fastjson_validateObject.Stmt m) : fastjson_validateValue.Stmt k := by
 intro a0 r1 r2 w hG h
 cases k with
 | zero => exact absurd h (by simp [fastjson_validateValue.f])
 | succ k =>
 simp only [fastjson_validateValue.f] at h
 have HG := mk0 hG
 clear hG
 have hu55 := Tryd.underlying55
 have hu148 := Tryd.underlying148
 have HB := mk0 (Below.refl w.heap.size w)
 have H : (if (a0.size : Int) = 0 then ((errors_New.f (⟨#[99, 97, 110, 110, 111, 116, 32, 112, 97, 114, 115, 101, 32, 101, 109, 112, 116, 121, 32, 115, 116, 114, 105, 110, 103]⟩ : ByteArray)).bind fun t111 => (some (a0, t111))) else (if 0 < (a0.size : Int) then (if (bt a0 0) = 123 then (if 1 ≤ (a0.size : Int) then ((fastjson_validateObject.f k (a0.extract 1 a0.size)).bind fun bt112 => (if bt112.2.isNone = true then (some (bt112.1, none)) else ((errors_New.f (⟨#[99, 97, 110, 110, 111, 116, 32, 112, 97, 114, 115, 101, 32, 111, 98, 106, 101, 99, 116]⟩ : ByteArray)).bind fun t115 => (some (bt112.1, t115))))) else (none)) else (if (bt a0 0) = 91 then (if 1 ≤ (a0.size : Int) then ((fastjson_validateArray.f k (a0.extract 1 a0.size)).bind fun bt116 => (if bt116.2.isNone = true then (some (bt116.1, none)) else ((errors_New.f (⟨#[99, 97, 110, 110, 111, 116, 32, 112, 97, 114, 115, 101, 32, 97, 114, 114, 97, 121]⟩ : ByteArray)).bind fun t119 => (some (bt116.1, t119))))) else (none)) else (if (bt a0 0) = 34 then (if 1 ≤ (a0.size : Int) then ((fastjson_validateString.f k (a0.extract 1 a0.size)).bind fun bt120 => (if bt120.2.2.isNone = true then (fastjson_validateValue.l0 k bt120.1 bt120.2.1 (bt120.1.size : Int) 0) else ((errors_New.f (⟨#[99, 97, 110, 110, 111, 116, 32, 112, 97, 114, 115, 101, 32, 115, 116, 114, 105, 110, 103]⟩ : ByteArray)).bind fun t125 => (some (bt120.2.1, t125))))) else (none)) else (if (bt a0 0) = 116 then (if (a0.size : Int) < 4 then ((errors_New.f (⟨#[117, 110, 101, 120, 112, 101, 99, 116, 101, 100, 32, 118, 97, 108, 117, 101, 32, 102, 111, 117, 110, 100]⟩ : ByteArray)).bind fun t126 => (some (a0, t126))) else (if 0 ≤ 4 then (if 4 ≤ (a0.size : Int) then (if (a0.extract 0 4).toList = ([116, 114, 117, 101] : List UInt8) then (some (a0.extract 4 a0.size, none)) else ((errors_New.f (⟨#[117, 110, 101, 120, 112, 101, 99, 116, 101, 100, 32, 118, 97, 108, 117, 101, 32, 102, 111, 117, 110, 100]⟩ : ByteArray)).bind fun t127 => (some (a0, t127)))) else (none)) else (none))) else (if (bt a0 0) = 102 then (if (a0.size : Int) < 5 then ((errors_New.f (⟨#[117, 110, 101, 120, 112, 101, 99, 116, 101, 100, 32, 118, 97, 108, 117, 101, 32, 102, 111, 117, 110, 100]⟩ : ByteArray)).bind fun t128 => (some (a0, t128))) else (if 0 ≤ 5 then (if 5 ≤ (a0.size : Int) then (if (a0.extract 0 5).toList = ([102, 97, 108, 115, 101] : List UInt8) then (some (a0.extract 5 a0.size, none)) else ((errors_New.f (⟨#[117, 110, 101, 120, 112, 101, 99, 116, 101, 100, 32, 118, 97, 108, 117, 101, 32, 102, 111, 117, 110, 100]⟩ : ByteArray)).bind fun t129 => (some (a0, t129)))) else (none)) else (none))) else (if (bt a0 0) = 110 then (if (a0.size : Int) < 4 then ((errors_New.f (⟨#[117, 110, 101, 120, 112, 101, 99, 116, 101, 100, 32, 118, 97, 108, 117, 101, 32, 102, 111, 117, 110, 100]⟩ : ByteArray)).bind fun t130 => (some (a0, t130))) else (if 0 ≤ 4 then (if 4 ≤ (a0.size : Int) then (if (a0.extract 0 4).toList = ([110, 117, 108, 108] : List UInt8) then (some (a0.extract 4 a0.size, none)) else ((errors_New.f (⟨#[117, 110, 101, 120, 112, 101, 99, 116, 101, 100, 32, 118, 97, 108, 117, 101, 32, 102, 111, 117, 110, 100]⟩ : ByteArray)).bind fun t131 => (some (a0, t131)))) else (none)) else (none))) else ((fastjson_validateNumber.f k a0).bind fun bt132 => (if bt132.2.isNone = true then (some (bt132.1, none)) else ((errors_New.f (⟨#[99, 97, 110, 110, 111, 116, 32, 112, 97, 114, 115, 101, 32, 110, 117, 109, 98, 101, 114]⟩ : ByteArray)).bind fun t135 => (some (bt132.1, t135))))))))))) else (none))) = some (r1, r2) := h
 clear h
 by_cases c2 : (a0.size : Int) = 0
 ·rw [if_pos c2] at H
  have c2b0 : ((a0.size : Int) == 0) = true := beq_iff_eq.mpr c2
  have c2b1 : ((a0.size : Int) != 0) = false := bne_eq_false_iff_eq.mpr c2
  clear c2
  replace H := Option.bind_eq_some_iff.mp H
  obtain ⟨t111, A30, H⟩ := H
  (try dsimp only at H)
  have A3 := mk0 A30
  clear A30
  simp only [Option.some.injEq, Prod.mk.injEq] at H
  obtain ⟨rfl, rfl⟩ := H
  go_enter Tryd.func81, Tryd.ntmps81
  go_wp2_with (first | ((with_reducible refine gate_callee (f := 54) rfl ?_); refine goesL_ (some 18) rfl rfl Tryd.func54 zq24 rfl #[.string (⟨#[99, 97, 110, 110, 111, 116, 32, 112, 97, 114, 115, 101, 32, 101, 109, 112, 116, 121, 32, 115, 116, 114, 105, 110, 103]⟩ : ByteArray)] rfl zq0 ?_; (with_reducible refine (errors_New.calls (⟨#[99, 97, 110, 110, 111, 116, 32, 112, 97, 114, 115, 101, 32, 101, 109, 112, 116, 121, 32, 115, 116, 114, 105, 110, 103]⟩ : ByteArray) t111 _ A3.out).mono ?_); rintro e w4 ⟨z_t111, hz_t111, rfl, hb⟩; have Hz_t111 := mk0 hz_t111; clear hz_t111; refine ⟨_, rfl, ?_⟩; have n0_ := mk0 (below_step zq1 hb); clear HB; have HB := n0_; clear n0_ hb; (try simp only [errW_none, errW_some])))
  go_ret2
  exact ⟨z_t111, Hz_t111.out, by rfl, by repeat (first | (with_reducible first | exact HB.out | apply below_alloc | apply pw_below_drewN | apply below_drew1) | exact HB.out)⟩
 rw [if_neg c2] at H
 have c2b0 : ((a0.size : Int) == 0) = false := beq_eq_false_iff_ne.mpr c2
 have c2b1 : ((a0.size : Int) != 0) = true := bne_iff_ne.mpr c2
 by_cases c5 : 0 < (a0.size : Int)
 rotate_left
 ·rw [if_neg c5] at H
  exact absurd H (by simp)
 rw [if_pos c5] at H
 have c5b0 : decide (0 < (a0.size : Int)) = true := decide_eq_true c5
 have c5b1 : decide (0 < a0.size) = true := decide_eq_true (by omega)
 clear c5
 by_cases c7 : (bt a0 0) = 123
 ·rw [if_pos c7] at H
  have c7b0 : ((bt a0 0) == 123) = true := beq_iff_eq.mpr c7
  have c7b1 : ((bt a0 0) != 123) = false := bne_eq_false_iff_eq.mpr c7
  clear c7
  by_cases c8 : 1 ≤ (a0.size : Int)
  rotate_left
  ·rw [if_neg c8] at H
   exact absurd H (by simp)
  rw [if_pos c8] at H
  have c8b0 := eq_true c8
  have c8b1 : decide (1 ≤ (a0.size : Int)) = true := decide_eq_true c8
  clear c8
  replace H := Option.bind_eq_some_iff.mp H
  obtain ⟨⟨t112, t113⟩, A90, H⟩ := H
  (try dsimp only at H)
  have A9 := mk0 A90
  clear A90
  rcases t113 with _ | q114
  ·rw [if_pos (show (none : Option Int).isNone = true by rfl)] at H
   (try (obtain rfl := Zk.none_ Hz_t113.out))
   try simp only [errW_none, errW_some]
   simp only [Option.some.injEq, Prod.mk.injEq] at H
   obtain ⟨rfl, rfl⟩ := H
   have p6 : 0 ≤ (0 : Int) := (by omega)
   have q6 : 0 < a0.size := (by have : (0 : Int) < (a0.size : Int) := of_decide_eq_true zq5; omega)
   have hx6 : ∀ h : 0 < a0.size, ((a0[0]'h).toNat : Int) = bt a0 0 := bt_at a0 0
   clear p6
   have qi6 : (0 < (a0.size : Int)) = True := eq_true (of_decide_eq_true zq5)
   replace q6 := eq_true q6
   go_enter Tryd.func81, Tryd.ntmps81
   go_wp2_with (first | ((with_reducible refine gate_callee (f := 106) rfl ?_); refine goesL_ (some 25) rfl rfl Tryd.func106 zq24 rfl #[.string (a0.extract 1 a0.size)] rfl zq0 ?_; (with_reducible refine (ih_106 k (by omega) (a0.extract 1 a0.size) t112 none _ ?side1 A9.out).mono ?_); (case side1 => exact zq25); rintro e w10 ⟨zn1_, hzn1_, rfl, hb⟩; obtain rfl := Zk.none_ hzn1_; refine ⟨_, rfl, ?_⟩; have n0_ := mk0 (below_step zq1 hb); clear HB; have HB := n0_; clear n0_ hb; (try simp only [errW_none, errW_some])))
   go_ret2
   exact ⟨none, Zk.nn, by rfl, by repeat (first | (with_reducible first | exact HB.out | apply below_alloc | apply pw_below_drewN | apply below_drew1) | exact HB.out)⟩
  rw [if_neg (show ¬ (some q114).isNone = true by simp)] at H
  (try (obtain ⟨m_q114, rfl⟩ := Zk.some_ Hz_t113.out))
  try simp only [errW_none, errW_some]
  replace H := Option.bind_eq_some_iff.mp H
  obtain ⟨t115, A110, H⟩ := H
  (try dsimp only at H)
  have A11 := mk0 A110
  clear A110
  simp only [Option.some.injEq, Prod.mk.injEq] at H
  obtain ⟨rfl, rfl⟩ := H
  have p6 : 0 ≤ (0 : Int) := (by omega)
  have q6 : 0 < a0.size := (by have : (0 : Int) < (a0.size : Int) := of_decide_eq_true zq5; omega)
  have hx6 : ∀ h : 0 < a0.size, ((a0[0]'h).toNat : Int) = bt a0 0 := bt_at a0 0
  clear p6
  have qi6 : (0 < (a0.size : Int)) = True := eq_true (of_decide_eq_true zq5)
  replace q6 := eq_true q6
  go_enter Tryd.func81, Tryd.ntmps81
  go_wp2_with (first | ((with_reducible refine gate_callee (f := 106) rfl ?_); refine goesL_ (some 25) rfl rfl Tryd.func106 zq24 rfl #[.string (a0.extract 1 a0.size)] rfl zq0 ?_; (with_reducible refine (ih_106 k (by omega) (a0.extract 1 a0.size) t112 (some q114) _ ?side1 A9.out).mono ?_); (case side1 => exact zq25); rintro e w12 ⟨zs1_, hzs1_, rfl, hb⟩; obtain ⟨m_q114, rfl⟩ := Zk.some_ hzs1_; refine ⟨_, rfl, ?_⟩; have n0_ := mk0 (below_step zq1 hb); clear HB; have HB := n0_; clear n0_ hb; (try simp only [errW_none, errW_some])) | ((with_reducible refine gate_callee (f := 54) rfl ?_); refine goesL_ (some 31) rfl rfl Tryd.func54 zq24 rfl #[.string (⟨#[99, 97, 110, 110, 111, 116, 32, 112, 97, 114, 115, 101, 32, 111, 98, 106, 101, 99, 116]⟩ : ByteArray)] rfl zq0 ?_; (with_reducible refine (errors_New.calls (⟨#[99, 97, 110, 110, 111, 116, 32, 112, 97, 114, 115, 101, 32, 111, 98, 106, 101, 99, 116]⟩ : ByteArray) t115 _ A11.out).mono ?_); rintro e w13 ⟨z_t115, hz_t115, rfl, hb⟩; have Hz_t115 := mk0 hz_t115; clear hz_t115; refine ⟨_, rfl, ?_⟩; have n0_ := mk0 (below_step zq1 hb); clear HB; have HB := n0_; clear n0_ hb; (try simp only [errW_none, errW_some])))
  go_ret2
  exact ⟨z_t115, Hz_t115.out, by rfl, by repeat (first | (with_reducible first | exact HB.out | apply below_alloc | apply pw_below_drewN | apply below_drew1) | exact HB.out)⟩
 rw [if_neg c7] at H
 have c7b0 : ((bt a0 0) == 123) = false := beq_eq_false_iff_ne.mpr c7
 have c7b1 : ((bt a0 0) != 123) = true := bne_iff_ne.mpr c7
 by_cases c15 : (bt a0 0) = 91
 ·rw [if_pos c15] at H
  have c15b0 : ((bt a0 0) == 91) = true := beq_iff_eq.mpr c15
  have c15b1 : ((bt a0 0) != 91) = false := bne_eq_false_iff_eq.mpr c15
  clear c15
  by_cases c16 : 1 ≤ (a0.size : Int)
  rotate_left
  ·rw [if_neg c16] at H
   exact absurd H (by simp)
  rw [if_pos c16] at H
  have c16b0 := eq_true c16
  have c16b1 : decide (1 ≤ (a0.size : Int)) = true := decide_eq_true c16
  clear c16
  replace H := Option.bind_eq_some_iff.mp H
  obtain ⟨⟨t116, t117⟩, A170, H⟩ := H
  (try dsimp only at H)
  have A17 := mk0 A170
  clear A170
  rcases t117 with _ | q118
  ·rw [if_pos (show (none : Option Int).isNone = true by rfl)] at H
   (try (obtain rfl := Zk.none_ Hz_t117.out))
   try simp only [errW_none, errW_some]
   simp only [Option.some.injEq, Prod.mk.injEq] at H
   obtain ⟨rfl, rfl⟩ := H
   have p6 : 0 ≤ (0 : Int) := (by omega)
   have q6 : 0 < a0.size := (by have : (0 : Int) < (a0.size : Int) := of_decide_eq_true zq5; omega)
   have hx6 : ∀ h : 0 < a0.size, ((a0[0]'h).toNat : Int) = bt a0 0 := bt_at a0 0
   clear p6
   have qi6 : (0 < (a0.size : Int)) = True := eq_true (of_decide_eq_true zq5)
   replace q6 := eq_true q6
   have p14 : 0 ≤ (0 : Int) := (by omega)
   have q14 : 0 < a0.size := (by have : (0 : Int) < (a0.size : Int) := of_decide_eq_true zq5; omega)
   have hx14 : ∀ h : 0 < a0.size, ((a0[0]'h).toNat : Int) = bt a0 0 := bt_at a0 0
   clear p14
   have qi14 : (0 < (a0.size : Int)) = True := eq_true (of_decide_eq_true zq5)
   replace q14 := eq_true q14
   go_enter Tryd.func81, Tryd.ntmps81
   go_wp2_with (first | ((with_reducible refine gate_callee (f := 80) rfl ?_); refine goesL_ (some 39) rfl rfl Tryd.func80 zq24 rfl #[.string (a0.extract 1 a0.size)] rfl zq0 ?_; (with_reducible refine (ih_80 k (by omega) (a0.extract 1 a0.size) t116 none _ ?side1 A17.out).mono ?_); (case side1 => exact zq25); rintro e w18 ⟨zn1_, hzn1_, rfl, hb⟩; obtain rfl := Zk.none_ hzn1_; refine ⟨_, rfl, ?_⟩; have n0_ := mk0 (below_step zq1 hb); clear HB; have HB := n0_; clear n0_ hb; (try simp only [errW_none, errW_some])))
   go_ret2
   exact ⟨none, Zk.nn, by rfl, by repeat (first | (with_reducible first | exact HB.out | apply below_alloc | apply pw_below_drewN | apply below_drew1) | exact HB.out)⟩
  rw [if_neg (show ¬ (some q118).isNone = true by simp)] at H
  (try (obtain ⟨m_q118, rfl⟩ := Zk.some_ Hz_t117.out))
  try simp only [errW_none, errW_some]
  replace H := Option.bind_eq_some_iff.mp H
  obtain ⟨t119, A190, H⟩ := H
  (try dsimp only at H)
  have A19 := mk0 A190
  clear A190
  simp only [Option.some.injEq, Prod.mk.injEq] at H
  obtain ⟨rfl, rfl⟩ := H
  have p6 : 0 ≤ (0 : Int) := (by omega)
  have q6 : 0 < a0.size := (by have : (0 : Int) < (a0.size : Int) := of_decide_eq_true zq5; omega)
  have hx6 : ∀ h : 0 < a0.size, ((a0[0]'h).toNat : Int) = bt a0 0 := bt_at a0 0
  clear p6
  have qi6 : (0 < (a0.size : Int)) = True := eq_true (of_decide_eq_true zq5)
  replace q6 := eq_true q6
  have p14 : 0 ≤ (0 : Int) := (by omega)
  have q14 : 0 < a0.size := (by have : (0 : Int) < (a0.size : Int) := of_decide_eq_true zq5; omega)
  have hx14 : ∀ h : 0 < a0.size, ((a0[0]'h).toNat : Int) = bt a0 0 := bt_at a0 0
  clear p14
  have qi14 : (0 < (a0.size : Int)) = True := eq_true (of_decide_eq_true zq5)
  replace q14 := eq_true q14
  go_enter Tryd.func81, Tryd.ntmps81
  go_wp2_with (first | ((with_reducible refine gate_callee (f := 80) rfl ?_); refine goesL_ (some 39) rfl rfl Tryd.func80 zq24 rfl #[.string (a0.extract 1 a0.size)] rfl zq0 ?_; (with_reducible refine (ih_80 k (by omega) (a0.extract 1 a0.size) t116 (some q118) _ ?side1 A17.out).mono ?_); (case side1 => exact zq25); rintro e w20 ⟨zs1_, hzs1_, rfl, hb⟩; obtain ⟨m_q118, rfl⟩ := Zk.some_ hzs1_; refine ⟨_, rfl, ?_⟩; have n0_ := mk0 (below_step zq1 hb); clear HB; have HB := n0_; clear n0_ hb; (try simp only [errW_none, errW_some])) | ((with_reducible refine gate_callee (f := 54) rfl ?_); refine goesL_ (some 45) rfl rfl Tryd.func54 zq24 rfl #[.string (⟨#[99, 97, 110, 110, 111, 116, 32, 112, 97, 114, 115, 101, 32, 97, 114, 114, 97, 121]⟩ : ByteArray)] rfl zq0 ?_; (with_reducible refine (errors_New.calls (⟨#[99, 97, 110, 110, 111, 116, 32, 112, 97, 114, 115, 101, 32, 97, 114, 114, 97, 121]⟩ : ByteArray) t119 _ A19.out).mono ?_); rintro e w21 ⟨z_t119, hz_t119, rfl, hb⟩; have Hz_t119 := mk0 hz_t119; clear hz_t119; refine ⟨_, rfl, ?_⟩; have n0_ := mk0 (below_step zq1 hb); clear HB; have HB := n0_; clear n0_ hb; (try simp only [errW_none, errW_some])))
  go_ret2
  exact ⟨z_t119, Hz_t119.out, by rfl, by repeat (first | (with_reducible first | exact HB.out | apply below_alloc | apply pw_below_drewN | apply below_drew1) | exact HB.out)⟩
 rw [if_neg c15] at H
 have c15b0 : ((bt a0 0) == 91) = false := beq_eq_false_iff_ne.mpr c15
 have c15b1 : ((bt a0 0) != 91) = true := bne_iff_ne.mpr c15
 by_cases c23 : (bt a0 0) = 34
 ·rw [if_pos c23] at H
  have c23b0 : ((bt a0 0) == 34) = true := beq_iff_eq.mpr c23
  have c23b1 : ((bt a0 0) != 34) = false := bne_eq_false_iff_eq.mpr c23
  clear c23
  by_cases c24 : 1 ≤ (a0.size : Int)
  rotate_left
  ·rw [if_neg c24] at H
   exact absurd H (by simp)
  rw [if_pos c24] at H
  have c24b0 := eq_true c24
  have c24b1 : decide (1 ≤ (a0.size : Int)) = true := decide_eq_true c24
  clear c24
  replace H := Option.bind_eq_some_iff.mp H
  obtain ⟨⟨t120, t121, t122⟩, A250, H⟩ := H
  (try dsimp only at H)
  have A25 := mk0 A250
  clear A250
  rcases t122 with _ | q123
  rotate_left
  ·rw [if_neg (show ¬ (some q123).isNone = true by simp)] at H
   (try (obtain ⟨m_q123, rfl⟩ := Zk.some_ Hz_t122.out))
   try simp only [errW_none, errW_some]
   replace H := Option.bind_eq_some_iff.mp H
   obtain ⟨t125, A340, H⟩ := H
   (try dsimp only at H)
   have A34 := mk0 A340
   clear A340
   simp only [Option.some.injEq, Prod.mk.injEq] at H
   obtain ⟨rfl, rfl⟩ := H
   have p6 : 0 ≤ (0 : Int) := (by omega)
   have q6 : 0 < a0.size := (by have : (0 : Int) < (a0.size : Int) := of_decide_eq_true zq5; omega)
   have hx6 : ∀ h : 0 < a0.size, ((a0[0]'h).toNat : Int) = bt a0 0 := bt_at a0 0
   clear p6
   have qi6 : (0 < (a0.size : Int)) = True := eq_true (of_decide_eq_true zq5)
   replace q6 := eq_true q6
   have p14 : 0 ≤ (0 : Int) := (by omega)
   have q14 : 0 < a0.size := (by have : (0 : Int) < (a0.size : Int) := of_decide_eq_true zq5; omega)
   have hx14 : ∀ h : 0 < a0.size, ((a0[0]'h).toNat : Int) = bt a0 0 := bt_at a0 0
   clear p14
   have qi14 : (0 < (a0.size : Int)) = True := eq_true (of_decide_eq_true zq5)
   replace q14 := eq_true q14
   have p22 : 0 ≤ (0 : Int) := (by omega)
   have q22 : 0 < a0.size := (by have : (0 : Int) < (a0.size : Int) := of_decide_eq_true zq5; omega)
   have hx22 : ∀ h : 0 < a0.size, ((a0[0]'h).toNat : Int) = bt a0 0 := bt_at a0 0
   clear p22
   have qi22 : (0 < (a0.size : Int)) = True := eq_true (of_decide_eq_true zq5)
   replace q22 := eq_true q22
   go_enter Tryd.func81, Tryd.ntmps81
   go_wp2_with (first | ((with_reducible refine gate_callee (f := 107) rfl ?_); refine goesL_ (some 53) rfl rfl Tryd.func107 zq24 rfl #[.string (a0.extract 1 a0.size)] rfl zq0 ?_; (with_reducible refine (fastjson_validateString.calls k (a0.extract 1 a0.size) t120 t121 (some q123) _ ?side1 A25.out).mono ?_); (case side1 => exact zq25); rintro e w35 ⟨zs2_, hzs2_, rfl, hb⟩; obtain ⟨m_q123, rfl⟩ := Zk.some_ hzs2_; refine ⟨_, rfl, ?_⟩; have n0_ := mk0 (below_step zq1 hb); clear HB; have HB := n0_; clear n0_ hb; (try simp only [errW_none, errW_some])) | ((with_reducible refine gate_callee (f := 54) rfl ?_); refine goesL_ (some 60) rfl rfl Tryd.func54 zq24 rfl #[.string (⟨#[99, 97, 110, 110, 111, 116, 32, 112, 97, 114, 115, 101, 32, 115, 116, 114, 105, 110, 103]⟩ : ByteArray)] rfl zq0 ?_; (with_reducible refine (errors_New.calls (⟨#[99, 97, 110, 110, 111, 116, 32, 112, 97, 114, 115, 101, 32, 115, 116, 114, 105, 110, 103]⟩ : ByteArray) t125 _ A34.out).mono ?_); rintro e w36 ⟨z_t125, hz_t125, rfl, hb⟩; have Hz_t125 := mk0 hz_t125; clear hz_t125; refine ⟨_, rfl, ?_⟩; have n0_ := mk0 (below_step zq1 hb); clear HB; have HB := n0_; clear n0_ hb; (try simp only [errW_none, errW_some])))
   go_ret2
   exact ⟨z_t125, Hz_t125.out, by rfl, by repeat (first | (with_reducible first | exact HB.out | apply below_alloc | apply pw_below_drewN | apply below_drew1) | exact HB.out)⟩
  rw [if_pos (show (none : Option Int).isNone = true by rfl)] at H
  (try (obtain rfl := Zk.none_ Hz_t122.out))
  try simp only [errW_none, errW_some]
  have H' := mk0 H
  clear H
  have p6 : 0 ≤ (0 : Int) := (by omega)
  have q6 : 0 < a0.size := (by have : (0 : Int) < (a0.size : Int) := of_decide_eq_true zq5; omega)
  have hx6 : ∀ h : 0 < a0.size, ((a0[0]'h).toNat : Int) = bt a0 0 := bt_at a0 0
  clear p6
  have qi6 : (0 < (a0.size : Int)) = True := eq_true (of_decide_eq_true zq5)
  replace q6 := eq_true q6
  have p14 : 0 ≤ (0 : Int) := (by omega)
  have q14 : 0 < a0.size := (by have : (0 : Int) < (a0.size : Int) := of_decide_eq_true zq5; omega)
  have hx14 : ∀ h : 0 < a0.size, ((a0[0]'h).toNat : Int) = bt a0 0 := bt_at a0 0
  clear p14
  have qi14 : (0 < (a0.size : Int)) = True := eq_true (of_decide_eq_true zq5)
  replace q14 := eq_true q14
  have p22 : 0 ≤ (0 : Int) := (by omega)
  have q22 : 0 < a0.size := (by have : (0 : Int) < (a0.size : Int) := of_decide_eq_true zq5; omega)
  have hx22 : ∀ h : 0 < a0.size, ((a0[0]'h).toNat : Int) = bt a0 0 := bt_at a0 0
  clear p22
  have qi22 : (0 < (a0.size : Int)) = True := eq_true (of_decide_eq_true zq5)
  replace q22 := eq_true q22
  go_enter Tryd.func81, Tryd.ntmps81
  go_wp2_with (first | ((with_reducible refine gate_callee (f := 107) rfl ?_); refine goesL_ (some 53) rfl rfl Tryd.func107 zq24 rfl #[.string (a0.extract 1 a0.size)] rfl zq0 ?_; (with_reducible refine (fastjson_validateString.calls k (a0.extract 1 a0.size) t120 t121 none _ ?side1 A25.out).mono ?_); (case side1 => exact zq25); rintro e w26 ⟨zn2_, hzn2_, rfl, hb⟩; obtain rfl := Zk.none_ hzn2_; refine ⟨_, rfl, ?_⟩; have n0_ := mk0 (below_step zq1 hb); clear HB; have HB := n0_; clear n0_ hb; (try simp only [errW_none, errW_some])))
  (try simp only [Act.put, List.setIfInBounds_toArray, List.set_cons_zero, List.set_cons_succ])
  go_loopg [63] k (fun kq v63 w' => ∃ (x63_1 : Int), v63 = .int .i64 x63_1 ∧ Aside0 (fastjson_validateValue.l0 kq t120 t121 (t120.size : Int) x63_1 = some (r1, r2)) ∧ Aside0 (kq ≤ k) ∧ Aside0 (Below w.heap.size w w'))
  case atStart => exact ⟨(0), (by rfl), H', ⟨Nat.le_refl _⟩, ⟨by repeat (first | (with_reducible first | exact HB.out | apply below_alloc | apply pw_below_drewN | apply below_drew1) | exact HB.out)⟩⟩
  case round =>
   clear H'
   clear c2 c2b0 c2b1 c5b0 c5b1 q6 hx6 qi6 c7 c7b0 c7b1 q14 hx14 qi14 c15 c15b0 c15b1 q22 hx22 qi22 c23b0 c23b1 c24b0 c24b1
   obtain ⟨x63_1, rfl, HA, HK1, HB⟩ := hrel
   cases gk with
   | zero => exact absurd HA.out (by simp [fastjson_validateValue.l0])
   | succ k1 =>
    have H := HA.out
    clear HA
    simp only [fastjson_validateValue.l0] at H
    by_cases c27 : x63_1 < (t120.size : Int)
    rotate_left
    ·rw [if_neg c27] at H
     have c27b0 : decide (x63_1 < (t120.size : Int)) = false := decide_eq_false c27
     clear c27
     simp only [Option.some.injEq, Prod.mk.injEq] at H
     obtain ⟨rfl, rfl⟩ := H
     go_wp2
     go_ret2
     exact ⟨none, Zk.nn, by rfl, by repeat (first | (with_reducible first | exact HB.out | apply below_alloc | apply pw_below_drewN | apply below_drew1) | exact HB.out)⟩
    rw [if_pos c27] at H
    have c27b0 : decide (x63_1 < (t120.size : Int)) = true := decide_eq_true c27
    clear c27
    by_cases c28 : 0 ≤ x63_1
    rotate_left
    ·rw [if_neg c28] at H
     exact absurd H (by simp)
    rw [if_pos c28] at H
    have c28b0 : decide (0 ≤ x63_1) = true := decide_eq_true c28
    clear c28
    by_cases c29 : x63_1 < (t120.size : Int)
    rotate_left
    ·rw [if_neg c29] at H
     exact absurd H (by simp)
    rw [if_pos c29] at H
    have c29b0 : decide (x63_1 < (t120.size : Int)) = true := decide_eq_true c29
    clear c29
    by_cases c31 : (bt t120 x63_1) < 32
    rotate_left
    ·rw [if_neg c31] at H
     have c31b0 : decide ((bt t120 x63_1) < 32) = false := decide_eq_false c31
     clear c31
     have H' := mk0 H
     clear H
     have p30 : 0 ≤ (x63_1 : Int) := of_decide_eq_true zq5
     have q30 : x63_1 < (t120.size : Int) := of_decide_eq_true zq5
     have hx30 := bt_at t120 x63_1
     replace p30 := eq_true p30
     replace q30 := eq_true q30
     go_wp2
     go_roundg k1
     case measure => have := HK1.out; omega
     case rel => exact ⟨(wrap64 (x63_1 + 1)), (by rfl), H', ⟨by have := HK1.out; omega⟩, ⟨by repeat (first | (with_reducible first | exact HB.out | apply below_alloc | apply pw_below_drewN | apply below_drew1) | exact HB.out)⟩⟩
    rw [if_pos c31] at H
    have c31b0 : decide ((bt t120 x63_1) < 32) = true := decide_eq_true c31
    clear c31
    replace H := Option.bind_eq_some_iff.mp H
    obtain ⟨t124, A320, H⟩ := H
    (try dsimp only at H)
    have A32 := mk0 A320
    clear A320
    simp only [Option.some.injEq, Prod.mk.injEq] at H
    obtain ⟨rfl, rfl⟩ := H
    have p30 : 0 ≤ (x63_1 : Int) := of_decide_eq_true zq5
    have q30 : x63_1 < (t120.size : Int) := of_decide_eq_true zq5
    have hx30 := bt_at t120 x63_1
    replace p30 := eq_true p30
    replace q30 := eq_true q30
    go_wp2_with (first | ((with_reducible refine gate_callee (f := 54) rfl ?_); refine goesL_ (some 71) rfl rfl Tryd.func54 zq24 rfl #[.string (⟨#[115, 116, 114, 105, 110, 103, 32, 99, 97, 110, 110, 111, 116, 32, 99, 111, 110, 116, 97, 105, 110, 32, 99, 111, 110, 116, 114, 111, 108, 32, 99, 104, 97, 114, 32, 48, 120]⟩ : ByteArray)] rfl zq0 ?_; (with_reducible refine (errors_New.calls (⟨#[115, 116, 114, 105, 110, 103, 32, 99, 97, 110, 110, 111, 116, 32, 99, 111, 110, 116, 97, 105, 110, 32, 99, 111, 110, 116, 114, 111, 108, 32, 99, 104, 97, 114, 32, 48, 120]⟩ : ByteArray) t124 _ A32.out).mono ?_); rintro e w33 ⟨z_t124, hz_t124, rfl, hb⟩; have Hz_t124 := mk0 hz_t124; clear hz_t124; refine ⟨_, rfl, ?_⟩; have n0_ := mk0 (below_step zq1 hb); clear HB; have HB := n0_; clear n0_ hb; (try simp only [errW_none, errW_some])))
    go_ret2
    exact ⟨z_t124, Hz_t124.out, by rfl, by repeat (first | (with_reducible first | exact HB.out | apply below_alloc | apply pw_below_drewN | apply below_drew1) | exact HB.out)⟩
 rw [if_neg c23] at H
 have c23b0 : ((bt a0 0) == 34) = false := beq_eq_false_iff_ne.mpr c23
 have c23b1 : ((bt a0 0) != 34) = true := bne_iff_ne.mpr c23
 by_cases c38 : (bt a0 0) = 116
 ·rw [if_pos c38] at H
  have c38b0 : ((bt a0 0) == 116) = true := beq_iff_eq.mpr c38
  have c38b1 : ((bt a0 0) != 116) = false := bne_eq_false_iff_eq.mpr c38
  clear c38
  by_cases c39 : (a0.size : Int) < 4
  ·rw [if_pos c39] at H
   have c39b0 : decide ((a0.size : Int) < 4) = true := decide_eq_true c39
   have c39b1 : decide (a0.size < 4) = true := decide_eq_true (by omega)
   clear c39
   replace H := Option.bind_eq_some_iff.mp H
   obtain ⟨t126, A400, H⟩ := H
   (try dsimp only at H)
   have A40 := mk0 A400
   clear A400
   simp only [Option.some.injEq, Prod.mk.injEq] at H
   obtain ⟨rfl, rfl⟩ := H
   have p6 : 0 ≤ (0 : Int) := (by omega)
   have q6 : 0 < a0.size := (by have : (0 : Int) < (a0.size : Int) := of_decide_eq_true zq5; omega)
   have hx6 : ∀ h : 0 < a0.size, ((a0[0]'h).toNat : Int) = bt a0 0 := bt_at a0 0
   clear p6
   have qi6 : (0 < (a0.size : Int)) = True := eq_true (of_decide_eq_true zq5)
   replace q6 := eq_true q6
   have p14 : 0 ≤ (0 : Int) := (by omega)
   have q14 : 0 < a0.size := (by have : (0 : Int) < (a0.size : Int) := of_decide_eq_true zq5; omega)
   have hx14 : ∀ h : 0 < a0.size, ((a0[0]'h).toNat : Int) = bt a0 0 := bt_at a0 0
   clear p14
   have qi14 : (0 < (a0.size : Int)) = True := eq_true (of_decide_eq_true zq5)
   replace q14 := eq_true q14
   have p22 : 0 ≤ (0 : Int) := (by omega)
   have q22 : 0 < a0.size := (by have : (0 : Int) < (a0.size : Int) := of_decide_eq_true zq5; omega)
   have hx22 : ∀ h : 0 < a0.size, ((a0[0]'h).toNat : Int) = bt a0 0 := bt_at a0 0
   clear p22
   have qi22 : (0 < (a0.size : Int)) = True := eq_true (of_decide_eq_true zq5)
   replace q22 := eq_true q22
   have p37 : 0 ≤ (0 : Int) := (by omega)
   have q37 : 0 < a0.size := (by have : (0 : Int) < (a0.size : Int) := of_decide_eq_true zq5; omega)
   have hx37 : ∀ h : 0 < a0.size, ((a0[0]'h).toNat : Int) = bt a0 0 := bt_at a0 0
   clear p37
   have qi37 : (0 < (a0.size : Int)) = True := eq_true (of_decide_eq_true zq5)
   replace q37 := eq_true q37
   go_enter Tryd.func81, Tryd.ntmps81
   go_wp2_with (first | ((with_reducible refine gate_callee (f := 54) rfl ?_); refine goesL_ (some 86) rfl rfl Tryd.func54 zq24 rfl #[.string (⟨#[117, 110, 101, 120, 112, 101, 99, 116, 101, 100, 32, 118, 97, 108, 117, 101, 32, 102, 111, 117, 110, 100]⟩ : ByteArray)] rfl zq0 ?_; (with_reducible refine (errors_New.calls (⟨#[117, 110, 101, 120, 112, 101, 99, 116, 101, 100, 32, 118, 97, 108, 117, 101, 32, 102, 111, 117, 110, 100]⟩ : ByteArray) t126 _ A40.out).mono ?_); rintro e w41 ⟨z_t126, hz_t126, rfl, hb⟩; have Hz_t126 := mk0 hz_t126; clear hz_t126; refine ⟨_, rfl, ?_⟩; have n0_ := mk0 (below_step zq1 hb); clear HB; have HB := n0_; clear n0_ hb; (try simp only [errW_none, errW_some])))
   go_ret2
   exact ⟨z_t126, Hz_t126.out, by rfl, by repeat (first | (with_reducible first | exact HB.out | apply below_alloc | apply pw_below_drewN | apply below_drew1) | exact HB.out)⟩
  rw [if_neg c39] at H
  have c39b0 : decide ((a0.size : Int) < 4) = false := decide_eq_false c39
  have c39b1 : decide (a0.size < 4) = false := decide_eq_false (by omega)
  clear c39
  by_cases c42 : 0 ≤ 4
  rotate_left
  ·rw [if_neg c42] at H
   exact absurd H (by simp)
  rw [if_pos c42] at H
  have c42b0 := eq_true c42
  have c42b1 : decide (0 ≤ 4) = true := decide_eq_true c42
  clear c42
  by_cases c43 : 4 ≤ (a0.size : Int)
  rotate_left
  ·rw [if_neg c43] at H
   exact absurd H (by simp)
  rw [if_pos c43] at H
  have c43b0 := eq_true c43
  have c43b1 : decide (4 ≤ (a0.size : Int)) = true := decide_eq_true c43
  clear c43
  by_cases c44 : (a0.extract 0 4).toList = ([116, 114, 117, 101] : List UInt8)
  ·rw [if_pos c44] at H
   have c44b0 : ((a0.extract 0 4).toList == ([116, 114, 117, 101] : List UInt8)) = true := beq_iff_eq.mpr c44
   have c44b1 : ((a0.extract 0 4).toList != ([116, 114, 117, 101] : List UInt8)) = false := bne_eq_false_iff_eq.mpr c44
   clear c44
   have c45b0 := eq_true (of_decide_eq_true zq5 : 4 ≤ (a0.size : Int))
   simp only [Option.some.injEq, Prod.mk.injEq] at H
   obtain ⟨rfl, rfl⟩ := H
   have p6 : 0 ≤ (0 : Int) := (by omega)
   have q6 : 0 < a0.size := (by have : (0 : Int) < (a0.size : Int) := of_decide_eq_true zq5; omega)
   have hx6 : ∀ h : 0 < a0.size, ((a0[0]'h).toNat : Int) = bt a0 0 := bt_at a0 0
   clear p6
   have qi6 : (0 < (a0.size : Int)) = True := eq_true (of_decide_eq_true zq5)
   replace q6 := eq_true q6
   have p14 : 0 ≤ (0 : Int) := (by omega)
   have q14 : 0 < a0.size := (by have : (0 : Int) < (a0.size : Int) := of_decide_eq_true zq5; omega)
   have hx14 : ∀ h : 0 < a0.size, ((a0[0]'h).toNat : Int) = bt a0 0 := bt_at a0 0
   clear p14
   have qi14 : (0 < (a0.size : Int)) = True := eq_true (of_decide_eq_true zq5)
   replace q14 := eq_true q14
   have p22 : 0 ≤ (0 : Int) := (by omega)
   have q22 : 0 < a0.size := (by have : (0 : Int) < (a0.size : Int) := of_decide_eq_true zq5; omega)
   have hx22 : ∀ h : 0 < a0.size, ((a0[0]'h).toNat : Int) = bt a0 0 := bt_at a0 0
   clear p22
   have qi22 : (0 < (a0.size : Int)) = True := eq_true (of_decide_eq_true zq5)
   replace q22 := eq_true q22
   have p37 : 0 ≤ (0 : Int) := (by omega)
   have q37 : 0 < a0.size := (by have : (0 : Int) < (a0.size : Int) := of_decide_eq_true zq5; omega)
   have hx37 : ∀ h : 0 < a0.size, ((a0[0]'h).toNat : Int) = bt a0 0 := bt_at a0 0
   clear p37
   have qi37 : (0 < (a0.size : Int)) = True := eq_true (of_decide_eq_true zq5)
   replace q37 := eq_true q37
   go_enter Tryd.func81, Tryd.ntmps81
   go_wp2
   go_ret2
   exact ⟨none, Zk.nn, by rfl, by repeat (first | (with_reducible first | exact HB.out | apply below_alloc | apply pw_below_drewN | apply below_drew1) | exact HB.out)⟩
  rw [if_neg c44] at H
  have c44b0 : ((a0.extract 0 4).toList == ([116, 114, 117, 101] : List UInt8)) = false := beq_eq_false_iff_ne.mpr c44
  have c44b1 : ((a0.extract 0 4).toList != ([116, 114, 117, 101] : List UInt8)) = true := bne_iff_ne.mpr c44
  replace H := Option.bind_eq_some_iff.mp H
  obtain ⟨t127, A460, H⟩ := H
  (try dsimp only at H)
  have A46 := mk0 A460
  clear A460
  simp only [Option.some.injEq, Prod.mk.injEq] at H
  obtain ⟨rfl, rfl⟩ := H
  have p6 : 0 ≤ (0 : Int) := (by omega)
  have q6 : 0 < a0.size := (by have : (0 : Int) < (a0.size : Int) := of_decide_eq_true zq5; omega)
  have hx6 : ∀ h : 0 < a0.size, ((a0[0]'h).toNat : Int) = bt a0 0 := bt_at a0 0
  clear p6
  have qi6 : (0 < (a0.size : Int)) = True := eq_true (of_decide_eq_true zq5)
  replace q6 := eq_true q6
  have p14 : 0 ≤ (0 : Int) := (by omega)
  have q14 : 0 < a0.size := (by have : (0 : Int) < (a0.size : Int) := of_decide_eq_true zq5; omega)
  have hx14 : ∀ h : 0 < a0.size, ((a0[0]'h).toNat : Int) = bt a0 0 := bt_at a0 0
  clear p14
  have qi14 : (0 < (a0.size : Int)) = True := eq_true (of_decide_eq_true zq5)
  replace q14 := eq_true q14
  have p22 : 0 ≤ (0 : Int) := (by omega)
  have q22 : 0 < a0.size := (by have : (0 : Int) < (a0.size : Int) := of_decide_eq_true zq5; omega)
  have hx22 : ∀ h : 0 < a0.size, ((a0[0]'h).toNat : Int) = bt a0 0 := bt_at a0 0
  clear p22
  have qi22 : (0 < (a0.size : Int)) = True := eq_true (of_decide_eq_true zq5)
  replace q22 := eq_true q22
  have p37 : 0 ≤ (0 : Int) := (by omega)
  have q37 : 0 < a0.size := (by have : (0 : Int) < (a0.size : Int) := of_decide_eq_true zq5; omega)
  have hx37 : ∀ h : 0 < a0.size, ((a0[0]'h).toNat : Int) = bt a0 0 := bt_at a0 0
  clear p37
  have qi37 : (0 < (a0.size : Int)) = True := eq_true (of_decide_eq_true zq5)
  replace q37 := eq_true q37
  go_enter Tryd.func81, Tryd.ntmps81
  go_wp2_with (first | ((with_reducible refine gate_callee (f := 54) rfl ?_); refine goesL_ (some 86) rfl rfl Tryd.func54 zq24 rfl #[.string (⟨#[117, 110, 101, 120, 112, 101, 99, 116, 101, 100, 32, 118, 97, 108, 117, 101, 32, 102, 111, 117, 110, 100]⟩ : ByteArray)] rfl zq0 ?_; (with_reducible refine (errors_New.calls (⟨#[117, 110, 101, 120, 112, 101, 99, 116, 101, 100, 32, 118, 97, 108, 117, 101, 32, 102, 111, 117, 110, 100]⟩ : ByteArray) t127 _ A46.out).mono ?_); rintro e w47 ⟨z_t127, hz_t127, rfl, hb⟩; have Hz_t127 := mk0 hz_t127; clear hz_t127; refine ⟨_, rfl, ?_⟩; have n0_ := mk0 (below_step zq1 hb); clear HB; have HB := n0_; clear n0_ hb; (try simp only [errW_none, errW_some])))
  go_ret2
  exact ⟨z_t127, Hz_t127.out, by rfl, by repeat (first | (with_reducible first | exact HB.out | apply below_alloc | apply pw_below_drewN | apply below_drew1) | exact HB.out)⟩
 rw [if_neg c38] at H
 have c38b0 : ((bt a0 0) == 116) = false := beq_eq_false_iff_ne.mpr c38
 have c38b1 : ((bt a0 0) != 116) = true := bne_iff_ne.mpr c38
 by_cases c49 : (bt a0 0) = 102
 ·rw [if_pos c49] at H
  have c49b0 : ((bt a0 0) == 102) = true := beq_iff_eq.mpr c49
  have c49b1 : ((bt a0 0) != 102) = false := bne_eq_false_iff_eq.mpr c49
  clear c49
  by_cases c50 : (a0.size : Int) < 5
  ·rw [if_pos c50] at H
   have c50b0 : decide ((a0.size : Int) < 5) = true := decide_eq_true c50
   have c50b1 : decide (a0.size < 5) = true := decide_eq_true (by omega)
   clear c50
   replace H := Option.bind_eq_some_iff.mp H
   obtain ⟨t128, A510, H⟩ := H
   (try dsimp only at H)
   have A51 := mk0 A510
   clear A510
   simp only [Option.some.injEq, Prod.mk.injEq] at H
   obtain ⟨rfl, rfl⟩ := H
   have p6 : 0 ≤ (0 : Int) := (by omega)
   have q6 : 0 < a0.size := (by have : (0 : Int) < (a0.size : Int) := of_decide_eq_true zq5; omega)
   have hx6 : ∀ h : 0 < a0.size, ((a0[0]'h).toNat : Int) = bt a0 0 := bt_at a0 0
   clear p6
   have qi6 : (0 < (a0.size : Int)) = True := eq_true (of_decide_eq_true zq5)
   replace q6 := eq_true q6
   have p14 : 0 ≤ (0 : Int) := (by omega)
   have q14 : 0 < a0.size := (by have : (0 : Int) < (a0.size : Int) := of_decide_eq_true zq5; omega)
   have hx14 : ∀ h : 0 < a0.size, ((a0[0]'h).toNat : Int) = bt a0 0 := bt_at a0 0
   clear p14
   have qi14 : (0 < (a0.size : Int)) = True := eq_true (of_decide_eq_true zq5)
   replace q14 := eq_true q14
   have p22 : 0 ≤ (0 : Int) := (by omega)
   have q22 : 0 < a0.size := (by have : (0 : Int) < (a0.size : Int) := of_decide_eq_true zq5; omega)
   have hx22 : ∀ h : 0 < a0.size, ((a0[0]'h).toNat : Int) = bt a0 0 := bt_at a0 0
   clear p22
   have qi22 : (0 < (a0.size : Int)) = True := eq_true (of_decide_eq_true zq5)
   replace q22 := eq_true q22
   have p37 : 0 ≤ (0 : Int) := (by omega)
   have q37 : 0 < a0.size := (by have : (0 : Int) < (a0.size : Int) := of_decide_eq_true zq5; omega)
   have hx37 : ∀ h : 0 < a0.size, ((a0[0]'h).toNat : Int) = bt a0 0 := bt_at a0 0
   clear p37
   have qi37 : (0 < (a0.size : Int)) = True := eq_true (of_decide_eq_true zq5)
   replace q37 := eq_true q37
   have p48 : 0 ≤ (0 : Int) := (by omega)
   have q48 : 0 < a0.size := (by have : (0 : Int) < (a0.size : Int) := of_decide_eq_true zq5; omega)
   have hx48 : ∀ h : 0 < a0.size, ((a0[0]'h).toNat : Int) = bt a0 0 := bt_at a0 0
   clear p48
   have qi48 : (0 < (a0.size : Int)) = True := eq_true (of_decide_eq_true zq5)
   replace q48 := eq_true q48
   go_enter Tryd.func81, Tryd.ntmps81
   go_wp2_with (first | ((with_reducible refine gate_callee (f := 54) rfl ?_); refine goesL_ (some 101) rfl rfl Tryd.func54 zq24 rfl #[.string (⟨#[117, 110, 101, 120, 112, 101, 99, 116, 101, 100, 32, 118, 97, 108, 117, 101, 32, 102, 111, 117, 110, 100]⟩ : ByteArray)] rfl zq0 ?_; (with_reducible refine (errors_New.calls (⟨#[117, 110, 101, 120, 112, 101, 99, 116, 101, 100, 32, 118, 97, 108, 117, 101, 32, 102, 111, 117, 110, 100]⟩ : ByteArray) t128 _ A51.out).mono ?_); rintro e w52 ⟨z_t128, hz_t128, rfl, hb⟩; have Hz_t128 := mk0 hz_t128; clear hz_t128; refine ⟨_, rfl, ?_⟩; have n0_ := mk0 (below_step zq1 hb); clear HB; have HB := n0_; clear n0_ hb; (try simp only [errW_none, errW_some])))
   go_ret2
   exact ⟨z_t128, Hz_t128.out, by rfl, by repeat (first | (with_reducible first | exact HB.out | apply below_alloc | apply pw_below_drewN | apply below_drew1) | exact HB.out)⟩
  rw [if_neg c50] at H
  have c50b0 : decide ((a0.size : Int) < 5) = false := decide_eq_false c50
  have c50b1 : decide (a0.size < 5) = false := decide_eq_false (by omega)
  clear c50
  by_cases c53 : 0 ≤ 5
  rotate_left
  ·rw [if_neg c53] at H
   exact absurd H (by simp)
  rw [if_pos c53] at H
  have c53b0 := eq_true c53
  have c53b1 : decide (0 ≤ 5) = true := decide_eq_true c53
  clear c53
  by_cases c54 : 5 ≤ (a0.size : Int)
  rotate_left
  ·rw [if_neg c54] at H
   exact absurd H (by simp)
  rw [if_pos c54] at H
  have c54b0 := eq_true c54
  have c54b1 : decide (5 ≤ (a0.size : Int)) = true := decide_eq_true c54
  clear c54
  by_cases c55 : (a0.extract 0 5).toList = ([102, 97, 108, 115, 101] : List UInt8)
  ·rw [if_pos c55] at H
   have c55b0 : ((a0.extract 0 5).toList == ([102, 97, 108, 115, 101] : List UInt8)) = true := beq_iff_eq.mpr c55
   have c55b1 : ((a0.extract 0 5).toList != ([102, 97, 108, 115, 101] : List UInt8)) = false := bne_eq_false_iff_eq.mpr c55
   clear c55
   have c56b0 := eq_true (of_decide_eq_true zq5 : 5 ≤ (a0.size : Int))
   simp only [Option.some.injEq, Prod.mk.injEq] at H
   obtain ⟨rfl, rfl⟩ := H
   have p6 : 0 ≤ (0 : Int) := (by omega)
   have q6 : 0 < a0.size := (by have : (0 : Int) < (a0.size : Int) := of_decide_eq_true zq5; omega)
   have hx6 : ∀ h : 0 < a0.size, ((a0[0]'h).toNat : Int) = bt a0 0 := bt_at a0 0
   clear p6
   have qi6 : (0 < (a0.size : Int)) = True := eq_true (of_decide_eq_true zq5)
   replace q6 := eq_true q6
   have p14 : 0 ≤ (0 : Int) := (by omega)
   have q14 : 0 < a0.size := (by have : (0 : Int) < (a0.size : Int) := of_decide_eq_true zq5; omega)
   have hx14 : ∀ h : 0 < a0.size, ((a0[0]'h).toNat : Int) = bt a0 0 := bt_at a0 0
   clear p14
   have qi14 : (0 < (a0.size : Int)) = True := eq_true (of_decide_eq_true zq5)
   replace q14 := eq_true q14
   have p22 : 0 ≤ (0 : Int) := (by omega)
   have q22 : 0 < a0.size := (by have : (0 : Int) < (a0.size : Int) := of_decide_eq_true zq5; omega)
   have hx22 : ∀ h : 0 < a0.size, ((a0[0]'h).toNat : Int) = bt a0 0 := bt_at a0 0
   clear p22
   have qi22 : (0 < (a0.size : Int)) = True := eq_true (of_decide_eq_true zq5)
   replace q22 := eq_true q22
   have p37 : 0 ≤ (0 : Int) := (by omega)
   have q37 : 0 < a0.size := (by have : (0 : Int) < (a0.size : Int) := of_decide_eq_true zq5; omega)
   have hx37 : ∀ h : 0 < a0.size, ((a0[0]'h).toNat : Int) = bt a0 0 := bt_at a0 0
   clear p37
   have qi37 : (0 < (a0.size : Int)) = True := eq_true (of_decide_eq_true zq5)
   replace q37 := eq_true q37
   have p48 : 0 ≤ (0 : Int) := (by omega)
   have q48 : 0 < a0.size := (by have : (0 : Int) < (a0.size : Int) := of_decide_eq_true zq5; omega)
   have hx48 : ∀ h : 0 < a0.size, ((a0[0]'h).toNat : Int) = bt a0 0 := bt_at a0 0
   clear p48
   have qi48 : (0 < (a0.size : Int)) = True := eq_true (of_decide_eq_true zq5)
   replace q48 := eq_true q48
   go_enter Tryd.func81, Tryd.ntmps81
   go_wp2
   go_ret2
   exact ⟨none, Zk.nn, by rfl, by repeat (first | (with_reducible first | exact HB.out | apply below_alloc | apply pw_below_drewN | apply below_drew1) | exact HB.out)⟩
  rw [if_neg c55] at H
  have c55b0 : ((a0.extract 0 5).toList == ([102, 97, 108, 115, 101] : List UInt8)) = false := beq_eq_false_iff_ne.mpr c55
  have c55b1 : ((a0.extract 0 5).toList != ([102, 97, 108, 115, 101] : List UInt8)) = true := bne_iff_ne.mpr c55
  replace H := Option.bind_eq_some_iff.mp H
  obtain ⟨t129, A570, H⟩ := H
  (try dsimp only at H)
  have A57 := mk0 A570
  clear A570
  simp only [Option.some.injEq, Prod.mk.injEq] at H
  obtain ⟨rfl, rfl⟩ := H
  have p6 : 0 ≤ (0 : Int) := (by omega)
  have q6 : 0 < a0.size := (by have : (0 : Int) < (a0.size : Int) := of_decide_eq_true zq5; omega)
  have hx6 : ∀ h : 0 < a0.size, ((a0[0]'h).toNat : Int) = bt a0 0 := bt_at a0 0
  clear p6
  have qi6 : (0 < (a0.size : Int)) = True := eq_true (of_decide_eq_true zq5)
  replace q6 := eq_true q6
  have p14 : 0 ≤ (0 : Int) := (by omega)
  have q14 : 0 < a0.size := (by have : (0 : Int) < (a0.size : Int) := of_decide_eq_true zq5; omega)
  have hx14 : ∀ h : 0 < a0.size, ((a0[0]'h).toNat : Int) = bt a0 0 := bt_at a0 0
  clear p14
  have qi14 : (0 < (a0.size : Int)) = True := eq_true (of_decide_eq_true zq5)
  replace q14 := eq_true q14
  have p22 : 0 ≤ (0 : Int) := (by omega)
  have q22 : 0 < a0.size := (by have : (0 : Int) < (a0.size : Int) := of_decide_eq_true zq5; omega)
  have hx22 : ∀ h : 0 < a0.size, ((a0[0]'h).toNat : Int) = bt a0 0 := bt_at a0 0
  clear p22
  have qi22 : (0 < (a0.size : Int)) = True := eq_true (of_decide_eq_true zq5)
  replace q22 := eq_true q22
  have p37 : 0 ≤ (0 : Int) := (by omega)
  have q37 : 0 < a0.size := (by have : (0 : Int) < (a0.size : Int) := of_decide_eq_true zq5; omega)
  have hx37 : ∀ h : 0 < a0.size, ((a0[0]'h).toNat : Int) = bt a0 0 := bt_at a0 0
  clear p37
  have qi37 : (0 < (a0.size : Int)) = True := eq_true (of_decide_eq_true zq5)
  replace q37 := eq_true q37
  have p48 : 0 ≤ (0 : Int) := (by omega)
  have q48 : 0 < a0.size := (by have : (0 : Int) < (a0.size : Int) := of_decide_eq_true zq5; omega)
  have hx48 : ∀ h : 0 < a0.size, ((a0[0]'h).toNat : Int) = bt a0 0 := bt_at a0 0
  clear p48
  have qi48 : (0 < (a0.size : Int)) = True := eq_true (of_decide_eq_true zq5)
  replace q48 := eq_true q48
  go_enter Tryd.func81, Tryd.ntmps81
  go_wp2_with (first | ((with_reducible refine gate_callee (f := 54) rfl ?_); refine goesL_ (some 101) rfl rfl Tryd.func54 zq24 rfl #[.string (⟨#[117, 110, 101, 120, 112, 101, 99, 116, 101, 100, 32, 118, 97, 108, 117, 101, 32, 102, 111, 117, 110, 100]⟩ : ByteArray)] rfl zq0 ?_; (with_reducible refine (errors_New.calls (⟨#[117, 110, 101, 120, 112, 101, 99, 116, 101, 100, 32, 118, 97, 108, 117, 101, 32, 102, 111, 117, 110, 100]⟩ : ByteArray) t129 _ A57.out).mono ?_); rintro e w58 ⟨z_t129, hz_t129, rfl, hb⟩; have Hz_t129 := mk0 hz_t129; clear hz_t129; refine ⟨_, rfl, ?_⟩; have n0_ := mk0 (below_step zq1 hb); clear HB; have HB := n0_; clear n0_ hb; (try simp only [errW_none, errW_some])))
  go_ret2
  exact ⟨z_t129, Hz_t129.out, by rfl, by repeat (first | (with_reducible first | exact HB.out | apply below_alloc | apply pw_below_drewN | apply below_drew1) | exact HB.out)⟩
 rw [if_neg c49] at H
 have c49b0 : ((bt a0 0) == 102) = false := beq_eq_false_iff_ne.mpr c49
 have c49b1 : ((bt a0 0) != 102) = true := bne_iff_ne.mpr c49
 by_cases c60 : (bt a0 0) = 110
 rotate_left
 ·rw [if_neg c60] at H
  have c60b0 : ((bt a0 0) == 110) = false := beq_eq_false_iff_ne.mpr c60
  have c60b1 : ((bt a0 0) != 110) = true := bne_iff_ne.mpr c60
  replace H := Option.bind_eq_some_iff.mp H
  obtain ⟨⟨t132, t133⟩, A700, H⟩ := H
  (try dsimp only at H)
  have A70 := mk0 A700
  clear A700
  rcases t133 with _ | q134
  ·rw [if_pos (show (none : Option Int).isNone = true by rfl)] at H
   (try (obtain rfl := Zk.none_ Hz_t133.out))
   try simp only [errW_none, errW_some]
   simp only [Option.some.injEq, Prod.mk.injEq] at H
   obtain ⟨rfl, rfl⟩ := H
   have p6 : 0 ≤ (0 : Int) := (by omega)
   have q6 : 0 < a0.size := (by have : (0 : Int) < (a0.size : Int) := of_decide_eq_true zq5; omega)
   have hx6 : ∀ h : 0 < a0.size, ((a0[0]'h).toNat : Int) = bt a0 0 := bt_at a0 0
   clear p6
   have qi6 : (0 < (a0.size : Int)) = True := eq_true (of_decide_eq_true zq5)
   replace q6 := eq_true q6
   have p14 : 0 ≤ (0 : Int) := (by omega)
   have q14 : 0 < a0.size := (by have : (0 : Int) < (a0.size : Int) := of_decide_eq_true zq5; omega)
   have hx14 : ∀ h : 0 < a0.size, ((a0[0]'h).toNat : Int) = bt a0 0 := bt_at a0 0
   clear p14
   have qi14 : (0 < (a0.size : Int)) = True := eq_true (of_decide_eq_true zq5)
   replace q14 := eq_true q14
   have p22 : 0 ≤ (0 : Int) := (by omega)
   have q22 : 0 < a0.size := (by have : (0 : Int) < (a0.size : Int) := of_decide_eq_true zq5; omega)
   have hx22 : ∀ h : 0 < a0.size, ((a0[0]'h).toNat : Int) = bt a0 0 := bt_at a0 0
   clear p22
   have qi22 : (0 < (a0.size : Int)) = True := eq_true (of_decide_eq_true zq5)
   replace q22 := eq_true q22
   have p37 : 0 ≤ (0 : Int) := (by omega)
   have q37 : 0 < a0.size := (by have : (0 : Int) < (a0.size : Int) := of_decide_eq_true zq5; omega)
   have hx37 : ∀ h : 0 < a0.size, ((a0[0]'h).toNat : Int) = bt a0 0 := bt_at a0 0
   clear p37
   have qi37 : (0 < (a0.size : Int)) = True := eq_true (of_decide_eq_true zq5)
   replace q37 := eq_true q37
   have p48 : 0 ≤ (0 : Int) := (by omega)
   have q48 : 0 < a0.size := (by have : (0 : Int) < (a0.size : Int) := of_decide_eq_true zq5; omega)
   have hx48 : ∀ h : 0 < a0.size, ((a0[0]'h).toNat : Int) = bt a0 0 := bt_at a0 0
   clear p48
   have qi48 : (0 < (a0.size : Int)) = True := eq_true (of_decide_eq_true zq5)
   replace q48 := eq_true q48
   have p59 : 0 ≤ (0 : Int) := (by omega)
   have q59 : 0 < a0.size := (by have : (0 : Int) < (a0.size : Int) := of_decide_eq_true zq5; omega)
   have hx59 : ∀ h : 0 < a0.size, ((a0[0]'h).toNat : Int) = bt a0 0 := bt_at a0 0
   clear p59
   have qi59 : (0 < (a0.size : Int)) = True := eq_true (of_decide_eq_true zq5)
   replace q59 := eq_true q59
   go_enter Tryd.func81, Tryd.ntmps81
   go_wp2_with (first | ((with_reducible refine gate_callee (f := 108) rfl ?_); refine goesL_ (some 121) rfl rfl Tryd.func108 zq24 rfl #[.string a0] rfl zq0 ?_; (with_reducible refine (fastjson_validateNumber.calls k a0 t132 none _ A70.out).mono ?_); rintro e w71 ⟨zn1_, hzn1_, rfl, hb⟩; obtain rfl := Zk.none_ hzn1_; refine ⟨_, rfl, ?_⟩; have n0_ := mk0 (below_step zq1 hb); clear HB; have HB := n0_; clear n0_ hb; (try simp only [errW_none, errW_some])))
   go_ret2
   exact ⟨none, Zk.nn, by rfl, by repeat (first | (with_reducible first | exact HB.out | apply below_alloc | apply pw_below_drewN | apply below_drew1) | exact HB.out)⟩
  rw [if_neg (show ¬ (some q134).isNone = true by simp)] at H
  (try (obtain ⟨m_q134, rfl⟩ := Zk.some_ Hz_t133.out))
  try simp only [errW_none, errW_some]
  replace H := Option.bind_eq_some_iff.mp H
  obtain ⟨t135, A720, H⟩ := H
  (try dsimp only at H)
  have A72 := mk0 A720
  clear A720
  simp only [Option.some.injEq, Prod.mk.injEq] at H
  obtain ⟨rfl, rfl⟩ := H
  have p6 : 0 ≤ (0 : Int) := (by omega)
  have q6 : 0 < a0.size := (by have : (0 : Int) < (a0.size : Int) := of_decide_eq_true zq5; omega)
  have hx6 : ∀ h : 0 < a0.size, ((a0[0]'h).toNat : Int) = bt a0 0 := bt_at a0 0
  clear p6
  have qi6 : (0 < (a0.size : Int)) = True := eq_true (of_decide_eq_true zq5)
  replace q6 := eq_true q6
  have p14 : 0 ≤ (0 : Int) := (by omega)
  have q14 : 0 < a0.size := (by have : (0 : Int) < (a0.size : Int) := of_decide_eq_true zq5; omega)
  have hx14 : ∀ h : 0 < a0.size, ((a0[0]'h).toNat : Int) = bt a0 0 := bt_at a0 0
  clear p14
  have qi14 : (0 < (a0.size : Int)) = True := eq_true (of_decide_eq_true zq5)
  replace q14 := eq_true q14
  have p22 : 0 ≤ (0 : Int) := (by omega)
  have q22 : 0 < a0.size := (by have : (0 : Int) < (a0.size : Int) := of_decide_eq_true zq5; omega)
  have hx22 : ∀ h : 0 < a0.size, ((a0[0]'h).toNat : Int) = bt a0 0 := bt_at a0 0
  clear p22
  have qi22 : (0 < (a0.size : Int)) = True := eq_true (of_decide_eq_true zq5)
  replace q22 := eq_true q22
  have p37 : 0 ≤ (0 : Int) := (by omega)
  have q37 : 0 < a0.size := (by have : (0 : Int) < (a0.size : Int) := of_decide_eq_true zq5; omega)
  have hx37 : ∀ h : 0 < a0.size, ((a0[0]'h).toNat : Int) = bt a0 0 := bt_at a0 0
  clear p37
  have qi37 : (0 < (a0.size : Int)) = True := eq_true (of_decide_eq_true zq5)
  replace q37 := eq_true q37
  have p48 : 0 ≤ (0 : Int) := (by omega)
  have q48 : 0 < a0.size := (by have : (0 : Int) < (a0.size : Int) := of_decide_eq_true zq5; omega)
  have hx48 : ∀ h : 0 < a0.size, ((a0[0]'h).toNat : Int) = bt a0 0 := bt_at a0 0
  clear p48
  have qi48 : (0 < (a0.size : Int)) = True := eq_true (of_decide_eq_true zq5)
  replace q48 := eq_true q48
  have p59 : 0 ≤ (0 : Int) := (by omega)
  have q59 : 0 < a0.size := (by have : (0 : Int) < (a0.size : Int) := of_decide_eq_true zq5; omega)
  have hx59 : ∀ h : 0 < a0.size, ((a0[0]'h).toNat : Int) = bt a0 0 := bt_at a0 0
  clear p59
  have qi59 : (0 < (a0.size : Int)) = True := eq_true (of_decide_eq_true zq5)
  replace q59 := eq_true q59
  go_enter Tryd.func81, Tryd.ntmps81
  go_wp2_with (first | ((with_reducible refine gate_callee (f := 108) rfl ?_); refine goesL_ (some 121) rfl rfl Tryd.func108 zq24 rfl #[.string a0] rfl zq0 ?_; (with_reducible refine (fastjson_validateNumber.calls k a0 t132 (some q134) _ A70.out).mono ?_); rintro e w73 ⟨zs1_, hzs1_, rfl, hb⟩; obtain ⟨m_q134, rfl⟩ := Zk.some_ hzs1_; refine ⟨_, rfl, ?_⟩; have n0_ := mk0 (below_step zq1 hb); clear HB; have HB := n0_; clear n0_ hb; (try simp only [errW_none, errW_some])) | ((with_reducible refine gate_callee (f := 54) rfl ?_); refine goesL_ (some 127) rfl rfl Tryd.func54 zq24 rfl #[.string (⟨#[99, 97, 110, 110, 111, 116, 32, 112, 97, 114, 115, 101, 32, 110, 117, 109, 98, 101, 114]⟩ : ByteArray)] rfl zq0 ?_; (with_reducible refine (errors_New.calls (⟨#[99, 97, 110, 110, 111, 116, 32, 112, 97, 114, 115, 101, 32, 110, 117, 109, 98, 101, 114]⟩ : ByteArray) t135 _ A72.out).mono ?_); rintro e w74 ⟨z_t135, hz_t135, rfl, hb⟩; have Hz_t135 := mk0 hz_t135; clear hz_t135; refine ⟨_, rfl, ?_⟩; have n0_ := mk0 (below_step zq1 hb); clear HB; have HB := n0_; clear n0_ hb; (try simp only [errW_none, errW_some])))
  go_ret2
  exact ⟨z_t135, Hz_t135.out, by rfl, by repeat (first | (with_reducible first | exact HB.out | apply below_alloc | apply pw_below_drewN | apply below_drew1) | exact HB.out)⟩
 rw [if_pos c60] at H
 have c60b0 : ((bt a0 0) == 110) = true := beq_iff_eq.mpr c60
 have c60b1 : ((bt a0 0) != 110) = false := bne_eq_false_iff_eq.mpr c60
 clear c60
 by_cases c61 : (a0.size : Int) < 4
 ·rw [if_pos c61] at H
  have c61b0 : decide ((a0.size : Int) < 4) = true := decide_eq_true c61
  have c61b1 : decide (a0.size < 4) = true := decide_eq_true (by omega)
  clear c61
  replace H := Option.bind_eq_some_iff.mp H
  obtain ⟨t130, A620, H⟩ := H
  (try dsimp only at H)
  have A62 := mk0 A620
  clear A620
  simp only [Option.some.injEq, Prod.mk.injEq] at H
  obtain ⟨rfl, rfl⟩ := H
  have p6 : 0 ≤ (0 : Int) := (by omega)
  have q6 : 0 < a0.size := (by have : (0 : Int) < (a0.size : Int) := of_decide_eq_true zq5; omega)
  have hx6 : ∀ h : 0 < a0.size, ((a0[0]'h).toNat : Int) = bt a0 0 := bt_at a0 0
  clear p6
  have qi6 : (0 < (a0.size : Int)) = True := eq_true (of_decide_eq_true zq5)
  replace q6 := eq_true q6
  have p14 : 0 ≤ (0 : Int) := (by omega)
  have q14 : 0 < a0.size := (by have : (0 : Int) < (a0.size : Int) := of_decide_eq_true zq5; omega)
  have hx14 : ∀ h : 0 < a0.size, ((a0[0]'h).toNat : Int) = bt a0 0 := bt_at a0 0
  clear p14
  have qi14 : (0 < (a0.size : Int)) = True := eq_true (of_decide_eq_true zq5)
  replace q14 := eq_true q14
  have p22 : 0 ≤ (0 : Int) := (by omega)
  have q22 : 0 < a0.size := (by have : (0 : Int) < (a0.size : Int) := of_decide_eq_true zq5; omega)
  have hx22 : ∀ h : 0 < a0.size, ((a0[0]'h).toNat : Int) = bt a0 0 := bt_at a0 0
  clear p22
  have qi22 : (0 < (a0.size : Int)) = True := eq_true (of_decide_eq_true zq5)
  replace q22 := eq_true q22
  have p37 : 0 ≤ (0 : Int) := (by omega)
  have q37 : 0 < a0.size := (by have : (0 : Int) < (a0.size : Int) := of_decide_eq_true zq5; omega)
  have hx37 : ∀ h : 0 < a0.size, ((a0[0]'h).toNat : Int) = bt a0 0 := bt_at a0 0
  clear p37
  have qi37 : (0 < (a0.size : Int)) = True := eq_true (of_decide_eq_true zq5)
  replace q37 := eq_true q37
  have p48 : 0 ≤ (0 : Int) := (by omega)
  have q48 : 0 < a0.size := (by have : (0 : Int) < (a0.size : Int) := of_decide_eq_true zq5; omega)
  have hx48 : ∀ h : 0 < a0.size, ((a0[0]'h).toNat : Int) = bt a0 0 := bt_at a0 0
  clear p48
  have qi48 : (0 < (a0.size : Int)) = True := eq_true (of_decide_eq_true zq5)
  replace q48 := eq_true q48
  have p59 : 0 ≤ (0 : Int) := (by omega)
  have q59 : 0 < a0.size := (by have : (0 : Int) < (a0.size : Int) := of_decide_eq_true zq5; omega)
  have hx59 : ∀ h : 0 < a0.size, ((a0[0]'h).toNat : Int) = bt a0 0 := bt_at a0 0
  clear p59
  have qi59 : (0 < (a0.size : Int)) = True := eq_true (of_decide_eq_true zq5)
  replace q59 := eq_true q59
  go_enter Tryd.func81, Tryd.ntmps81
  go_wp2_with (first | ((with_reducible refine gate_callee (f := 54) rfl ?_); refine goesL_ (some 116) rfl rfl Tryd.func54 zq24 rfl #[.string (⟨#[117, 110, 101, 120, 112, 101, 99, 116, 101, 100, 32, 118, 97, 108, 117, 101, 32, 102, 111, 117, 110, 100]⟩ : ByteArray)] rfl zq0 ?_; (with_reducible refine (errors_New.calls (⟨#[117, 110, 101, 120, 112, 101, 99, 116, 101, 100, 32, 118, 97, 108, 117, 101, 32, 102, 111, 117, 110, 100]⟩ : ByteArray) t130 _ A62.out).mono ?_); rintro e w63 ⟨z_t130, hz_t130, rfl, hb⟩; have Hz_t130 := mk0 hz_t130; clear hz_t130; refine ⟨_, rfl, ?_⟩; have n0_ := mk0 (below_step zq1 hb); clear HB; have HB := n0_; clear n0_ hb; (try simp only [errW_none, errW_some])))
  go_ret2
  exact ⟨z_t130, Hz_t130.out, by rfl, by repeat (first | (with_reducible first | exact HB.out | apply below_alloc | apply pw_below_drewN | apply below_drew1) | exact HB.out)⟩
 rw [if_neg c61] at H
 have c61b0 : decide ((a0.size : Int) < 4) = false := decide_eq_false c61
 have c61b1 : decide (a0.size < 4) = false := decide_eq_false (by omega)
 clear c61
 by_cases c64 : 0 ≤ 4
 rotate_left
 ·rw [if_neg c64] at H
  exact absurd H (by simp)
 rw [if_pos c64] at H
 have c64b0 := eq_true c64
 have c64b1 : decide (0 ≤ 4) = true := decide_eq_true c64
 clear c64
 by_cases c65 : 4 ≤ (a0.size : Int)
 rotate_left
 ·rw [if_neg c65] at H
  exact absurd H (by simp)
 rw [if_pos c65] at H
 have c65b0 := eq_true c65
 have c65b1 : decide (4 ≤ (a0.size : Int)) = true := decide_eq_true c65
 clear c65
 by_cases c66 : (a0.extract 0 4).toList = ([110, 117, 108, 108] : List UInt8)
 ·rw [if_pos c66] at H
  have c66b0 : ((a0.extract 0 4).toList == ([110, 117, 108, 108] : List UInt8)) = true := beq_iff_eq.mpr c66
  have c66b1 : ((a0.extract 0 4).toList != ([110, 117, 108, 108] : List UInt8)) = false := bne_eq_false_iff_eq.mpr c66
  clear c66
  have c67b0 := eq_true (of_decide_eq_true zq5 : 4 ≤ (a0.size : Int))
  simp only [Option.some.injEq, Prod.mk.injEq] at H
  obtain ⟨rfl, rfl⟩ := H
  have p6 : 0 ≤ (0 : Int) := (by omega)
  have q6 : 0 < a0.size := (by have : (0 : Int) < (a0.size : Int) := of_decide_eq_true zq5; omega)
  have hx6 : ∀ h : 0 < a0.size, ((a0[0]'h).toNat : Int) = bt a0 0 := bt_at a0 0
  clear p6
  have qi6 : (0 < (a0.size : Int)) = True := eq_true (of_decide_eq_true zq5)
  replace q6 := eq_true q6
  have p14 : 0 ≤ (0 : Int) := (by omega)
  have q14 : 0 < a0.size := (by have : (0 : Int) < (a0.size : Int) := of_decide_eq_true zq5; omega)
  have hx14 : ∀ h : 0 < a0.size, ((a0[0]'h).toNat : Int) = bt a0 0 := bt_at a0 0
  clear p14
  have qi14 : (0 < (a0.size : Int)) = True := eq_true (of_decide_eq_true zq5)
  replace q14 := eq_true q14
  have p22 : 0 ≤ (0 : Int) := (by omega)
  have q22 : 0 < a0.size := (by have : (0 : Int) < (a0.size : Int) := of_decide_eq_true zq5; omega)
  have hx22 : ∀ h : 0 < a0.size, ((a0[0]'h).toNat : Int) = bt a0 0 := bt_at a0 0
  clear p22
  have qi22 : (0 < (a0.size : Int)) = True := eq_true (of_decide_eq_true zq5)
  replace q22 := eq_true q22
  have p37 : 0 ≤ (0 : Int) := (by omega)
  have q37 : 0 < a0.size := (by have : (0 : Int) < (a0.size : Int) := of_decide_eq_true zq5; omega)
  have hx37 : ∀ h : 0 < a0.size, ((a0[0]'h).toNat : Int) = bt a0 0 := bt_at a0 0
  clear p37
  have qi37 : (0 < (a0.size : Int)) = True := eq_true (of_decide_eq_true zq5)
  replace q37 := eq_true q37
  have p48 : 0 ≤ (0 : Int) := (by omega)
  have q48 : 0 < a0.size := (by have : (0 : Int) < (a0.size : Int) := of_decide_eq_true zq5; omega)
  have hx48 : ∀ h : 0 < a0.size, ((a0[0]'h).toNat : Int) = bt a0 0 := bt_at a0 0
  clear p48
  have qi48 : (0 < (a0.size : Int)) = True := eq_true (of_decide_eq_true zq5)
  replace q48 := eq_true q48
  have p59 : 0 ≤ (0 : Int) := (by omega)
  have q59 : 0 < a0.size := (by have : (0 : Int) < (a0.size : Int) := of_decide_eq_true zq5; omega)
  have hx59 : ∀ h : 0 < a0.size, ((a0[0]'h).toNat : Int) = bt a0 0 := bt_at a0 0
  clear p59
  have qi59 : (0 < (a0.size : Int)) = True := eq_true (of_decide_eq_true zq5)
  replace q59 := eq_true q59
  go_enter Tryd.func81, Tryd.ntmps81
  go_wp2
  go_ret2
  exact ⟨none, Zk.nn, by rfl, by repeat (first | (with_reducible first | exact HB.out | apply below_alloc | apply pw_below_drewN | apply below_drew1) | exact HB.out)⟩
 rw [if_neg c66] at H
 have c66b0 : ((a0.extract 0 4).toList == ([110, 117, 108, 108] : List UInt8)) = false := beq_eq_false_iff_ne.mpr c66
 have c66b1 : ((a0.extract 0 4).toList != ([110, 117, 108, 108] : List UInt8)) = true := bne_iff_ne.mpr c66
 replace H := Option.bind_eq_some_iff.mp H
 obtain ⟨t131, A680, H⟩ := H
 (try dsimp only at H)
 have A68 := mk0 A680
 clear A680
 simp only [Option.some.injEq, Prod.mk.injEq] at H
 obtain ⟨rfl, rfl⟩ := H
 have p6 : 0 ≤ (0 : Int) := (by omega)
 have q6 : 0 < a0.size := (by have : (0 : Int) < (a0.size : Int) := of_decide_eq_true zq5; omega)
 have hx6 : ∀ h : 0 < a0.size, ((a0[0]'h).toNat : Int) = bt a0 0 := bt_at a0 0
 clear p6
 have qi6 : (0 < (a0.size : Int)) = True := eq_true (of_decide_eq_true zq5)
 replace q6 := eq_true q6
 have p14 : 0 ≤ (0 : Int) := (by omega)
 have q14 : 0 < a0.size := (by have : (0 : Int) < (a0.size : Int) := of_decide_eq_true zq5; omega)
 have hx14 : ∀ h : 0 < a0.size, ((a0[0]'h).toNat : Int) = bt a0 0 := bt_at a0 0
 clear p14
 have qi14 : (0 < (a0.size : Int)) = True := eq_true (of_decide_eq_true zq5)
 replace q14 := eq_true q14
 have p22 : 0 ≤ (0 : Int) := (by omega)
 have q22 : 0 < a0.size := (by have : (0 : Int) < (a0.size : Int) := of_decide_eq_true zq5; omega)
 have hx22 : ∀ h : 0 < a0.size, ((a0[0]'h).toNat : Int) = bt a0 0 := bt_at a0 0
 clear p22
 have qi22 : (0 < (a0.size : Int)) = True := eq_true (of_decide_eq_true zq5)
 replace q22 := eq_true q22
 have p37 : 0 ≤ (0 : Int) := (by omega)
 have q37 : 0 < a0.size := (by have : (0 : Int) < (a0.size : Int) := of_decide_eq_true zq5; omega)
 have hx37 : ∀ h : 0 < a0.size, ((a0[0]'h).toNat : Int) = bt a0 0 := bt_at a0 0
 clear p37
 have qi37 : (0 < (a0.size : Int)) = True := eq_true (of_decide_eq_true zq5)
 replace q37 := eq_true q37
 have p48 : 0 ≤ (0 : Int) := (by omega)
 have q48 : 0 < a0.size := (by have : (0 : Int) < (a0.size : Int) := of_decide_eq_true zq5; omega)
 have hx48 : ∀ h : 0 < a0.size, ((a0[0]'h).toNat : Int) = bt a0 0 := bt_at a0 0
 clear p48
 have qi48 : (0 < (a0.size : Int)) = True := eq_true (of_decide_eq_true zq5)
 replace q48 := eq_true q48
 have p59 : 0 ≤ (0 : Int) := (by omega)
 have q59 : 0 < a0.size := (by have : (0 : Int) < (a0.size : Int) := of_decide_eq_true zq5; omega)
 have hx59 : ∀ h : 0 < a0.size, ((a0[0]'h).toNat : Int) = bt a0 0 := bt_at a0 0
 clear p59
 have qi59 : (0 < (a0.size : Int)) = True := eq_true (of_decide_eq_true zq5)
 replace q59 := eq_true q59
 go_enter Tryd.func81, Tryd.ntmps81
 go_wp2_with (first | ((with_reducible refine gate_callee (f := 54) rfl ?_); refine goesL_ (some 116) rfl rfl Tryd.func54 zq24 rfl #[.string (⟨#[117, 110, 101, 120, 112, 101, 99, 116, 101, 100, 32, 118, 97, 108, 117, 101, 32, 102, 111, 117, 110, 100]⟩ : ByteArray)] rfl zq0 ?_; (with_reducible refine (errors_New.calls (⟨#[117, 110, 101, 120, 112, 101, 99, 116, 101, 100, 32, 118, 97, 108, 117, 101, 32, 102, 111, 117, 110, 100]⟩ : ByteArray) t131 _ A68.out).mono ?_); rintro e w69 ⟨z_t131, hz_t131, rfl, hb⟩; have Hz_t131 := mk0 hz_t131; clear hz_t131; refine ⟨_, rfl, ?_⟩; have n0_ := mk0 (below_step zq1 hb); clear HB; have HB := n0_; clear n0_ hb; (try simp only [errW_none, errW_some])))
 go_ret2
 exact ⟨z_t131, Hz_t131.out, by rfl, by repeat (first | (with_reducible first | exact HB.out | apply below_alloc | apply pw_below_drewN | apply below_drew1) | exact HB.out)⟩
set_option maxHeartbeats 8000000 in
set_option maxRecDepth 100000 in
theorem fastjson_validateObject.step (k : Nat) (ih_80 : ∀ m, m < k → fastjson_validateArray.Stmt m) (ih_81 : ∀ m, m < k → fastjson_validateValue.Stmt m) (ih_106 : ∀ m, m < k → fastjson_validateObject.Stmt m) : fastjson_validateObject.Stmt k := by
 intro a0 r1 r2 w hG h
 cases k with
 | zero => exact absurd h (by simp [fastjson_validateObject.f])
 | succ k =>
 simp only [fastjson_validateObject.f] at h
 have HG := mk0 hG
 clear hG
 have hu55 := Tryd.underlying55
 have hu148 := Tryd.underlying148
 have HB := mk0 (Below.refl w.heap.size w)
 have H : ((fastjson_skipWS.f k a0).bind fun t136 => (if (t136.size : Int) = 0 then ((errors_New.f (⟨#[109, 105, 115, 115, 105, 110, 103, 32, 39, 125]⟩ : ByteArray)).bind fun t137 => (some (t136, t137))) else (if 0 < (t136.size : Int) then (if (bt t136 0) = 125 then (if 1 ≤ (t136.size : Int) then (some (t136.extract 1 t136.size, none)) else (none)) else (fastjson_validateObject.l0 k t136)) else (none)))) = some (r1, r2) := h
 clear h
 replace H := Option.bind_eq_some_iff.mp H
 obtain ⟨t136, A20, H⟩ := H
 (try dsimp only at H)
 have A2 := mk0 A20
 clear A20
 by_cases c3 : (t136.size : Int) = 0
 ·rw [if_pos c3] at H
  have c3b0 : ((t136.size : Int) == 0) = true := beq_iff_eq.mpr c3
  have c3b1 : ((t136.size : Int) != 0) = false := bne_eq_false_iff_eq.mpr c3
  clear c3
  replace H := Option.bind_eq_some_iff.mp H
  obtain ⟨t137, A40, H⟩ := H
  (try dsimp only at H)
  have A4 := mk0 A40
  clear A40
  simp only [Option.some.injEq, Prod.mk.injEq] at H
  obtain ⟨rfl, rfl⟩ := H
  go_enter Tryd.func106, Tryd.ntmps106
  go_wp2_with (first | ((with_reducible refine gate_callee (f := 74) rfl ?_); refine goesL_ (some 8) rfl rfl Tryd.func74 zq24 rfl #[.string a0] rfl zq0 ?_; (with_reducible refine (fastjson_skipWS.calls k a0 t136 _ A2.out).mono ?_); rintro e w' ⟨rfl, ⟨nd, rfl⟩⟩; refine ⟨_, rfl, ?_⟩) | ((with_reducible refine gate_callee (f := 54) rfl ?_); refine goesL_ (some 13) rfl rfl Tryd.func54 zq24 rfl #[.string (⟨#[109, 105, 115, 115, 105, 110, 103, 32, 39, 125]⟩ : ByteArray)] rfl zq0 ?_; (with_reducible refine (errors_New.calls (⟨#[109, 105, 115, 115, 105, 110, 103, 32, 39, 125]⟩ : ByteArray) t137 _ A4.out).mono ?_); rintro e w5 ⟨z_t137, hz_t137, rfl, hb⟩; have Hz_t137 := mk0 hz_t137; clear hz_t137; refine ⟨_, rfl, ?_⟩; have n0_ := mk0 (below_step zq1 hb); clear HB; have HB := n0_; clear n0_ hb; (try simp only [errW_none, errW_some])))
  go_ret2
  exact ⟨z_t137, Hz_t137.out, by rfl, by repeat (first | (with_reducible first | exact HB.out | apply below_alloc | apply pw_below_drewN | apply below_drew1) | exact HB.out)⟩
 rw [if_neg c3] at H
 have c3b0 : ((t136.size : Int) == 0) = false := beq_eq_false_iff_ne.mpr c3
 have c3b1 : ((t136.size : Int) != 0) = true := bne_iff_ne.mpr c3
 by_cases c6 : 0 < (t136.size : Int)
 rotate_left
 ·rw [if_neg c6] at H
  exact absurd H (by simp)
 rw [if_pos c6] at H
 have c6b0 : decide (0 < (t136.size : Int)) = true := decide_eq_true c6
 have c6b1 : decide (0 < t136.size) = true := decide_eq_true (by omega)
 clear c6
 by_cases c8 : (bt t136 0) = 125
 ·rw [if_pos c8] at H
  have c8b0 : ((bt t136 0) == 125) = true := beq_iff_eq.mpr c8
  have c8b1 : ((bt t136 0) != 125) = false := bne_eq_false_iff_eq.mpr c8
  clear c8
  by_cases c9 : 1 ≤ (t136.size : Int)
  rotate_left
  ·rw [if_neg c9] at H
   exact absurd H (by simp)
  rw [if_pos c9] at H
  have c9b0 := eq_true c9
  have c9b1 : decide (1 ≤ (t136.size : Int)) = true := decide_eq_true c9
  clear c9
  simp only [Option.some.injEq, Prod.mk.injEq] at H
  obtain ⟨rfl, rfl⟩ := H
  go_enter Tryd.func106, Tryd.ntmps106
  go_wp2_with (first | ((with_reducible refine gate_callee (f := 74) rfl ?_); refine goesL_ (some 8) rfl rfl Tryd.func74 zq24 rfl #[.string a0] rfl zq0 ?_; (with_reducible refine (fastjson_skipWS.calls k a0 t136 _ A2.out).mono ?_); rintro e w' ⟨rfl, ⟨nd, rfl⟩⟩; refine ⟨_, rfl, ?_⟩; have p7 : 0 ≤ (0 : Int) := (by omega); have q7 : 0 < t136.size := (by have : (0 : Int) < (t136.size : Int) := of_decide_eq_true zq5; omega); have hx7 : ∀ h : 0 < t136.size, ((t136[0]'h).toNat : Int) = bt t136 0 := bt_at t136 0; clear p7; have qi7 : (0 < (t136.size : Int)) = True := eq_true (of_decide_eq_true zq5); replace q7 := eq_true q7))
  go_ret2
  exact ⟨none, Zk.nn, by rfl, by repeat (first | (with_reducible first | exact HB.out | apply below_alloc | apply pw_below_drewN | apply below_drew1) | exact HB.out)⟩
 rw [if_neg c8] at H
 have c8b0 : ((bt t136 0) == 125) = false := beq_eq_false_iff_ne.mpr c8
 have c8b1 : ((bt t136 0) != 125) = true := bne_iff_ne.mpr c8
 have H' := mk0 H
 clear H
 go_enter Tryd.func106, Tryd.ntmps106
 go_wp2_with (first | ((with_reducible refine gate_callee (f := 74) rfl ?_); refine goesL_ (some 8) rfl rfl Tryd.func74 zq24 rfl #[.string a0] rfl zq0 ?_; (with_reducible refine (fastjson_skipWS.calls k a0 t136 _ A2.out).mono ?_); rintro e w' ⟨rfl, ⟨nd, rfl⟩⟩; refine ⟨_, rfl, ?_⟩; have p7 : 0 ≤ (0 : Int) := (by omega); have q7 : 0 < t136.size := (by have : (0 : Int) < (t136.size : Int) := of_decide_eq_true zq5; omega); have hx7 : ∀ h : 0 < t136.size, ((t136[0]'h).toNat : Int) = bt t136 0 := bt_at t136 0; clear p7; have qi7 : (0 < (t136.size : Int)) = True := eq_true (of_decide_eq_true zq5); replace q7 := eq_true q7))
 (try simp only [Act.put, List.setIfInBounds_toArray, List.set_cons_zero, List.set_cons_succ])
 go_loopg [0] k (fun kq v0 w' => ∃ (x0_1 : ByteArray), v0 = .string x0_1 ∧ Aside0 (fastjson_validateObject.l0 kq x0_1 = some (r1, r2)) ∧ Aside0 (kq ≤ k) ∧ Aside0 (Below w.heap.size w w'))
 case atStart => exact ⟨(t136), (by rfl), H', ⟨Nat.le_refl _⟩, ⟨by repeat (first | (with_reducible first | exact HB.out | apply below_alloc | apply pw_below_drewN | apply below_drew1) | exact HB.out)⟩⟩
 case round =>
  clear H'
  clear c3 c3b0 c3b1 c6b0 c6b1 q7 hx7 qi7 c8 c8b0 c8b1
  obtain ⟨x0_1, rfl, HA, HK1, HB⟩ := hrel
  cases gk with
  | zero => exact absurd HA.out (by simp [fastjson_validateObject.l0])
  | succ k1 =>
   have H := HA.out
   clear HA
   simp only [fastjson_validateObject.l0] at H
   replace H := Option.bind_eq_some_iff.mp H
   obtain ⟨t138, A100, H⟩ := H
   (try dsimp only at H)
   have A10 := mk0 A100
   clear A100
   have HC11 := mk0 H
   clear H
   go_upto_region 8 with (first | ((with_reducible refine gate_callee (f := 74) rfl ?_); refine goesL_ (some 20) rfl rfl Tryd.func74 zq24 rfl #[.string x0_1] rfl zq0 ?_; (with_reducible refine (fastjson_skipWS.calls k1 x0_1 t138 _ A10.out).mono ?_); rintro e w' ⟨rfl, ⟨nd, rfl⟩⟩; refine ⟨_, rfl, ?_⟩))
   (try simp only [Act.put, List.setIfInBounds_toArray, List.set_cons_zero, List.set_cons_succ])
   go_cut [28] (fun v28 wc => ∃ (kq : Nat) (x28_10 : Bool), v28 = .bool x28_10 ∧ Aside0 (fastjson_validateObject.j1 kq t138 x28_10 = some (r1, r2)) ∧ Aside0 (kq ≤ k1) ∧ Aside0 (Below w.heap.size w wc))
   case first =>
    have H := HC11.out
    clear HC11
    by_cases c12 : (t138.size : Int) = 0
    ·rw [if_pos c12] at H
     have c12b0 : ((t138.size : Int) == 0) = true := beq_iff_eq.mpr c12
     have c12b1 : ((t138.size : Int) != 0) = false := bne_eq_false_iff_eq.mpr c12
     clear c12
     (skip)
     have H' := mk0 H
     clear H
     go_wp2
     go_meet
     case rel => exact ⟨_, (true), (by rfl), H', ⟨by have := HK1.out; first | omega | exact Nat.le_refl _⟩, ⟨by repeat (first | (with_reducible first | exact HB.out | apply below_alloc | apply pw_below_drewN | apply below_drew1) | exact HB.out)⟩⟩
    rw [if_neg c12] at H
    have c12b0 : ((t138.size : Int) == 0) = false := beq_eq_false_iff_ne.mpr c12
    have c12b1 : ((t138.size : Int) != 0) = true := bne_iff_ne.mpr c12
    (skip)
    by_cases c13 : 0 < (t138.size : Int)
    rotate_left
    ·rw [if_neg c13] at H
     exact absurd H (by simp)
    rw [if_pos c13] at H
    have c13b0 : decide (0 < (t138.size : Int)) = true := decide_eq_true c13
    have c13b1 : decide (0 < t138.size) = true := decide_eq_true (by omega)
    clear c13
    have H' := mk0 H
    clear H
    have p14 : 0 ≤ (0 : Int) := (by omega)
    have q14 : 0 < t138.size := (by have : (0 : Int) < (t138.size : Int) := of_decide_eq_true zq5; omega)
    have hx14 : ∀ h : 0 < t138.size, ((t138[0]'h).toNat : Int) = bt t138 0 := bt_at t138 0
    clear p14
    have qi14 : (0 < (t138.size : Int)) = True := eq_true (of_decide_eq_true zq5)
    replace q14 := eq_true q14
    go_wp2
    go_meet
    case rel => exact ⟨_, (((bt t138 0) != 34)), (by rfl), H', ⟨by have := HK1.out; first | omega | exact Nat.le_refl _⟩, ⟨by repeat (first | (with_reducible first | exact HB.out | apply below_alloc | apply pw_below_drewN | apply below_drew1) | exact HB.out)⟩⟩
   case rest =>
    clear HC11
    obtain ⟨kq, x28_10, rfl, HA, HJ10, HB⟩ := hcut
    cases kq with
    | zero => exact absurd HA.out (by simp [fastjson_validateObject.j1])
    | succ kj10 =>
     have H := HA.out
     clear HA
     simp only [fastjson_validateObject.j1] at H
     by_cases c15 : x28_10 = true
     ·subst c15
      rw [if_pos rfl] at H
      replace H := Option.bind_eq_some_iff.mp H
      obtain ⟨t139, A160, H⟩ := H
      (try dsimp only at H)
      have A16 := mk0 A160
      clear A160
      simp only [Option.some.injEq, Prod.mk.injEq] at H
      obtain ⟨rfl, rfl⟩ := H
      go_wp2_with (first | ((with_reducible refine gate_callee (f := 54) rfl ?_); refine goesL_ (some 30) rfl rfl Tryd.func54 zq24 rfl #[.string (⟨#[99, 97, 110, 110, 111, 116, 32, 102, 105, 110, 100, 32, 111, 112, 101, 110, 105, 110, 103, 32, 39, 34, 34, 32, 102, 111, 114, 32, 111, 98, 106, 101, 99, 116, 32, 107, 101, 121]⟩ : ByteArray)] rfl zq0 ?_; (with_reducible refine (errors_New.calls (⟨#[99, 97, 110, 110, 111, 116, 32, 102, 105, 110, 100, 32, 111, 112, 101, 110, 105, 110, 103, 32, 39, 34, 34, 32, 102, 111, 114, 32, 111, 98, 106, 101, 99, 116, 32, 107, 101, 121]⟩ : ByteArray) t139 _ A16.out).mono ?_); rintro e w17 ⟨z_t139, hz_t139, rfl, hb⟩; have Hz_t139 := mk0 hz_t139; clear hz_t139; refine ⟨_, rfl, ?_⟩; have n0_ := mk0 (below_step zq1 hb); clear HB; have HB := n0_; clear n0_ hb; (try simp only [errW_none, errW_some])))
      go_ret2
      exact ⟨z_t139, Hz_t139.out, by rfl, by repeat (first | (with_reducible first | exact HB.out | apply below_alloc | apply pw_below_drewN | apply below_drew1) | exact HB.out)⟩
     replace c15 := Bool.eq_false_iff.mpr c15
     subst c15
     rw [if_neg (show ¬ (false = true) by decide)] at H
     by_cases c18 : 1 ≤ (t138.size : Int)
     rotate_left
     ·rw [if_neg c18] at H
      exact absurd H (by simp)
     rw [if_pos c18] at H
     have c18b0 := eq_true c18
     have c18b1 : decide (1 ≤ (t138.size : Int)) = true := decide_eq_true c18
     clear c18
     replace H := Option.bind_eq_some_iff.mp H
     obtain ⟨⟨t140, t141, t142⟩, A190, H⟩ := H
     (try dsimp only at H)
     have A19 := mk0 A190
     clear A190
     rcases t142 with _ | q143
     rotate_left
     ·rw [if_neg (show ¬ (some q143).isNone = true by simp)] at H
      (try (obtain ⟨m_q143, rfl⟩ := Zk.some_ Hz_t142.out))
      try simp only [errW_none, errW_some]
      replace H := Option.bind_eq_some_iff.mp H
      obtain ⟨t155, A590, H⟩ := H
      (try dsimp only at H)
      have A59 := mk0 A590
      clear A590
      simp only [Option.some.injEq, Prod.mk.injEq] at H
      obtain ⟨rfl, rfl⟩ := H
      go_wp2_with (first | ((with_reducible refine gate_callee (f := 125) rfl ?_); refine goesL_ (some 34) rfl rfl Tryd.func125 zq24 rfl #[.string (t138.extract 1 t138.size)] rfl zq0 ?_; (with_reducible refine (fastjson_validateKey.calls kj10 (t138.extract 1 t138.size) t140 t141 (some q143) _ ?side1 A19.out).mono ?_); (case side1 => exact zq25); rintro e w60 ⟨zs2_, hzs2_, rfl, hb⟩; obtain ⟨m_q143, rfl⟩ := Zk.some_ hzs2_; refine ⟨_, rfl, ?_⟩; have n0_ := mk0 (below_step zq1 hb); clear HB; have HB := n0_; clear n0_ hb; (try simp only [errW_none, errW_some])) | ((with_reducible refine gate_callee (f := 54) rfl ?_); refine goesL_ (some 41) rfl rfl Tryd.func54 zq24 rfl #[.string (⟨#[99, 97, 110, 110, 111, 116, 32, 112, 97, 114, 115, 101, 32, 111, 98, 106, 101, 99, 116, 32, 107, 101, 121]⟩ : ByteArray)] rfl zq0 ?_; (with_reducible refine (errors_New.calls (⟨#[99, 97, 110, 110, 111, 116, 32, 112, 97, 114, 115, 101, 32, 111, 98, 106, 101, 99, 116, 32, 107, 101, 121]⟩ : ByteArray) t155 _ A59.out).mono ?_); rintro e w61 ⟨z_t155, hz_t155, rfl, hb⟩; have Hz_t155 := mk0 hz_t155; clear hz_t155; refine ⟨_, rfl, ?_⟩; have n0_ := mk0 (below_step zq1 hb); clear HB; have HB := n0_; clear n0_ hb; (try simp only [errW_none, errW_some])))
      go_ret2
      exact ⟨z_t155, Hz_t155.out, by rfl, by repeat (first | (with_reducible first | exact HB.out | apply below_alloc | apply pw_below_drewN | apply below_drew1) | exact HB.out)⟩
     rw [if_pos (show (none : Option Int).isNone = true by rfl)] at H
     (try (obtain rfl := Zk.none_ Hz_t142.out))
     try simp only [errW_none, errW_some]
     have H' := mk0 H
     clear H
     go_wp2_with (first | ((with_reducible refine gate_callee (f := 125) rfl ?_); refine goesL_ (some 34) rfl rfl Tryd.func125 zq24 rfl #[.string (t138.extract 1 t138.size)] rfl zq0 ?_; (with_reducible refine (fastjson_validateKey.calls kj10 (t138.extract 1 t138.size) t140 t141 none _ ?side1 A19.out).mono ?_); (case side1 => exact zq25); rintro e w20 ⟨zn2_, hzn2_, rfl, hb⟩; obtain rfl := Zk.none_ hzn2_; refine ⟨_, rfl, ?_⟩; have n0_ := mk0 (below_step zq1 hb); clear HB; have HB := n0_; clear n0_ hb; (try simp only [errW_none, errW_some])))
     (try simp only [Act.put, List.setIfInBounds_toArray, List.set_cons_zero, List.set_cons_succ])
     go_loopg [44] kj10 (fun kq v44 w' => ∃ (x44_3 : Int), v44 = .int .i64 x44_3 ∧ Aside0 (fastjson_validateObject.l1 kq t141 t140 (t140.size : Int) x44_3 = some (r1, r2)) ∧ Aside0 (kq ≤ kj10) ∧ Aside0 (Below w.heap.size w w'))
     case atStart => exact ⟨(0), (by rfl), H', ⟨Nat.le_refl _⟩, ⟨by repeat (first | (with_reducible first | exact HB.out | apply below_alloc | apply pw_below_drewN | apply below_drew1) | exact HB.out)⟩⟩
     case round =>
      clear H'
      clear c18b0 c18b1
      obtain ⟨x44_3, rfl, HA, HK3, HB⟩ := hrel
      cases gk with
      | zero => exact absurd HA.out (by simp [fastjson_validateObject.l1])
      | succ k3 =>
       have H := HA.out
       clear HA
       simp only [fastjson_validateObject.l1] at H
       by_cases c21 : x44_3 < (t140.size : Int)
       ·rw [if_pos c21] at H
        have c21b0 : decide (x44_3 < (t140.size : Int)) = true := decide_eq_true c21
        clear c21
        by_cases c22 : 0 ≤ x44_3
        rotate_left
        ·rw [if_neg c22] at H
         exact absurd H (by simp)
        rw [if_pos c22] at H
        have c22b0 : decide (0 ≤ x44_3) = true := decide_eq_true c22
        clear c22
        by_cases c23 : x44_3 < (t140.size : Int)
        rotate_left
        ·rw [if_neg c23] at H
         exact absurd H (by simp)
        rw [if_pos c23] at H
        have c23b0 : decide (x44_3 < (t140.size : Int)) = true := decide_eq_true c23
        clear c23
        by_cases c25 : (bt t140 x44_3) < 32
        rotate_left
        ·rw [if_neg c25] at H
         have c25b0 : decide ((bt t140 x44_3) < 32) = false := decide_eq_false c25
         clear c25
         have H' := mk0 H
         clear H
         have p24 : 0 ≤ (x44_3 : Int) := of_decide_eq_true zq5
         have q24 : x44_3 < (t140.size : Int) := of_decide_eq_true zq5
         have hx24 := bt_at t140 x44_3
         replace p24 := eq_true p24
         replace q24 := eq_true q24
         go_wp2
         go_roundg k3
         case measure => have := HK1.out; have := HJ10.out; have := HK3.out; omega
         case rel => exact ⟨(wrap64 (x44_3 + 1)), (by rfl), H', ⟨by have := HK1.out; have := HJ10.out; have := HK3.out; omega⟩, ⟨by repeat (first | (with_reducible first | exact HB.out | apply below_alloc | apply pw_below_drewN | apply below_drew1) | exact HB.out)⟩⟩
        rw [if_pos c25] at H
        have c25b0 : decide ((bt t140 x44_3) < 32) = true := decide_eq_true c25
        clear c25
        replace H := Option.bind_eq_some_iff.mp H
        obtain ⟨t144, A260, H⟩ := H
        (try dsimp only at H)
        have A26 := mk0 A260
        clear A260
        simp only [Option.some.injEq, Prod.mk.injEq] at H
        obtain ⟨rfl, rfl⟩ := H
        have p24 : 0 ≤ (x44_3 : Int) := of_decide_eq_true zq5
        have q24 : x44_3 < (t140.size : Int) := of_decide_eq_true zq5
        have hx24 := bt_at t140 x44_3
        replace p24 := eq_true p24
        replace q24 := eq_true q24
        go_wp2_with (first | ((with_reducible refine gate_callee (f := 54) rfl ?_); refine goesL_ (some 52) rfl rfl Tryd.func54 zq24 rfl #[.string (⟨#[111, 98, 106, 101, 99, 116, 32, 107, 101, 121, 32, 99, 97, 110, 110, 111, 116, 32, 99, 111, 110, 116, 97, 105, 110, 32, 99, 111, 110, 116, 114, 111, 108, 32, 99, 104, 97, 114, 32, 48, 120]⟩ : ByteArray)] rfl zq0 ?_; (with_reducible refine (errors_New.calls (⟨#[111, 98, 106, 101, 99, 116, 32, 107, 101, 121, 32, 99, 97, 110, 110, 111, 116, 32, 99, 111, 110, 116, 97, 105, 110, 32, 99, 111, 110, 116, 114, 111, 108, 32, 99, 104, 97, 114, 32, 48, 120]⟩ : ByteArray) t144 _ A26.out).mono ?_); rintro e w27 ⟨z_t144, hz_t144, rfl, hb⟩; have Hz_t144 := mk0 hz_t144; clear hz_t144; refine ⟨_, rfl, ?_⟩; have n0_ := mk0 (below_step zq1 hb); clear HB; have HB := n0_; clear n0_ hb; (try simp only [errW_none, errW_some])))
        go_ret2
        exact ⟨z_t144, Hz_t144.out, by rfl, by repeat (first | (with_reducible first | exact HB.out | apply below_alloc | apply pw_below_drewN | apply below_drew1) | exact HB.out)⟩
       rw [if_neg c21] at H
       have c21b0 : decide (x44_3 < (t140.size : Int)) = false := decide_eq_false c21
       clear c21
       replace H := Option.bind_eq_some_iff.mp H
       obtain ⟨t145, A280, H⟩ := H
       (try dsimp only at H)
       have A28 := mk0 A280
       clear A280
       have HC29 := mk0 H
       clear H
       go_upto_region 21 with (first | ((with_reducible refine gate_callee (f := 74) rfl ?_); refine goesL_ (some 55) rfl rfl Tryd.func74 zq24 rfl #[.string t141] rfl zq0 ?_; (with_reducible refine (fastjson_skipWS.calls k3 t141 t145 _ A28.out).mono ?_); rintro e w' ⟨rfl, ⟨nd, rfl⟩⟩; refine ⟨_, rfl, ?_⟩))
       (try simp only [Act.put, List.setIfInBounds_toArray, List.set_cons_zero, List.set_cons_succ])
       go_cut [63] (fun v63 wc => ∃ (kq : Nat) (x63_28 : Bool), v63 = .bool x63_28 ∧ Aside0 (fastjson_validateObject.j3 kq t145 x63_28 = some (r1, r2)) ∧ Aside0 (kq ≤ k3) ∧ Aside0 (Below w.heap.size w wc))
       case first =>
        have H := HC29.out
        clear HC29
        by_cases c30 : (t145.size : Int) = 0
        ·rw [if_pos c30] at H
         have c30b0 : ((t145.size : Int) == 0) = true := beq_iff_eq.mpr c30
         have c30b1 : ((t145.size : Int) != 0) = false := bne_eq_false_iff_eq.mpr c30
         clear c30
         (skip)
         have H' := mk0 H
         clear H
         go_wp2
         go_meet
         case rel => exact ⟨_, (true), (by rfl), H', ⟨by have := HK1.out; have := HJ10.out; have := HK3.out; first | omega | exact Nat.le_refl _⟩, ⟨by repeat (first | (with_reducible first | exact HB.out | apply below_alloc | apply pw_below_drewN | apply below_drew1) | exact HB.out)⟩⟩
        rw [if_neg c30] at H
        have c30b0 : ((t145.size : Int) == 0) = false := beq_eq_false_iff_ne.mpr c30
        have c30b1 : ((t145.size : Int) != 0) = true := bne_iff_ne.mpr c30
        (skip)
        by_cases c31 : 0 < (t145.size : Int)
        rotate_left
        ·rw [if_neg c31] at H
         exact absurd H (by simp)
        rw [if_pos c31] at H
        have c31b0 : decide (0 < (t145.size : Int)) = true := decide_eq_true c31
        have c31b1 : decide (0 < t145.size) = true := decide_eq_true (by omega)
        clear c31
        have H' := mk0 H
        clear H
        have p32 : 0 ≤ (0 : Int) := (by omega)
        have q32 : 0 < t145.size := (by have : (0 : Int) < (t145.size : Int) := of_decide_eq_true zq5; omega)
        have hx32 : ∀ h : 0 < t145.size, ((t145[0]'h).toNat : Int) = bt t145 0 := bt_at t145 0
        clear p32
        have qi32 : (0 < (t145.size : Int)) = True := eq_true (of_decide_eq_true zq5)
        replace q32 := eq_true q32
        go_wp2
        go_meet
        case rel => exact ⟨_, (((bt t145 0) != 58)), (by rfl), H', ⟨by have := HK1.out; have := HJ10.out; have := HK3.out; first | omega | exact Nat.le_refl _⟩, ⟨by repeat (first | (with_reducible first | exact HB.out | apply below_alloc | apply pw_below_drewN | apply below_drew1) | exact HB.out)⟩⟩
       case rest =>
        clear HC29 c21b0
        obtain ⟨kq, x63_28, rfl, HA, HJ28, HB⟩ := hcut
        cases kq with
        | zero => exact absurd HA.out (by simp [fastjson_validateObject.j3])
        | succ kj28 =>
         have H := HA.out
         clear HA
         simp only [fastjson_validateObject.j3] at H
         by_cases c33 : x63_28 = true
         ·subst c33
          rw [if_pos rfl] at H
          replace H := Option.bind_eq_some_iff.mp H
          obtain ⟨t146, A340, H⟩ := H
          (try dsimp only at H)
          have A34 := mk0 A340
          clear A340
          simp only [Option.some.injEq, Prod.mk.injEq] at H
          obtain ⟨rfl, rfl⟩ := H
          go_wp2_with (first | ((with_reducible refine gate_callee (f := 54) rfl ?_); refine goesL_ (some 65) rfl rfl Tryd.func54 zq24 rfl #[.string (⟨#[109, 105, 115, 115, 105, 110, 103, 32, 39, 58, 39, 32, 97, 102, 116, 101, 114, 32, 111, 98, 106, 101, 99, 116, 32, 107, 101, 121]⟩ : ByteArray)] rfl zq0 ?_; (with_reducible refine (errors_New.calls (⟨#[109, 105, 115, 115, 105, 110, 103, 32, 39, 58, 39, 32, 97, 102, 116, 101, 114, 32, 111, 98, 106, 101, 99, 116, 32, 107, 101, 121]⟩ : ByteArray) t146 _ A34.out).mono ?_); rintro e w35 ⟨z_t146, hz_t146, rfl, hb⟩; have Hz_t146 := mk0 hz_t146; clear hz_t146; refine ⟨_, rfl, ?_⟩; have n0_ := mk0 (below_step zq1 hb); clear HB; have HB := n0_; clear n0_ hb; (try simp only [errW_none, errW_some])))
          go_ret2
          exact ⟨z_t146, Hz_t146.out, by rfl, by repeat (first | (with_reducible first | exact HB.out | apply below_alloc | apply pw_below_drewN | apply below_drew1) | exact HB.out)⟩
         replace c33 := Bool.eq_false_iff.mpr c33
         subst c33
         rw [if_neg (show ¬ (false = true) by decide)] at H
         by_cases c36 : 1 ≤ (t145.size : Int)
         rotate_left
         ·rw [if_neg c36] at H
          exact absurd H (by simp)
         rw [if_pos c36] at H
         have c36b0 := eq_true c36
         have c36b1 : decide (1 ≤ (t145.size : Int)) = true := decide_eq_true c36
         clear c36
         replace H := Option.bind_eq_some_iff.mp H
         obtain ⟨t147, A370, H⟩ := H
         (try dsimp only at H)
         have A37 := mk0 A370
         clear A370
         replace H := Option.bind_eq_some_iff.mp H
         obtain ⟨⟨t148, t149⟩, A380, H⟩ := H
         (try dsimp only at H)
         have A38 := mk0 A380
         clear A380
         rcases t149 with _ | q150
         rotate_left
         ·rw [if_neg (show ¬ (some q150).isNone = true by simp)] at H
          (try (obtain ⟨m_q150, rfl⟩ := Zk.some_ Hz_t149.out))
          try simp only [errW_none, errW_some]
          replace H := Option.bind_eq_some_iff.mp H
          obtain ⟨t154, A560, H⟩ := H
          (try dsimp only at H)
          have A56 := mk0 A560
          clear A560
          simp only [Option.some.injEq, Prod.mk.injEq] at H
          obtain ⟨rfl, rfl⟩ := H
          go_wp2_with (first | ((with_reducible refine gate_callee (f := 74) rfl ?_); refine goesL_ (some 69) rfl rfl Tryd.func74 zq24 rfl #[.string (t145.extract 1 t145.size)] rfl zq0 ?_; (with_reducible refine (fastjson_skipWS.calls kj28 (t145.extract 1 t145.size) t147 _ A37.out).mono ?_); rintro e w' ⟨rfl, ⟨nd, rfl⟩⟩; refine ⟨_, rfl, ?_⟩) | ((with_reducible refine gate_callee (f := 81) rfl ?_); refine goesL_ (some 72) rfl rfl Tryd.func81 zq24 rfl #[.string t147] rfl zq0 ?_; (with_reducible refine (ih_81 kj28 zq58 t147 t148 (some q150) _ ?side1 A38.out).mono ?_); (case side1 => exact zq25); rintro e w57 ⟨zs1_, hzs1_, rfl, hb⟩; obtain ⟨m_q150, rfl⟩ := Zk.some_ hzs1_; refine ⟨_, rfl, ?_⟩; have n0_ := mk0 (below_step zq1 hb); clear HB; have HB := n0_; clear n0_ hb; (try simp only [errW_none, errW_some])) | ((with_reducible refine gate_callee (f := 54) rfl ?_); refine goesL_ (some 78) rfl rfl Tryd.func54 zq24 rfl #[.string (⟨#[99, 97, 110, 110, 111, 116, 32, 112, 97, 114, 115, 101, 32, 111, 98, 106, 101, 99, 116, 32, 118, 97, 108, 117, 101]⟩ : ByteArray)] rfl zq0 ?_; (with_reducible refine (errors_New.calls (⟨#[99, 97, 110, 110, 111, 116, 32, 112, 97, 114, 115, 101, 32, 111, 98, 106, 101, 99, 116, 32, 118, 97, 108, 117, 101]⟩ : ByteArray) t154 _ A56.out).mono ?_); rintro e w58 ⟨z_t154, hz_t154, rfl, hb⟩; have Hz_t154 := mk0 hz_t154; clear hz_t154; refine ⟨_, rfl, ?_⟩; have n0_ := mk0 (below_step zq1 hb); clear HB; have HB := n0_; clear n0_ hb; (try simp only [errW_none, errW_some])))
          go_ret2
          exact ⟨z_t154, Hz_t154.out, by rfl, by repeat (first | (with_reducible first | exact HB.out | apply below_alloc | apply pw_below_drewN | apply below_drew1) | exact HB.out)⟩
         rw [if_pos (show (none : Option Int).isNone = true by rfl)] at H
         (try (obtain rfl := Zk.none_ Hz_t149.out))
         try simp only [errW_none, errW_some]
         replace H := Option.bind_eq_some_iff.mp H
         obtain ⟨t151, A390, H⟩ := H
         (try dsimp only at H)
         have A39 := mk0 A390
         clear A390
         by_cases c40 : (t151.size : Int) = 0
         ·rw [if_pos c40] at H
          have c40b0 : ((t151.size : Int) == 0) = true := beq_iff_eq.mpr c40
          have c40b1 : ((t151.size : Int) != 0) = false := bne_eq_false_iff_eq.mpr c40
          clear c40
          replace H := Option.bind_eq_some_iff.mp H
          obtain ⟨t152, A410, H⟩ := H
          (try dsimp only at H)
          have A41 := mk0 A410
          clear A410
          simp only [Option.some.injEq, Prod.mk.injEq] at H
          obtain ⟨rfl, rfl⟩ := H
          go_wp2_with (first | ((with_reducible refine gate_callee (f := 74) rfl ?_); refine goesL_ (some 69) rfl rfl Tryd.func74 zq24 rfl #[.string (t145.extract 1 t145.size)] rfl zq0 ?_; (with_reducible refine (fastjson_skipWS.calls kj28 (t145.extract 1 t145.size) t147 _ A37.out).mono ?_); rintro e w' ⟨rfl, ⟨nd, rfl⟩⟩; refine ⟨_, rfl, ?_⟩) | ((with_reducible refine gate_callee (f := 81) rfl ?_); refine goesL_ (some 72) rfl rfl Tryd.func81 zq24 rfl #[.string t147] rfl zq0 ?_; (with_reducible refine (ih_81 kj28 zq58 t147 t148 none _ ?side1 A38.out).mono ?_); (case side1 => exact zq25); rintro e w42 ⟨zn1_, hzn1_, rfl, hb⟩; obtain rfl := Zk.none_ hzn1_; refine ⟨_, rfl, ?_⟩; have n0_ := mk0 (below_step zq1 hb); clear HB; have HB := n0_; clear n0_ hb; (try simp only [errW_none, errW_some])) | ((with_reducible refine gate_callee (f := 74) rfl ?_); refine goesL_ (some 80) rfl rfl Tryd.func74 zq24 rfl #[.string t148] rfl zq0 ?_; (with_reducible refine (fastjson_skipWS.calls kj28 t148 t151 _ A39.out).mono ?_); rintro e w' ⟨rfl, ⟨nd, rfl⟩⟩; refine ⟨_, rfl, ?_⟩) | ((with_reducible refine gate_callee (f := 54) rfl ?_); refine goesL_ (some 85) rfl rfl Tryd.func54 zq24 rfl #[.string (⟨#[117, 110, 101, 120, 112, 101, 99, 116, 101, 100, 32, 101, 110, 100, 32, 111, 102, 32, 111, 98, 106, 101, 99, 116]⟩ : ByteArray)] rfl zq0 ?_; (with_reducible refine (errors_New.calls (⟨#[117, 110, 101, 120, 112, 101, 99, 116, 101, 100, 32, 101, 110, 100, 32, 111, 102, 32, 111, 98, 106, 101, 99, 116]⟩ : ByteArray) t152 _ A41.out).mono ?_); rintro e w43 ⟨z_t152, hz_t152, rfl, hb⟩; have Hz_t152 := mk0 hz_t152; clear hz_t152; refine ⟨_, rfl, ?_⟩; have n0_ := mk0 (below_step zq1 hb); clear HB; have HB := n0_; clear n0_ hb; (try simp only [errW_none, errW_some])))
          go_ret2
          exact ⟨z_t152, Hz_t152.out, by rfl, by repeat (first | (with_reducible first | exact HB.out | apply below_alloc | apply pw_below_drewN | apply below_drew1) | exact HB.out)⟩
         rw [if_neg c40] at H
         have c40b0 : ((t151.size : Int) == 0) = false := beq_eq_false_iff_ne.mpr c40
         have c40b1 : ((t151.size : Int) != 0) = true := bne_iff_ne.mpr c40
         by_cases c44 : 0 < (t151.size : Int)
         rotate_left
         ·rw [if_neg c44] at H
          exact absurd H (by simp)
         rw [if_pos c44] at H
         have c44b0 : decide (0 < (t151.size : Int)) = true := decide_eq_true c44
         have c44b1 : decide (0 < t151.size) = true := decide_eq_true (by omega)
         clear c44
         by_cases c46 : (bt t151 0) = 44
         ·rw [if_pos c46] at H
          have c46b0 : ((bt t151 0) == 44) = true := beq_iff_eq.mpr c46
          have c46b1 : ((bt t151 0) != 44) = false := bne_eq_false_iff_eq.mpr c46
          clear c46
          by_cases c47 : 1 ≤ (t151.size : Int)
          rotate_left
          ·rw [if_neg c47] at H
           exact absurd H (by simp)
          rw [if_pos c47] at H
          have c47b0 := eq_true c47
          have c47b1 : decide (1 ≤ (t151.size : Int)) = true := decide_eq_true c47
          clear c47
          have H' := mk0 H
          clear H
          go_wp2_with (first | ((with_reducible refine gate_callee (f := 74) rfl ?_); refine goesL_ (some 69) rfl rfl Tryd.func74 zq24 rfl #[.string (t145.extract 1 t145.size)] rfl zq0 ?_; (with_reducible refine (fastjson_skipWS.calls kj28 (t145.extract 1 t145.size) t147 _ A37.out).mono ?_); rintro e w' ⟨rfl, ⟨nd, rfl⟩⟩; refine ⟨_, rfl, ?_⟩) | ((with_reducible refine gate_callee (f := 81) rfl ?_); refine goesL_ (some 72) rfl rfl Tryd.func81 zq24 rfl #[.string t147] rfl zq0 ?_; (with_reducible refine (ih_81 kj28 zq58 t147 t148 none _ ?side1 A38.out).mono ?_); (case side1 => exact zq25); rintro e w48 ⟨zn1_, hzn1_, rfl, hb⟩; obtain rfl := Zk.none_ hzn1_; refine ⟨_, rfl, ?_⟩; have n0_ := mk0 (below_step zq1 hb); clear HB; have HB := n0_; clear n0_ hb; (try simp only [errW_none, errW_some])) | ((with_reducible refine gate_callee (f := 74) rfl ?_); refine goesL_ (some 80) rfl rfl Tryd.func74 zq24 rfl #[.string t148] rfl zq0 ?_; (with_reducible refine (fastjson_skipWS.calls kj28 t148 t151 _ A39.out).mono ?_); rintro e w' ⟨rfl, ⟨nd, rfl⟩⟩; refine ⟨_, rfl, ?_⟩; have p45 : 0 ≤ (0 : Int) := (by omega); have q45 : 0 < t151.size := (by have : (0 : Int) < (t151.size : Int) := of_decide_eq_true zq5; omega); have hx45 : ∀ h : 0 < t151.size, ((t151[0]'h).toNat : Int) = bt t151 0 := bt_at t151 0; clear p45; have qi45 : (0 < (t151.size : Int)) = True := eq_true (of_decide_eq_true zq5); replace q45 := eq_true q45))
          go_roundg kj28
          case measure => have := HK1.out; have := HJ10.out; have := HK3.out; have := HJ28.out; omega
          case rel => exact ⟨(t151.extract 1 t151.size), (by rfl), H', ⟨by have := HK1.out; have := HJ10.out; have := HK3.out; have := HJ28.out; omega⟩, ⟨by repeat (first | (with_reducible first | exact HB.out | apply below_alloc | apply pw_below_drewN | apply below_drew1) | exact HB.out)⟩⟩
         rw [if_neg c46] at H
         have c46b0 : ((bt t151 0) == 44) = false := beq_eq_false_iff_ne.mpr c46
         have c46b1 : ((bt t151 0) != 44) = true := bne_iff_ne.mpr c46
         by_cases c50 : (bt t151 0) = 125
         ·rw [if_pos c50] at H
          have c50b0 : ((bt t151 0) == 125) = true := beq_iff_eq.mpr c50
          have c50b1 : ((bt t151 0) != 125) = false := bne_eq_false_iff_eq.mpr c50
          clear c50
          by_cases c51 : 1 ≤ (t151.size : Int)
          rotate_left
          ·rw [if_neg c51] at H
           exact absurd H (by simp)
          rw [if_pos c51] at H
          have c51b0 := eq_true c51
          have c51b1 : decide (1 ≤ (t151.size : Int)) = true := decide_eq_true c51
          clear c51
          simp only [Option.some.injEq, Prod.mk.injEq] at H
          obtain ⟨rfl, rfl⟩ := H
          go_wp2_with (first | ((with_reducible refine gate_callee (f := 74) rfl ?_); refine goesL_ (some 69) rfl rfl Tryd.func74 zq24 rfl #[.string (t145.extract 1 t145.size)] rfl zq0 ?_; (with_reducible refine (fastjson_skipWS.calls kj28 (t145.extract 1 t145.size) t147 _ A37.out).mono ?_); rintro e w' ⟨rfl, ⟨nd, rfl⟩⟩; refine ⟨_, rfl, ?_⟩) | ((with_reducible refine gate_callee (f := 81) rfl ?_); refine goesL_ (some 72) rfl rfl Tryd.func81 zq24 rfl #[.string t147] rfl zq0 ?_; (with_reducible refine (ih_81 kj28 zq58 t147 t148 none _ ?side1 A38.out).mono ?_); (case side1 => exact zq25); rintro e w52 ⟨zn1_, hzn1_, rfl, hb⟩; obtain rfl := Zk.none_ hzn1_; refine ⟨_, rfl, ?_⟩; have n0_ := mk0 (below_step zq1 hb); clear HB; have HB := n0_; clear n0_ hb; (try simp only [errW_none, errW_some])) | ((with_reducible refine gate_callee (f := 74) rfl ?_); refine goesL_ (some 80) rfl rfl Tryd.func74 zq24 rfl #[.string t148] rfl zq0 ?_; (with_reducible refine (fastjson_skipWS.calls kj28 t148 t151 _ A39.out).mono ?_); rintro e w' ⟨rfl, ⟨nd, rfl⟩⟩; refine ⟨_, rfl, ?_⟩; have p45 : 0 ≤ (0 : Int) := (by omega); have q45 : 0 < t151.size := (by have : (0 : Int) < (t151.size : Int) := of_decide_eq_true zq5; omega); have hx45 : ∀ h : 0 < t151.size, ((t151[0]'h).toNat : Int) = bt t151 0 := bt_at t151 0; clear p45; have qi45 : (0 < (t151.size : Int)) = True := eq_true (of_decide_eq_true zq5); replace q45 := eq_true q45; have p49 : 0 ≤ (0 : Int) := (by omega); have q49 : 0 < t151.size := (by have : (0 : Int) < (t151.size : Int) := of_decide_eq_true zq5; omega); have hx49 : ∀ h : 0 < t151.size, ((t151[0]'h).toNat : Int) = bt t151 0 := bt_at t151 0; clear p49; have qi49 : (0 < (t151.size : Int)) = True := eq_true (of_decide_eq_true zq5); replace q49 := eq_true q49))
          go_ret2
          exact ⟨none, Zk.nn, by rfl, by repeat (first | (with_reducible first | exact HB.out | apply below_alloc | apply pw_below_drewN | apply below_drew1) | exact HB.out)⟩
         rw [if_neg c50] at H
         have c50b0 : ((bt t151 0) == 125) = false := beq_eq_false_iff_ne.mpr c50
         have c50b1 : ((bt t151 0) != 125) = true := bne_iff_ne.mpr c50
         replace H := Option.bind_eq_some_iff.mp H
         obtain ⟨t153, A530, H⟩ := H
         (try dsimp only at H)
         have A53 := mk0 A530
         clear A530
         simp only [Option.some.injEq, Prod.mk.injEq] at H
         obtain ⟨rfl, rfl⟩ := H
         go_wp2_with (first | ((with_reducible refine gate_callee (f := 74) rfl ?_); refine goesL_ (some 69) rfl rfl Tryd.func74 zq24 rfl #[.string (t145.extract 1 t145.size)] rfl zq0 ?_; (with_reducible refine (fastjson_skipWS.calls kj28 (t145.extract 1 t145.size) t147 _ A37.out).mono ?_); rintro e w' ⟨rfl, ⟨nd, rfl⟩⟩; refine ⟨_, rfl, ?_⟩) | ((with_reducible refine gate_callee (f := 81) rfl ?_); refine goesL_ (some 72) rfl rfl Tryd.func81 zq24 rfl #[.string t147] rfl zq0 ?_; (with_reducible refine (ih_81 kj28 zq58 t147 t148 none _ ?side1 A38.out).mono ?_); (case side1 => exact zq25); rintro e w54 ⟨zn1_, hzn1_, rfl, hb⟩; obtain rfl := Zk.none_ hzn1_; refine ⟨_, rfl, ?_⟩; have n0_ := mk0 (below_step zq1 hb); clear HB; have HB := n0_; clear n0_ hb; (try simp only [errW_none, errW_some])) | ((with_reducible refine gate_callee (f := 74) rfl ?_); refine goesL_ (some 80) rfl rfl Tryd.func74 zq24 rfl #[.string t148] rfl zq0 ?_; (with_reducible refine (fastjson_skipWS.calls kj28 t148 t151 _ A39.out).mono ?_); rintro e w' ⟨rfl, ⟨nd, rfl⟩⟩; refine ⟨_, rfl, ?_⟩; have p45 : 0 ≤ (0 : Int) := (by omega); have q45 : 0 < t151.size := (by have : (0 : Int) < (t151.size : Int) := of_decide_eq_true zq5; omega); have hx45 : ∀ h : 0 < t151.size, ((t151[0]'h).toNat : Int) = bt t151 0 := bt_at t151 0; clear p45; have qi45 : (0 < (t151.size : Int)) = True := eq_true (of_decide_eq_true zq5); replace q45 := eq_true q45; have p49 : 0 ≤ (0 : Int) := (by omega); have q49 : 0 < t151.size := (by have : (0 : Int) < (t151.size : Int) := of_decide_eq_true zq5; omega); have hx49 : ∀ h : 0 < t151.size, ((t151[0]'h).toNat : Int) = bt t151 0 := bt_at t151 0; clear p49; have qi49 : (0 < (t151.size : Int)) = True := eq_true (of_decide_eq_true zq5); replace q49 := eq_true q49) | ((with_reducible refine gate_callee (f := 54) rfl ?_); refine goesL_ (some 97) rfl rfl Tryd.func54 zq24 rfl #[.string (⟨#[109, 105, 115, 115, 105, 110, 103, 32, 39, 44, 39, 32, 97, 102, 116, 101, 114, 32, 111, 98, 106, 101, 99, 116, 32, 118, 97, 108, 117, 101]⟩ : ByteArray)] rfl zq0 ?_; (with_reducible refine (errors_New.calls (⟨#[109, 105, 115, 115, 105, 110, 103, 32, 39, 44, 39, 32, 97, 102, 116, 101, 114, 32, 111, 98, 106, 101, 99, 116, 32, 118, 97, 108, 117, 101]⟩ : ByteArray) t153 _ A53.out).mono ?_); rintro e w55 ⟨z_t153, hz_t153, rfl, hb⟩; have Hz_t153 := mk0 hz_t153; clear hz_t153; refine ⟨_, rfl, ?_⟩; have n0_ := mk0 (below_step zq1 hb); clear HB; have HB := n0_; clear n0_ hb; (try simp only [errW_none, errW_some])))
         go_ret2
         exact ⟨z_t153, Hz_t153.out, by rfl, by repeat (first | (with_reducible first | exact HB.out | apply below_alloc | apply pw_below_drewN | apply below_drew1) | exact HB.out)⟩
theorem grp80.calls (k : Nat) : fastjson_validateArray.Stmt k ∧ fastjson_validateValue.Stmt k ∧ fastjson_validateObject.Stmt k := by
 induction k using Nat.strongRecOn with
 | _ k ih => exact ⟨fastjson_validateArray.step k (fun m h => (ih m h).1) (fun m h => (ih m h).2.1) (fun m h => (ih m h).2.2), fastjson_validateValue.step k (fun m h => (ih m h).1) (fun m h => (ih m h).2.1) (fun m h => (ih m h).2.2), fastjson_validateObject.step k (fun m h => (ih m h).1) (fun m h => (ih m h).2.1) (fun m h => (ih m h).2.2)⟩
theorem fastjson_validateArray.calls (k : Nat) : ∀ (a0 : ByteArray) (r1 : ByteArray) (r2 : Option Int) (w : World) (hG : Laid w) (h : fastjson_validateArray.f k a0 = some (r1, r2)),
 Calls Tryd.prog 80 #[.string a0] w fun e w' => ∃ z_r2 : Option Int, Zk z_r2 r2 ∧ e = .returned (.tuple #[.string r1, errW z_r2]) ∧ Below w.heap.size w w' := (grp80.calls k).1
theorem fastjson_validateValue.calls (k : Nat) : ∀ (a0 : ByteArray) (r1 : ByteArray) (r2 : Option Int) (w : World) (hG : Laid w) (h : fastjson_validateValue.f k a0 = some (r1, r2)),
 Calls Tryd.prog 81 #[.string a0] w fun e w' => ∃ z_r2 : Option Int, Zk z_r2 r2 ∧ e = .returned (.tuple #[.string r1, errW z_r2]) ∧ Below w.heap.size w w' := (grp80.calls k).2.1
theorem fastjson_validateObject.calls (k : Nat) : ∀ (a0 : ByteArray) (r1 : ByteArray) (r2 : Option Int) (w : World) (hG : Laid w) (h : fastjson_validateObject.f k a0 = some (r1, r2)),
 Calls Tryd.prog 106 #[.string a0] w fun e w' => ∃ z_r2 : Option Int, Zk z_r2 r2 ∧ e = .returned (.tuple #[.string r1, errW z_r2]) ∧ Below w.heap.size w w' := (grp80.calls k).2.2
def fastjson_DoorCheckArray.f (k : Nat) (a0 : ByteArray) : Option (ByteArray × Option Int) := (fastjson_validateArray.f k a0).bind fun bt101 => (some (bt101.1, bt101.2))
theorem fastjson_DoorCheckArray.mono : ∀ a0 k, LeO (fastjson_DoorCheckArray.f k a0) (fastjson_DoorCheckArray.f (k + 1) a0) := by
 intro a0 k
 unfold fastjson_DoorCheckArray.f
 repeat' first
  | (with_reducible exact fastjson_validateArray.mono _ _)
  | (with_reducible exact LeO.refl _)
  | (with_reducible exact LeO.none _)
  | (with_reducible refine LeO.ite ?_ ?_)
  | (with_reducible refine LeO.bind ?_ (fun _ => ?_))
  | exact fastjson_validateArray.mono _ _
  | exact LeO.none _
  | refine LeO.ite ?_ ?_
  | refine LeO.bind ?_ (fun _ => ?_)
set_option maxHeartbeats 8000000 in
set_option maxRecDepth 100000 in
theorem fastjson_DoorCheckArray.calls (k : Nat) (a0 : ByteArray) (r1 : ByteArray) (r2 : Option Int) (w : World) (hG : Laid w) (h : fastjson_DoorCheckArray.f k a0 = some (r1, r2)) :
 Calls Tryd.prog 43 #[.string a0] w fun e w' => ∃ z_r2 : Option Int, Zk z_r2 r2 ∧ e = .returned (.tuple #[.string r1, errW z_r2]) ∧ Below w.heap.size w w' := by
 have HG := mk0 hG
 clear hG
 have HB := mk0 (Below.refl w.heap.size w)
 have H : ((fastjson_validateArray.f k a0).bind fun bt101 => (some (bt101.1, bt101.2))) = some (r1, r2) := h
 clear h
 replace H := Option.bind_eq_some_iff.mp H
 obtain ⟨⟨t101, t102⟩, A20, H⟩ := H
 (try dsimp only at H)
 have A2 := mk0 A20
 clear A20
 simp only [Option.some.injEq, Prod.mk.injEq] at H
 obtain ⟨rfl, rfl⟩ := H
 go_enter Tryd.func43, Tryd.ntmps43
 go_wp2_with (first | ((with_reducible refine gate_callee (f := 80) rfl ?_); refine goesL_ (some 5) rfl rfl Tryd.func80 zq24 rfl #[.string a0] rfl zq0 ?_; (with_reducible refine (fastjson_validateArray.calls k a0 t101 t102 _ ?side1 A2.out).mono ?_); (case side1 => exact zq25); rintro e w3 ⟨z_t102, hz_t102, rfl, hb⟩; have Hz_t102 := mk0 hz_t102; clear hz_t102; refine ⟨_, rfl, ?_⟩; have n0_ := mk0 (below_step zq1 hb); clear HB; have HB := n0_; clear n0_ hb; (try simp only [errW_none, errW_some])))
 go_ret2
 exact ⟨z_t102, Hz_t102.out, by rfl, by repeat (first | (with_reducible first | exact HB.out | apply below_alloc | apply pw_below_drewN | apply below_drew1) | exact HB.out)⟩
def impl_FjCheckArray.f (k : Nat) (a0 : ByteArray) : Option (ByteArray × Bool) := (fastjson_DoorCheckArray.f k a0).bind fun bt101 => (if bt101.2.isNone = true then (some (bt101.1, true)) else (some ((⟨#[]⟩ : ByteArray), false)))
theorem impl_FjCheckArray.mono : ∀ a0 k, LeO (impl_FjCheckArray.f k a0) (impl_FjCheckArray.f (k + 1) a0) := by
 intro a0 k
 unfold impl_FjCheckArray.f
 repeat' first
  | (with_reducible exact fastjson_DoorCheckArray.mono _ _)
  | (with_reducible exact LeO.refl _)
  | (with_reducible exact LeO.none _)
  | (with_reducible refine LeO.ite ?_ ?_)
  | (with_reducible refine LeO.bind ?_ (fun _ => ?_))
  | exact fastjson_DoorCheckArray.mono _ _
  | exact LeO.none _
  | refine LeO.ite ?_ ?_
  | refine LeO.bind ?_ (fun _ => ?_)
set_option maxHeartbeats 8000000 in
set_option maxRecDepth 100000 in
theorem impl_FjCheckArray.calls (k : Nat) (a0 : ByteArray) (r1 : ByteArray) (r2 : Bool) (w : World) (hG : Laid w) (h : impl_FjCheckArray.f k a0 = some (r1, r2)) :
 Calls Tryd.prog 23 #[.string a0] w fun e w' => e = .returned (.tuple #[.string r1, .bool r2]) ∧ Below w.heap.size w w' := by
 have HG := mk0 hG
 clear hG
 have hu55 := Tryd.underlying55
 have hu148 := Tryd.underlying148
 have HB := mk0 (Below.refl w.heap.size w)
 have H : ((fastjson_DoorCheckArray.f k a0).bind fun bt101 => (if bt101.2.isNone = true then (some (bt101.1, true)) else (some ((⟨#[]⟩ : ByteArray), false)))) = some (r1, r2) := h
 clear h
 replace H := Option.bind_eq_some_iff.mp H
 obtain ⟨⟨t101, t102⟩, A20, H⟩ := H
 (try dsimp only at H)
 have A2 := mk0 A20
 clear A20
 rcases t102 with _ | q103
 ·rw [if_pos (show (none : Option Int).isNone = true by rfl)] at H
  (try (obtain rfl := Zk.none_ Hz_t102.out))
  try simp only [errW_none, errW_some]
  simp only [Option.some.injEq, Prod.mk.injEq] at H
  obtain ⟨rfl, rfl⟩ := H
  go_enter Tryd.func23, Tryd.ntmps23
  go_wp2_with (first | ((with_reducible refine gate_callee (f := 43) rfl ?_); refine goesL_ (some 8) rfl rfl Tryd.func43 zq24 rfl #[.string a0] rfl zq0 ?_; (with_reducible refine (fastjson_DoorCheckArray.calls k a0 t101 none _ ?side1 A2.out).mono ?_); (case side1 => exact zq25); rintro e w3 ⟨zn1_, hzn1_, rfl, hb⟩; obtain rfl := Zk.none_ hzn1_; refine ⟨_, rfl, ?_⟩; have n0_ := mk0 (below_step zq1 hb); clear HB; have HB := n0_; clear n0_ hb; (try simp only [errW_none, errW_some])))
  go_ret2
  exact ⟨by rfl, by repeat (first | (with_reducible first | exact HB.out | apply below_alloc | apply pw_below_drewN | apply below_drew1) | exact HB.out)⟩
 rw [if_neg (show ¬ (some q103).isNone = true by simp)] at H
 (try (obtain ⟨m_q103, rfl⟩ := Zk.some_ Hz_t102.out))
 try simp only [errW_none, errW_some]
 simp only [Option.some.injEq, Prod.mk.injEq] at H
 obtain ⟨rfl, rfl⟩ := H
 go_enter Tryd.func23, Tryd.ntmps23
 go_wp2_with (first | ((with_reducible refine gate_callee (f := 43) rfl ?_); refine goesL_ (some 8) rfl rfl Tryd.func43 zq24 rfl #[.string a0] rfl zq0 ?_; (with_reducible refine (fastjson_DoorCheckArray.calls k a0 t101 (some q103) _ ?side1 A2.out).mono ?_); (case side1 => exact zq25); rintro e w4 ⟨zs1_, hzs1_, rfl, hb⟩; obtain ⟨m_q103, rfl⟩ := Zk.some_ hzs1_; refine ⟨_, rfl, ?_⟩; have n0_ := mk0 (below_step zq1 hb); clear HB; have HB := n0_; clear n0_ hb; (try simp only [errW_none, errW_some])))
 go_ret2
 exact ⟨by rfl, by repeat (first | (with_reducible first | exact HB.out | apply below_alloc | apply pw_below_drewN | apply below_drew1) | exact HB.out)⟩
def laws_FnFjCheckArray.j0 : Nat → ByteArray → Bool → Option (Bool)
  | 0, _, _ => none
  | k + 1, x0, x19 => if x19 = true then (some true) else (if 1 + x0.size ≤ 9223372036854775807 then ((laws_behind.f k ((⟨#[91]⟩ : ByteArray) ++ x0)).bind fun bt102 => ((impl_FjCheckArray.f k x0).bind fun bt104 => ((impl_FjCheckArray.f k (⟨#[93]⟩ : ByteArray)).bind fun bt106 => (if bt106.2 = true then (if (bt104.2 == bt102.2) = true then (if bt102.2 = true then (some (bt104.1.toList == bt102.1.toList)) else (some true)) else (some false)) else (some false))))) else (none))
def laws_FnFjCheckArray.f (k : Nat) (a0 : ByteArray) : Option (Bool) := if (a0.size : Int) > 2147483647 then (some true) else (if (a0.size : Int) > 4000 then (laws_FnFjCheckArray.j0 k a0 true) else ((laws_fjSteady.f k a0).bind fun t101 => (laws_FnFjCheckArray.j0 k a0 (!t101))))
theorem laws_FnFjCheckArray.mono_l : ∀ k, (∀ y0 y1, LeO (laws_FnFjCheckArray.j0 k y0 y1) (laws_FnFjCheckArray.j0 (k + 1) y0 y1))
 | 0 => fun _ _ r h => by simp [laws_FnFjCheckArray.j0] at h
 | k + 1 => by
  have ih0 := laws_FnFjCheckArray.mono_l k
  ·intro y0 y1
   unfold laws_FnFjCheckArray.j0
   repeat' first
   | (with_reducible exact ih0 _ _)
   | (with_reducible exact impl_FjCheckArray.mono _ _)
   | (with_reducible exact laws_behind.mono _ _)
   | (with_reducible exact laws_fjSteady.mono _ _)
   | (with_reducible exact LeO.refl _)
   | (with_reducible exact LeO.none _)
   | (with_reducible refine LeO.ite ?_ ?_)
   | (with_reducible refine LeO.bind ?_ (fun _ => ?_))
   | exact ih0 _ _
   | exact impl_FjCheckArray.mono _ _
   | exact laws_behind.mono _ _
   | exact laws_fjSteady.mono _ _
   | exact LeO.none _
   | refine LeO.ite ?_ ?_
   | refine LeO.bind ?_ (fun _ => ?_)
theorem laws_FnFjCheckArray.mono : ∀ a0 k, LeO (laws_FnFjCheckArray.f k a0) (laws_FnFjCheckArray.f (k + 1) a0) := by
 intro a0 k
 have ih0 := laws_FnFjCheckArray.mono_l k
 unfold laws_FnFjCheckArray.f
 repeat' first
  | (with_reducible exact ih0 _ _)
  | (with_reducible exact impl_FjCheckArray.mono _ _)
  | (with_reducible exact laws_behind.mono _ _)
  | (with_reducible exact laws_fjSteady.mono _ _)
  | (with_reducible exact LeO.refl _)
  | (with_reducible exact LeO.none _)
  | (with_reducible refine LeO.ite ?_ ?_)
  | (with_reducible refine LeO.bind ?_ (fun _ => ?_))
  | exact ih0 _ _
  | exact impl_FjCheckArray.mono _ _
  | exact laws_behind.mono _ _
  | exact laws_fjSteady.mono _ _
  | exact LeO.none _
  | refine LeO.ite ?_ ?_
  | refine LeO.bind ?_ (fun _ => ?_)
set_option maxHeartbeats 8000000 in
set_option maxRecDepth 100000 in
theorem laws_FnFjCheckArray.calls (k : Nat) (a0 : ByteArray) (r : Bool) (w : World) (hG : Laid w) (h : laws_FnFjCheckArray.f k a0 = some r) :
 Calls Tryd.prog 8 #[.string a0] w fun e w' => e = .returned (.bool r) ∧ Below w.heap.size w w' := by
 have HG := mk0 hG
 clear hG
 have HB := mk0 (Below.refl w.heap.size w)
 have H : (if (a0.size : Int) > 2147483647 then (some true) else (if (a0.size : Int) > 4000 then (laws_FnFjCheckArray.j0 k a0 true) else ((laws_fjSteady.f k a0).bind fun t101 => (laws_FnFjCheckArray.j0 k a0 (!t101))))) = some r := h
 clear h
 by_cases c2 : (a0.size : Int) > 2147483647
 ·rw [if_pos c2] at H
  have c2b0 : decide (2147483647 < (a0.size : Int)) = true := decide_eq_true c2
  have c2b1 : decide (2147483647 < a0.size) = true := decide_eq_true (by omega)
  clear c2
  obtain rfl := Option.some.inj H
  go_enter Tryd.func8, Tryd.ntmps8
  go_wp2
  go_ret
  exact ⟨by rfl, by repeat (first | (with_reducible first | exact HB.out | apply below_alloc | apply pw_below_drewN | apply below_drew1) | exact HB.out)⟩
 rw [if_neg c2] at H
 have c2b0 : decide (2147483647 < (a0.size : Int)) = false := decide_eq_false c2
 have c2b1 : decide (2147483647 < a0.size) = false := decide_eq_false (by omega)
 clear c2
 have HC3 := mk0 H
 clear H
 go_enter Tryd.func8, Tryd.ntmps8
 go_upto_region 3 with (fail)
 go_cut [19] (fun v19 wc => ∃ (kq : Nat) (x19_2 : Bool), v19 = .bool x19_2 ∧ Aside0 (laws_FnFjCheckArray.j0 kq a0 x19_2 = some r) ∧ Aside0 (kq ≤ k) ∧ Aside0 (Below w.heap.size w wc))
 case first =>
  have H := HC3.out
  clear HC3
  by_cases c4 : (a0.size : Int) > 4000
  ·rw [if_pos c4] at H
   have c4b0 : decide (4000 < (a0.size : Int)) = true := decide_eq_true c4
   have c4b1 : decide (4000 < a0.size) = true := decide_eq_true (by omega)
   clear c4
   (skip)
   have H' := mk0 H
   clear H
   go_wp2
   go_meet
   case rel => exact ⟨_, (true), (by rfl), H', ⟨by omega⟩, ⟨by repeat (first | (with_reducible first | exact HB.out | apply below_alloc | apply pw_below_drewN | apply below_drew1) | exact HB.out)⟩⟩
  rw [if_neg c4] at H
  have c4b0 : decide (4000 < (a0.size : Int)) = false := decide_eq_false c4
  have c4b1 : decide (4000 < a0.size) = false := decide_eq_false (by omega)
  clear c4
  (skip)
  replace H := Option.bind_eq_some_iff.mp H
  obtain ⟨t101, A50, H⟩ := H
  (try dsimp only at H)
  have A5 := mk0 A50
  clear A50
  have H' := mk0 H
  clear H
  go_wp2_with (first | (go_at_call 21; (with_reducible refine (laws_fjSteady.calls k a0 t101 _ A5.out).mono ?_); rintro e w' ⟨rfl, ⟨nd, rfl⟩⟩))
  go_meet
  case rel => exact ⟨_, (!t101), (by rfl), H', ⟨by omega⟩, ⟨by repeat (first | (with_reducible first | exact HB.out | apply below_alloc | apply pw_below_drewN | apply below_drew1) | exact HB.out)⟩⟩
 case rest =>
  clear HC3 c2b0 c2b1
  obtain ⟨kq, x19_2, rfl, HA, HJ2, HB⟩ := hcut
  cases kq with
  | zero => exact absurd HA.out (by simp [laws_FnFjCheckArray.j0])
  | succ kj2 =>
   have H := HA.out
   clear HA
   simp only [laws_FnFjCheckArray.j0] at H
   by_cases c6 : x19_2 = true
   ·subst c6
    rw [if_pos rfl] at H
    obtain rfl := Option.some.inj H
    go_wp2
    go_ret
    exact ⟨by rfl, by repeat (first | (with_reducible first | exact HB.out | apply below_alloc | apply pw_below_drewN | apply below_drew1) | exact HB.out)⟩
   replace c6 := Bool.eq_false_iff.mpr c6
   subst c6
   rw [if_neg (show ¬ (false = true) by decide)] at H
   by_cases c7 : 1 + a0.size ≤ 9223372036854775807
   rotate_left
   ·rw [if_neg c7] at H
    exact absurd H (by simp)
   rw [if_pos c7] at H
   have c7b0 := eq_true c7
   have c7b1 : decide (1 + a0.size ≤ 9223372036854775807) = true := decide_eq_true c7
   try have c7b2 : (9223372036854775807 < 1 + a0.size) = False := eq_false (Nat.not_lt.2 c7)
   replace H := Option.bind_eq_some_iff.mp H
   obtain ⟨⟨t102, t103⟩, A80, H⟩ := H
   (try dsimp only at H)
   have A8 := mk0 A80
   clear A80
   replace H := Option.bind_eq_some_iff.mp H
   obtain ⟨⟨t104, t105⟩, A90, H⟩ := H
   (try dsimp only at H)
   have A9 := mk0 A90
   clear A90
   replace H := Option.bind_eq_some_iff.mp H
   obtain ⟨⟨t106, t107⟩, A100, H⟩ := H
   (try dsimp only at H)
   have A10 := mk0 A100
   clear A100
   by_cases c11 : t107 = true
   rotate_left
   ·replace c11 := Bool.eq_false_iff.mpr c11
    subst c11
    rw [if_neg (show ¬ (false = true) by decide)] at H
    obtain rfl := Option.some.inj H
    go_wp2_with (first | ((with_reducible refine gate_callee (f := 22) rfl ?_); refine goesL_ (some 23) rfl rfl Tryd.func22 zq24 rfl #[.string ((⟨#[91]⟩ : ByteArray) ++ a0)] rfl zq0 ?_; (with_reducible refine (laws_behind.calls kj2 ((⟨#[91]⟩ : ByteArray) ++ a0) t102 t103 _ A8.out).mono ?_); rintro e w23 ⟨rfl, hb⟩; refine ⟨_, rfl, ?_⟩; have n0_ := mk0 (below_step zq1 hb); clear HB; have HB := n0_; clear n0_ hb) | ((with_reducible refine gate_callee (f := 23) rfl ?_); refine goesL_ (some 28) rfl rfl Tryd.func23 zq24 rfl #[.string a0] rfl zq0 ?_; (with_reducible refine (impl_FjCheckArray.calls kj2 a0 t104 t105 _ ?side1 A9.out).mono ?_); (case side1 => exact zq25); rintro e w24 ⟨rfl, hb⟩; refine ⟨_, rfl, ?_⟩; have n0_ := mk0 (below_step zq1 hb); clear HB; have HB := n0_; clear n0_ hb) | ((with_reducible refine gate_callee (f := 23) rfl ?_); refine goesL_ (some 32) rfl rfl Tryd.func23 zq24 rfl #[.string (⟨#[93]⟩ : ByteArray)] rfl zq0 ?_; (with_reducible refine (impl_FjCheckArray.calls kj2 (⟨#[93]⟩ : ByteArray) t106 false _ ?side1 A10.out).mono ?_); (case side1 => exact zq25); rintro e w25 ⟨rfl, hb⟩; refine ⟨_, rfl, ?_⟩; have n0_ := mk0 (below_step zq1 hb); clear HB; have HB := n0_; clear n0_ hb))
    go_ret
    exact ⟨by rfl, by repeat (first | (with_reducible first | exact HB.out | apply below_alloc | apply pw_below_drewN | apply below_drew1) | exact HB.out)⟩
   subst c11
   rw [if_pos rfl] at H
   by_cases c12 : (t105 == t103) = true
   rotate_left
   ·rw [if_neg c12] at H
    have c12b0 : (t105 == t103) = false := by simpa using c12
    have c12b1 : decide (t105 = t103) = false := by simpa using c12
    have c12b2 : (t105 == t103) = false := by simpa using c12
    have c12b3 : ¬ (t105 = t103) := by simpa using c12
    clear c12
    obtain rfl := Option.some.inj H
    go_wp2_with (first | ((with_reducible refine gate_callee (f := 22) rfl ?_); refine goesL_ (some 23) rfl rfl Tryd.func22 zq24 rfl #[.string ((⟨#[91]⟩ : ByteArray) ++ a0)] rfl zq0 ?_; (with_reducible refine (laws_behind.calls kj2 ((⟨#[91]⟩ : ByteArray) ++ a0) t102 t103 _ A8.out).mono ?_); rintro e w20 ⟨rfl, hb⟩; refine ⟨_, rfl, ?_⟩; have n0_ := mk0 (below_step zq1 hb); clear HB; have HB := n0_; clear n0_ hb) | ((with_reducible refine gate_callee (f := 23) rfl ?_); refine goesL_ (some 28) rfl rfl Tryd.func23 zq24 rfl #[.string a0] rfl zq0 ?_; (with_reducible refine (impl_FjCheckArray.calls kj2 a0 t104 t105 _ ?side1 A9.out).mono ?_); (case side1 => exact zq25); rintro e w21 ⟨rfl, hb⟩; refine ⟨_, rfl, ?_⟩; have n0_ := mk0 (below_step zq1 hb); clear HB; have HB := n0_; clear n0_ hb) | ((with_reducible refine gate_callee (f := 23) rfl ?_); refine goesL_ (some 32) rfl rfl Tryd.func23 zq24 rfl #[.string (⟨#[93]⟩ : ByteArray)] rfl zq0 ?_; (with_reducible refine (impl_FjCheckArray.calls kj2 (⟨#[93]⟩ : ByteArray) t106 true _ ?side1 A10.out).mono ?_); (case side1 => exact zq25); rintro e w22 ⟨rfl, hb⟩; refine ⟨_, rfl, ?_⟩; have n0_ := mk0 (below_step zq1 hb); clear HB; have HB := n0_; clear n0_ hb))
    go_ret
    exact ⟨by rfl, by repeat (first | (with_reducible first | exact HB.out | apply below_alloc | apply pw_below_drewN | apply below_drew1) | exact HB.out)⟩
   rw [if_pos c12] at H
   have c12b0 : (t105 == t103) = true := c12
   have c12b1 : decide (t105 = t103) = true := by simpa using c12
   have c12b2 : (t105 == t103) = true := by simpa using c12
   clear c12
   by_cases c13 : t103 = true
   ·subst c13
    rw [if_pos rfl] at H
    obtain rfl := Option.some.inj H
    go_wp2_with (first | ((with_reducible refine gate_callee (f := 22) rfl ?_); refine goesL_ (some 23) rfl rfl Tryd.func22 zq24 rfl #[.string ((⟨#[91]⟩ : ByteArray) ++ a0)] rfl zq0 ?_; (with_reducible refine (laws_behind.calls kj2 ((⟨#[91]⟩ : ByteArray) ++ a0) t102 true _ A8.out).mono ?_); rintro e w14 ⟨rfl, hb⟩; refine ⟨_, rfl, ?_⟩; have n0_ := mk0 (below_step zq1 hb); clear HB; have HB := n0_; clear n0_ hb) | ((with_reducible refine gate_callee (f := 23) rfl ?_); refine goesL_ (some 28) rfl rfl Tryd.func23 zq24 rfl #[.string a0] rfl zq0 ?_; (with_reducible refine (impl_FjCheckArray.calls kj2 a0 t104 t105 _ ?side1 A9.out).mono ?_); (case side1 => exact zq25); rintro e w15 ⟨rfl, hb⟩; refine ⟨_, rfl, ?_⟩; have n0_ := mk0 (below_step zq1 hb); clear HB; have HB := n0_; clear n0_ hb) | ((with_reducible refine gate_callee (f := 23) rfl ?_); refine goesL_ (some 32) rfl rfl Tryd.func23 zq24 rfl #[.string (⟨#[93]⟩ : ByteArray)] rfl zq0 ?_; (with_reducible refine (impl_FjCheckArray.calls kj2 (⟨#[93]⟩ : ByteArray) t106 true _ ?side1 A10.out).mono ?_); (case side1 => exact zq25); rintro e w16 ⟨rfl, hb⟩; refine ⟨_, rfl, ?_⟩; have n0_ := mk0 (below_step zq1 hb); clear HB; have HB := n0_; clear n0_ hb))
    go_ret
    exact ⟨by rfl, by repeat (first | (with_reducible first | exact HB.out | apply below_alloc | apply pw_below_drewN | apply below_drew1) | exact HB.out)⟩
   replace c13 := Bool.eq_false_iff.mpr c13
   subst c13
   rw [if_neg (show ¬ (false = true) by decide)] at H
   obtain rfl := Option.some.inj H
   go_wp2_with (first | ((with_reducible refine gate_callee (f := 22) rfl ?_); refine goesL_ (some 23) rfl rfl Tryd.func22 zq24 rfl #[.string ((⟨#[91]⟩ : ByteArray) ++ a0)] rfl zq0 ?_; (with_reducible refine (laws_behind.calls kj2 ((⟨#[91]⟩ : ByteArray) ++ a0) t102 false _ A8.out).mono ?_); rintro e w17 ⟨rfl, hb⟩; refine ⟨_, rfl, ?_⟩; have n0_ := mk0 (below_step zq1 hb); clear HB; have HB := n0_; clear n0_ hb) | ((with_reducible refine gate_callee (f := 23) rfl ?_); refine goesL_ (some 28) rfl rfl Tryd.func23 zq24 rfl #[.string a0] rfl zq0 ?_; (with_reducible refine (impl_FjCheckArray.calls kj2 a0 t104 t105 _ ?side1 A9.out).mono ?_); (case side1 => exact zq25); rintro e w18 ⟨rfl, hb⟩; refine ⟨_, rfl, ?_⟩; have n0_ := mk0 (below_step zq1 hb); clear HB; have HB := n0_; clear n0_ hb) | ((with_reducible refine gate_callee (f := 23) rfl ?_); refine goesL_ (some 32) rfl rfl Tryd.func23 zq24 rfl #[.string (⟨#[93]⟩ : ByteArray)] rfl zq0 ?_; (with_reducible refine (impl_FjCheckArray.calls kj2 (⟨#[93]⟩ : ByteArray) t106 true _ ?side1 A10.out).mono ?_); (case side1 => exact zq25); rintro e w19 ⟨rfl, hb⟩; refine ⟨_, rfl, ?_⟩; have n0_ := mk0 (below_step zq1 hb); clear HB; have HB := n0_; clear n0_ hb))
   go_ret
   exact ⟨by rfl, by repeat (first | (with_reducible first | exact HB.out | apply below_alloc | apply pw_below_drewN | apply below_drew1) | exact HB.out)⟩
def laws_FnFjCheckArray.Pure : Prop := ∀ (a0 : ByteArray), a0.size ≤ 140737488351232 → ∃ k, laws_FnFjCheckArray.f k a0 = some true
theorem laws_FnFjCheckArray.walk (P : laws_FnFjCheckArray.Pure) (a0 : ByteArray) (w : World) (hG : Laid w) (w0 : a0.size ≤ 140737488351232) :
 Calls Tryd.prog 8 #[.string a0] w fun e w' => e = .returned (.bool true) ∧ Below w.heap.size w w' := by
 obtain ⟨k, h⟩ := P a0 w0
 refine (laws_FnFjCheckArray.calls k a0 true w hG h).mono ?_
 rintro e w' ⟨rfl, hd⟩
 exact ⟨rfl, hd⟩
def fastjson_Validate.f (k : Nat) (a0 : ByteArray) : Option (Option Int) := (fastjson_skipWS.f k a0).bind fun t101 => ((fastjson_validateValue.f k t101).bind fun bt102 => (if bt102.2.isNone = true then ((fastjson_skipWS.f k bt102.1).bind fun t105 => (if (t105.size : Int) > 0 then ((errors_New.f (⟨#[117, 110, 101, 120, 112, 101, 99, 116, 101, 100, 32, 116, 97, 105, 108]⟩ : ByteArray)).bind fun t106 => (some t106)) else (some none))) else ((errors_New.f (⟨#[99, 97, 110, 110, 111, 116, 32, 112, 97, 114, 115, 101, 32, 74, 83, 79, 78]⟩ : ByteArray)).bind fun t107 => (some t107))))
theorem fastjson_Validate.mono : ∀ a0 k, LeO (fastjson_Validate.f k a0) (fastjson_Validate.f (k + 1) a0) := by
 intro a0 k
 unfold fastjson_Validate.f
 repeat' first
  | (with_reducible exact fastjson_skipWS.mono _ _)
  | (with_reducible exact fastjson_validateValue.mono _ _)
  | (with_reducible exact LeO.refl _)
  | (with_reducible exact LeO.none _)
  | (with_reducible refine LeO.ite ?_ ?_)
  | (with_reducible refine LeO.bind ?_ (fun _ => ?_))
  | exact fastjson_skipWS.mono _ _
  | exact fastjson_validateValue.mono _ _
  | exact LeO.none _
  | refine LeO.ite ?_ ?_
  | refine LeO.bind ?_ (fun _ => ?_)
set_option maxHeartbeats 8000000 in
set_option maxRecDepth 100000 in
theorem fastjson_Validate.calls (k : Nat) (a0 : ByteArray) (r : Option Int) (w : World) (hG : Laid w) (h : fastjson_Validate.f k a0 = some r) :
 Calls Tryd.prog 45 #[.string a0] w fun e w' => ∃ z_r : Option Int, Zk z_r r ∧ e = .returned (errW z_r) ∧ Below w.heap.size w w' := by
 have HG := mk0 hG
 clear hG
 have hu55 := Tryd.underlying55
 have hu148 := Tryd.underlying148
 have HB := mk0 (Below.refl w.heap.size w)
 have H : ((fastjson_skipWS.f k a0).bind fun t101 => ((fastjson_validateValue.f k t101).bind fun bt102 => (if bt102.2.isNone = true then ((fastjson_skipWS.f k bt102.1).bind fun t105 => (if (t105.size : Int) > 0 then ((errors_New.f (⟨#[117, 110, 101, 120, 112, 101, 99, 116, 101, 100, 32, 116, 97, 105, 108]⟩ : ByteArray)).bind fun t106 => (some t106)) else (some none))) else ((errors_New.f (⟨#[99, 97, 110, 110, 111, 116, 32, 112, 97, 114, 115, 101, 32, 74, 83, 79, 78]⟩ : ByteArray)).bind fun t107 => (some t107))))) = some r := h
 clear h
 replace H := Option.bind_eq_some_iff.mp H
 obtain ⟨t101, A20, H⟩ := H
 (try dsimp only at H)
 have A2 := mk0 A20
 clear A20
 replace H := Option.bind_eq_some_iff.mp H
 obtain ⟨⟨t102, t103⟩, A30, H⟩ := H
 (try dsimp only at H)
 have A3 := mk0 A30
 clear A30
 rcases t103 with _ | q104
 rotate_left
 ·rw [if_neg (show ¬ (some q104).isNone = true by simp)] at H
  (try (obtain ⟨m_q104, rfl⟩ := Zk.some_ Hz_t103.out))
  try simp only [errW_none, errW_some]
  replace H := Option.bind_eq_some_iff.mp H
  obtain ⟨t107, A100, H⟩ := H
  (try dsimp only at H)
  have A10 := mk0 A100
  clear A100
  obtain rfl := Option.some.inj H
  go_enter Tryd.func45, Tryd.ntmps45
  go_wp2_with (first | ((with_reducible refine gate_callee (f := 74) rfl ?_); refine goesL_ (some 6) rfl rfl Tryd.func74 zq24 rfl #[.string a0] rfl zq0 ?_; (with_reducible refine (fastjson_skipWS.calls k a0 t101 _ A2.out).mono ?_); rintro e w' ⟨rfl, ⟨nd, rfl⟩⟩; refine ⟨_, rfl, ?_⟩) | ((with_reducible refine gate_callee (f := 81) rfl ?_); refine goesL_ (some 9) rfl rfl Tryd.func81 zq24 rfl #[.string t101] rfl zq0 ?_; (with_reducible refine (fastjson_validateValue.calls k t101 t102 (some q104) _ ?side1 A3.out).mono ?_); (case side1 => exact zq25); rintro e w11 ⟨zs1_, hzs1_, rfl, hb⟩; obtain ⟨m_q104, rfl⟩ := Zk.some_ hzs1_; refine ⟨_, rfl, ?_⟩; have n0_ := mk0 (below_step zq1 hb); clear HB; have HB := n0_; clear n0_ hb; (try simp only [errW_none, errW_some])) | ((with_reducible refine gate_callee (f := 54) rfl ?_); refine goesL_ (some 14) rfl rfl Tryd.func54 zq24 rfl #[.string (⟨#[99, 97, 110, 110, 111, 116, 32, 112, 97, 114, 115, 101, 32, 74, 83, 79, 78]⟩ : ByteArray)] rfl zq0 ?_; (with_reducible refine (errors_New.calls (⟨#[99, 97, 110, 110, 111, 116, 32, 112, 97, 114, 115, 101, 32, 74, 83, 79, 78]⟩ : ByteArray) t107 _ A10.out).mono ?_); rintro e w12 ⟨z_t107, hz_t107, rfl, hb⟩; have Hz_t107 := mk0 hz_t107; clear hz_t107; refine ⟨_, rfl, ?_⟩; have n0_ := mk0 (below_step zq1 hb); clear HB; have HB := n0_; clear n0_ hb; (try simp only [errW_none, errW_some])))
  go_ret
  exact ⟨z_t107, Hz_t107.out, by rfl, by repeat (first | (with_reducible first | exact HB.out | apply below_alloc | apply pw_below_drewN | apply below_drew1) | exact HB.out)⟩
 rw [if_pos (show (none : Option Int).isNone = true by rfl)] at H
 (try (obtain rfl := Zk.none_ Hz_t103.out))
 try simp only [errW_none, errW_some]
 replace H := Option.bind_eq_some_iff.mp H
 obtain ⟨t105, A40, H⟩ := H
 (try dsimp only at H)
 have A4 := mk0 A40
 clear A40
 by_cases c5 : (t105.size : Int) > 0
 rotate_left
 ·rw [if_neg c5] at H
  have c5b0 : decide (0 < (t105.size : Int)) = false := decide_eq_false c5
  have c5b1 : decide (0 < t105.size) = false := decide_eq_false (by omega)
  clear c5
  obtain rfl := Option.some.inj H
  go_enter Tryd.func45, Tryd.ntmps45
  go_wp2_with (first | ((with_reducible refine gate_callee (f := 74) rfl ?_); refine goesL_ (some 6) rfl rfl Tryd.func74 zq24 rfl #[.string a0] rfl zq0 ?_; (with_reducible refine (fastjson_skipWS.calls k a0 t101 _ A2.out).mono ?_); rintro e w' ⟨rfl, ⟨nd, rfl⟩⟩; refine ⟨_, rfl, ?_⟩) | ((with_reducible refine gate_callee (f := 81) rfl ?_); refine goesL_ (some 9) rfl rfl Tryd.func81 zq24 rfl #[.string t101] rfl zq0 ?_; (with_reducible refine (fastjson_validateValue.calls k t101 t102 none _ ?side1 A3.out).mono ?_); (case side1 => exact zq25); rintro e w9 ⟨zn1_, hzn1_, rfl, hb⟩; obtain rfl := Zk.none_ hzn1_; refine ⟨_, rfl, ?_⟩; have n0_ := mk0 (below_step zq1 hb); clear HB; have HB := n0_; clear n0_ hb; (try simp only [errW_none, errW_some])) | ((with_reducible refine gate_callee (f := 74) rfl ?_); refine goesL_ (some 16) rfl rfl Tryd.func74 zq24 rfl #[.string t102] rfl zq0 ?_; (with_reducible refine (fastjson_skipWS.calls k t102 t105 _ A4.out).mono ?_); rintro e w' ⟨rfl, ⟨nd, rfl⟩⟩; refine ⟨_, rfl, ?_⟩))
  go_ret
  exact ⟨none, Zk.nn, by rfl, by repeat (first | (with_reducible first | exact HB.out | apply below_alloc | apply pw_below_drewN | apply below_drew1) | exact HB.out)⟩
 rw [if_pos c5] at H
 have c5b0 : decide (0 < (t105.size : Int)) = true := decide_eq_true c5
 have c5b1 : decide (0 < t105.size) = true := decide_eq_true (by omega)
 clear c5
 replace H := Option.bind_eq_some_iff.mp H
 obtain ⟨t106, A60, H⟩ := H
 (try dsimp only at H)
 have A6 := mk0 A60
 clear A60
 obtain rfl := Option.some.inj H
 go_enter Tryd.func45, Tryd.ntmps45
 go_wp2_with (first | ((with_reducible refine gate_callee (f := 74) rfl ?_); refine goesL_ (some 6) rfl rfl Tryd.func74 zq24 rfl #[.string a0] rfl zq0 ?_; (with_reducible refine (fastjson_skipWS.calls k a0 t101 _ A2.out).mono ?_); rintro e w' ⟨rfl, ⟨nd, rfl⟩⟩; refine ⟨_, rfl, ?_⟩) | ((with_reducible refine gate_callee (f := 81) rfl ?_); refine goesL_ (some 9) rfl rfl Tryd.func81 zq24 rfl #[.string t101] rfl zq0 ?_; (with_reducible refine (fastjson_validateValue.calls k t101 t102 none _ ?side1 A3.out).mono ?_); (case side1 => exact zq25); rintro e w7 ⟨zn1_, hzn1_, rfl, hb⟩; obtain rfl := Zk.none_ hzn1_; refine ⟨_, rfl, ?_⟩; have n0_ := mk0 (below_step zq1 hb); clear HB; have HB := n0_; clear n0_ hb; (try simp only [errW_none, errW_some])) | ((with_reducible refine gate_callee (f := 74) rfl ?_); refine goesL_ (some 16) rfl rfl Tryd.func74 zq24 rfl #[.string t102] rfl zq0 ?_; (with_reducible refine (fastjson_skipWS.calls k t102 t105 _ A4.out).mono ?_); rintro e w' ⟨rfl, ⟨nd, rfl⟩⟩; refine ⟨_, rfl, ?_⟩) | ((with_reducible refine gate_callee (f := 54) rfl ?_); refine goesL_ (some 20) rfl rfl Tryd.func54 zq24 rfl #[.string (⟨#[117, 110, 101, 120, 112, 101, 99, 116, 101, 100, 32, 116, 97, 105, 108]⟩ : ByteArray)] rfl zq0 ?_; (with_reducible refine (errors_New.calls (⟨#[117, 110, 101, 120, 112, 101, 99, 116, 101, 100, 32, 116, 97, 105, 108]⟩ : ByteArray) t106 _ A6.out).mono ?_); rintro e w8 ⟨z_t106, hz_t106, rfl, hb⟩; have Hz_t106 := mk0 hz_t106; clear hz_t106; refine ⟨_, rfl, ?_⟩; have n0_ := mk0 (below_step zq1 hb); clear HB; have HB := n0_; clear n0_ hb; (try simp only [errW_none, errW_some])))
 go_ret
 exact ⟨z_t106, Hz_t106.out, by rfl, by repeat (first | (with_reducible first | exact HB.out | apply below_alloc | apply pw_below_drewN | apply below_drew1) | exact HB.out)⟩
end Go.Proofs.YtlokkefnbffjnaaDoor.J
end
section
namespace Go.Proofs.YtlokkefnbffjnaaDoor.J
open Go.RowKit Go.Proofs.YtlokkefnbffjnaaDoorW.PrintWords Go.Proofs.YtlokkefnbffjnaaDoorW.PrintLast
theorem w64 {x : Int} (h : -9223372036854775808 ≤ x ∧ x ≤ 9223372036854775807) : wrap64 x = x := by
 unfold wrap64
 omega
theorem Ev_same {α : Type} {g : Nat → Option α} {r r' : α} (h : Ev g r) (e : r = r') : Ev g r' := e ▸ h
def From (s : ByteArray) (i : Nat) (l : List Int) : Prop := i ≤ s.size ∧ (bytesOf s).drop i = l
theorem From.len {s : ByteArray} {i : Nat} {l : List Int} (h : From s i l) : i + l.length = s.size := by
 have h1 := h.1
 rw [← h.2, List.length_drop, bytesOf_length]
 omega
theorem From.start (s : ByteArray) : From s 0 (bytesOf s) := ⟨Nat.zero_le _, rfl⟩
theorem From.at {s : ByteArray} {i : Nat} (h : i ≤ s.size) : From s i ((bytesOf s).drop i) := ⟨h, rfl⟩
theorem From.drop {s : ByteArray} {i : Nat} {l : List Int} (h : From s i l) (n : Nat) (hn : n ≤ l.length) : From s (i + n) (l.drop n) := by
 have := h.len
 exact ⟨by omega, by rw [← h.2, List.drop_drop]⟩
theorem From.app {s : ByteArray} {i : Nat} {a l : List Int} (h : From s i (a ++ l)) : From s (i + a.length) l := by
 have := h.drop a.length (by simp)
 simpa using this
theorem From.tail {s : ByteArray} {i : Nat} {a : Int} {l : List Int} (h : From s i (a :: l)) : From s (i + 1) l := by
 have := h.drop 1 (by simp)
 simpa using this
theorem From.lt {s : ByteArray} {i : Nat} {a : Int} {l : List Int} (h : From s i (a :: l)) : i < s.size := by
 have := h.len
 simp at this
 omega
theorem From.bt {s : ByteArray} {i : Nat} {a : Int} {l : List Int} (h : From s i (a :: l)) : bt s (i : Int) = a := by
 have h1 : (bytesOf s)[i]? = some a := by
  have := congrArg (·[0]?) h.2
  simpa using this
 rw [← rd_bytesOf]
 unfold rd
 simp [List.getD_eq_getElem?_getD, h1]
theorem From.nil {s : ByteArray} {i : Nat} (h : From s i []) : i = s.size := by
 have := h.len
 simpa using this
theorem bytesOf_range (s : ByteArray) : ∀ a ∈ bytesOf s, 0 ≤ a ∧ a ≤ 255 := by
 intro a ha
 unfold bytesOf at ha
 rw [List.mem_map] at ha
 obtain ⟨b, _, rfl⟩ := ha
 have := b.toNat_lt
 omega
theorem From.range {s : ByteArray} {i : Nat} {l : List Int} (h : From s i l) : ∀ a ∈ l, 0 ≤ a ∧ a ≤ 255 := by
 intro a ha
 rw [← h.2] at ha
 exact bytesOf_range s a (List.mem_of_mem_drop ha)
theorem From.head {s : ByteArray} {i : Nat} {a : Int} {l : List Int} (h : From s i (a :: l)) : 0 ≤ a ∧ a ≤ 255 := h.range a (by simp)
theorem bytesOf_extract (s : ByteArray) (i j : Nat) : bytesOf (s.extract i j) = ((bytesOf s).take j).drop i := by
 unfold bytesOf
 rw [ByteArray.data_extract, Array.toList_extract, List.extract_eq_take_drop, List.map_take, List.map_drop, List.drop_take]
theorem From.extract {s : ByteArray} {i : Nat} {a l : List Int} (h : From s i (a ++ l)) : bytesOf (s.extract i (i + a.length)) = a := by
 rw [bytesOf_extract, List.drop_take, h.2]
 simp
theorem strOfNums_bytesOf (s : ByteArray) : strOfNums (bytesOf s) = s := by
 apply ByteArray.ext
 apply Array.toList_inj.mp
 rw [strOfNums_data]
 unfold bytesOf
 rw [List.map_map]
 conv => rhs; rw [← List.map_id s.data.toList]
 apply List.map_congr_left
 intro b _
 simp [Function.comp]
theorem bytesOf_inj {s t : ByteArray} (h : bytesOf s = bytesOf t) : s = t := by
 rw [← strOfNums_bytesOf s, h, strOfNums_bytesOf]
theorem toList_inj {s t : ByteArray} (h : s.toList = t.toList) : s = t := by
 rw [ByteArray.toList_eq, ByteArray.toList_eq] at h
 exact ByteArray.ext (Array.toList_inj.mp h)
def isB (c : Int) : Bool := decide (c = 32 ∨ c = 9 ∨ c = 10 ∨ c = 13)
def skB : List Int → List Int
  | [] => []
  | c :: r => if isB c = true then skB r else c :: r
theorem skB_len : ∀ l, (skB l).length ≤ l.length
 | [] => Nat.le_refl _
 | c :: r => by
  unfold skB
  split
  ·have := skB_len r
   simp; omega
  ·exact Nat.le_refl _
theorem skB_head : ∀ l c r, skB l = c :: r → isB c = false
 | [], _, _, h => by simp [skB] at h
 | a :: l, c, r, h => by
  unfold skB at h
  split at h
  ·exact skB_head l c r h
  ·rename_i hn
   obtain ⟨rfl, rfl⟩ := h
   simpa using hn
theorem skB_ex : ∀ l, ∃ b, (∀ a ∈ b, isB a = true) ∧ l = b ++ skB l
 | [] => ⟨[], by simp, rfl⟩
 | c :: r => by
  unfold skB
  split
  ·rename_i h
   obtain ⟨b, hb, e⟩ := skB_ex r
   exact ⟨c :: b, by simp [h]; exact hb, by rw [List.cons_append, ← e]⟩
  ·exact ⟨[], by simp, rfl⟩
theorem skB_skB (l : List Int) : skB (skB l) = skB l := by
 match h : skB l with
 | [] => rfl
 | c :: r => rw [skB, if_neg (by simp [skB_head l c r h])]
theorem skB_no {c : Int} {r : List Int} (h : isB c = false) : skB (c :: r) = c :: r := by
 rw [skB, if_neg (by simp [h])]
def hexv (c : Int) : Option Int := if 48 ≤ c ∧ c ≤ 57 then some (c - 48) else if 97 ≤ c ∧ c ≤ 102 then some (c - 87) else if 65 ≤ c ∧ c ≤ 70 then some (c - 55) else none
def hex4 : List Int → Option Int
  | a :: b :: c :: d :: _ => (hexv a).bind fun x => (hexv b).bind fun y => (hexv c).bind fun z => (hexv d).bind fun u => some (((x * 16 + y) * 16 + z) * 16 + u)
  | _ => none
theorem hex4_len {l : List Int} {v : Int} (h : hex4 l = some v) : 4 ≤ l.length := by
 unfold hex4 at h
 split at h
 ·simp
 ·cases h
def isE (c : Int) : Bool := decide (c = 34 ∨ c = 92 ∨ c = 47 ∨ c = 98 ∨ c = 102 ∨ c = 110 ∨ c = 114 ∨ c = 116)
def escL : List Int → Option (List Int)
  | [] => none
  | c :: r => if isE c = true then some r else if c = 117 then (hex4 r).bind fun _ => some (r.drop 4) else none
theorem escL_len {l r : List Int} (h : escL l = some r) : r.length < l.length := by
 unfold escL at h
 split at h
 ·cases h
 ·split at h
  ·cases h; simp
  ·split at h
   ·obtain ⟨v, hv, h⟩ := Option.bind_eq_some_iff.mp h
    have := hex4_len hv
    cases h
    simp
    omega
   ·cases h
def strL (l : List Int) : Option (List Int) :=
  match l with
  | [] => none
  | c :: r => if c = 34 then some r else if c < 32 then none else if c = 92 then (match _h : escL r with
    | none => none
    | some r' => strL r') else strL r
termination_by l.length
decreasing_by
  · have := escL_len ‹_›
    simp; omega
  · simp
theorem strL_nil : strL [] = none := by rw [strL]
theorem strL_end (r : List Int) : strL (34 :: r) = some r := by rw [strL, if_pos rfl]
theorem strL_low {c : Int} (r : List Int) (h : c < 32) : strL (c :: r) = none := by
 rw [strL, if_neg (by omega), if_pos h]
theorem strL_esc (r : List Int) : strL (92 :: r) = (escL r).bind strL := by
 rw [strL, if_neg (by omega), if_neg (by omega), if_pos rfl]
 split
 ·rename_i h
  rw [h]; rfl
 ·rename_i r' h
  rw [h]; rfl
theorem strL_raw {c : Int} (r : List Int) (h : c ≠ 34 ∧ ¬ c < 32 ∧ c ≠ 92) : strL (c :: r) = strL r := by
 rw [strL, if_neg h.1, if_neg h.2.1, if_neg h.2.2]
theorem strL_len : ∀ (n : Nat) (l r : List Int), l.length ≤ n → strL l = some r → r.length < l.length
 | _, [], r, _, h => by rw [strL_nil] at h; cases h
 | 0, c :: l, r, hn, h => by simp at hn
 | n + 1, c :: l, r, hn, h => by
  simp only [List.length_cons] at hn ⊢
  by_cases h1 : c = 34
  ·subst h1
   rw [strL_end] at h
   cases h
   omega
  by_cases h2 : c < 32
  ·rw [strL_low _ h2] at h
   cases h
  by_cases h3 : c = 92
  rotate_left
  ·rw [strL_raw _ ⟨h1, h2, h3⟩] at h
   have := strL_len n l r (by omega) h
   omega
  subst h3
  rw [strL_esc] at h
  obtain ⟨r', h4, h5⟩ := Option.bind_eq_some_iff.mp h
  have := escL_len h4
  have := strL_len n r' r (by omega) h5
  omega
inductive Body : List Int → Prop
  | nil : Body []
  | raw {c : Int} {l : List Int} : c ≠ 34 → ¬ c < 32 → c ≠ 92 → Body l → Body (c :: l)
  | two {b : Int} {l : List Int} : isE b = true → Body l → Body (92 :: b :: l)
  | six {a b c d v : Int} {l : List Int} : hex4 (a :: b :: c :: d :: l) = some v → Body l → Body (92 :: 117 :: a :: b :: c :: d :: l)
theorem hex4_more {a b c d : Int} (l l' : List Int) : hex4 (a :: b :: c :: d :: l) = hex4 (a :: b :: c :: d :: l') := rfl
theorem isE_117 : isE 117 = false := by decide
theorem escL_let {b : Int} (l : List Int) (h : isE b = true) : escL (b :: l) = some l := by
 rw [escL, if_pos h]
theorem escL_hex {a b c d v : Int} {l : List Int} (h : hex4 (a :: b :: c :: d :: l) = some v) : escL (117 :: a :: b :: c :: d :: l) = some l := by
 rw [escL, if_neg (by simp [isE_117]), if_pos rfl, h]
 rfl
theorem strL_body {b : List Int} (h : Body b) (r : List Int) : strL (b ++ 34 :: r) = some r := by
 induction h with
 | nil => exact strL_end r
 | raw h1 h2 h3 _ ih => rw [List.cons_append, strL_raw _ ⟨h1, h2, h3⟩, ih]
 | two h1 _ ih => rw [List.cons_append, List.cons_append, strL_esc, escL_let _ h1]; exact ih
 | six h1 _ ih =>
  simp only [List.cons_append]
  rw [strL_esc, escL_hex (v := by assumption) ((hex4_more _ _).trans h1)]
  exact ih
theorem escL_ex {l r : List Int} (h : escL l = some r) : (∃ b, isE b = true ∧ l = b :: r) ∨ ∃ a b c d v, hex4 (a :: b :: c :: d :: r) = some v ∧ l = 117 :: a :: b :: c :: d :: r := by
 unfold escL at h
 split at h
 ·cases h
 ·rename_i c l
  split at h
  ·cases h
   exact .inl ⟨_, by assumption, rfl⟩
  ·split at h
   ·obtain ⟨v, hv, h⟩ := Option.bind_eq_some_iff.mp h
    cases h
    subst c
    match l, hv with
    | a :: b :: c :: d :: l, hv => exact .inr ⟨a, b, c, d, v, hv, rfl⟩
   ·cases h
theorem body_strL : ∀ (n : Nat) {l r : List Int}, l.length ≤ n → strL l = some r → ∃ b, Body b ∧ l = b ++ 34 :: r
 | _, [], r, _, h => by rw [strL_nil] at h; cases h
 | 0, c :: l, r, hn, h => by simp at hn
 | n + 1, c :: l, r, hn, h => by
  simp only [List.length_cons] at hn
  by_cases h1 : c = 34
  ·subst h1
   rw [strL_end] at h
   cases h
   exact ⟨[], .nil, rfl⟩
  by_cases h2 : c < 32
  ·rw [strL_low _ h2] at h
   cases h
  by_cases h3 : c = 92
  rotate_left
  ·rw [strL_raw _ ⟨h1, h2, h3⟩] at h
   obtain ⟨t, ht, e⟩ := body_strL n (by omega) h
   exact ⟨c :: t, .raw h1 h2 h3 ht, by rw [e]; rfl⟩
  subst h3
  rw [strL_esc] at h
  obtain ⟨r', h4, h5⟩ := Option.bind_eq_some_iff.mp h
  have := escL_len h4
  obtain ⟨t, ht, e⟩ := body_strL n (by omega) h5
  rcases escL_ex h4 with ⟨b, hb, rfl⟩ | ⟨a, b, c, d, v, hv, rfl⟩
  ·exact ⟨92 :: b :: t, .two hb ht, by rw [e]; rfl⟩
  ·subst e
   exact ⟨92 :: 117 :: a :: b :: c :: d :: t, .six ((hex4_more _ _).trans hv) ht, rfl⟩
theorem strL_iff {l r : List Int} : strL l = some r ↔ ∃ b, Body b ∧ l = b ++ 34 :: r :=
 ⟨fun h => body_strL _ (Nat.le_refl _) h, fun ⟨_, hb, e⟩ => e ▸ strL_body hb r⟩
end Go.Proofs.YtlokkefnbffjnaaDoor.J
end
section
namespace Go.Proofs.YtlokkefnbffjnaaDoor.J
def isD (c : Int) : Bool := decide (48 ≤ c ∧ c ≤ 57)
def skD : List Int → List Int
  | [] => []
  | c :: r => if isD c = true then skD r else c :: r
theorem skD_len : ∀ l, (skD l).length ≤ l.length
 | [] => Nat.le_refl _
 | c :: r => by
  unfold skD
  split
  ·have := skD_len r
   simp; omega
  ·exact Nat.le_refl _
def digL : List Int → Option (List Int)
  | [] => none
  | c :: r => if isD c = true then some (skD r) else none
def expL : List Int → Option (List Int)
  | [] => some []
  | c :: r => if c = 101 ∨ c = 69 then (match r with
    | [] => none
    | d :: t => if d = 43 ∨ d = 45 then digL t else digL (d :: t)) else some (c :: r)
def fracL : List Int → Option (List Int)
  | [] => some []
  | c :: r => if c = 46 then (digL r).bind expL else expL (c :: r)
def intL : List Int → Option (List Int)
  | [] => none
  | c :: r => if c = 48 then fracL r else if isD c = true then fracL (skD r) else none
def numL : List Int → Option (List Int)
  | [] => none
  | c :: r => if c = 45 then intL r else intL (c :: r)
theorem digL_len {l r : List Int} (h : digL l = some r) : r.length < l.length := by
 unfold digL at h
 split at h
 ·cases h
 ·split at h
  ·cases h
   have := skD_len (by assumption)
   simp; omega
  ·cases h
theorem expL_len {l r : List Int} (h : expL l = some r) : r.length ≤ l.length := by
 unfold expL at h
 split at h
 ·cases h; exact Nat.le_refl _
 ·split at h
  ·split at h
   ·cases h
   ·split at h
    ·have := digL_len h
     simp; omega
    ·have := digL_len h
     simp at this ⊢; omega
  ·cases h; exact Nat.le_refl _
theorem fracL_len {l r : List Int} (h : fracL l = some r) : r.length ≤ l.length := by
 unfold fracL at h
 split at h
 ·cases h; exact Nat.le_refl _
 ·split at h
  ·obtain ⟨t, h1, h2⟩ := Option.bind_eq_some_iff.mp h
   have := digL_len h1
   have := expL_len h2
   simp; omega
  ·exact expL_len h
theorem intL_len {l r : List Int} (h : intL l = some r) : r.length < l.length := by
 unfold intL at h
 split at h
 ·cases h
 ·rename_i c t
  split at h
  ·have := fracL_len h
   simp; omega
  ·split at h
   ·have := fracL_len h
    have := skD_len t
    simp; omega
   ·cases h
theorem numL_len {l r : List Int} (h : numL l = some r) : r.length < l.length := by
 unfold numL at h
 split at h
 ·cases h
 ·split at h
  ·have := intL_len h
   simp; omega
  ·exact intL_len h
def wordL (w l : List Int) : Option (List Int) := if l.take w.length = w then some (l.drop w.length) else none
theorem wordL_len {w l r : List Int} (hw : w ≠ []) (h : wordL w l = some r) : r.length < l.length := by
 unfold wordL at h
 split at h
 ·rename_i e
  cases h
  have h1 : 0 < w.length := List.length_pos_iff.mpr hw
  have h2 := congrArg List.length e
  simp at h2 ⊢
  omega
 ·cases h
def nullW : List Int := [110, 117, 108, 108]
def falseW : List Int := [102, 97, 108, 115, 101]
def trueW : List Int := [116, 114, 117, 101]

mutual
def valL (l : List Int) : Option (List Int) :=
  match l with
  | [] => none
  | c :: r => if c = 123 then objL r else if c = 91 then arrL r else if c = 34 then strL r else if c = 45 ∨ isD c = true then numL (c :: r)
    else if c = 110 then wordL nullW (c :: r) else if c = 102 then wordL falseW (c :: r) else if c = 116 then wordL trueW (c :: r) else none
termination_by 3 * l.length
decreasing_by all_goals (simp; omega)
def arrL (l : List Int) : Option (List Int) :=
  match _h : skB l with
  | [] => none
  | c :: r => if c = 93 then some r else elsL (c :: r)
termination_by 3 * l.length + 2
decreasing_by
  have := skB_len l
  rw [_h] at this
  simp at this ⊢
  omega
def elsL (l : List Int) : Option (List Int) :=
  match valL l with
  | none => none
  | some t => if t.length < l.length then (match _h : skB t with
    | [] => none
    | c :: u => if c = 93 then some u else if c = 44 then elsL (skB u) else none) else none
termination_by 3 * l.length + 1
decreasing_by
  · omega
  · have h1 := skB_len t
    rw [_h] at h1
    have h2 := skB_len u
    simp at h1
    omega
def objL (l : List Int) : Option (List Int) :=
  match _h : skB l with
  | [] => none
  | c :: r => if c = 125 then some r else memL (c :: r)
termination_by 3 * l.length + 2
decreasing_by
  have := skB_len l
  rw [_h] at this
  simp at this ⊢
  omega
def memL (l : List Int) : Option (List Int) :=
  match l with
  | [] => none
  | c :: r => if c = 34 then (match _h1 : strL r with
    | none => none
    | some t => (match _h2 : skB t with
      | [] => none
      | d :: u => if d = 58 then (match valL (skB u) with
        | none => none
        | some v => if v.length ≤ r.length then (match _h3 : skB v with
          | [] => none
          | e :: x => if e = 125 then some x else if e = 44 then memL (skB x) else none) else none) else none)) else none
termination_by 3 * l.length + 1
decreasing_by
  · have h0 := strL_len _ _ _ (Nat.le_refl _) _h1
    have h1 := skB_len t
    rw [_h2] at h1
    have h2 := skB_len u
    simp at h1 ⊢
    omega
  · have h1 := skB_len v
    rw [_h3] at h1
    have h2 := skB_len x
    simp only [List.length_cons] at *
    omega
end
theorem arrL_of {l r : List Int} (h : arrL l = some r) : r.length < l.length ∨ ∃ b, b.length ≤ l.length ∧ elsL b = some r := by
 rw [arrL] at h
 have := skB_len l
 split at h
 ·cases h
 ·rename_i c t e
  rw [e] at this
  split at h
  ·cases h
   simp at this
   omega
  ·exact .inr ⟨_, this, h⟩
theorem objL_of {l r : List Int} (h : objL l = some r) : r.length < l.length ∨ ∃ b, b.length ≤ l.length ∧ memL b = some r := by
 rw [objL] at h
 have := skB_len l
 split at h
 ·cases h
 ·rename_i c t e
  rw [e] at this
  split at h
  ·cases h
   simp at this
   omega
  ·exact .inr ⟨_, this, h⟩
theorem all_len : ∀ n : Nat, (∀ l r : List Int, l.length ≤ n → valL l = some r → r.length < l.length) ∧ (∀ l r : List Int, l.length ≤ n → elsL l = some r → r.length < l.length) ∧ (∀ l r : List Int, l.length ≤ n → memL l = some r → r.length < l.length) := by
 intro n
 induction n with
 | zero =>
  refine ⟨fun l r hl h => ?_, fun l r hl h => ?_, fun l r hl h => ?_⟩
  ·obtain rfl := List.length_eq_zero_iff.mp (Nat.le_zero.mp hl)
   rw [valL] at h
   cases h
  ·obtain rfl := List.length_eq_zero_iff.mp (Nat.le_zero.mp hl)
   rw [elsL, valL] at h
   cases h
  ·obtain rfl := List.length_eq_zero_iff.mp (Nat.le_zero.mp hl)
   rw [memL] at h
   cases h
 | succ n ih =>
  obtain ⟨ih1, ih2, ih3⟩ := ih
  have hv : ∀ l r : List Int, l.length ≤ n + 1 → valL l = some r → r.length < l.length := by
   intro l r hl h
   rw [valL.eq_def] at h
   split at h
   ·cases h
   ·rename_i c t
    simp only [List.length_cons] at hl ⊢
    split at h
    ·rcases objL_of h with h1 | ⟨b, h1, h2⟩
     ·omega
     ·have := ih3 b r (by omega) h2
      omega
    split at h
    ·rcases arrL_of h with h1 | ⟨b, h1, h2⟩
     ·omega
     ·have := ih2 b r (by omega) h2
      omega
    split at h
    ·have := strL_len _ _ _ (Nat.le_refl _) h
     omega
    split at h
    ·exact numL_len h
    split at h
    ·exact wordL_len zq47 h
    split at h
    ·exact wordL_len zq47 h
    split at h
    ·exact wordL_len zq47 h
    ·cases h
  refine ⟨hv, fun l r hl h => ?_, fun l r hl h => ?_⟩
  ·rw [elsL] at h
   split at h
   ·cases h
   ·rename_i t e1
    split at h
    ·rename_i e2
     have h1 := skB_len t
     split at h
     ·cases h
     ·rename_i c u e3
      rw [e3] at h1
      simp only [List.length_cons] at h1
      split at h
      ·cases h
       omega
      split at h
      ·have h2 := skB_len u
       have := ih2 (skB u) r (by omega) h
       omega
      ·cases h
    ·cases h
  ·rw [memL.eq_def] at h
   split at h
   ·cases h
   ·rename_i c r0
    simp only [List.length_cons] at hl h ⊢
    split at h
    ·split at h
     ·cases h
     ·rename_i t e1
      have k1 := strL_len _ _ _ (Nat.le_refl _) e1
      split at h
      ·cases h
      ·rename_i d u e2
       have k2 := skB_len t
       rw [e2] at k2
       simp only [List.length_cons] at k2
       split at h
       ·split at h
        ·cases h
        ·rename_i v e3
         split at h
         ·rename_i e4
          have k3 := skB_len v
          split at h
          ·cases h
          ·rename_i e x e5
           rw [e5] at k3
           simp only [List.length_cons] at k3
           split at h
           ·cases h
            omega
           split at h
           ·have k4 := skB_len x
            have := ih3 (skB x) r (by omega) h
            omega
           ·cases h
         ·cases h
       ·cases h
    ·cases h
theorem valL_len {l r : List Int} (h : valL l = some r) : r.length < l.length := (all_len l.length).1 l r (Nat.le_refl _) h
theorem memL_bad {l : List Int} (e : strL l = none) : memL (34 :: l) = none := by
 rw [memL.eq_def]
 simp only [if_true]
 split
 ·rfl
 ·rename_i h1
  rw [h1] at e
  cases e
theorem memL_not {c : Int} {l : List Int} (e : c ≠ 34) : memL (c :: l) = none := by
 rw [memL.eq_def]
 simp only [if_neg e]
end Go.Proofs.YtlokkefnbffjnaaDoor.J
end
section
namespace Go.Proofs.YtlokkefnbffjnaaDoor.J
open Go.RowKit Go.Proofs.YtlokkefnbffjnaaDoor.J Go.Proofs.YtlokkefnbffjnaaDoorW.PrintWords Go.Proofs.YtlokkefnbffjnaaDoorW.PrintLast
set_option linter.unusedVariables false

theorem Ev_sh {α : Type} {g : Nat → Option α} {r : α} (h : Ev (fun k => g (k + 1)) r) : Ev g r := Ev.step (fun _ => rfl) h
theorem sz_of {s : ByteArray} {l : List Int} (h : bytesOf s = l) : s.size = l.length := by rw [← h, bytesOf_length]
theorem bt_of {s : ByteArray} {c : Int} {l : List Int} (h : bytesOf s = c :: l) : bt s 0 = c := by
 have h0 := From.start s
 rw [h] at h0
 exact h0.bt
theorem cut_of {s : ByteArray} {l : List Int} (h : bytesOf s = l) (n m : Nat) (hm : s.size ≤ m) : bytesOf (s.extract n m) = l.drop n := by
 rw [bytesOf_extract, h, List.take_of_length_le (by rw [← sz_of h]; exact hm)]
theorem cut1 {s : ByteArray} {c : Int} {l : List Int} (h : bytesOf s = c :: l) : bytesOf (s.extract 1 s.size) = l := by
 rw [cut_of h 1 _ (Nat.le_refl _)]
 rfl
theorem From.cut {s : ByteArray} {i : Nat} {l : List Int} (h : From s i l) : bytesOf (s.extract i s.size) = l := by
 rw [cut_of rfl i _ (Nat.le_refl _)]
 exact h.2
def Tl (g : Nat → Option (ByteArray × Option Int)) (o : Option (List Int)) : Prop :=
  match o with
  | some r => ∃ z, bytesOf z = r ∧ Ev g (z, none)
  | none => ∃ z q, Ev g (z, some q)
theorem Tl.sh {g : Nat → Option (ByteArray × Option Int)} {o : Option (List Int)} (h : Tl (fun k => g (k + 1)) o) : Tl g o := by
 cases o with
 | none => obtain ⟨z, q, hz⟩ := h; exact ⟨z, q, Ev_sh hz⟩
 | some r => obtain ⟨z, q, hz⟩ := h; exact ⟨z, q, Ev_sh hz⟩
theorem Tl.congr {g f : Nat → Option (ByteArray × Option Int)} {o : Option (List Int)} (e : ∀ k, g k = f k) (h : Tl f o) : Tl g o := by
 have : g = f := funext e
 rw [this]
 exact h
theorem Tl.err {g : Nat → Option (ByteArray × Option Int)} {z : ByteArray} {q : Int} (e : ∀ k, g k = some (z, some q)) : Tl g none := ⟨z, q, Ev.congr e (Ev.now _)⟩
theorem Tl.ok {g : Nat → Option (ByteArray × Option Int)} {z : ByteArray} {r : List Int} (hz : bytesOf z = r) (e : ∀ k, g k = some (z, none)) : Tl g (some r) := ⟨z, hz, Ev.congr e (Ev.now _)⟩
variable {s : ByteArray} (hs : s.size ≤ 2147483647)
include hs
theorem slow_eq : ∀ (l : List Int) (i : Nat), From s i l → ∃ t, Ev (fun k => fastjson_skipWSSlow.l0 k s i) t ∧ bytesOf t = skB l := by
 intro l
 induction l with
 | nil =>
  intro i h
  refine ⟨⟨#[]⟩, Ev_sh ?_, rfl⟩
  simp only [fastjson_skipWSSlow.l0]
  exact Ev.congr (fun _ => if_neg (by have := h.nil; omega)) (Ev.now _)
 | cons c r ih =>
  intro i h
  have hb := h.bt
  have hlt := h.lt
  by_cases hc : isB c = true
  ·obtain ⟨t, h1, h2⟩ := ih (i + 1) h.tail
   refine ⟨t, Ev_sh ?_, by rw [skB, if_pos hc]; exact h2⟩
   simp only [fastjson_skipWSSlow.l0, hb]
   refine Ev.congr (fun _ => if_pos (by omega)) (Ev.congr (fun _ => if_pos (by omega)) ?_)
   rw [w64 (by omega)]
   simp only [isB, decide_eq_true_eq] at hc
   refine Ev.congr (fun k => ?_) h1
   rcases hc with e | e | e | e <;> subst e <;> rfl
  refine ⟨s.extract i s.size, Ev_sh ?_, by rw [skB, if_neg hc]; exact h.cut⟩
  simp only [fastjson_skipWSSlow.l0, hb]
  refine Ev.congr (fun _ => if_pos (by omega)) (Ev.congr (fun _ => if_pos (by omega)) ?_)
  simp only [isB, decide_eq_true_eq, not_or] at hc
  refine Ev.congr (fun _ => if_neg hc.1) (Ev.congr (fun _ => if_neg hc.2.2.1) (Ev.congr (fun _ => if_neg hc.2.1) (Ev.congr (fun _ => if_neg hc.2.2.2) (Ev.congr (fun _ => if_pos (by omega)) ?_))))
  rw [Int.toNat_natCast]
  exact Ev.now _
theorem ws_eq : ∃ t, Ev (fun k => fastjson_skipWS.f k s) t ∧ bytesOf t = skB (bytesOf s) := by
 unfold fastjson_skipWS.f
 match hl : bytesOf s with
 | [] =>
  have hz := sz_of hl
  simp only [List.length_nil] at hz
  exact ⟨s, Ev.congr (fun _ => if_pos (by omega)) (Ev.now _), hl⟩
 | c :: r =>
  have hz := sz_of hl
  simp only [List.length_cons] at hz
  have hb := bt_of hl
  by_cases h32 : c > 32
  ·have hc : ¬ isB c = true := by simp only [isB, decide_eq_true_eq]; omega
   refine ⟨s, ?_, by rw [skB, if_neg hc]; exact hl⟩
   rw [hb]
   exact Ev.congr (fun _ => if_neg (by omega)) (Ev.congr (fun _ => if_pos (by omega)) (Ev.congr (fun _ => if_pos h32) (Ev.now _)))
  have go : ∃ t, Ev (fun k => fastjson_skipWSSlow.f k s) t ∧ bytesOf t = skB (c :: r) := by
   have h0 := From.start s
   rw [hl] at h0
   by_cases hc : isB c = true
   rotate_left
   ·refine ⟨s, ?_, by rw [skB, if_neg hc]; exact hl⟩
    unfold fastjson_skipWSSlow.f
    rw [hb]
    refine Ev.congr (fun _ => if_neg (by omega)) (Ev.congr (fun _ => if_pos (by omega)) ?_)
    simp only [isB, decide_eq_true_eq, not_or] at hc
    refine Ev.congr (fun _ => if_neg hc.1) (Ev.congr (fun _ => if_neg hc.2.2.1) (Ev.congr (fun _ => if_neg hc.2.1) ?_))
    rw [show (c != 13) = true by simpa using hc.2.2.2]
    refine Ev_sh ?_
    simp only [fastjson_skipWSSlow.j0]
    exact Ev.congr (fun _ => if_pos trivial) (Ev.now _)
   obtain ⟨t, h1, h2⟩ := slow_eq hs r 1 h0.tail
   refine ⟨t, ?_, by rw [skB, if_pos hc]; exact h2⟩
   unfold fastjson_skipWSSlow.f
   rw [hb]
   refine Ev.congr (fun _ => if_neg (by omega)) (Ev.congr (fun _ => if_pos (by omega)) ?_)
   have hj : Ev (fun k => fastjson_skipWSSlow.j0 k s false) t := by
    refine Ev_sh ?_
    simp only [fastjson_skipWSSlow.j0]
    exact Ev.congr (fun _ => if_neg zq47) h1
   simp only [isB, decide_eq_true_eq] at hc
   refine Ev.congr (fun k => ?_) hj
   rcases hc with e | e | e | e <;> subst e <;> rfl
  obtain ⟨t, h1, h2⟩ := go
  refine ⟨t, ?_, h2⟩
  rw [hb]
  exact Ev.congr (fun _ => if_neg (by omega)) (Ev.congr (fun _ => if_pos (by omega)) (Ev.congr (fun _ => if_neg h32) (Ev.bind h1 (Ev.now _))))
theorem l2_eq : ∀ (l : List Int) (i : Nat), From s i l → ∃ j : Nat, From s j (skD l) ∧ ∀ R, Tl (fun k => fastjson_validateNumber.j11 k s j) R → Tl (fun k => fastjson_validateNumber.l2 k s i) R := by
 intro l
 induction l with
 | nil =>
  intro i h
  refine ⟨i, h, fun R hR => Tl.sh ?_⟩
  simp only [fastjson_validateNumber.l2]
  exact Tl.congr (fun _ => if_neg (by have := h.nil; omega)) hR
 | cons c r ih =>
  intro i h
  have hb := h.bt
  have hlt := h.lt
  by_cases hc : isD c = true
  ·obtain ⟨j, h1, h2⟩ := ih (i + 1) h.tail
   refine ⟨j, by rw [skD, if_pos hc]; exact h1, fun R hR => Tl.sh ?_⟩
   simp only [fastjson_validateNumber.l2, hb]
   simp only [isD, decide_eq_true_eq] at hc
   rw [w64 (by omega)]
   exact Tl.congr (fun _ => if_pos (by omega)) (Tl.congr (fun _ => if_pos (by omega)) (Tl.congr (fun _ => if_neg (by omega)) (Tl.congr (fun _ => if_neg (by omega)) (h2 R hR))))
  refine ⟨i, by rw [skD, if_neg hc]; exact h, fun R hR => Tl.sh ?_⟩
  simp only [fastjson_validateNumber.l2, hb]
  simp only [isD, decide_eq_true_eq] at hc
  refine Tl.congr (fun _ => if_pos (by omega)) (Tl.congr (fun _ => if_pos (by omega)) ?_)
  by_cases h48 : c < 48
  ·exact Tl.congr (fun _ => if_pos h48) hR
  exact Tl.congr (fun _ => if_neg h48) (Tl.congr (fun _ => if_pos (by omega)) hR)
theorem l1_eq : ∀ (l : List Int) (i : Nat), From s i l → ∃ j : Nat, From s j (skD l) ∧ ∀ R, Tl (fun k => fastjson_validateNumber.j5 k s j) R → Tl (fun k => fastjson_validateNumber.l1 k s i) R := by
 intro l
 induction l with
 | nil =>
  intro i h
  refine ⟨i, h, fun R hR => Tl.sh ?_⟩
  simp only [fastjson_validateNumber.l1]
  exact Tl.congr (fun _ => if_neg (by have := h.nil; omega)) hR
 | cons c r ih =>
  intro i h
  have hb := h.bt
  have hlt := h.lt
  by_cases hc : isD c = true
  ·obtain ⟨j, h1, h2⟩ := ih (i + 1) h.tail
   refine ⟨j, by rw [skD, if_pos hc]; exact h1, fun R hR => Tl.sh ?_⟩
   simp only [fastjson_validateNumber.l1, hb]
   simp only [isD, decide_eq_true_eq] at hc
   rw [w64 (by omega)]
   exact Tl.congr (fun _ => if_pos (by omega)) (Tl.congr (fun _ => if_pos (by omega)) (Tl.congr (fun _ => if_neg (by omega)) (Tl.congr (fun _ => if_neg (by omega)) (h2 R hR))))
  refine ⟨i, by rw [skD, if_neg hc]; exact h, fun R hR => Tl.sh ?_⟩
  simp only [fastjson_validateNumber.l1, hb]
  simp only [isD, decide_eq_true_eq] at hc
  refine Tl.congr (fun _ => if_pos (by omega)) (Tl.congr (fun _ => if_pos (by omega)) ?_)
  by_cases h48 : c < 48
  ·exact Tl.congr (fun _ => if_pos h48) hR
  exact Tl.congr (fun _ => if_neg h48) (Tl.congr (fun _ => if_pos (by omega)) hR)
theorem l0_eq : ∀ (l : List Int) (i : Nat), From s i l → ∃ j : Nat, From s j (skD l) ∧ ∀ R, Tl (fun k => fastjson_validateNumber.j2 k s j) R → Tl (fun k => fastjson_validateNumber.l0 k s i) R := by
 intro l
 induction l with
 | nil =>
  intro i h
  refine ⟨i, h, fun R hR => Tl.sh ?_⟩
  simp only [fastjson_validateNumber.l0]
  exact Tl.congr (fun _ => if_neg (by have := h.nil; omega)) hR
 | cons c r ih =>
  intro i h
  have hb := h.bt
  have hlt := h.lt
  by_cases hc : isD c = true
  ·obtain ⟨j, h1, h2⟩ := ih (i + 1) h.tail
   refine ⟨j, by rw [skD, if_pos hc]; exact h1, fun R hR => Tl.sh ?_⟩
   simp only [fastjson_validateNumber.l0, hb]
   simp only [isD, decide_eq_true_eq] at hc
   rw [w64 (by omega)]
   exact Tl.congr (fun _ => if_pos (by omega)) (Tl.congr (fun _ => if_pos (by omega)) (Tl.congr (fun _ => if_neg (by omega)) (Tl.congr (fun _ => if_neg (by omega)) (h2 R hR))))
  refine ⟨i, by rw [skD, if_neg hc]; exact h, fun R hR => Tl.sh ?_⟩
  simp only [fastjson_validateNumber.l0, hb]
  simp only [isD, decide_eq_true_eq] at hc
  refine Tl.congr (fun _ => if_pos (by omega)) (Tl.congr (fun _ => if_pos (by omega)) ?_)
  by_cases h48 : c < 48
  ·exact Tl.congr (fun _ => if_pos h48) hR
  exact Tl.congr (fun _ => if_neg h48) (Tl.congr (fun _ => if_pos (by omega)) hR)
omit hs in
theorem skD_lt {l : List Int} {j n : Nat} (hn : l.length = n) (h : j + (skD l).length = n) : (j = 0 ↔ ∀ c r, l = c :: r → isD c = false) := by
 constructor
 ·intro e c r hl
  subst hl
  by_cases hc : isD c = true
  rotate_left
  ·simpa using hc
  rw [skD, if_pos hc] at h
  have := skD_len r
  simp only [List.length_cons] at hn
  omega
 ·intro e
  match l with
  | [] =>
   simp only [List.length_nil] at hn
   omega
  | c :: r =>
   have hc := e c r rfl
   rw [skD, if_neg (by rw [hc]; decide)] at h
   omega
theorem j9_eq {l : List Int} (hl : bytesOf s = l) : Tl (fun k => fastjson_validateNumber.j9 k s) (digL l) := by
 have h0 := From.start s
 rw [hl] at h0
 obtain ⟨j, h1, h2⟩ := l2_eq hs l 0 h0
 have hz := sz_of hl
 have hlen := h1.len
 have hj := skD_lt hz.symm hlen
 refine Tl.sh ?_
 simp only [fastjson_validateNumber.j9]
 refine h2 _ (Tl.sh ?_)
 simp only [fastjson_validateNumber.j11, errors_New.f, Option.bind_some]
 by_cases e : j = 0
 ·have hd : digL l = none := by
   have := hj.mp e
   match l with
   | [] => rfl
   | c :: r => rw [digL, if_neg (by rw [this c r rfl]; decide)]
  rw [hd]
  exact Tl.congr (fun _ => if_pos (by omega)) (Tl.err (fun _ => rfl))
 have hd : digL l = some (skD l) := by
  match l with
  | [] =>
   simp only [List.length_nil] at hz
   have := h1.1
   omega
  | c :: r =>
   by_cases hc : isD c = true
   ·rw [digL, if_pos hc, skD, if_pos hc]
   exact absurd (hj.mpr (fun c' r' e' => by cases e'; simpa using hc)) e
 rw [hd]
 refine Tl.congr (fun _ => if_neg (by omega)) ?_
 by_cases hg : (j : Int) ≥ (s.size : Int)
 ·refine Tl.congr (fun _ => if_pos hg) (Tl.ok (z := ⟨#[]⟩) ?_ (fun _ => rfl))
  have : skD l = [] := List.length_eq_zero_iff.mp (by omega)
  rw [this]
  rfl
 refine Tl.congr (fun _ => if_neg hg) (Tl.congr (fun _ => if_pos (by omega)) (Tl.congr (fun _ => if_pos (by omega)) ?_))
 rw [Int.toNat_natCast]
 exact Tl.ok h1.cut (fun _ => rfl)
theorem j8_true {d : Int} {t : List Int} (hl : bytesOf s = d :: t) : Tl (fun k => fastjson_validateNumber.j8 k s true) (digL t) := by
 have hz := sz_of hl
 simp only [List.length_cons] at hz
 have hc := cut1 hl
 have hz2 := sz_of hc
 refine Tl.sh ?_
 simp only [fastjson_validateNumber.j8, errors_New.f, Option.bind_some]
 refine Tl.congr (fun _ => if_pos trivial) (Tl.congr (fun _ => if_pos (by omega)) ?_)
 by_cases e : t.length = 0
 rotate_left
 ·exact Tl.congr (fun _ => if_neg (by omega)) (j9_eq (by omega) hc)
 obtain rfl := List.length_eq_zero_iff.mp e
 exact Tl.congr (fun _ => if_pos (by omega)) (Tl.err (fun _ => rfl))
theorem j8_false {l : List Int} (hl : bytesOf s = l) : Tl (fun k => fastjson_validateNumber.j8 k s false) (digL l) := by
 refine Tl.sh ?_
 simp only [fastjson_validateNumber.j8]
 exact Tl.congr (fun _ => if_neg zq47) (j9_eq hs hl)
theorem j6_eq {c : Int} {r : List Int} {i : Nat} (h : From s i (c :: r)) : Tl (fun k => fastjson_validateNumber.j6 k s i) (expL (c :: r)) := by
 have hb := h.bt
 have hlt := h.lt
 have hlen := h.len
 simp only [List.length_cons] at hlen
 have hE : c = 101 ∨ c = 69 → Tl (fun k => fastjson_validateNumber.j7 k s i true) (expL (c :: r)) := fun e => by
  have hcut := h.tail.cut
  have hz := sz_of hcut
  refine Tl.sh ?_
  simp only [fastjson_validateNumber.j7, errors_New.f, Option.bind_some]
  rw [w64 (by omega), show ((i : Int) + 1).toNat = i + 1 by omega]
  refine Tl.congr (fun _ => if_pos trivial) (Tl.congr (fun _ => if_pos (by omega)) (Tl.congr (fun _ => if_pos (by omega)) ?_))
  match r, hcut, hz with
  | [], hcut, hz =>
   have : expL [c] = none := by
    unfold expL
    exact if_pos e
   rw [this]
   simp only [List.length_nil] at hz
   exact Tl.congr (fun _ => if_pos (by omega)) (Tl.err (fun _ => rfl))
  | d :: t, hcut, hz =>
   simp only [List.length_cons] at hz hlen
   have hd := bt_of hcut
   have hx : expL (c :: d :: t) = if d = 43 ∨ d = 45 then digL t else digL (d :: t) := by
    simp only [expL, if_pos e]
   rw [hx, hd]
   refine Tl.congr (fun _ => if_neg (by omega)) (Tl.congr (fun _ => if_pos (by omega)) ?_)
   by_cases h45 : d = 45
   ·rw [if_pos (Or.inr h45)]
    exact Tl.congr (fun _ => if_pos h45) (j8_true (by omega) hcut)
   refine Tl.congr (fun _ => if_neg h45) ?_
   by_cases h43 : d = 43
   rotate_left
   ·rw [if_neg (by omega), show (d == 43) = false by simpa using h43]
    exact j8_false (by omega) hcut
   rw [if_pos (Or.inl h43), show (d == 43) = true by simpa using h43]
   exact j8_true (by omega) hcut
 refine Tl.sh ?_
 simp only [fastjson_validateNumber.j6, hb]
 refine Tl.congr (fun _ => if_pos (by omega)) (Tl.congr (fun _ => if_pos (by omega)) ?_)
 by_cases h1 : c = 101
 ·exact Tl.congr (fun _ => if_pos h1) (hE (Or.inl h1))
 refine Tl.congr (fun _ => if_neg h1) ?_
 by_cases h2 : c = 69
 ·rw [show (c == 69) = true by simpa using h2]
  exact hE (Or.inr h2)
 rw [show (c == 69) = false by simpa using h2]
 have hx : expL (c :: r) = some (c :: r) := by
  unfold expL
  exact if_neg (by omega)
 rw [hx]
 refine Tl.sh ?_
 simp only [fastjson_validateNumber.j7]
 refine Tl.congr (fun _ => if_neg zq47) (Tl.congr (fun _ => if_pos (by omega)) (Tl.congr (fun _ => if_pos (by omega)) ?_))
 rw [Int.toNat_natCast]
 exact Tl.ok h.cut (fun _ => rfl)
theorem l1_frac {l : List Int} (hl : bytesOf s = l) : Tl (fun k => fastjson_validateNumber.l1 k s 0) ((digL l).bind expL) := by
 have h0 := From.start s
 rw [hl] at h0
 obtain ⟨j, h1, h2⟩ := l1_eq hs l 0 h0
 have hz := sz_of hl
 have hlen := h1.len
 have hj := skD_lt hz.symm hlen
 refine h2 _ (Tl.sh ?_)
 simp only [fastjson_validateNumber.j5, errors_New.f, Option.bind_some]
 by_cases e : j = 0
 ·have hd : digL l = none := by
   have := hj.mp e
   match l with
   | [] => rfl
   | c :: r => rw [digL, if_neg (by rw [this c r rfl]; decide)]
  rw [hd]
  exact Tl.congr (fun _ => if_pos (by omega)) (Tl.err (fun _ => rfl))
 have hd : digL l = some (skD l) := by
  match l with
  | [] =>
   simp only [List.length_nil] at hz
   have := h1.1
   omega
  | c :: r =>
   by_cases hc : isD c = true
   ·rw [digL, if_pos hc, skD, if_pos hc]
   exact absurd (hj.mpr (fun c' r' e' => by cases e'; simpa using hc)) e
 rw [hd, Option.bind_some]
 refine Tl.congr (fun _ => if_neg (by omega)) ?_
 match hk : skD l, h1 with
 | [], h1 =>
  rw [hk] at hlen
  simp only [List.length_nil] at hlen
  exact Tl.congr (fun _ => if_pos (by omega)) (Tl.ok (z := ⟨#[]⟩) rfl (fun _ => rfl))
 | c :: r, h1 =>
  have := h1.lt
  exact Tl.congr (fun _ => if_neg (by omega)) (j6_eq hs h1)
def zeroD : List Int → Bool
  | c :: d :: _ => c = 48 && isD d
  | _ => false
def intV (l : List Int) : Option (List Int) := if zeroD l = true then none else intL l
theorem j3_eq {l : List Int} {j : Nat} (h : From s j l) (hj : 0 < j) : Tl (fun k => fastjson_validateNumber.j3 k s j false) (fracL l) := by
 have hlen := h.len
 refine Tl.sh ?_
 simp only [fastjson_validateNumber.j3, errors_New.f, Option.bind_some]
 refine Tl.congr (fun _ => if_neg zq47) ?_
 match l, h with
 | [], h =>
  simp only [List.length_nil] at hlen
  exact Tl.congr (fun _ => if_pos (by omega)) (Tl.ok (z := ⟨#[]⟩) rfl (fun _ => rfl))
 | c :: r, h =>
  simp only [List.length_cons] at hlen
  have hb := h.bt
  rw [hb]
  refine Tl.congr (fun _ => if_neg (by omega)) (Tl.congr (fun _ => if_pos (by omega)) (Tl.congr (fun _ => if_pos (by omega)) ?_))
  by_cases h46 : c = 46
  rotate_left
  ·rw [fracL, if_neg h46]
   exact Tl.congr (fun _ => if_neg h46) (j6_eq hs h)
  rw [fracL, if_pos h46, w64 (by omega), show ((j : Int) + 1).toNat = j + 1 by omega]
  have hcut := h.tail.cut
  have hz := sz_of hcut
  refine Tl.congr (fun _ => if_pos h46) (Tl.congr (fun _ => if_pos (by omega)) (Tl.congr (fun _ => if_pos (by omega)) ?_))
  by_cases e : r.length = 0
  rotate_left
  ·exact Tl.congr (fun _ => if_neg (by omega)) (l1_frac (by omega) hcut)
  obtain rfl := List.length_eq_zero_iff.mp e
  exact Tl.congr (fun _ => if_pos (by omega)) (Tl.err (fun _ => rfl))
theorem j0_eq {l : List Int} (hl : bytesOf s = l) : Tl (fun k => fastjson_validateNumber.j0 k s) (intV l) := by
 have h0 := From.start s
 rw [hl] at h0
 obtain ⟨j, h1, h2⟩ := l0_eq hs l 0 h0
 have hz := sz_of hl
 have hlen := h1.len
 have hj := skD_lt hz.symm hlen
 refine Tl.sh ?_
 simp only [fastjson_validateNumber.j0]
 refine h2 _ (Tl.sh ?_)
 simp only [fastjson_validateNumber.j2, errors_New.f, Option.bind_some]
 by_cases e : j = 0
 ·have hd : intV l = none := by
   have := hj.mp e
   match l with
   | [] => rfl
   | c :: r =>
    have hc := this c r rfl
    have h48 : c ≠ 48 := fun e => by subst e; revert hc; decide
    unfold intV
    split
    ·rfl
    ·rw [intL, if_neg h48, if_neg (by rw [hc]; decide)]
  rw [hd]
  exact Tl.congr (fun _ => if_pos (by omega)) (Tl.err (fun _ => rfl))
 refine Tl.congr (fun _ => if_neg (by omega)) ?_
 match l with
 | [] =>
  simp only [List.length_nil] at hz
  have := h1.1
  omega
 | c :: r =>
  have hc : isD c = true := by
   by_cases hc : isD c = true
   ·exact hc
   exact absurd (hj.mpr (fun c' r' e' => by cases e'; simpa using hc)) e
  have hb := bt_of hl
  have h1' := h1
  rw [skD, if_pos hc] at h1' hlen
  simp only [List.length_cons] at hz
  rw [hb]
  refine Tl.congr (fun _ => if_pos (by omega)) ?_
  by_cases h48 : c = 48
  rotate_left
  ·have hz2 : ¬ zeroD (c :: r) = true := by
    cases r <;> simp [zeroD, h48]
   rw [intV, if_neg hz2, intL, if_neg h48, if_pos hc]
   exact Tl.congr (fun _ => if_neg h48) (j3_eq hs h1' (by omega))
  refine Tl.congr (fun _ => if_pos h48) ?_
  by_cases hz2 : zeroD (c :: r) = true
  rotate_left
  ·have hr : skD r = r := by
    match r with
    | [] => rfl
    | d :: t =>
     simp only [zeroD, h48, decide_true, Bool.true_and] at hz2
     rw [skD, if_neg hz2]
   rw [hr] at h1' hlen
   rw [intV, if_neg hz2, intL, if_pos h48, show ((j : Int) != 1) = false by simpa using (show (j : Int) = 1 by omega)]
   exact j3_eq hs h1' (by omega)
  have hj2 : j ≠ 1 := by
   match r with
   | [] => simp [zeroD] at hz2
   | d :: t =>
    simp only [zeroD, Bool.and_eq_true] at hz2
    rw [skD, if_pos hz2.2] at hlen
    have := skD_len t
    simp only [List.length_cons] at hz
    omega
  rw [intV, if_pos hz2, show ((j : Int) != 1) = true by simpa using (show (j : Int) ≠ 1 by omega)]
  refine Tl.sh ?_
  simp only [fastjson_validateNumber.j3, errors_New.f, Option.bind_some]
  exact Tl.congr (fun _ => if_pos trivial) (Tl.err (fun _ => rfl))
def numV : List Int → Option (List Int)
  | [] => none
  | c :: r => if c = 45 then intV r else intV (c :: r)
theorem num_eq {l : List Int} (hl : bytesOf s = l) : Tl (fun k => fastjson_validateNumber.f k s) (numV l) := by
 have hz := sz_of hl
 unfold fastjson_validateNumber.f
 simp only [errors_New.f, Option.bind_some]
 match l with
 | [] =>
  simp only [List.length_nil] at hz
  exact Tl.congr (fun _ => if_pos (by omega)) (Tl.err (fun _ => rfl))
 | c :: r =>
  simp only [List.length_cons] at hz
  have hb := bt_of hl
  have hcut := cut1 hl
  have hz2 := sz_of hcut
  rw [hb]
  refine Tl.congr (fun _ => if_neg (by omega)) (Tl.congr (fun _ => if_pos (by omega)) ?_)
  by_cases h45 : c = 45
  rotate_left
  ·rw [numV, if_neg h45]
   exact Tl.congr (fun _ => if_neg h45) (j0_eq hs hl)
  rw [numV, if_pos h45]
  refine Tl.congr (fun _ => if_pos h45) (Tl.congr (fun _ => if_pos (by omega)) ?_)
  by_cases e : r.length = 0
  rotate_left
  ·exact Tl.congr (fun _ => if_neg (by omega)) (j0_eq (by omega) hcut)
  obtain rfl := List.length_eq_zero_iff.mp e
  exact Tl.congr (fun _ => if_pos (by omega)) (Tl.err (fun _ => rfl))
end Go.Proofs.YtlokkefnbffjnaaDoor.J
end
section
namespace Go.Proofs.YtlokkefnbffjnaaDoor.J
open Go.RowKit Go.Proofs.YtlokkefnbffjnaaDoorW.PrintWords Go.Proofs.YtlokkefnbffjnaaDoorW.PrintLast
set_option linter.unusedVariables false
def rawL : List Int → Option (List Int × List Int)
  | [] => none
  | [c] => if c = 34 then some ([], []) else none
  | c :: d :: t => if c = 34 then some ([], d :: t) else if c = 92 then (rawL t).map fun x => (92 :: d :: x.1, x.2) else (rawL (d :: t)).map fun x => (c :: x.1, x.2)
theorem rawL_end (r : List Int) : rawL (34 :: r) = some ([], r) := by
 cases r <;> simp [rawL]
theorem rawL_esc (d : Int) (t : List Int) : rawL (92 :: d :: t) = (rawL t).map fun x => (92 :: d :: x.1, x.2) := by
 simp [rawL]
theorem rawL_esc1 : rawL [92] = none := by simp [rawL]
theorem rawL_raw {c : Int} (r : List Int) (h1 : c ≠ 34) (h2 : c ≠ 92) : rawL (c :: r) = (rawL r).map fun x => (c :: x.1, x.2) := by
 cases r <;> simp [rawL, h1, h2]
theorem rawL_eq : ∀ (n : Nat) (l raw tail : List Int), l.length ≤ n → rawL l = some (raw, tail) → l = raw ++ 34 :: tail := by
 intro n
 induction n with
 | zero =>
  intro l raw tail hn h
  have : l = [] := List.length_eq_zero_iff.mp (by omega)
  subst this
  simp [rawL] at h
 | succ n ih =>
  intro l raw tail hn h
  match l with
  | [] => simp [rawL] at h
  | c :: r =>
   by_cases h1 : c = 34
   ·subst h1
    rw [rawL_end] at h
    cases h
    rfl
   by_cases h2 : c = 92
   rotate_left
   ·rw [rawL_raw r h1 h2, Option.map_eq_some_iff] at h
    obtain ⟨⟨x, y⟩, hx, he⟩ := h
    cases he
    rw [ih r x y (by simp only [List.length_cons] at hn; omega) hx]
    rfl
   subst h2
   match r with
   | [] => rw [rawL_esc1] at h; cases h
   | d :: t =>
    rw [rawL_esc, Option.map_eq_some_iff] at h
    obtain ⟨⟨x, y⟩, hx, he⟩ := h
    cases he
    rw [ih t x y (by simp only [List.length_cons] at hn; omega) hx]
    rfl
def lowS (low : Bool) (l : List Int) : Option Bool :=
  match l with
  | [] => some low
  | c :: r => if c = 92 then (match _h : escL r with
    | none => none
    | some t => lowS false t) else lowS (low || decide (c < 32)) r
termination_by l.length
decreasing_by
  · have := escL_len ‹_›
    simp; omega
  · simp
theorem lowS_nil (low : Bool) : lowS low [] = some low := by rw [lowS]
theorem lowS_esc (low : Bool) (r : List Int) : lowS low (92 :: r) = (escL r).bind (lowS false) := by
 rw [lowS, if_pos rfl]
 split
 ·rename_i h
  rw [h]; rfl
 ·rename_i t h
  rw [h]; rfl
theorem lowS_raw (low : Bool) {c : Int} (r : List Int) (h : c ≠ 92) : lowS low (c :: r) = lowS (low || decide (c < 32)) r := by
 rw [lowS, if_neg h]
def stdy : Bool → List Int → Bool
  | _, [] => true
  | low, c :: r => if c = 34 then stdy false r else if c = 92 ∧ low = true then false else if c < 32 then stdy true r else stdy low r
theorem stdy_more {low : Bool} {c : Int} {r : List Int} (h : stdy low (c :: r) = true) (hc : 32 ≤ c) (h34 : c ≠ 34) : stdy low r = true := by
 rw [stdy, if_neg h34] at h
 split at h
 ·cases h
 ·rwa [if_neg (by omega)] at h
theorem stdy_false : ∀ (l : List Int) (low : Bool), stdy low l = true → stdy false l = true := by
 intro l
 induction l with
 | nil => intro low h; rfl
 | cons c r ih =>
  intro low h
  cases low with
  | false => exact h
  | true =>
   rw [stdy] at h ⊢
   by_cases h1 : c = 34
   ·rw [if_pos h1] at h ⊢
    exact h
   rw [if_neg h1] at h ⊢
   by_cases h2 : c = 92
   ·rw [if_pos ⟨h2, rfl⟩] at h
    cases h
   rw [if_neg (fun e => h2 e.1)] at h ⊢
   by_cases h3 : c < 32
   ·rw [if_pos h3] at h ⊢
    exact h
   rw [if_neg h3] at h ⊢
   exact ih true h
theorem stdy_app : ∀ (a l : List Int) (low : Bool), stdy low (a ++ l) = true → stdy false l = true := by
 intro a
 induction a with
 | nil => intro l low h; exact stdy_false l low h
 | cons c r ih =>
  intro l low h
  rw [List.cons_append, stdy] at h
  split at h
  ·exact ih l _ h
  ·split at h
   ·cases h
   ·split at h
    ·exact ih l _ h
    ·exact ih l _ h
def fjS (low : Bool) (l : List Int) : Option (List Int) :=
  match rawL l with
  | none => none
  | some (raw, tail) => (match lowS low raw with
    | some false => some tail
    | _ => none)
theorem hexv_ge {c v : Int} (h : hexv c = some v) : 48 ≤ c ∧ c ≠ 92 := by
 unfold hexv at h
 split at h
 ·omega
 split at h
 ·omega
 split at h
 ·omega
 ·cases h
theorem hex4_app {a l : List Int} {v : Int} (h : hex4 a = some v) : hex4 (a ++ l) = some v := by
 unfold hex4 at h
 split at h
 ·exact h
 ·cases h
theorem steady_str : ∀ (n : Nat) (l : List Int) (low : Bool), l.length ≤ n → stdy low l = true → fjS low l = if low = true then none else strL l := by
 intro n
 induction n with
 | zero =>
  intro l low hn h
  have : l = [] := List.length_eq_zero_iff.mp (by omega)
  subst this
  rw [strL_nil]
  cases low <;> rfl
 | succ n ih =>
  intro l low hn h
  match l with
  | [] =>
   rw [strL_nil]
   cases low <;> rfl
  | c :: r =>
   simp only [List.length_cons] at hn
   by_cases h1 : c = 34
   ·subst h1
    rw [strL_end]
    unfold fjS
    rw [rawL_end]
    simp only [lowS_nil]
    cases low <;> rfl
   by_cases h2 : c = 92
   rotate_left
   ·have hfs : fjS low (c :: r) = fjS (low || decide (c < 32)) r := by
     unfold fjS
     rw [rawL_raw r h1 h2]
     cases rawL r with
     | none => rfl
     | some x => simp only [Option.map_some, lowS_raw low _ h2]
    rw [hfs]
    by_cases h3 : c < 32
    rotate_left
    ·have hs : stdy low r = true := stdy_more h (by omega) h1
     rw [decide_eq_false h3, Bool.or_false, ih r low (by omega) hs, strL_raw r ⟨h1, h3, h2⟩]
    have hs : stdy true r = true := by
     rw [stdy, if_neg h1, if_neg (fun e => h2 e.1), if_pos h3] at h
     exact h
    rw [decide_eq_true h3, Bool.or_true, ih r true (by omega) hs, strL_low r h3]
    cases low <;> rfl
   subst h2
   have hlow : low = false := by
    cases low with
    | false => rfl
    | true =>
     rw [stdy, if_neg zq47, if_pos ⟨rfl, rfl⟩] at h
     cases h
   subst hlow
   have h' := stdy_more h zq47 zq47
   rw [strL_esc]
   simp only [Bool.false_eq_true, if_false]
   match r with
   | [] =>
    unfold fjS
    rw [rawL_esc1]
    rfl
   | d :: t =>
    simp only [List.length_cons] at hn
    have hfs : fjS false (92 :: d :: t) = (match rawL t with
     | none => none
     | some (raw, tail) => (match (escL (d :: raw)).bind (lowS false) with
      | some false => some tail
      | _ => none)) := by
     unfold fjS
     rw [rawL_esc]
     cases rawL t with
     | none => rfl
     | some x => simp only [Option.map_some, lowS_esc]
    rw [hfs]
    by_cases h3 : isE d = true
    ·have ht : stdy false t = true := stdy_app [d] t false h'
     have e1 : ∀ raw, escL (d :: raw) = some raw := fun raw => by rw [escL, if_pos h3]
     have := ih t false (by omega) ht
     rw [e1]
     simp only [e1, Option.bind_some]
     unfold fjS at this
     simp only [Bool.false_eq_true, if_false] at this
     exact this
    by_cases h4 : d = 117
    rotate_left
    ·have e1 : ∀ raw, escL (d :: raw) = none := fun raw => by rw [escL, if_neg h3, if_neg h4]
     simp only [e1, Option.bind_none]
     cases rawL t <;> rfl
    subst h4
    have e1 : ∀ raw, escL (117 :: raw) = (hex4 raw).bind fun _ => some (raw.drop 4) := fun raw => by rw [escL, if_neg h3, if_pos rfl]
    simp only [e1]
    have ht : stdy false t = true := stdy_more h' zq47 zq47
    cases hx : hex4 t with
    | none =>
     simp only [Option.bind_none]
     cases hr : rawL t with
     | none => rfl
     | some x =>
      obtain ⟨raw, tail⟩ := x
      have he := rawL_eq _ _ _ _ (Nat.le_refl _) hr
      cases hy : hex4 raw with
      | none => simp only [hy, Option.bind_none]
      | some v =>
       rw [he, hex4_app hy] at hx
       cases hx
    | some v =>
     have hx' := hx
     unfold hex4 at hx'
     split at hx'
     ·rename_i a b c' e u
      obtain ⟨x1, g1, hx'⟩ := Option.bind_eq_some_iff.mp hx'
      obtain ⟨x2, g2, hx'⟩ := Option.bind_eq_some_iff.mp hx'
      obtain ⟨x3, g3, hx'⟩ := Option.bind_eq_some_iff.mp hx'
      obtain ⟨x4, g4, hx'⟩ := Option.bind_eq_some_iff.mp hx'
      have k1 := hexv_ge g1
      have k2 := hexv_ge g2
      have k3 := hexv_ge g3
      have k4 := hexv_ge g4
      have hu : stdy false u = true := stdy_app [a, b, c', e] u false ht
      simp only [List.length_cons] at hn
      have hI := ih u false (by omega) hu
      rw [rawL_raw _ (by omega) k1.2, rawL_raw _ (by omega) k2.2, rawL_raw _ (by omega) k3.2, rawL_raw _ (by omega) k4.2]
      simp only [Option.bind_some, List.drop_succ_cons, List.drop_zero]
      unfold fjS at hI
      simp only [Bool.false_eq_true, if_false] at hI
      rw [← hI]
      cases rawL u with
      | none => rfl
      | some x =>
       have e2 : ∀ z : List Int, hex4 (a :: b :: c' :: e :: z) = some v := fun z => by
        rw [← hx]
        rfl
       simp only [Option.map_some, e2, Option.bind_some, List.drop_succ_cons, List.drop_zero]
     ·cases hx'
def par : List Int → Bool
  | [] => true
  | [c] => c ≠ 92
  | c :: d :: t => if c = 92 then par t else par (d :: t)
theorem par_raw {c : Int} (t : List Int) (h : c ≠ 92) : par (c :: t) = par t := by
 cases t <;> simp [par, h]
theorem par_esc (d : Int) (t : List Int) : par (92 :: d :: t) = par t := by simp [par]
theorem rawL_split (r : List Int) : ∀ (n : Nat) (p : List Int), p.length ≤ n → 34 ∉ p → rawL (p ++ 34 :: r) = if par p = true then some (p, r) else (rawL r).map fun x => (p ++ 34 :: x.1, x.2) := by
 intro n
 induction n with
 | zero =>
  intro p hn h
  have : p = [] := List.length_eq_zero_iff.mp (by omega)
  subst this
  rw [List.nil_append, rawL_end]
  rfl
 | succ n ih =>
  intro p hn h
  match p with
  | [] =>
   rw [List.nil_append, rawL_end]
   rfl
  | [c] =>
   simp only [List.mem_singleton] at h
   by_cases h2 : c = 92
   ·subst h2
    simp only [List.cons_append, List.nil_append, rawL_esc]
    rfl
   rw [List.cons_append, rawL_raw _ (fun e => h e.symm) h2, List.nil_append, rawL_end]
   simp [par, h2]
  | c :: d :: t =>
   simp only [List.mem_cons, not_or] at h
   simp only [List.length_cons] at hn
   by_cases h2 : c = 92
   ·subst h2
    simp only [List.cons_append, rawL_esc, par_esc]
    rw [ih t (by omega) h.2.2]
    split
    ·rfl
    ·cases rawL r <;> rfl
   rw [List.cons_append, rawL_raw _ (fun e => h.1 e.symm) h2, par_raw _ h2, ih (d :: t) zq65 (by simp only [List.mem_cons, not_or]; exact h.2)]
   split
   ·rfl
   ·cases rawL r <;> rfl
theorem rawL_noq : ∀ (n : Nat) (l : List Int), l.length ≤ n → 34 ∉ l → rawL l = none := by
 intro n
 induction n with
 | zero =>
  intro l hn h
  have : l = [] := List.length_eq_zero_iff.mp (by omega)
  subst this
  rfl
 | succ n ih =>
  intro l hn h
  match l with
  | [] => rfl
  | [c] =>
   simp only [List.mem_singleton] at h
   simp [rawL, Ne.symm h]
  | c :: d :: t =>
   simp only [List.mem_cons, not_or] at h
   simp only [List.length_cons] at hn
   by_cases h2 : c = 92
   ·subst h2
    rw [rawL_esc, ih t (by omega) h.2.2]
    rfl
   rw [rawL_raw _ (fun e => h.1 e.symm) h2, ih (d :: t) zq65 (by simp only [List.mem_cons, not_or]; exact h.2)]
   rfl
theorem par_app : ∀ (n : Nat) (q t : List Int), q.length ≤ n → (∀ x, q.getLast? = some x → x ≠ 92) → par (q ++ t) = par t := by
 intro n
 induction n with
 | zero =>
  intro q t hn h
  have : q = [] := List.length_eq_zero_iff.mp (by omega)
  subst this
  rfl
 | succ n ih =>
  intro q t hn h
  match q with
  | [] => rfl
  | [c] =>
   have h2 := h c rfl
   rw [List.cons_append, par_raw _ h2, List.nil_append]
  | c :: d :: u =>
   simp only [List.length_cons] at hn
   by_cases h2 : c = 92
   rotate_left
   ·rw [List.cons_append, par_raw _ h2]
    refine ih (d :: u) t zq65 fun x hx => h x ?_
    rw [List.getLast?_cons_cons]
    exact hx
   subst h2
   rw [List.cons_append, List.cons_append, par_esc]
   refine ih u t (by omega) fun x hx => ?_
   refine h x ?_
   rw [List.getLast?_cons_cons]
   cases u with
   | nil => cases hx
   | cons e u => rw [List.getLast?_cons_cons]; exact hx
theorem par_rep : ∀ (n k : Nat), k ≤ n → par (List.replicate k 92) = decide (k % 2 = 0) := by
 intro n
 induction n with
 | zero =>
  intro k hk
  obtain rfl : k = 0 := by omega
  rfl
 | succ n ih =>
  intro k hk
  match k with
  | 0 => rfl
  | 1 => rfl
  | k + 2 =>
   rw [List.replicate_succ, List.replicate_succ, par_esc, ih k (by omega)]
   simp
theorem par_no {l : List Int} (h : 92 ∉ l) : par l = true := by
 induction l with
 | nil => rfl
 | cons c t ih =>
  simp only [List.mem_cons, not_or] at h
  rw [par_raw _ (fun e => h.1 e.symm), ih h.2]
def anyLow (l : List Int) : Bool := l.any fun c => decide (c < 32)
theorem lowS_no {l : List Int} (low : Bool) (h : 92 ∉ l) : lowS low l = some (low || anyLow l) := by
 induction l generalizing low with
 | nil => rw [lowS_nil]; simp [anyLow]
 | cons c t ih =>
  simp only [List.mem_cons, not_or] at h
  rw [lowS_raw _ _ (fun e => h.1 e.symm), ih _ h.2]
  simp [anyLow, Bool.or_assoc]
theorem lowS_first (low : Bool) {u : List Int} (t : List Int) (h : 92 ∉ u) : lowS low (u ++ 92 :: t) = (escL t).bind (lowS false) := by
 induction u generalizing low with
 | nil => rw [List.nil_append, lowS_esc]
 | cons c u ih =>
  simp only [List.mem_cons, not_or] at h
  rw [List.cons_append, lowS_raw _ _ (fun e => h.1 e.symm), ih _ h.2]
end Go.Proofs.YtlokkefnbffjnaaDoor.J
end
section
namespace Go.Proofs.YtlokkefnbffjnaaDoor.J
open Go.RowKit Go.Proofs.YtlokkefnbffjnaaDoor.J Go.Proofs.YtlokkefnbffjnaaDoorW.PrintWords Go.Proofs.YtlokkefnbffjnaaDoorW.PrintLast
set_option linter.unusedVariables false
theorem ib : ∀ (l : List UInt8) (b : UInt8), (∃ p r, l = p ++ b :: r ∧ b ∉ p ∧ Lib.indexByte l b = (p.length : Int)) ∨ (b ∉ l ∧ Lib.indexByte l b = -1)
 | [], b => Or.inr ⟨by simp, rfl⟩
 | a :: l, b => by
  by_cases e : a = b
  ·subst e
   exact Or.inl ⟨[], l, rfl, by simp, by simp [Lib.indexByte]⟩
  rcases ib l b with ⟨p, r, h1, h2, h3⟩ | ⟨h1, h2⟩
  ·refine Or.inl ⟨a :: p, r, by rw [h1]; rfl, by simp [h2, Ne.symm e], ?_⟩
   rw [Lib.indexByte, if_neg (by simpa using e), h3, if_neg (by simp only [beq_iff_eq]; omega), List.length_cons]
   omega
  ·refine Or.inr ⟨by simp [h1, Ne.symm e], ?_⟩
   rw [Lib.indexByte, if_neg (by simpa using e), h2]
   rfl
theorem idx (s : ByteArray) (c : Int) (hc : 0 ≤ c ∧ c ≤ 255) : (∃ p r, bytesOf s = p ++ c :: r ∧ c ∉ p ∧ strings_IndexByte.f s c = some (p.length : Int)) ∨ (c ∉ bytesOf s ∧ strings_IndexByte.f s c = some (-1)) := by
 have hn : ((c.toNat.toUInt8).toNat : Int) = c := by
  have : c.toNat.toUInt8.toNat = c.toNat := by
   simp only [Nat.toUInt8, UInt8.toNat_ofNat']
   omega
  omega
 have hmem : ∀ l : List UInt8, c.toNat.toUInt8 ∉ l → c ∉ l.map fun b => (b.toNat : Int) := fun l h hm => by
  obtain ⟨b, hb, e⟩ := List.mem_map.mp hm
  apply h
  have : b = c.toNat.toUInt8 := by
   apply UInt8.toNat_inj.mp
   omega
  rw [← this]
  exact hb
 rcases ib s.data.toList c.toNat.toUInt8 with ⟨p, r, h1, h2, h3⟩ | ⟨h1, h2⟩
 ·refine Or.inl ⟨p.map fun b => (b.toNat : Int), r.map fun b => (b.toNat : Int), ?_, hmem p h2, ?_⟩
  ·rw [bytesOf, h1, List.map_append, List.map_cons, hn]
  ·rw [strings_IndexByte.f, h3, List.length_map]
 ·exact Or.inr ⟨hmem _ h1, by rw [strings_IndexByte.f, h2]⟩
def RT (g : Nat → Option (ByteArray × ByteArray × Option Int)) (o : Option (List Int × List Int)) : Prop :=
  match o with
  | some x => ∃ z y, bytesOf z = x.1 ∧ bytesOf y = x.2 ∧ Ev g (z, y, none)
  | none => ∃ z y q, Ev g (z, y, some q)
theorem RT.sh {g : Nat → Option (ByteArray × ByteArray × Option Int)} {o : Option (List Int × List Int)} (h : RT (fun k => g (k + 1)) o) : RT g o := by
 cases o with
 | none => obtain ⟨z, y, q, hz⟩ := h; exact ⟨z, y, q, Ev_sh hz⟩
 | some x => obtain ⟨z, y, h1, h2, hz⟩ := h; exact ⟨z, y, h1, h2, Ev_sh hz⟩
theorem RT.congr {g f : Nat → Option (ByteArray × ByteArray × Option Int)} {o : Option (List Int × List Int)} (e : ∀ k, g k = f k) (h : RT f o) : RT g o := by
 have : g = f := funext e
 rw [this]
 exact h
theorem RT.err {g : Nat → Option (ByteArray × ByteArray × Option Int)} {z y : ByteArray} {q : Int} (e : ∀ k, g k = some (z, y, some q)) : RT g none := ⟨z, y, q, Ev.congr e (Ev.now _)⟩
theorem RT.ok {g : Nat → Option (ByteArray × ByteArray × Option Int)} {z y : ByteArray} {a b : List Int} (hz : bytesOf z = a) (hy : bytesOf y = b) (e : ∀ k, g k = some (z, y, none)) : RT g (some (a, b)) := ⟨z, y, hz, hy, Ev.congr e (Ev.now _)⟩
theorem take_of {s : ByteArray} {a b : List Int} {n : Nat} (h : bytesOf s = a ++ b) (hn : n = a.length) : bytesOf (s.extract 0 n) = a := by
 rw [bytesOf_extract, h, hn, List.take_left, List.drop_zero]
theorem rest_of {s : ByteArray} {a b : List Int} {n : Nat} (h : bytesOf s = a ++ b) (hn : n = a.length) : bytesOf (s.extract n s.size) = b := by
 rw [cut_of h n _ (Nat.le_refl _), hn, List.drop_left]
theorem bt_mid {s : ByteArray} {p r : List Int} {c : Int} (h : bytesOf s = p ++ c :: r) : bt s (p.length : Int) = c := by
 have h0 := From.start s
 rw [h] at h0
 have := h0.app.bt
 simpa using this
theorem last_or (p : List Int) (h : p ≠ []) : ∃ q c, p = q ++ [c] := ⟨p.dropLast, p.getLast h, (by rw [List.dropLast_concat_getLast])⟩
theorem back_eq {s w : ByteArray} (hs : s.size ≤ 2147483647) {n : Int} {r : List Int} : ∀ (q : List Int) (m : Nat), bytesOf s = q ++ List.replicate m 92 ++ r →
 ∃ q' m', q ++ List.replicate m (92 : Int) = q' ++ List.replicate m' 92 ∧ (∀ x, q'.getLast? = some x → x ≠ 92) ∧
  ∀ R, RT (fun k => fastjson_parseRawString.j3 k s n w (q'.length : Int)) R → RT (fun k => fastjson_parseRawString.l1 k s n w (q.length : Int)) R := by
 intro q
 induction hq : q.length generalizing q with
 | zero =>
  intro m h
  have : q = [] := List.length_eq_zero_iff.mp hq
  subst this
  refine ⟨[], m, rfl, by simp, fun R hR => RT.sh ?_⟩
  simp only [fastjson_parseRawString.l1]
  exact RT.congr (fun _ => if_neg (by simp)) hR
 | succ d ih =>
  intro m h
  obtain ⟨u, c, rfl⟩ := last_or q (by intro e; subst e; simp at hq)
  simp only [List.length_append, List.length_cons, List.length_nil] at hq
  have hsz := sz_of h
  simp only [List.length_append, List.length_cons, List.length_nil] at hsz
  have hb : bt s (u.length : Int) = c := bt_mid (p := u) (r := List.replicate m 92 ++ r) (by rw [h]; simp)
  have hw : wrap64 (((d + 1 : Nat) : Int) - 1) = (u.length : Int) := by rw [w64 (by omega)]; omega
  by_cases hc : c = 92
  ·subst hc
   obtain ⟨q', m', h1, h2, h3⟩ := ih u (by omega) (m + 1) (by rw [h, List.replicate_succ]; simp)
   refine ⟨q', m', by rw [← h1, List.replicate_succ]; simp, h2, fun R hR => RT.sh ?_⟩
   simp only [fastjson_parseRawString.l1, hw, hb]
   refine RT.congr (fun _ => if_pos (by omega)) (RT.congr (fun _ => if_pos (by omega)) (RT.congr (fun _ => if_pos (by omega)) (RT.congr (fun _ => if_pos trivial) ?_)))
   rw [show u.length = d by omega]
   exact h3 R hR
  refine ⟨u ++ [c], m, rfl, fun x hx => ?_, fun R hR => RT.sh ?_⟩
  ·rw [List.getLast?_append] at hx
   simp at hx
   omega
  ·simp only [fastjson_parseRawString.l1, hw, hb]
   refine RT.congr (fun _ => if_pos (by omega)) (RT.congr (fun _ => if_pos (by omega)) (RT.congr (fun _ => if_pos (by omega)) (RT.congr (fun _ => if_neg hc) ?_)))
   simp only [List.length_append, List.length_cons, List.length_nil] at hR
   rw [show ((d + 1 : Nat) : Int) = ((u.length + (0 + 1) : Nat) : Int) by omega]
   exact hR
theorem tmod_even {a b : Nat} (h : b ≤ a) (ha : a ≤ 2147483647) : (Int.tmod (IntKind.u64.wrap (wrap64 ((a : Int) - (b : Int)))) 2 = 0) ↔ (a - b) % 2 = 0 := by
 have e : IntKind.u64.wrap (wrap64 ((a : Int) - (b : Int))) = ((a - b : Nat) : Int) := by
  rw [w64 (by omega)]
  have e2 : IntKind.u64.wrap ((a : Int) - (b : Int)) = ((a : Int) - (b : Int)) % 18446744073709551616 := by simp [IntKind.wrap, IntKind.bits, IntKind.signed]
  rw [e2]
  omega
 rw [e, Int.tmod_eq_emod_of_nonneg (by omega)]
 omega
theorem raw_ok {w s : ByteArray} {pre p r : List Int} {n : Nat} (hw : w.size ≤ 2147483647) (hpre : bytesOf w = pre ++ bytesOf s) (hb : bytesOf s = p ++ 34 :: r) (hn : n = pre.length + p.length) :
 RT (fun _ => if (0 : Int) ≤ (n : Int) then (if (n : Int) ≤ (w.size : Int) then (if 0 ≤ wrap64 ((p.length : Int) + 1) then (if wrap64 ((p.length : Int) + 1) ≤ (s.size : Int) then (some (w.extract 0 ((n : Int)).toNat, s.extract (wrap64 ((p.length : Int) + 1)).toNat s.size, none)) else (none)) else (none)) else (none)) else (none)) (some (pre ++ p, r)) := by
 have hz := sz_of hb
 simp only [List.length_append, List.length_cons] at hz
 have hzw := sz_of hpre
 rw [List.length_append, bytesOf_length] at hzw
 have hw4 : wrap64 ((p.length : Int) + 1) = ((p.length + 1 : Nat) : Int) := by rw [w64 (by omega)]; omega
 rw [hw4]
 refine RT.congr (fun _ => if_pos (by omega)) (RT.congr (fun _ => if_pos (by omega)) (RT.congr (fun _ => if_pos (by omega)) (RT.congr (fun _ => if_pos (by omega)) ?_)))
 simp only [Int.toNat_natCast]
 exact RT.ok (take_of (b := 34 :: r) (by rw [hpre, hb]; simp) (by simp; omega)) (rest_of (a := p ++ [34]) (by rw [hb]; simp) (by simp)) (fun _ => rfl)
theorem w64_add1 {n : Nat} (h : n ≤ 2147483647) : wrap64 ((n : Int) + 1) = ((n + 1 : Nat) : Int) := by rw [w64 (by omega)]; omega
theorem w64_at {w s n a : Nat} (h : w ≤ 2147483647) (h1 : s ≤ w) (h2 : n ≤ s) (e : a = w - s + n) : wrap64 (wrap64 ((w : Int) - (s : Int)) + (n : Int)) = (a : Int) := by
 rw [w64 (x := (w : Int) - (s : Int)) (by omega), w64 (by omega)]
 omega
theorem raw_even {w s : ByteArray} (hw : w.size ≤ 2147483647) {pre p r : List Int} {q : Nat} (hb : bytesOf s = p ++ 34 :: r) (hpre : bytesOf w = pre ++ bytesOf s) (hq : q ≤ p.length) (hm : (p.length - q) % 2 = 0) :
 RT (fun k => fastjson_parseRawString.j3 k s (p.length : Int) w (q : Int)) (some (pre ++ p, r)) := by
 have hz := sz_of hb
 simp only [List.length_append, List.length_cons] at hz
 have hzw := sz_of hpre
 rw [List.length_append, bytesOf_length] at hzw
 have hc := (tmod_even (a := p.length) (b := q) hq (by omega)).mpr hm
 refine RT.sh ?_
 simp only [fastjson_parseRawString.j3]
 rw [w64_at (a := pre.length + p.length) hw (by omega) (by omega) (by omega)]
 exact RT.congr (fun _ => if_pos hc) (raw_ok hw hpre hb rfl)
theorem raw_odd {w s : ByteArray} (hw : w.size ≤ 2147483647) {pre p r : List Int} {q : Nat} (hb : bytesOf s = p ++ 34 :: r) (hpre : bytesOf w = pre ++ bytesOf s) (hq : q ≤ p.length) (hm : ¬ (p.length - q) % 2 = 0)
 (ih : ∀ (s' : ByteArray) (pre' p' r' : List Int), s'.size < s.size → bytesOf s' = p' ++ 34 :: r' → 34 ∉ p' → p'.getLast? = some 92 → bytesOf w = pre' ++ bytesOf s' →
  RT (fun k => fastjson_parseRawString.l0 k s' (p'.length : Int) w) ((rawL (bytesOf s')).map fun x => (pre' ++ x.1, x.2))) :
 RT (fun k => fastjson_parseRawString.j3 k s (p.length : Int) w (q : Int)) ((rawL r).map fun x => (pre ++ (p ++ 34 :: x.1), x.2)) := by
 have hz := sz_of hb
 simp only [List.length_append, List.length_cons] at hz
 have hzw := sz_of hpre
 rw [List.length_append, bytesOf_length] at hzw
 have hc : ¬ (Int.tmod (IntKind.u64.wrap (wrap64 ((p.length : Int) - (q : Int)))) 2 = 0) := fun e => hm ((tmod_even (a := p.length) (b := q) hq (by omega)).mp e)
 refine RT.sh ?_
 simp only [fastjson_parseRawString.j3, errors_New.f]
 refine RT.congr (fun _ => if_neg hc) ?_
 clear hc hm hq
 rw [w64_add1 (n := p.length) (by omega)]
 have hr : bytesOf (s.extract (p.length + 1) s.size) = r := rest_of (a := p ++ [34]) (by rw [hb]; simp) (by simp)
 have hrz := sz_of hr
 refine RT.congr (fun _ => if_pos (by omega)) (RT.congr (fun _ => if_pos (by omega)) ?_)
 simp only [Int.toNat_natCast]
 generalize s.extract (p.length + 1) s.size = s' at hr hrz
 have hpre' : bytesOf w = (pre ++ p ++ [34]) ++ bytesOf s' := by rw [hpre, hb, hr]; simp
 rcases idx s' 34 (by omega) with ⟨p', r', e1, e2, e3⟩ | ⟨e1, e2⟩
 ·have hrz' := sz_of e1
  simp only [List.length_append, List.length_cons] at hrz'
  rw [e3]
  simp only [Option.bind_some]
  rw [w64_at (w := w.size) (s := s'.size) (n := p'.length) (a := pre.length + (p.length + 1) + p'.length) hw (by omega) (by omega) (by omega)]
  have hok : par p' = true → RT (fun _ => if (0 : Int) ≤ ((pre.length + (p.length + 1) + p'.length : Nat) : Int) then (if ((pre.length + (p.length + 1) + p'.length : Nat) : Int) ≤ (w.size : Int) then (if 0 ≤ wrap64 ((p'.length : Int) + 1) then (if wrap64 ((p'.length : Int) + 1) ≤ (s'.size : Int) then (some (w.extract 0 (((pre.length + (p.length + 1) + p'.length : Nat) : Int)).toNat, s'.extract (wrap64 ((p'.length : Int) + 1)).toNat s'.size, none)) else (none)) else (none)) else (none)) else (none)) ((rawL r).map fun x => (pre ++ (p ++ 34 :: x.1), x.2)) := fun hpp => by
   have h5 := raw_ok (n := pre.length + (p.length + 1) + p'.length) hw hpre' e1 (by simp)
   rw [← hr, e1, rawL_split r' _ p' (Nat.le_refl _) e2, if_pos hpp, Option.map_some]
   simp only [List.append_assoc, List.cons_append, List.nil_append] at h5 ⊢
   exact h5
  refine RT.congr (fun _ => if_neg (by omega)) ?_
  by_cases h0 : p'.length = 0
  ·obtain rfl := List.length_eq_zero_iff.mp h0
   exact RT.congr (fun _ => if_pos (by simp)) (hok rfl)
  obtain ⟨u', c', hu'⟩ := last_or p' (by intro e; subst e; simp at h0)
  have hul' : p'.length = u'.length + 1 := by rw [hu']; simp
  have hbt : bt s' (u'.length : Int) = c' := bt_mid (p := u') (r := 34 :: r') (by rw [e1, hu']; simp)
  have hw5 : wrap64 ((p'.length : Int) - 1) = (u'.length : Int) := by rw [w64 (by omega)]; omega
  rw [hw5, hbt]
  refine RT.congr (fun _ => if_neg (by omega)) (RT.congr (fun _ => if_pos (by omega)) (RT.congr (fun _ => if_pos (by omega)) ?_))
  by_cases h92 : c' = 92
  rotate_left
  ·refine RT.congr (fun _ => if_neg h92) (hok ?_)
   have := par_app _ p' [] (Nat.le_refl _) (fun x hx => by rw [hu', List.getLast?_append] at hx; simp at hx; omega)
   rw [List.append_nil] at this
   rw [this]
   rfl
  refine RT.congr (fun _ => if_pos h92) ?_
  have hI := ih s' (pre ++ p ++ [34]) p' r' (by omega) e1 e2 (by rw [hu', h92]; simp) hpre'
  rw [hr] at hI
  cases hx : rawL r with
  | none => rw [hx] at hI; exact hI
  | some y =>
   rw [hx] at hI
   simp only [Option.map_some, List.append_assoc, List.cons_append, List.nil_append] at hI ⊢
   exact hI
 ·rw [e2, ← hr, rawL_noq _ _ (Nat.le_refl _) e1]
  simp only [Option.bind_some]
  exact RT.congr (fun _ => if_pos (by omega)) (RT.err (fun _ => rfl))
theorem raw_loop {w : ByteArray} (hw : w.size ≤ 2147483647) : ∀ (n : Nat) (s : ByteArray) (pre p r : List Int), s.size ≤ n → bytesOf s = p ++ 34 :: r → 34 ∉ p → p.getLast? = some 92 → bytesOf w = pre ++ bytesOf s →
 RT (fun k => fastjson_parseRawString.l0 k s (p.length : Int) w) ((rawL (bytesOf s)).map fun x => (pre ++ x.1, x.2)) := by
 intro n
 induction n with
 | zero =>
  intro s pre p r hn hb
  have := sz_of hb
  simp only [List.length_append, List.length_cons] at this
  omega
 | succ n ih =>
  intro s pre p r hn hb hp hl hpre
  have hz := sz_of hb
  simp only [List.length_append, List.length_cons] at hz
  have hzw := sz_of hpre
  rw [List.length_append, bytesOf_length] at hzw
  obtain ⟨u, c, hu⟩ := last_or p (by intro e; subst e; simp at hl)
  have hc : c = 92 := by rw [hu, List.getLast?_append] at hl; simpa using hl
  subst hc
  have hul : p.length = u.length + 1 := by rw [hu]; simp
  obtain ⟨q', m', h1, h2, h3⟩ := back_eq (s := s) (w := w) (by omega) (n := (p.length : Int)) (r := 34 :: r) u 1 (by rw [hb, hu]; rfl)
  have hpq : p = q' ++ List.replicate m' 92 := by rw [hu, ← h1]; rfl
  have hpl : p.length = q'.length + m' := by rw [hpq]; simp
  have hpar : par p = decide (m' % 2 = 0) := by rw [hpq, par_app _ _ _ (Nat.le_refl _) h2, par_rep _ _ (Nat.le_refl _)]
  have hw0 : wrap64 ((p.length : Int) - 1) = (u.length : Int) := by rw [w64 (by omega)]; omega
  have hsp := rawL_split r _ p (Nat.le_refl _) hp
  rw [hpar] at hsp
  refine RT.sh ?_
  simp only [fastjson_parseRawString.l0, hw0]
  refine h3 _ ?_
  rw [← hb] at hsp
  rw [hsp]
  by_cases hm : m' % 2 = 0
  ·rw [if_pos (show decide (m' % 2 = 0) = true from decide_eq_true hm), Option.map_some]
   exact raw_even hw hb hpre (by omega) (by omega)
  rw [if_neg (show ¬ decide (m' % 2 = 0) = true from fun e => hm (of_decide_eq_true e)), Option.map_map]
  exact raw_odd hw hb hpre (by omega) (by omega) (fun s' pre' p' r' g => ih s' pre' p' r' (by omega))
theorem par_last {p : List Int} (h : ∀ x, p.getLast? = some x → x ≠ 92) : par p = true := by
 have := par_app _ p [] (Nat.le_refl _) h
 rw [List.append_nil] at this
 rw [this]
 rfl
theorem raw_j0 {s : ByteArray} (hs : s.size ≤ 2147483647) {p r : List Int} (hb : bytesOf s = p ++ 34 :: r) : RT (fun k => fastjson_parseRawString.j0 k s (p.length : Int) true) (some (p, r)) := by
 refine RT.sh ?_
 simp only [fastjson_parseRawString.j0, if_true]
 exact raw_ok (w := s) (s := s) (pre := []) hs rfl hb (by simp)
theorem raw_eq {s : ByteArray} (hs : s.size ≤ 2147483647) : RT (fun k => fastjson_parseRawString.f k s) (rawL (bytesOf s)) := by
 simp only [fastjson_parseRawString.f, errors_New.f]
 rcases idx s 34 (by omega) with ⟨p, r, e1, e2, e3⟩ | ⟨e1, e2⟩
 ·have hz := sz_of e1
  simp only [List.length_append, List.length_cons] at hz
  rw [e3]
  simp only [Option.bind_some]
  refine RT.congr (fun _ => if_neg (by omega)) ?_
  by_cases h0 : p.length = 0
  ·obtain rfl := List.length_eq_zero_iff.mp h0
   refine RT.congr (fun _ => if_pos (by simp)) ?_
   rw [e1, List.nil_append, rawL_end]
   exact raw_j0 hs e1
  obtain ⟨u, c, hu⟩ := last_or p (by intro e; subst e; simp at h0)
  have hul : p.length = u.length + 1 := by rw [hu]; simp
  have hbt : bt s (u.length : Int) = c := bt_mid (p := u) (r := 34 :: r) (by rw [e1, hu]; simp)
  have hw5 : wrap64 ((p.length : Int) - 1) = (u.length : Int) := by rw [w64 (by omega)]; omega
  rw [hw5, hbt]
  refine RT.congr (fun _ => if_neg (by omega)) (RT.congr (fun _ => if_pos (by omega)) (RT.congr (fun _ => if_pos (by omega)) ?_))
  by_cases h92 : c = 92
  rotate_left
  ·have h8 : ((c != 92) = true) := by simpa using h92
   rw [h8, e1, rawL_split r _ p (Nat.le_refl _) e2, if_pos (par_last (fun x hx => by rw [hu, List.getLast?_append] at hx; simp at hx; omega))]
   exact raw_j0 hs e1
  subst h92
  have h6 := raw_loop (w := s) hs _ s [] p r (Nat.le_refl _) e1 e2 (by rw [hu]; simp) rfl
  simp only [List.nil_append] at h6
  have h7 : (rawL (bytesOf s)).map (fun x => (x.1, x.2)) = rawL (bytesOf s) := by cases rawL (bytesOf s) <;> rfl
  rw [h7] at h6
  refine RT.sh ?_
  simp only [fastjson_parseRawString.j0]
  exact RT.congr (fun _ => if_neg zq47) h6
 ·rw [e2, rawL_noq _ _ (Nat.le_refl _) e1]
  simp only [Option.bind_some]
  exact RT.congr (fun _ => if_pos (by omega)) (RT.err (fun _ => rfl))
end Go.Proofs.YtlokkefnbffjnaaDoor.J
end
section
namespace Go.Proofs.YtlokkefnbffjnaaDoor.J
open Go.RowKit Go.Proofs.YtlokkefnbffjnaaDoor.J Go.Proofs.YtlokkefnbffjnaaDoorW.PrintWords Go.Proofs.YtlokkefnbffjnaaDoorW.PrintLast
set_option linter.unusedVariables false
set_option linter.unusedSimpArgs false
theorem hxd_hexv : ∀ n : Fin 256, hxd ((n.val : Nat) : Int) = hexv ((n.val : Nat) : Int) := by decide +kernel
theorem hxd_of (b : UInt8) : hxd (b.toNat : Int) = hexv (b.toNat : Int) := hxd_hexv ⟨b.toNat, b.toNat_lt⟩
theorem hxs_none : ∀ (l : List UInt8) (a : Int), (hxs a l).isSome = l.all fun b => (hexv (b.toNat : Int)).isSome
 | [], _ => rfl
 | b :: r, a => by
  rw [hxs, hxd_of, List.all_cons]
  cases h : hexv (b.toNat : Int) with
  | none => rfl
  | some v => simp only [Option.bind_some, hxs_none r, Option.isSome_some, Bool.true_and]
theorem all_of (s : ByteArray) : (s.data.toList.all fun b => (hexv (b.toNat : Int)).isSome) = (bytesOf s).all fun c => (hexv c).isSome := by
 unfold bytesOf
 rw [List.all_map]
 rfl
theorem hex4_all {a b c d : Int} (l : List Int) : (hex4 (a :: b :: c :: d :: l)).isSome = [a, b, c, d].all fun x => (hexv x).isSome := by
 rw [hex4]
 simp only [List.all_cons, List.all_nil]
 cases hexv a <;> cases hexv b <;> cases hexv c <;> cases hexv d <;> rfl
theorem pu_eq {x : ByteArray} {a b c d : Int} {r : List Int} (h : bytesOf x = a :: b :: c :: d :: r) :
 ∃ v : Int, strconv_ParseUint_55.f (x.extract 0 4) 16 16 = some (v, if (hex4 (a :: b :: c :: d :: r)).isSome = true then none else some 0) := by
 have hz := sz_of h
 simp only [List.length_cons] at hz
 have hsz : (x.extract 0 4).size = 4 := by rw [ByteArray.size_extract]; omega
 have hb : bytesOf (x.extract 0 4) = [a, b, c, d] := take_of (a := [a, b, c, d]) (b := r) (n := 4) h rfl
 have he : (hxs 0 (x.extract 0 4).data.toList).isSome = (hex4 (a :: b :: c :: d :: r)).isSome := by
  rw [hxs_none, all_of, hb, hex4_all]
 unfold strconv_ParseUint_55.f
 rw [if_neg (by simp), if_pos ⟨rfl, rfl, hsz⟩, ← he]
 cases hxs 0 (x.extract 0 4).data.toList with
 | none => exact ⟨_, rfl⟩
 | some v => exact ⟨_, rfl⟩
def LT (g : Nat → Option (ByteArray × ByteArray × Option Int)) (y : ByteArray) (o : Option Bool) : Prop :=
  match o with
  | some b => ∃ z, (anyLow (bytesOf z) = b ∧ z.size ≤ 2147483647) ∧ Ev g (z, y, none)
  | none => ∃ z q, Ev g (z, y, some q)
theorem LT.sh {g : Nat → Option (ByteArray × ByteArray × Option Int)} {y : ByteArray} {o : Option Bool} (h : LT (fun k => g (k + 1)) y o) : LT g y o := by
 cases o with
 | none => obtain ⟨z, q, hz⟩ := h; exact ⟨z, q, Ev_sh hz⟩
 | some x => obtain ⟨z, h1, hz⟩ := h; exact ⟨z, h1, Ev_sh hz⟩
theorem LT.congr {g f : Nat → Option (ByteArray × ByteArray × Option Int)} {y : ByteArray} {o : Option Bool} (e : ∀ k, g k = f k) (h : LT f y o) : LT g y o := by
 have : g = f := funext e
 rw [this]
 exact h
theorem LT.err {g : Nat → Option (ByteArray × ByteArray × Option Int)} {z y : ByteArray} {q : Int} (e : ∀ k, g k = some (z, y, some q)) : LT g y none := ⟨z, q, Ev.congr e (Ev.now _)⟩
theorem LT.ok {g : Nat → Option (ByteArray × ByteArray × Option Int)} {z y : ByteArray} {b : Bool} (hz : anyLow (bytesOf z) = b ∧ z.size ≤ 2147483647) (e : ∀ k, g k = some (z, y, none)) : LT g y (some b) := ⟨z, hz, Ev.congr e (Ev.now _)⟩
theorem LT.bnd {α : Type} {g : Nat → Option α} {f : Nat → α → Option (ByteArray × ByteArray × Option Int)} {y : ByteArray} {o : Option Bool} {t : α} (e : ∀ k, g k = some t) (h : LT (fun k => f k t) y o) : LT (fun k => (g k).bind (f k)) y o :=
 LT.congr (fun k => by rw [e k]; rfl) h
theorem escS {s : ByteArray} (hs : s.size ≤ 2147483647) {y : ByteArray} {d : Int} {r : List Int} (hb : bytesOf s = r)
 (ih : ∀ t : ByteArray, t.size ≤ s.size → LT (fun k => fastjson_validateString.l0 k t y) y (lowS false (bytesOf t))) (hd : isE d = false) :
 LT (fun k => fastjson_validateString.j2 k s y d (d == 116)) y ((escL (d :: r)).bind (lowS false)) := by
 have hz := sz_of hb
 refine LT.sh ?_
 have h116 : (d == 116) = false := by
  unfold isE at hd
  simp only [decide_eq_false_iff_not, not_or] at hd
  simp only [beq_eq_false_iff_ne, ne_eq]
  exact hd.2.2.2.2.2.2.2
 simp only [fastjson_validateString.j2, errors_New.f, Option.bind_some]
 rw [h116, escL, if_neg (by simp [hd])]
 refine LT.congr (fun _ => if_neg zq47) ?_
 by_cases hu : d = 117
 rotate_left
 ·rw [if_neg hu]
  exact LT.congr (fun _ => if_neg hu) (LT.err (fun _ => rfl))
 rw [if_pos hu]
 refine LT.congr (fun _ => if_pos hu) ?_
 match r, hb, hz with
 | a :: b :: c :: e :: r', hb, hz =>
  simp only [List.length_cons] at hz
  obtain ⟨v, hv⟩ := pu_eq hb
  rw [hv]
  simp only [Option.bind_some]
  refine LT.congr (fun _ => if_neg (by omega)) (LT.congr (fun _ => if_pos (by omega)) (LT.congr (fun _ => if_pos (by omega)) ?_))
  cases hh : hex4 (a :: b :: c :: e :: r') with
  | none =>
   simp only [Option.bind_none]
   exact LT.congr (fun _ => if_neg (by simp)) (LT.err (fun _ => rfl))
  | some w =>
   simp only [Option.bind_some, List.drop_succ_cons, List.drop_zero]
   have hc : bytesOf (s.extract 4 s.size) = r' := rest_of (a := [a, b, c, e]) hb rfl
   have := ih (s.extract 4 s.size) (by rw [ByteArray.size_extract]; omega)
   rw [hc] at this
   exact LT.congr (fun _ => if_pos (by simp)) this
 | [], hb, hz => exact LT.congr (fun _ => if_pos zq68) (LT.err (fun _ => rfl))
 | [_], hb, hz => exact LT.congr (fun _ => if_pos zq68) (LT.err (fun _ => rfl))
 | [_, _], hb, hz => exact LT.congr (fun _ => if_pos zq68) (LT.err (fun _ => rfl))
 | [_, _, _], hb, hz => exact LT.congr (fun _ => if_pos zq68) (LT.err (fun _ => rfl))
theorem escE {s : ByteArray} {y : ByteArray} {d : Int} {b : Bool} {r : List Int} (hb : bytesOf s = r)
 (ih : ∀ t : ByteArray, t.size ≤ s.size → LT (fun k => fastjson_validateString.l0 k t y) y (lowS false (bytesOf t))) (hd : isE d = true) (he : b = true) :
 LT (fun k => fastjson_validateString.j2 k s y d b) y ((escL (d :: r)).bind (lowS false)) := by
 refine LT.sh ?_
 subst he
 simp only [fastjson_validateString.j2, if_true]
 rw [escL, if_pos hd, Option.bind_some, ← hb]
 exact ih s (Nat.le_refl _)
theorem escA {s : ByteArray} (hs : s.size ≤ 2147483647) {y : ByteArray} {d : Int} {r : List Int} (hc : bytesOf s = r)
 (ih' : ∀ t : ByteArray, t.size ≤ s.size → LT (fun k => fastjson_validateString.l0 k t y) y (lowS false (bytesOf t))) :
 LT (fun k => if d = 34 then (fastjson_validateString.j2 k s y d (d == 34)) else (if d = 92 then (fastjson_validateString.j2 k s y d (d == 92)) else (if d = 47 then (fastjson_validateString.j2 k s y d (d == 47)) else (if d = 98 then (fastjson_validateString.j2 k s y d (d == 98)) else (if d = 102 then (fastjson_validateString.j2 k s y d (d == 102)) else (if d = 110 then (fastjson_validateString.j2 k s y d (d == 110)) else (if d = 114 then (fastjson_validateString.j2 k s y d (d == 114)) else (fastjson_validateString.j2 k s y d (d == 116))))))))) y ((escL (d :: r)).bind (lowS false)) := by
 by_cases k1 : d = 34
 ·exact LT.congr (fun _ => if_pos k1) (escE hc ih' (by subst k1; decide) (by subst k1; decide))
 refine LT.congr (fun _ => if_neg k1) ?_
 by_cases k2 : d = 92
 ·exact LT.congr (fun _ => if_pos k2) (escE hc ih' (by subst k2; decide) (by subst k2; decide))
 refine LT.congr (fun _ => if_neg k2) ?_
 by_cases k3 : d = 47
 ·exact LT.congr (fun _ => if_pos k3) (escE hc ih' (by subst k3; decide) (by subst k3; decide))
 refine LT.congr (fun _ => if_neg k3) ?_
 by_cases k4 : d = 98
 ·exact LT.congr (fun _ => if_pos k4) (escE hc ih' (by subst k4; decide) (by subst k4; decide))
 refine LT.congr (fun _ => if_neg k4) ?_
 by_cases k5 : d = 102
 ·exact LT.congr (fun _ => if_pos k5) (escE hc ih' (by subst k5; decide) (by subst k5; decide))
 refine LT.congr (fun _ => if_neg k5) ?_
 by_cases k6 : d = 110
 ·exact LT.congr (fun _ => if_pos k6) (escE hc ih' (by subst k6; decide) (by subst k6; decide))
 refine LT.congr (fun _ => if_neg k6) ?_
 by_cases k7 : d = 114
 ·exact LT.congr (fun _ => if_pos k7) (escE hc ih' (by subst k7; decide) (by subst k7; decide))
 refine LT.congr (fun _ => if_neg k7) ?_
 by_cases k8 : d = 116
 ·exact escE hc ih' (by subst k8; decide) (by subst k8; decide)
 exact escS hs hc ih' (by simp [isE, k1, k2, k3, k4, k5, k6, k7, k8])
theorem low_loop {y : ByteArray} : ∀ (n : Nat) (s : ByteArray), s.size ≤ n → s.size ≤ 2147483647 → LT (fun k => fastjson_validateString.l0 k s y) y (lowS false (bytesOf s)) := by
 intro n
 induction n with
 | zero =>
  intro s hn hs
  have : bytesOf s = [] := List.length_eq_zero_iff.mp (by rw [bytesOf_length]; omega)
  rw [this, lowS_nil]
  refine LT.sh ?_
  simp only [fastjson_validateString.l0]
  rcases idx s 92 (by omega) with ⟨p, r, e1, e2, e3⟩ | ⟨e1, e2⟩
  ·rw [this] at e1
   have := congrArg List.length e1
   simp at this
  ·rw [e2]
   simp only [Option.bind_some]
   exact LT.congr (fun _ => if_pos (by omega)) (LT.ok ⟨by rw [this]; rfl, hs⟩ (fun _ => rfl))
 | succ n ih =>
  intro s hn hs
  refine LT.sh ?_
  simp only [fastjson_validateString.l0, errors_New.f]
  rcases idx s 92 (by omega) with ⟨p, r, e1, e2, e3⟩ | ⟨e1, e2⟩
  ·have hz := sz_of e1
   simp only [List.length_append, List.length_cons] at hz
   rw [e1, lowS_first false r e2]
   refine LT.bnd (fun _ => e3) ?_
   have w1 : wrap64 ((p.length : Int) + 1) = ((p.length + 1 : Nat) : Int) := by rw [w64 (by omega)]; omega
   have w2 : wrap64 (((p.length + 1 : Nat) : Int) + 1) = ((p.length + 2 : Nat) : Int) := by rw [w64 (by omega)]; omega
   rw [w1, w2]
   refine LT.congr (fun _ => if_neg (by omega)) ?_
   match r, e1, hz with
   | [], e1, hz => exact LT.congr (fun _ => if_pos (by simp only [List.length_nil] at hz; omega)) (LT.err (fun _ => rfl))
   | d :: r', e1, hz =>
    simp only [List.length_cons] at hz
    have hbt : bt s ((p.length + 1 : Nat) : Int) = d := by
     have := bt_mid (s := s) (p := p ++ [92]) (c := d) (r := r') (by rw [e1]; simp)
     simpa using this
    rw [hbt]
    have hc : bytesOf (s.extract (p.length + 2) s.size) = r' := rest_of (a := p ++ [92, d]) (by rw [e1]; simp) (by simp)
    have hcz : (s.extract (p.length + 2) s.size).size ≤ n ∧ (s.extract (p.length + 2) s.size).size ≤ 2147483647 := by rw [ByteArray.size_extract]; omega
    simp only [Int.toNat_natCast]
    generalize s.extract (p.length + 2) s.size = s' at hc hcz
    have ih' : ∀ t : ByteArray, t.size ≤ s'.size → LT (fun k => fastjson_validateString.l0 k t y) y (lowS false (bytesOf t)) := fun t ht => ih t (by omega) (by omega)
    refine LT.congr (fun _ => if_neg (by omega)) (LT.congr (fun _ => if_pos (by omega)) (LT.congr (fun _ => if_pos (by omega)) (LT.congr (fun _ => if_pos (by omega)) (LT.congr (fun _ => if_pos (by omega)) ?_))))
    exact escA (by omega) hc ih'
  ·rw [e2, lowS_no false e1]
   simp only [Option.bind_some]
   exact LT.congr (fun _ => if_pos (by omega)) (LT.ok ⟨by simp, hs⟩ (fun _ => rfl))
def ST (g : Nat → Option (ByteArray × ByteArray × Option Int)) (o : Option (List Int × List Int)) : Prop :=
  match o.bind (fun x => (lowS false x.1).map fun b => (b, x.2)) with
  | some x => ∃ z y, (anyLow (bytesOf z) = x.1 ∧ z.size ≤ 2147483647) ∧ bytesOf y = x.2 ∧ Ev g (z, y, none)
  | none => ∃ z y q, Ev g (z, y, some q)
theorem str_eq {s : ByteArray} (hs : s.size ≤ 2147483647) : ST (fun k => fastjson_validateString.f k s) (rawL (bytesOf s)) := by
 have slow : ST (fun k => fastjson_validateString.j0 k s ((-1 : Int)) false) (rawL (bytesOf s)) ∧ ∀ x, ST (fun k => fastjson_validateString.j0 k s x false) (rawL (bytesOf s)) := by
  have h : ∀ x, ST (fun k => fastjson_validateString.j0 k s x false) (rawL (bytesOf s)) := fun x => by
   have h1 := raw_eq hs
   unfold ST
   cases hr : rawL (bytesOf s) with
   | none =>
    rw [hr] at h1
    obtain ⟨z, y, q, hz⟩ := h1
    refine ⟨z, y, q, Ev_sh ?_⟩
    simp only [fastjson_validateString.j0]
    exact Ev.congr (fun _ => if_neg zq47) (Ev.bind hz (Ev.congr (fun _ => if_neg (by simp)) (Ev.now _)))
   | some o =>
    rw [hr] at h1
    obtain ⟨z, y, hz, hy, he⟩ := h1
    have hzz := rawL_eq _ _ _ _ (Nat.le_refl _) hr
    have hsz := sz_of hzz
    simp only [List.length_append] at hsz
    have hz2 := sz_of hz
    have h2 := low_loop (y := y) z.size z (Nat.le_refl _) (by omega)
    rw [hz] at h2
    simp only [Option.bind_some]
    cases hl : lowS false o.1 with
    | none =>
     rw [hl] at h2
     obtain ⟨z', q, h3⟩ := h2
     refine ⟨z', y, q, Ev_sh ?_⟩
     simp only [fastjson_validateString.j0]
     exact Ev.congr (fun _ => if_neg zq47) (Ev.bind he (Ev.congr (fun _ => if_pos (by simp)) h3))
    | some b =>
     rw [hl] at h2
     obtain ⟨z', h4, h3⟩ := h2
     refine ⟨z', y, h4, hy, Ev_sh ?_⟩
     simp only [fastjson_validateString.j0]
     exact Ev.congr (fun _ => if_neg zq47) (Ev.bind he (Ev.congr (fun _ => if_pos (by simp)) h3))
  exact ⟨h _, h⟩
 simp only [fastjson_validateString.f]
 rcases idx s 34 (by omega) with ⟨p, r, e1, e2, e3⟩ | ⟨e1, e2⟩
 ·have hz := sz_of e1
  simp only [List.length_append, List.length_cons] at hz
  rw [e3]
  simp only [Option.bind_some, Int.toNat_natCast]
  have hp : bytesOf (s.extract 0 p.length) = p := take_of e1 rfl
  rcases idx (s.extract 0 p.length) 92 (by omega) with ⟨p', r', g1, g2, g3⟩ | ⟨g1, g2⟩
  ·rw [g3]
   simp only [Option.bind_some]
   have e : (decide ((p'.length : Int) < 0)) = false := decide_eq_false (by omega)
   rw [e]
   have h := slow.2 (p.length : Int)
   have hc : (fun k => if (p.length : Int) ≥ 0 then (if 0 ≤ (p.length : Int) then (if (p.length : Int) ≤ (s.size : Int) then (fastjson_validateString.j0 k s (p.length : Int) false) else (none)) else (none)) else (fastjson_validateString.j0 k s (p.length : Int) false)) = fun k => fastjson_validateString.j0 k s (p.length : Int) false := by
    funext k
    rw [if_pos (by omega), if_pos (by omega), if_pos (by omega)]
   rw [hc]
   exact h
  ·rw [g2]
   simp only [Option.bind_some]
   have hn : 92 ∉ p := by rw [← hp]; exact g1
   have hr : rawL (bytesOf s) = some (p, r) := by rw [e1, rawL_split r _ p (Nat.le_refl _) e2, if_pos (par_no hn)]
   have hy : bytesOf (s.extract (p.length + 1) s.size) = r := rest_of (a := p ++ [34]) (by rw [e1]; simp) (by simp)
   unfold ST
   rw [hr]
   simp only [Option.bind_some, lowS_no false hn, Option.map_some, Bool.false_or]
   refine ⟨s.extract 0 p.length, s.extract (p.length + 1) s.size, ⟨by rw [hp], by rw [ByteArray.size_extract]; omega⟩, hy, ?_⟩
   refine Ev.congr (fun _ => if_pos (by omega)) (Ev.congr (fun _ => if_pos (by omega)) (Ev.congr (fun _ => if_pos (by omega)) (Ev_sh ?_)))
   simp only [fastjson_validateString.j0]
   have hw : wrap64 ((p.length : Int) + 1) = ((p.length + 1 : Nat) : Int) := by rw [w64 (by omega)]; omega
   rw [hw]
   refine Ev.congr (fun _ => if_pos zq47) (Ev.congr (fun _ => if_pos (by omega)) (Ev.congr (fun _ => if_pos (by omega)) (Ev.congr (fun _ => if_pos (by omega)) (Ev.congr (fun _ => if_pos (by omega)) ?_))))
   simp only [Int.toNat_natCast]
   exact Ev.now _
 ·rw [e2]
  simp only [Option.bind_some]
  have hc : (fun k => if (-1 : Int) ≥ 0 then (if 0 ≤ (-1 : Int) then (if (-1 : Int) ≤ (s.size : Int) then ((strings_IndexByte.f (s.extract 0 ((-1 : Int)).toNat) 92).bind fun t102 => (fastjson_validateString.j0 k s (-1) (decide (t102 < 0)))) else (none)) else (none)) else (fastjson_validateString.j0 k s (-1) false)) = fun k => fastjson_validateString.j0 k s (-1) false := by
   funext k
   rw [if_neg (by omega)]
  rw [hc]
  exact slow.1
theorem key_eq {s : ByteArray} (hs : s.size ≤ 2147483647) : ST (fun k => fastjson_validateKey.f k s) (rawL (bytesOf s)) := by
 have loop : ∀ (l p : List Int), bytesOf s = p ++ l → 34 ∉ p → 92 ∉ p → ST (fun k => fastjson_validateKey.l0 k s (s.size : Int) (p.length : Int)) (rawL (bytesOf s)) := by
  intro l
  induction l with
  | nil =>
   intro p hp h34 h92
   have hz := sz_of hp
   simp only [List.length_append, List.length_nil] at hz
   unfold ST
   rw [hp, List.append_nil, rawL_noq _ _ (Nat.le_refl _) h34]
   refine ⟨(⟨#[]⟩ : ByteArray), s, 0, Ev_sh ?_⟩
   simp only [fastjson_validateKey.l0, errors_New.f, Option.bind_some]
   exact Ev.congr (fun _ => if_neg (by omega)) (Ev.now _)
  | cons c r ih =>
   intro p hp h34 h92
   have hz := sz_of hp
   simp only [List.length_append, List.length_cons] at hz
   have hbt : bt s (p.length : Int) = c := bt_mid hp
   have hw : wrap64 ((p.length : Int) + 1) = ((p.length + 1 : Nat) : Int) := by rw [w64 (by omega)]; omega
   by_cases h1 : c = 34
   ·subst h1
    have hr : rawL (bytesOf s) = some (p, r) := by rw [hp, rawL_split r _ p (Nat.le_refl _) h34, if_pos (par_no h92)]
    unfold ST
    rw [hr]
    simp only [Option.bind_some, lowS_no false h92, Option.map_some, Bool.false_or]
    refine ⟨s.extract 0 p.length, s.extract (p.length + 1) s.size, ⟨by rw [take_of hp rfl], by rw [ByteArray.size_extract]; omega⟩, rest_of (a := p ++ [34]) (by rw [hp]; simp) (by simp), Ev_sh ?_⟩
    simp only [fastjson_validateKey.l0, hbt, hw]
    refine Ev.congr (fun _ => if_pos (by omega)) (Ev.congr (fun _ => if_pos (by omega)) (Ev.congr (fun _ => if_pos (by omega)) (Ev.congr (fun _ => if_pos trivial) (Ev.congr (fun _ => if_pos (by omega)) (Ev.congr (fun _ => if_pos (by omega)) (Ev.congr (fun _ => if_pos (by omega)) ?_))))))
    simp only [Int.toNat_natCast]
    exact Ev.now _
   by_cases h2 : c = 92
   ·have h3 := str_eq hs
    unfold ST at h3 ⊢
    generalize (rawL (bytesOf s)).bind (fun x => (lowS false x.1).map fun b => (b, x.2)) = o at h3 ⊢
    have hgo : ∀ R, Ev (fun k => fastjson_validateString.f k s) R → Ev (fun k => fastjson_validateKey.l0 k s (s.size : Int) (p.length : Int)) R := fun R hR => by
     refine Ev_sh ?_
     simp only [fastjson_validateKey.l0, hbt]
     exact Ev.congr (fun _ => if_pos (by omega)) (Ev.congr (fun _ => if_pos (by omega)) (Ev.congr (fun _ => if_pos (by omega)) (Ev.congr (fun _ => if_neg h1) (Ev.congr (fun _ => if_pos h2) (Ev.bind hR (Ev.now _))))))
    cases o with
    | none => obtain ⟨z, y, q, hz⟩ := h3; exact ⟨z, y, q, hgo _ hz⟩
    | some x => obtain ⟨z, y, g1, g2, hz⟩ := h3; exact ⟨z, y, g1, g2, hgo _ hz⟩
   have h3 := ih (p ++ [c]) (by rw [hp]; simp) (by simp [h34, Ne.symm h1]) (by simp [h92, Ne.symm h2])
   unfold ST at h3 ⊢
   generalize (rawL (bytesOf s)).bind (fun x => (lowS false x.1).map fun b => (b, x.2)) = o at h3 ⊢
   have hgo : ∀ R, Ev (fun k => fastjson_validateKey.l0 k s (s.size : Int) ((p ++ [c]).length : Int)) R → Ev (fun k => fastjson_validateKey.l0 k s (s.size : Int) (p.length : Int)) R := fun R hR => by
    refine Ev_sh ?_
    simp only [fastjson_validateKey.l0, hbt, hw]
    rw [List.length_append, List.length_singleton] at hR
    exact Ev.congr (fun _ => if_pos (by omega)) (Ev.congr (fun _ => if_pos (by omega)) (Ev.congr (fun _ => if_pos (by omega)) (Ev.congr (fun _ => if_neg h1) (Ev.congr (fun _ => if_neg h2) hR))))
   cases o with
   | none => obtain ⟨z, y, q, hz⟩ := h3; exact ⟨z, y, q, hgo _ hz⟩
   | some x => obtain ⟨z, y, g1, g2, hz⟩ := h3; exact ⟨z, y, g1, g2, hgo _ hz⟩
 exact loop (bytesOf s) [] rfl (by simp) (by simp)
end Go.Proofs.YtlokkefnbffjnaaDoor.J
end
section
namespace Go.Proofs.YtlokkefnbffjnaaDoor.J
open Go.RowKit Go.Proofs.YtlokkefnbffjnaaDoorW.PrintWords Go.Proofs.YtlokkefnbffjnaaDoorW.PrintLast Go.Proofs.YtlokkefnbffjnaaDoorW.PrintMore
attribute [local go_sem] max2_int min2_int max_two min_two max_three min_three max_four min_four
set_option linter.unusedVariables false
set_option linter.unusedSimpArgs false
attribute [-simp] ByteArray.size_extract
def spec_Places.f (k : Nat) (a0 : ByteArray) : Option (Int × Int × Int × (List (S122)) × (List (S38)) × Bool) :=
  (spec_reader_blanks.f k a0 0).bind fun b => ((spec_reader_value.f k b.1 b.2).bind fun v => (if v.2.2.2.2.2.1 = true then ((spec_reader_blanks.f k v.2.2.2.2.2.2.1 v.2.2.2.2.2.2.2).bind fun c => (if c.2 = (a0.size : Int) then (some (v.1, v.2.1, v.2.2.1, v.2.2.2.1, v.2.2.2.2.1, true)) else (some (0, 0, 0, [], [], false)))) else (some (0, 0, 0, [], [], false))))
theorem spec_Places.mono : ∀ a0 k, LeO (spec_Places.f k a0) (spec_Places.f (k + 1) a0) := fun a0 k => LeO.bind (spec_reader_blanks.mono _ _ k) (fun _ => LeO.bind (spec_reader_value.mono _ _ k) (fun _ => LeO.ite (LeO.bind (spec_reader_blanks.mono _ _ k) (fun _ => LeO.refl _)) (LeO.refl _)))
theorem Places_R_keep {α : Type} {d : Kd α} {e : Nat} {w w1 : World} {base : Nat} {ok : Nat → Prop} {v : Value} {xs : List α} (h : d.R e w base ok v xs) {g : Nat} (hk : KeepBut w w1 g none) (hg : g < base) : d.R e w1 base ok v xs :=
 Kd.R_mono (Kd.R_move (Kd.R_bound h) (fun k hk' => hk.2 k hk'.2.2.1 (by omega) (by simp))) (fun _ hk => hk.1)
theorem spec_Places.calls (k : Nat) (a0 : ByteArray) (r1 r2 r3 : Int) (r4 : List (S122)) (r5 : List (S38)) (r6 : Bool) (w : World) (h : spec_Places.f k a0 = some (r1, r2, r3, r4, r5, r6)) :
 Calls Tryd.prog 16 #[.string a0] w fun e w' => ∃ v3_ v4_ : Value, e = .returned (.tuple #[.agg #[.int .i64 r1, .int .i64 r2, .int .i64 r3, v3_, v4_], .bool r6]) ∧ Kd.R k122 122 w' w.heap.size (fun _ => True) v3_ r4 ∧ Kd.R k38 38 w' w.heap.size (fun k_ => some k_ ≠ (v3_ : Value).ownBlock) v4_ r5 ∧ Below w.heap.size w w' := by
 unfold spec_Places.f at h
 replace h := Option.bind_eq_some_iff.mp h
 obtain ⟨⟨s1, at1⟩, A1, h⟩ := h
 replace h := Option.bind_eq_some_iff.mp h
 obtain ⟨⟨t1, t2, t3, t4, t5, ok, s2, at2⟩, A2, h⟩ := h
 have B1 := mk0 A1
 have B2 := mk0 A2
 have HR := mk0 h
 clear A1 A2 h
 go_enter Tryd.func16, Tryd.ntmps16
 go_wp2_with fail
 refine (spec_reader_blanks.calls k (w.heap.size + 1) a0 0 s1 at1 w _ ?i1 ?b1 B1.out).mono ?_
 case i1 =>
  have := IsS52.new w (w.alloc (.cells #[.int .i64 0, .int .i64 0, .int .i64 0, .slice none 0 0, .slice none 0 0] 38)) a0 0 (below_alloc (Below.refl _ _) _)
  simpa using this
 case b1 => exact below_alloc (below_alloc (Below.refl _ _) _) _
 rintro e w1 ⟨rfl, hI, hB, hK⟩
 have hZ : w1.heap[w.heap.size]? = some (.cells #[.int .i64 0, .int .i64 0, .int .i64 0, .slice none 0 0, .slice none 0 0] 38 (0, 0)) := KeepBut.blk hK (blk_alloc (blk_new w _) _) (by omega) (by simp)
 have HI := mk0 hI
 have HB := mk0 hB
 have HZ := mk0 hZ
 clear hI hB hK hZ
 go_wp2_with fail
 refine (spec_reader_value.calls k (w.heap.size + 1) s1 at1 t1 t2 t3 t4 t5 ok s2 at2 w _ HI.out HB.out B2.out).mono ?_
 rintro e w2 ⟨v3, v4, rfl, hv3, hv4, hI, hB, hK⟩
 obtain ⟨i3, ho3⟩ := Kd.R_own hv3
 obtain ⟨A3, c3, e3⟩ := own_slice ho3
 subst e3
 obtain ⟨i4, ho4⟩ := Kd.R_own hv4
 obtain ⟨A4, c4, e4⟩ := own_slice ho4
 subst e4
 clear ho3 ho4
 have hl1 := below_size HB.out
 have hl : w.heap.size + 1 < w1.heap.size := HI.out.lt
 have hZ2 := KeepBut.blk hK HZ.out (by omega) (by simp)
 have HI2 := mk0 hI
 have HB2 := mk0 hB
 have HZ2 := mk0 hZ2
 have HV3 := mk0 hv3
 have HV4 := mk0 hv4
 have HL := mk0 hl
 have HL2 := mk0 hK.1
 clear hI hB hK hZ2 hv3 hv4 hl hl1 HI HB HZ
 have HR1 := HR.out
 clear HR
 cases ok with
 | false =>
  rw [if_neg zq47] at HR1
  simp only [Option.some.injEq, Prod.mk.injEq] at HR1
  obtain ⟨rfl, rfl, rfl, rfl, rfl, rfl⟩ := HR1
  go_wp2_with (((with_reducible refine gate_store (t := 38) (p := 2) rfl ?_); refine box_store (g := w.heap.size) (new := #[.int .i64 0, .int .i64 0, .int .i64 0, .slice none 0 0, .slice none 0 0]) rfl rfl rfl rfl rfl (blk_alloc HZ2.out _) rfl zq24 zq61 ?_; intro w3 hz3 hk3 hb3; have HZ3 := mk0 hz3; have HB3 := mk0 (hb3 w.heap.size (Nat.le_refl _)); clear hz3 hk3 hb3))
  refine bodyPost_ret (results_ct rfl _ _ w.heap.size 38 #[.int .i64 0, .int .i64 0, .int .i64 0, .slice none 0 0, .slice none 0 0] (0, 0) _ rfl HZ3.out Tryd.underlying38 rfl zq24) rfl ?_
  exact ⟨_, _, rfl, Kd.R_nil _ _ _ _ _, Kd.R_nil _ _ _ _ _, (below_alloc HB2.out _).trans HB3.out⟩
 | true =>
  rw [if_pos rfl] at HR1
  replace HR1 := Option.bind_eq_some_iff.mp HR1
  obtain ⟨⟨s3, at3⟩, A3, HR1⟩ := HR1
  have B3 := mk0 A3
  have HR := mk0 HR1
  clear A3 HR1
  go_wp2_with fail
  refine (spec_reader_blanks.calls k (w.heap.size + 1) s2 at2 s3 at3 w _ (IsS52.alloc HI2.out _) (below_alloc HB2.out _) B3.out).mono ?_
  rintro e w3 ⟨rfl, hI, hB, hK⟩
  have hL := HL.out
  have hL2 := HL2.out
  have HP3 := mk0 (KeepBut.blk hK (blk_new w2 _) (by omega) (by simp))
  have HZ3 := mk0 (KeepBut.blk hK (blk_alloc HZ2.out _) (by omega) (by simp))
  have HV3' := mk0 (Places_R_keep (Kd.R_alloc HV3.out _) hK HL.out)
  have HV4' := mk0 (Places_R_keep (Kd.R_alloc HV4.out _) hK HL.out)
  have hc1 := cellS52_1 hI.1
  have HB3 := mk0 hB
  have HR1 := HR.out
  clear hI hB hK hL hL2 HR
  by_cases c : at3 = (a0.size : Int)
  rotate_left
  ·rw [if_neg c] at HR1
   have cb : (at3 != (a0.size : Int)) = true := bne_iff_ne.mpr c
   clear c
   simp only [Option.some.injEq, Prod.mk.injEq] at HR1
   obtain ⟨rfl, rfl, rfl, rfl, rfl, rfl⟩ := HR1
   go_wp2_with (((with_reducible refine gate_store (t := 38) (p := 2) rfl ?_); refine box_store (g := w.heap.size) (new := #[.int .i64 0, .int .i64 0, .int .i64 0, .slice none 0 0, .slice none 0 0]) rfl rfl rfl rfl rfl HZ3.out rfl zq24 zq61 ?_; intro w4 hz4 hk4 hb4; have HZ4 := mk0 hz4; have HB4 := mk0 (hb4 w.heap.size (Nat.le_refl _)); clear hz4 hk4 hb4))
   refine bodyPost_ret (results_ct rfl _ _ w.heap.size 38 #[.int .i64 0, .int .i64 0, .int .i64 0, .slice none 0 0, .slice none 0 0] (0, 0) _ rfl HZ4.out Tryd.underlying38 rfl zq24) rfl ?_
   exact ⟨_, _, rfl, Kd.R_nil _ _ _ _ _, Kd.R_nil _ _ _ _ _, HB3.out.trans HB4.out⟩
  rw [if_pos c] at HR1
  have cb : (at3 != (a0.size : Int)) = false := bne_eq_false_iff_eq.mpr c
  clear c
  simp only [Option.some.injEq, Prod.mk.injEq] at HR1
  obtain ⟨rfl, rfl, rfl, rfl, rfl, rfl⟩ := HR1
  go_wp2_with (first | ((with_reducible refine gate_dst (N := 24) rfl ?_); refine wpList_load_row rfl 38 _ rfl w2.heap.size rfl 38 _ (0, 0) _ HP3.out Tryd.underlying38 rfl zq24 ?_) | ((with_reducible refine gate_store (t := 38) (p := 2) rfl ?_); refine box_store (g := w.heap.size) (new := #[.int .i64 t1, .int .i64 t2, .int .i64 t3, .slice A3 t4.length c3, .slice A4 t5.length c4]) rfl rfl rfl rfl rfl HZ3.out rfl zq24 zq61 ?_; intro w4 hz4 hk4 hb4; have HZ4 := mk0 hz4; have HK4 := mk0 hk4; have HB4 := mk0 (hb4 w.heap.size (Nat.le_refl _)); clear hz4 hk4 hb4))
  refine bodyPost_ret (results_ct rfl _ _ w.heap.size 38 #[.int .i64 t1, .int .i64 t2, .int .i64 t3, .slice A3 t4.length c3, .slice A4 t5.length c4] (0, 0) _ rfl HZ4.out Tryd.underlying38 rfl zq24) rfl ?_
  have hL := HL.out
  exact ⟨_, _, rfl, Kd.R_lower (Places_R_keep HV3'.out HK4.out (by omega)) (by omega), Kd.R_lower (Places_R_keep HV4'.out HK4.out (by omega)) (by omega), HB3.out.trans HB4.out⟩
mutual
def spec_unit.j0 : Nat → ByteArray → Int → Bool → Option (Int × Bool)
  | 0, _, _, _ => none
  | k + 1, x0, x1, x27 => if x27 = true then (some (0, false)) else (spec_unit.l0 k x0 x1 0 (wrap64 (x1 + 2)))
def spec_unit.l0 : Nat → ByteArray → Int → Int → Int → Option (Int × Bool)
  | 0, _, _, _, _ => none
  | k + 1, x0, x1, x6, x7 => if x7 < (wrap64 (x1 + 6)) then (if 0 ≤ x7 then (if x7 < (x0.size : Int) then ((spec_hexDigit.f k (bt x0 x7)).bind fun bt101 => (if bt101.2 = true then (spec_unit.l0 k x0 x1 (wrap64 ((wrap64 (x6 * 16)) + bt101.1)) (wrap64 (x7 + 1))) else (some (0, false)))) else (none)) else (none)) else (some (x6, true))
end
def spec_unit.f (k : Nat) (a0 : ByteArray) (a1 : Int) : Option (Int × Bool) := if (wrap64 ((a0.size : Int) - a1)) < 6 then (spec_unit.j0 k a0 a1 true) else (if 0 ≤ a1 then (if a1 < (a0.size : Int) then (if (bt a0 a1) = 92 then (if 0 ≤ (wrap64 (a1 + 1)) then (if (wrap64 (a1 + 1)) < (a0.size : Int) then (spec_unit.j0 k a0 a1 ((bt a0 (wrap64 (a1 + 1))) != 117)) else (none)) else (none)) else (spec_unit.j0 k a0 a1 true)) else (none)) else (none))
theorem spec_unit.mono_l : ∀ k, (∀ y0 y1 y2, LeO (spec_unit.j0 k y0 y1 y2) (spec_unit.j0 (k + 1) y0 y1 y2)) ∧ (∀ y0 y1 y2 y3, LeO (spec_unit.l0 k y0 y1 y2 y3) (spec_unit.l0 (k + 1) y0 y1 y2 y3))
 | 0 => ⟨fun _ _ _ r h => by simp [spec_unit.j0] at h, fun _ _ _ _ r h => by simp [spec_unit.l0] at h⟩
 | k + 1 => by
  obtain ⟨ih0, ih1⟩ := spec_unit.mono_l k
  refine ⟨?_, ?_⟩
  ·intro y0 y1 y2
   unfold spec_unit.j0
   repeat' first
   | (with_reducible exact ih0 _ _ _)
   | (with_reducible exact ih1 _ _ _ _)
   | (with_reducible exact spec_hexDigit.mono _ _)
   | (with_reducible exact LeO.refl _)
   | (with_reducible exact LeO.none _)
   | (with_reducible refine LeO.ite ?_ ?_)
   | (with_reducible refine LeO.bind ?_ (fun _ => ?_))
   | exact ih0 _ _ _
   | exact ih1 _ _ _ _
   | exact spec_hexDigit.mono _ _
   | exact LeO.none _
   | refine LeO.ite ?_ ?_
   | refine LeO.bind ?_ (fun _ => ?_)
  ·intro y0 y1 y2 y3
   unfold spec_unit.l0
   repeat' first
   | (with_reducible exact ih0 _ _ _)
   | (with_reducible exact ih1 _ _ _ _)
   | (with_reducible exact spec_hexDigit.mono _ _)
   | (with_reducible exact LeO.refl _)
   | (with_reducible exact LeO.none _)
   | (with_reducible refine LeO.ite ?_ ?_)
   | (with_reducible refine LeO.bind ?_ (fun _ => ?_))
   | exact ih0 _ _ _
   | exact ih1 _ _ _ _
   | exact spec_hexDigit.mono _ _
   | exact LeO.none _
   | refine LeO.ite ?_ ?_
   | refine LeO.bind ?_ (fun _ => ?_)
theorem spec_unit.mono : ∀ a0 a1 k, LeO (spec_unit.f k a0 a1) (spec_unit.f (k + 1) a0 a1) := by
 intro a0 a1 k
 obtain ⟨ih0, ih1⟩ := spec_unit.mono_l k
 unfold spec_unit.f
 repeat' first
  | (with_reducible exact ih0 _ _ _)
  | (with_reducible exact ih1 _ _ _ _)
  | (with_reducible exact spec_hexDigit.mono _ _)
  | (with_reducible exact LeO.refl _)
  | (with_reducible exact LeO.none _)
  | (with_reducible refine LeO.ite ?_ ?_)
  | (with_reducible refine LeO.bind ?_ (fun _ => ?_))
  | exact ih0 _ _ _
  | exact ih1 _ _ _ _
  | exact spec_hexDigit.mono _ _
  | exact LeO.none _
  | refine LeO.ite ?_ ?_
  | refine LeO.bind ?_ (fun _ => ?_)
set_option maxHeartbeats 8000000 in
set_option maxRecDepth 100000 in
theorem spec_unit.calls (k : Nat) (a0 : ByteArray) (a1 : Int) (r1 : Int) (r2 : Bool) (w : World) (h : spec_unit.f k a0 a1 = some (r1, r2)) :
 Calls Tryd.prog 48 #[.string a0, .int .i64 a1] w fun e w' => e = .returned (.tuple #[.int .i64 r1, .bool r2]) ∧ Drawn0 w w' := by
 have H : (if (wrap64 ((a0.size : Int) - a1)) < 6 then (spec_unit.j0 k a0 a1 true) else (if 0 ≤ a1 then (if a1 < (a0.size : Int) then (if (bt a0 a1) = 92 then (if 0 ≤ (wrap64 (a1 + 1)) then (if (wrap64 (a1 + 1)) < (a0.size : Int) then (spec_unit.j0 k a0 a1 ((bt a0 (wrap64 (a1 + 1))) != 117)) else (none)) else (none)) else (spec_unit.j0 k a0 a1 true)) else (none)) else (none))) = some (r1, r2) := h
 clear h
 have HC3 := mk0 H
 clear H
 go_enter Tryd.func48, Tryd.ntmps48
 go_upto_region 1 with (fail)
 go_cut [27] (fun v27 wc => ∃ (kq : Nat) (x27_2 : Bool), v27 = .bool x27_2 ∧ Aside0 (spec_unit.j0 kq a0 a1 x27_2 = some (r1, r2)) ∧ Aside0 (kq ≤ k) ∧ Drawn0 w wc)
 case first =>
  have H := HC3.out
  clear HC3
  by_cases c4 : (wrap64 ((a0.size : Int) - a1)) < 6
  ·rw [if_pos c4] at H
   have c4b0 : decide ((wrap64 ((a0.size : Int) - a1)) < 6) = true := decide_eq_true c4
   clear c4
   (skip)
   have H' := mk0 H
   clear H
   go_wp2
   go_meet
   case rel => exact ⟨_, (true), (by rfl), H', ⟨by omega⟩, by repeat (first | exact Drawn0.refl _ | apply Drawn0.step)⟩
  rw [if_neg c4] at H
  have c4b0 : decide ((wrap64 ((a0.size : Int) - a1)) < 6) = false := decide_eq_false c4
  clear c4
  (skip)
  by_cases c5 : 0 ≤ a1
  rotate_left
  ·rw [if_neg c5] at H
   exact absurd H (by simp)
  rw [if_pos c5] at H
  have c5b0 : decide (0 ≤ a1) = true := decide_eq_true c5
  clear c5
  by_cases c6 : a1 < (a0.size : Int)
  rotate_left
  ·rw [if_neg c6] at H
   exact absurd H (by simp)
  rw [if_pos c6] at H
  have c6b0 : decide (a1 < (a0.size : Int)) = true := decide_eq_true c6
  clear c6
  by_cases c8 : (bt a0 a1) = 92
  rotate_left
  ·rw [if_neg c8] at H
   have c8b0 : ((bt a0 a1) == 92) = false := beq_eq_false_iff_ne.mpr c8
   have c8b1 : ((bt a0 a1) != 92) = true := bne_iff_ne.mpr c8
   have H' := mk0 H
   clear H
   have p7 : 0 ≤ (a1 : Int) := of_decide_eq_true zq5
   have q7 : a1 < (a0.size : Int) := of_decide_eq_true zq5
   have hx7 := bt_at a0 a1
   replace p7 := eq_true p7
   replace q7 := eq_true q7
   go_wp2
   go_meet
   case rel => exact ⟨_, (true), (by rfl), H', ⟨by omega⟩, by repeat (first | exact Drawn0.refl _ | apply Drawn0.step)⟩
  rw [if_pos c8] at H
  have c8b0 : ((bt a0 a1) == 92) = true := beq_iff_eq.mpr c8
  have c8b1 : ((bt a0 a1) != 92) = false := bne_eq_false_iff_eq.mpr c8
  clear c8
  obtain ⟨ji9, hji9⟩ : ∃ j_ : Int, (wrap64 (a1 + 1)) = j_ := ⟨_, rfl⟩
  replace H : (if 0 ≤ (ji9) then (if (ji9) < (a0.size : Int) then (spec_unit.j0 k a0 a1 ((bt a0 (ji9)) != 117)) else (none)) else (none)) = some (r1, r2) := by (rw [hji9] at H; exact H)
  have hji9w : (IntKind.i64.wrap (a1 + 1)) = ji9 := (i64_w _).trans hji9
  by_cases c10 : 0 ≤ (ji9)
  rotate_left
  ·rw [if_neg c10] at H
   exact absurd H (by simp)
  rw [if_pos c10] at H
  have c10b0 : decide (0 ≤ (ji9)) = true := decide_eq_true c10
  clear c10
  by_cases c11 : (ji9) < (a0.size : Int)
  rotate_left
  ·rw [if_neg c11] at H
   exact absurd H (by simp)
  rw [if_pos c11] at H
  have c11b0 : decide ((ji9) < (a0.size : Int)) = true := decide_eq_true c11
  clear c11
  have H' := mk0 H
  clear H
  have p7 : 0 ≤ (a1 : Int) := of_decide_eq_true zq5
  have q7 : a1 < (a0.size : Int) := of_decide_eq_true zq5
  have hx7 := bt_at a0 a1
  replace p7 := eq_true p7
  replace q7 := eq_true q7
  have p12 : 0 ≤ ((ji9) : Int) := of_decide_eq_true zq5
  have q12 : (ji9) < (a0.size : Int) := of_decide_eq_true zq5
  have hx12 := bt_at a0 (ji9)
  replace p12 := eq_true p12
  replace q12 := eq_true q12
  go_wp2
  (try simp only [← hji9])
  go_meet
  case rel => exact ⟨_, (((bt a0 (ji9)) != 117)), (by (simp only [← hji9] <;> (first | rfl | (simp; done)))), (by exact H'), ⟨by omega⟩, by repeat (first | exact Drawn0.refl _ | apply Drawn0.step)⟩
 case rest =>
  clear HC3
  obtain ⟨kq, x27_2, rfl, HA, HJ2, ⟨mc2, rfl⟩⟩ := hcut
  cases kq with
  | zero => exact absurd HA.out (by simp [spec_unit.j0])
  | succ kj2 =>
   have H := HA.out
   clear HA
   simp only [spec_unit.j0] at H
   by_cases c13 : x27_2 = true
   ·subst c13
    rw [if_pos rfl] at H
    simp only [Option.some.injEq, Prod.mk.injEq] at H
    obtain ⟨rfl, rfl⟩ := H
    go_wp2
    go_ret2
    exact ⟨by rfl, by repeat (first | exact Drawn0.refl _ | apply Drawn0.step)⟩
   replace c13 := Bool.eq_false_iff.mpr c13
   subst c13
   rw [if_neg (show ¬ (false = true) by decide)] at H
   have H' := mk0 H
   clear H
   go_wp2
   go_loopg [6, 7] kj2 (fun kq v6 v7 w' => ∃ (x6_2 : Int) (x7_2 : Int), v6 = .int .i64 x6_2 ∧ v7 = .int .i64 x7_2 ∧ Aside0 (spec_unit.l0 kq a0 a1 x6_2 x7_2 = some (r1, r2)) ∧ Aside0 (kq ≤ kj2) ∧ Drawn0 w w')
   case atStart => exact ⟨(0), (wrap64 (a1 + 2)), (by rfl), (by rfl), H', ⟨Nat.le_refl _⟩, by repeat (first | exact Drawn0.refl _ | apply Drawn0.step)⟩
   case round =>
    clear H'
    obtain ⟨x6_2, x7_2, rfl, rfl, HA, HK2, ⟨m2, rfl⟩⟩ := hrel
    cases gk with
    | zero => exact absurd HA.out (by simp [spec_unit.l0])
    | succ k2 =>
     have H := HA.out
     clear HA
     simp only [spec_unit.l0] at H
     by_cases c14 : x7_2 < (wrap64 (a1 + 6))
     rotate_left
     ·rw [if_neg c14] at H
      have c14b0 : decide (x7_2 < (wrap64 (a1 + 6))) = false := decide_eq_false c14
      clear c14
      simp only [Option.some.injEq, Prod.mk.injEq] at H
      obtain ⟨rfl, rfl⟩ := H
      go_wp2
      go_ret2
      exact ⟨by rfl, by repeat (first | exact Drawn0.refl _ | apply Drawn0.step)⟩
     rw [if_pos c14] at H
     have c14b0 : decide (x7_2 < (wrap64 (a1 + 6))) = true := decide_eq_true c14
     clear c14
     by_cases c15 : 0 ≤ x7_2
     rotate_left
     ·rw [if_neg c15] at H
      exact absurd H (by simp)
     rw [if_pos c15] at H
     have c15b0 : decide (0 ≤ x7_2) = true := decide_eq_true c15
     clear c15
     by_cases c16 : x7_2 < (a0.size : Int)
     rotate_left
     ·rw [if_neg c16] at H
      exact absurd H (by simp)
     rw [if_pos c16] at H
     have c16b0 : decide (x7_2 < (a0.size : Int)) = true := decide_eq_true c16
     clear c16
     replace H := Option.bind_eq_some_iff.mp H
     obtain ⟨⟨t101, t102⟩, A180, H⟩ := H
     (try dsimp only at H)
     have A18 := mk0 A180
     clear A180
     by_cases c19 : t102 = true
     rotate_left
     ·replace c19 := Bool.eq_false_iff.mpr c19
      subst c19
      rw [if_neg (show ¬ (false = true) by decide)] at H
      simp only [Option.some.injEq, Prod.mk.injEq] at H
      obtain ⟨rfl, rfl⟩ := H
      have p17 : 0 ≤ (x7_2 : Int) := of_decide_eq_true zq5
      have q17 : x7_2 < (a0.size : Int) := of_decide_eq_true zq5
      have hx17 := bt_at a0 x7_2
      replace p17 := eq_true p17
      replace q17 := eq_true q17
      go_wp2_with (first | ((with_reducible refine gate_callee (f := 47) rfl ?_); refine goesL_ (some 40) rfl rfl Tryd.func47 zq24 rfl #[.int .u8 (bt a0 x7_2)] rfl zq0 ?_; (with_reducible refine (spec_hexDigit.calls k2 (bt a0 x7_2) t101 false _ A18.out).mono ?_); rintro e w' ⟨rfl, ⟨nd, rfl⟩⟩; refine ⟨_, rfl, ?_⟩))
      go_ret2
      exact ⟨by rfl, by repeat (first | exact Drawn0.refl _ | apply Drawn0.step)⟩
     subst c19
     rw [if_pos rfl] at H
     have H' := mk0 H
     clear H
     have p17 : 0 ≤ (x7_2 : Int) := of_decide_eq_true zq5
     have q17 : x7_2 < (a0.size : Int) := of_decide_eq_true zq5
     have hx17 := bt_at a0 x7_2
     replace p17 := eq_true p17
     replace q17 := eq_true q17
     go_wp2_with (first | ((with_reducible refine gate_callee (f := 47) rfl ?_); refine goesL_ (some 40) rfl rfl Tryd.func47 zq24 rfl #[.int .u8 (bt a0 x7_2)] rfl zq0 ?_; (with_reducible refine (spec_hexDigit.calls k2 (bt a0 x7_2) t101 true _ A18.out).mono ?_); rintro e w' ⟨rfl, ⟨nd, rfl⟩⟩; refine ⟨_, rfl, ?_⟩))
     go_roundg k2
     case measure => have := HJ2.out; have := HK2.out; omega
     case rel => exact ⟨(wrap64 ((wrap64 (x6_2 * 16)) + t101)), (wrap64 (x7_2 + 1)), (by rfl), (by rfl), H', ⟨by have := HJ2.out; have := HK2.out; omega⟩, by repeat (first | exact Drawn0.refl _ | apply Drawn0.step)⟩
end Go.Proofs.YtlokkefnbffjnaaDoor.J
end
