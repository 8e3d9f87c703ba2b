/-
  WALK: newMatcher (31), the making of the struct and its four rows, in whatever order.
-/
import Derived.Test.Qxb6600140aMade
import Derived.WalkKit
import Derived.WalkSpells
import Derived.BigQuiet
import Derived.BigRegion
import Derived.ProofKit
import Derived.Deep.OwnRows
import Derived.Deep.DeepCutAuto
import Derived.Deep.CutBlock
import Derived.Deep.RegionHeld3
import Derived.Deep.AppendLies
import Derived.Laws.Tables
namespace Go.Proofs.Qxb6600140a
open Go.RowKit Go.Proofs.Qxb6600140a.Plain

/-! The literal of the matcher, of type 46: a struct with a row of 256 numbers in it. The walk would open it cell by cell; so the type goes by a name that the walk does not open, and each step of the literal is a fact. -/
def t46 : TypeId := 46
def zc46 : Array Value := (List.replicate 256 (Value.int .i32 0) ++ List.replicate 4 (Value.slice none 0 0)).toArray
def fieldsAt (P : Program) : Array Field := match P.underlying 46 with
  | some (.struct fs) => fs
  | _ => #[]
theorem zero46 : (Try.prog.info? 46).map (fun i => i.zero) = some (some (.agg zc46)) := by kernel_rfl
theorem under46 : Try.prog.underlying 46 = some (.struct (fieldsAt Try.prog)) := by kernel_rfl
theorem places46 : (fieldsAt Try.prog).toList.mapM (fun f => (Try.prog.info? f.type).map fun i => (f.offset, i.size)) = some [(0, 256), (256, 1), (257, 1), (258, 1), (259, 1)] := by kernel_rfl

theorem s46a (w : World) : (zeroValue t46).run Try.prog w = .ok (.agg zc46) w := by
  have h := zero46
  show (zeroValue 46).run Try.prog w = _
  cases hi : Try.prog.info? 46 with
  | none => rw [hi] at h; cases h
  | some i =>
    rw [hi] at h
    have hz : i.zero = some (.agg zc46) := by simpa using h
    simp [zeroValue, typeInfo, hi, hz]
theorem s46b (w : World) : (underlying t46).run Try.prog w = .ok (.struct (fieldsAt Try.prog)) w := run_underlying under46 w
theorem s46c (w : World) : (Array.mapM (fun f => Prod.mk f.offset <$> sizeOf f.type) (fieldsAt Try.prog)).run Try.prog w = .ok #[(0, 256), (256, 1), (257, 1), (258, 1), (259, 1)] w := by
  rw [Array.mapM_eq_mapM_toList]
  simp [run_places w _ _ places46]
theorem s46d : zc46.size = 260 := by kernel_rfl
theorem s46e (v1 v2 v3 v4 : Value) : (((zc46.setIfInBounds 256 v1).setIfInBounds 257 v2).setIfInBounds 258 v3).setIfInBounds 259 v4 = mcells v1 v2 v3 v4 := by kernel_rfl
attribute [local go_sem] s46a
attribute [local go_sem] s46b
attribute [local go_sem] s46c
attribute [local go_sem] s46d
attribute [local go_sem] s46e

/-- Region n of a text. -/
def reg (n : Nat) : Code → Option Code
  | .region m ops d => if m = n then some (.region m ops d) else none
  | .block _ c => reg n c
  | .seq a b => match reg n a with
    | some c => some c
    | none => reg n b
  | .loop c => reg n c
  | .scope c => reg n c
  | .cond _ a b => match reg n a with
    | some c => some c
    | none => reg n b
  | _ => none

set_option maxRecDepth 1000000 in
set_option maxHeartbeats 8000000 in
theorem region9 (w : World) (m N : Nat) (hN : N ≤ 1048577) (Q0 : Exit → Act → World → Prop)
    (u0 u1 u2 u4 u5 u7 u8 u9 u10 u11 u12 u13 u14 u15 u16 u17 u18 u19 u20 u21 u22 u23 u24 u25 u26 u27 u28 u29 u30 u31 u32 u33 u34 u35 u36 u37 u38 u39 u51 u52 u53 u54 u55 u56 u57 u58 u59 u60 u61 u62 u63 u64 u65 u66 u67 u68 u69 u70 u71 u72 u73 u74 u75 u76 u77 u78 u79 u80 u81 u82 u83 u84 u85 u86 u87 u88 u89 u90 u91 u92 u93 u94 u95 u96 u97 u98 u99 u100 u101 u102 u103 u104 u105 u106 u107 u108 u109 u110 u111 u112 u113 u114 u115 u116 u117 u118 u119 u120 u121 u122 u123 u124 u125 u126 u127 u128 u129 u130 u131 u132 u133 u134 u135 u136 u137 u138 u139 u140 u141 u142 u143 u144 u145 u146 u147 u148 u149 u150 u151 u152 u153 u154 u155 u156 u157 u158 u159 u160 u161 u162 u163 u164 u165 u166 u167 u168 u169 u170 u171 u172 u173 u174 u175 u176 u177 u178 u179 u180 u181 u182 u183 u184 u185 u186 u187 u188 u189 u190 u191 u192 u193 u194 u195 u196 u197 u198 u199 u200 u201 u202 u203 u204 : Value) (y6 y40 y41 y42 y43 y44 y45 y46 y47 y48 y49 y50 : Value)
    (hexit : ∀ (x6 x40 x41 x42 x43 x44 x45 x46 x47 x48 x49 x50 : Value) (wx : World), Made w N x6 wx → Q0 .normal ⟨#[u0, u1, u2, .int .i64 (N : Int), u4, u5, x6, u7, u8, u9, u10, u11, u12, u13, u14, u15, u16, u17, u18, u19, u20, u21, u22, u23, u24, u25, u26, u27, u28, u29, u30, u31, u32, u33, u34, u35, u36, u37, u38, u39, x40, x41, x42, x43, x44, x45, x46, x47, x48, x49, x50, u51, u52, u53, u54, u55, u56, u57, u58, u59, u60, u61, u62, u63, u64, u65, u66, u67, u68, u69, u70, u71, u72, u73, u74, u75, u76, u77, u78, u79, u80, u81, u82, u83, u84, u85, u86, u87, u88, u89, u90, u91, u92, u93, u94, u95, u96, u97, u98, u99, u100, u101, u102, u103, u104, u105, u106, u107, u108, u109, u110, u111, u112, u113, u114, u115, u116, u117, u118, u119, u120, u121, u122, u123, u124, u125, u126, u127, u128, u129, u130, u131, u132, u133, u134, u135, u136, u137, u138, u139, u140, u141, u142, u143, u144, u145, u146, u147, u148, u149, u150, u151, u152, u153, u154, u155, u156, u157, u158, u159, u160, u161, u162, u163, u164, u165, u166, u167, u168, u169, u170, u171, u172, u173, u174, u175, u176, u177, u178, u179, u180, u181, u182, u183, u184, u185, u186, u187, u188, u189, u190, u191, u192, u193, u194, u195, u196, u197, u198, u199, u200, u201, u202, u203, u204], []⟩ wx) :
    Code.wp Try.prog ((Try.f31.body.bind (reg 9)).getD .skip) Q0 ⟨#[u0, u1, u2, .int .i64 (N : Int), u4, u5, y6, u7, u8, u9, u10, u11, u12, u13, u14, u15, u16, u17, u18, u19, u20, u21, u22, u23, u24, u25, u26, u27, u28, u29, u30, u31, u32, u33, u34, u35, u36, u37, u38, u39, y40, y41, y42, y43, y44, y45, y46, y47, y48, y49, y50, u51, u52, u53, u54, u55, u56, u57, u58, u59, u60, u61, u62, u63, u64, u65, u66, u67, u68, u69, u70, u71, u72, u73, u74, u75, u76, u77, u78, u79, u80, u81, u82, u83, u84, u85, u86, u87, u88, u89, u90, u91, u92, u93, u94, u95, u96, u97, u98, u99, u100, u101, u102, u103, u104, u105, u106, u107, u108, u109, u110, u111, u112, u113, u114, u115, u116, u117, u118, u119, u120, u121, u122, u123, u124, u125, u126, u127, u128, u129, u130, u131, u132, u133, u134, u135, u136, u137, u138, u139, u140, u141, u142, u143, u144, u145, u146, u147, u148, u149, u150, u151, u152, u153, u154, u155, u156, u157, u158, u159, u160, u161, u162, u163, u164, u165, u166, u167, u168, u169, u170, u171, u172, u173, u174, u175, u176, u177, u178, u179, u180, u181, u182, u183, u184, u185, u186, u187, u188, u189, u190, u191, u192, u193, u194, u195, u196, u197, u198, u199, u200, u201, u202, u203, u204], []⟩ (w.drewN m) := by
  have mk1 : ∀ w, (Instr.makeSlice 41 (.int .i64 (N : Int)) (.int .i64 (N : Int))).run Try.prog w = .ok (.slice (some ⟨w.heap.size, 0, none⟩) N N) (w.alloc (.cells (madeCells #[.int .u8 0] N) 5)) :=
    fun w => run_make_row' 41 5 (.int .u8 0) 1 Try.underlying41 info5 rfl .i64 .i64 N (by omega) (by omega) w
  have mk2 : ∀ w, (Instr.makeSlice 44 (.int .i64 (N : Int)) (.int .i64 (N : Int))).run Try.prog w = .ok (.slice (some ⟨w.heap.size, 0, none⟩) N N) (w.alloc (.cells (madeCells #[.int .i32 0] N) 21)) :=
    fun w => run_make_row' 44 21 (.int .i32 0) 4 Try.underlying44 info21 rfl .i64 .i64 N (by omega) (by omega) w
  have mk3 : ∀ w, (Instr.makeSlice 44 (.int .i64 ((N + 1 : Nat) : Int)) (.int .i64 ((N + 1 : Nat) : Int))).run Try.prog w = .ok (.slice (some ⟨w.heap.size, 0, none⟩) (N + 1) (N + 1)) (w.alloc (.cells (madeCells #[.int .i32 0] (N + 1)) 21)) :=
    fun w => run_make_row' 44 21 (.int .i32 0) 4 Try.underlying44 info21 rfl .i64 .i64 (N + 1) (by omega) (by omega) w
  rw [show ((N + 1 : Nat) : Int) = (N : Int) + 1 from by omega] at mk3
  conv => arg 2; whnf
  dsimp only
  have HX : Hid (∀ (x6 x40 x41 x42 x43 x44 x45 x46 x47 x48 x49 x50 : Value) (wx : World), Made w N x6 wx → Q0 .normal ⟨#[u0, u1, u2, .int .i64 (N : Int), u4, u5, x6, u7, u8, u9, u10, u11, u12, u13, u14, u15, u16, u17, u18, u19, u20, u21, u22, u23, u24, u25, u26, u27, u28, u29, u30, u31, u32, u33, u34, u35, u36, u37, u38, u39, x40, x41, x42, x43, x44, x45, x46, x47, x48, x49, x50, u51, u52, u53, u54, u55, u56, u57, u58, u59, u60, u61, u62, u63, u64, u65, u66, u67, u68, u69, u70, u71, u72, u73, u74, u75, u76, u77, u78, u79, u80, u81, u82, u83, u84, u85, u86, u87, u88, u89, u90, u91, u92, u93, u94, u95, u96, u97, u98, u99, u100, u101, u102, u103, u104, u105, u106, u107, u108, u109, u110, u111, u112, u113, u114, u115, u116, u117, u118, u119, u120, u121, u122, u123, u124, u125, u126, u127, u128, u129, u130, u131, u132, u133, u134, u135, u136, u137, u138, u139, u140, u141, u142, u143, u144, u145, u146, u147, u148, u149, u150, u151, u152, u153, u154, u155, u156, u157, u158, u159, u160, u161, u162, u163, u164, u165, u166, u167, u168, u169, u170, u171, u172, u173, u174, u175, u176, u177, u178, u179, u180, u181, u182, u183, u184, u185, u186, u187, u188, u189, u190, u191, u192, u193, u194, u195, u196, u197, u198, u199, u200, u201, u202, u203, u204], []⟩ wx) := hexit
  clear hexit
  rw [show Op.build 46 = Op.build t46 from rfl]
  go_region
  all_goals
    refine HX.out _ _ _ _ _ _ _ _ _ _ _ _ _ ?_
    refine made_mk (five4 w _ _ _ _ _ _) ?_ ?_ ?_ ?_ (five_below w _ _ _ _ _ _) (five_size w _ _ _ _ _ _) ?_
    · first | exact five0 w _ _ _ _ _ _ | exact five1 w _ _ _ _ _ _ | exact five2 w _ _ _ _ _ _ | exact five3 w _ _ _ _ _ _
    · first | exact five0 w _ _ _ _ _ _ | exact five1 w _ _ _ _ _ _ | exact five2 w _ _ _ _ _ _ | exact five3 w _ _ _ _ _ _
    · first | exact five0 w _ _ _ _ _ _ | exact five1 w _ _ _ _ _ _ | exact five2 w _ _ _ _ _ _ | exact five3 w _ _ _ _ _ _
    · first | exact five0 w _ _ _ _ _ _ | exact five1 w _ _ _ _ _ _ | exact five2 w _ _ _ _ _ _ | exact five3 w _ _ _ _ _ _
    · exact ok_of (by omega) (by omega) (by omega) (by omega) (by omega) (by omega) (by omega) (by omega) (by omega) (by omega) (by omega) (by omega) (by omega) (by omega) (by omega)

end Go.Proofs.Qxb6600140a
