import PyProof.Rows.All
import Wide.All
import OpenK.AllK
import Wide.FinOn
import Lean
import PySem.Challenge.RW_sn0121_01

section
open PySem PySem.W PyProof.Rows
set_option Elab.async false
set_option maxRecDepth 100000
set_option maxHeartbeats 8000000
namespace Mine
section
local macro_rules | `(tactic| o_head $_) => `(tactic| skip)
theorem pre (h : PySem.Challenge.rw_sn0121_01.row.Holds) : PySem.Challenge.rw_sn0121_01.row.Holds := by
  k_head
  exact h
end
def getR {α : Type} {x : α} (_ : some x = some x) : α := x
noncomputable def ho_2 : Params → Obj := fun P => getR (rfl : some _ = List.lookup (nat_lit 2) (pre.heap_1 P))
noncomputable def ho_3 : Params → Obj := fun P => getR (rfl : some _ = List.lookup (nat_lit 3) (pre.heap_1 P))
noncomputable def ho_6 : Params → Obj := fun P => getR (rfl : some _ = List.lookup (nat_lit 6) (pre.heap_1 P))
noncomputable def ho_15 : Params → Obj := fun P => getR (rfl : some _ = List.lookup (nat_lit 15) (pre.heap_1 P))
noncomputable def ho_17 : Params → Obj := fun P => getR (rfl : some _ = List.lookup (nat_lit 17) (pre.heap_1 P))
noncomputable def ho_18 : Params → Obj := fun P => getR (rfl : some _ = List.lookup (nat_lit 18) (pre.heap_1 P))
noncomputable def ho_20 : Params → Obj := fun P => getR (rfl : some _ = List.lookup (nat_lit 20) (pre.heap_1 P))
noncomputable def ho_21 : Params → Obj := fun P => getR (rfl : some _ = List.lookup (nat_lit 21) (pre.heap_1 P))
noncomputable def ho_22 : Params → Obj := fun P => getR (rfl : some _ = List.lookup (nat_lit 22) (pre.heap_1 P))
noncomputable def ho_24 : Params → Obj := fun P => getR (rfl : some _ = List.lookup (nat_lit 24) (pre.heap_1 P))
noncomputable def ho_25 : Params → Obj := fun P => getR (rfl : some _ = List.lookup (nat_lit 25) (pre.heap_1 P))
noncomputable def ho_27 : Params → Obj := fun P => getR (rfl : some _ = List.lookup (nat_lit 27) (pre.heap_1 P))
noncomputable def ho_28 : Params → Obj := fun P => getR (rfl : some _ = List.lookup (nat_lit 28) (pre.heap_1 P))
noncomputable def ho_29 : Params → Obj := fun P => getR (rfl : some _ = List.lookup (nat_lit 29) (pre.heap_1 P))
noncomputable def ho_31 : Params → Obj := fun P => getR (rfl : some _ = List.lookup (nat_lit 31) (pre.heap_1 P))
noncomputable def ho_32 : Params → Obj := fun P => getR (rfl : some _ = List.lookup (nat_lit 32) (pre.heap_1 P))
noncomputable def ho_34 : Params → Obj := fun P => getR (rfl : some _ = List.lookup (nat_lit 34) (pre.heap_1 P))
noncomputable def ho_35 : Params → Obj := fun P => getR (rfl : some _ = List.lookup (nat_lit 35) (pre.heap_1 P))
noncomputable def ho_36 : Params → Obj := fun P => getR (rfl : some _ = List.lookup (nat_lit 36) (pre.heap_1 P))
noncomputable def ho_38 : Params → Obj := fun P => getR (rfl : some _ = List.lookup (nat_lit 38) (pre.heap_1 P))
noncomputable def ho_39 : Params → Obj := fun P => getR (rfl : some _ = List.lookup (nat_lit 39) (pre.heap_1 P))
noncomputable def ho_41 : Params → Obj := fun P => getR (rfl : some _ = List.lookup (nat_lit 41) (pre.heap_1 P))
noncomputable def ho_42 : Params → Obj := fun P => getR (rfl : some _ = List.lookup (nat_lit 42) (pre.heap_1 P))
noncomputable def ho_43 : Params → Obj := fun P => getR (rfl : some _ = List.lookup (nat_lit 43) (pre.heap_1 P))
noncomputable def ho_45 : Params → Obj := fun P => getR (rfl : some _ = List.lookup (nat_lit 45) (pre.heap_1 P))
noncomputable def ho_46 : Params → Obj := fun P => getR (rfl : some _ = List.lookup (nat_lit 46) (pre.heap_1 P))
noncomputable def ho_48 : Params → Obj := fun P => getR (rfl : some _ = List.lookup (nat_lit 48) (pre.heap_1 P))
noncomputable def ho_49 : Params → Obj := fun P => getR (rfl : some _ = List.lookup (nat_lit 49) (pre.heap_1 P))
noncomputable def ho_50 : Params → Obj := fun P => getR (rfl : some _ = List.lookup (nat_lit 50) (pre.heap_1 P))
noncomputable def ho_52 : Params → Obj := fun P => getR (rfl : some _ = List.lookup (nat_lit 52) (pre.heap_1 P))
noncomputable def ho_53 : Params → Obj := fun P => getR (rfl : some _ = List.lookup (nat_lit 53) (pre.heap_1 P))
noncomputable def ho_55 : Params → Obj := fun P => getR (rfl : some _ = List.lookup (nat_lit 55) (pre.heap_1 P))
noncomputable def ho_56 : Params → Obj := fun P => getR (rfl : some _ = List.lookup (nat_lit 56) (pre.heap_1 P))
noncomputable def ho_57 : Params → Obj := fun P => getR (rfl : some _ = List.lookup (nat_lit 57) (pre.heap_1 P))
noncomputable def ho_59 : Params → Obj := fun P => getR (rfl : some _ = List.lookup (nat_lit 59) (pre.heap_1 P))
noncomputable def ho_60 : Params → Obj := fun P => getR (rfl : some _ = List.lookup (nat_lit 60) (pre.heap_1 P))
noncomputable def ho_62 : Params → Obj := fun P => getR (rfl : some _ = List.lookup (nat_lit 62) (pre.heap_1 P))
noncomputable def ho_63 : Params → Obj := fun P => getR (rfl : some _ = List.lookup (nat_lit 63) (pre.heap_1 P))
noncomputable def ho_64 : Params → Obj := fun P => getR (rfl : some _ = List.lookup (nat_lit 64) (pre.heap_1 P))
noncomputable def ho_66 : Params → Obj := fun P => getR (rfl : some _ = List.lookup (nat_lit 66) (pre.heap_1 P))
noncomputable def ho_67 : Params → Obj := fun P => getR (rfl : some _ = List.lookup (nat_lit 67) (pre.heap_1 P))
noncomputable def ho_69 : Params → Obj := fun P => getR (rfl : some _ = List.lookup (nat_lit 69) (pre.heap_1 P))
noncomputable def ho_70 : Params → Obj := fun P => getR (rfl : some _ = List.lookup (nat_lit 70) (pre.heap_1 P))
noncomputable def ho_71 : Params → Obj := fun P => getR (rfl : some _ = List.lookup (nat_lit 71) (pre.heap_1 P))
noncomputable def ho_73 : Params → Obj := fun P => getR (rfl : some _ = List.lookup (nat_lit 73) (pre.heap_1 P))
noncomputable def ho_74 : Params → Obj := fun P => getR (rfl : some _ = List.lookup (nat_lit 74) (pre.heap_1 P))
noncomputable def ho_76 : Params → Obj := fun P => getR (rfl : some _ = List.lookup (nat_lit 76) (pre.heap_1 P))
noncomputable def ho_77 : Params → Obj := fun P => getR (rfl : some _ = List.lookup (nat_lit 77) (pre.heap_1 P))
noncomputable def ho_85 : Params → Obj := fun P => getR (rfl : some _ = List.lookup (nat_lit 85) (pre.heap_1 P))
noncomputable def ho_86 : Params → Obj := fun P => getR (rfl : some _ = List.lookup (nat_lit 86) (pre.heap_1 P))
noncomputable def ho_89 : Params → Obj := fun P => getR (rfl : some _ = List.lookup (nat_lit 89) (pre.heap_1 P))
noncomputable def ho_90 : Params → Obj := fun P => getR (rfl : some _ = List.lookup (nat_lit 90) (pre.heap_1 P))
noncomputable def ho_91 : Params → Obj := fun P => getR (rfl : some _ = List.lookup (nat_lit 91) (pre.heap_1 P))
noncomputable def ho_93 : Params → Obj := fun P => getR (rfl : some _ = List.lookup (nat_lit 93) (pre.heap_1 P))
noncomputable def ho_94 : Params → Obj := fun P => getR (rfl : some _ = List.lookup (nat_lit 94) (pre.heap_1 P))
noncomputable def ho_96 : Params → Obj := fun P => getR (rfl : some _ = List.lookup (nat_lit 96) (pre.heap_1 P))
noncomputable def ho_97 : Params → Obj := fun P => getR (rfl : some _ = List.lookup (nat_lit 97) (pre.heap_1 P))
noncomputable def ho_98 : Params → Obj := fun P => getR (rfl : some _ = List.lookup (nat_lit 98) (pre.heap_1 P))
noncomputable def ho_99 : Params → Obj := fun P => getR (rfl : some _ = List.lookup (nat_lit 99) (pre.heap_1 P))
noncomputable def ho_100 : Params → Obj := fun P => getR (rfl : some _ = List.lookup (nat_lit 100) (pre.heap_1 P))
noncomputable def ho_101 : Params → Obj := fun P => getR (rfl : some _ = List.lookup (nat_lit 101) (pre.heap_1 P))
noncomputable def ho_102 : Params → Obj := fun P => getR (rfl : some _ = List.lookup (nat_lit 102) (pre.heap_1 P))
noncomputable def ho_105 : Params → Obj := fun P => getR (rfl : some _ = List.lookup (nat_lit 105) (pre.heap_1 P))
noncomputable def ho_107 : Params → Obj := fun P => getR (rfl : some _ = List.lookup (nat_lit 107) (pre.heap_1 P))
noncomputable def ho_108 : Params → Obj := fun P => getR (rfl : some _ = List.lookup (nat_lit 108) (pre.heap_1 P))
noncomputable def ho_110 : Params → Obj := fun P => getR (rfl : some _ = List.lookup (nat_lit 110) (pre.heap_1 P))
noncomputable def ho_111 : Params → Obj := fun P => getR (rfl : some _ = List.lookup (nat_lit 111) (pre.heap_1 P))
noncomputable def ho_112 : Params → Obj := fun P => getR (rfl : some _ = List.lookup (nat_lit 112) (pre.heap_1 P))
noncomputable def ho_115 : Params → Obj := fun P => getR (rfl : some _ = List.lookup (nat_lit 115) (pre.heap_1 P))
noncomputable def ho_116 : Params → Obj := fun P => getR (rfl : some _ = List.lookup (nat_lit 116) (pre.heap_1 P))
noncomputable def ho_117 : Params → Obj := fun P => getR (rfl : some _ = List.lookup (nat_lit 117) (pre.heap_1 P))
noncomputable def ho_119 : Params → Obj := fun P => getR (rfl : some _ = List.lookup (nat_lit 119) (pre.heap_1 P))
noncomputable def ho_120 : Params → Obj := fun P => getR (rfl : some _ = List.lookup (nat_lit 120) (pre.heap_1 P))
noncomputable def ho_122 : Params → Obj := fun P => getR (rfl : some _ = List.lookup (nat_lit 122) (pre.heap_1 P))
noncomputable def ho_123 : Params → Obj := fun P => getR (rfl : some _ = List.lookup (nat_lit 123) (pre.heap_1 P))
noncomputable def ho_124 : Params → Obj := fun P => getR (rfl : some _ = List.lookup (nat_lit 124) (pre.heap_1 P))
noncomputable def ho_127 : Params → Obj := fun P => getR (rfl : some _ = List.lookup (nat_lit 127) (pre.heap_1 P))
noncomputable def ho_128 : Params → Obj := fun P => getR (rfl : some _ = List.lookup (nat_lit 128) (pre.heap_1 P))
noncomputable def ho_129 : Params → Obj := fun P => getR (rfl : some _ = List.lookup (nat_lit 129) (pre.heap_1 P))
noncomputable def ho_131 : Params → Obj := fun P => getR (rfl : some _ = List.lookup (nat_lit 131) (pre.heap_1 P))
noncomputable def ho_132 : Params → Obj := fun P => getR (rfl : some _ = List.lookup (nat_lit 132) (pre.heap_1 P))
noncomputable def ho_134 : Params → Obj := fun P => getR (rfl : some _ = List.lookup (nat_lit 134) (pre.heap_1 P))
noncomputable def ho_135 : Params → Obj := fun P => getR (rfl : some _ = List.lookup (nat_lit 135) (pre.heap_1 P))
noncomputable def ho_136 : Params → Obj := fun P => getR (rfl : some _ = List.lookup (nat_lit 136) (pre.heap_1 P))
noncomputable def ho_139 : Params → Obj := fun P => getR (rfl : some _ = List.lookup (nat_lit 139) (pre.heap_1 P))
noncomputable def ho_140 : Params → Obj := fun P => getR (rfl : some _ = List.lookup (nat_lit 140) (pre.heap_1 P))
noncomputable def hg_0 : Nat → Params → Obj := fun n P => List.getD [ho_2 P, ho_3 P, ho_6 P, ho_15 P, ho_17 P, ho_18 P, ho_20 P, ho_21 P, ho_22 P] n (ho_2 P)
noncomputable def hg_1 : Nat → Params → Obj := fun n P => List.getD [ho_24 P, ho_25 P, ho_27 P, ho_28 P, ho_29 P, ho_31 P, ho_32 P, ho_34 P, ho_35 P] n (ho_24 P)
noncomputable def hg_2 : Nat → Params → Obj := fun n P => List.getD [ho_36 P, ho_38 P, ho_39 P, ho_41 P, ho_42 P, ho_43 P, ho_45 P, ho_46 P, ho_48 P] n (ho_36 P)
noncomputable def hg_3 : Nat → Params → Obj := fun n P => List.getD [ho_49 P, ho_50 P, ho_52 P, ho_53 P, ho_55 P, ho_56 P, ho_57 P, ho_59 P, ho_60 P] n (ho_49 P)
noncomputable def hg_4 : Nat → Params → Obj := fun n P => List.getD [ho_62 P, ho_63 P, ho_64 P, ho_66 P, ho_67 P, ho_69 P, ho_70 P, ho_71 P, ho_73 P] n (ho_62 P)
noncomputable def hg_5 : Nat → Params → Obj := fun n P => List.getD [ho_74 P, ho_76 P, ho_77 P, ho_85 P, ho_86 P, ho_89 P, ho_90 P, ho_91 P, ho_93 P] n (ho_74 P)
noncomputable def hg_6 : Nat → Params → Obj := fun n P => List.getD [ho_94 P, ho_96 P, ho_97 P, ho_98 P, ho_99 P, ho_100 P, ho_101 P, ho_102 P, ho_105 P] n (ho_94 P)
noncomputable def hg_7 : Nat → Params → Obj := fun n P => List.getD [ho_107 P, ho_108 P, ho_110 P, ho_111 P, ho_112 P, ho_115 P, ho_116 P, ho_117 P, ho_119 P] n (ho_107 P)
noncomputable def hg_8 : Nat → Params → Obj := fun n P => List.getD [ho_120 P, ho_122 P, ho_123 P, ho_124 P, ho_127 P, ho_128 P, ho_129 P, ho_131 P, ho_132 P] n (ho_120 P)
noncomputable def hg_9 : Nat → Params → Obj := fun n P => List.getD [ho_134 P, ho_135 P, ho_136 P, ho_139 P, ho_140 P] n (ho_134 P)
noncomputable def heapK : Params → Frag := fun P => (nat_lit 2, hg_0 (nat_lit 0) P) :: (nat_lit 3, hg_0 (nat_lit 1) P) :: (nat_lit 6, hg_0 (nat_lit 2) P) :: (nat_lit 15, hg_0 (nat_lit 3) P) :: (nat_lit 17, hg_0 (nat_lit 4) P) :: (nat_lit 18, hg_0 (nat_lit 5) P) :: (nat_lit 20, hg_0 (nat_lit 6) P) :: (nat_lit 21, hg_0 (nat_lit 7) P) :: (nat_lit 22, hg_0 (nat_lit 8) P) :: (nat_lit 24, hg_1 (nat_lit 0) P) :: (nat_lit 25, hg_1 (nat_lit 1) P) :: (nat_lit 27, hg_1 (nat_lit 2) P) :: (nat_lit 28, hg_1 (nat_lit 3) P) :: (nat_lit 29, hg_1 (nat_lit 4) P) :: (nat_lit 31, hg_1 (nat_lit 5) P) :: (nat_lit 32, hg_1 (nat_lit 6) P) :: (nat_lit 34, hg_1 (nat_lit 7) P) :: (nat_lit 35, hg_1 (nat_lit 8) P) :: (nat_lit 36, hg_2 (nat_lit 0) P) :: (nat_lit 38, hg_2 (nat_lit 1) P) :: (nat_lit 39, hg_2 (nat_lit 2) P) :: (nat_lit 41, hg_2 (nat_lit 3) P) :: (nat_lit 42, hg_2 (nat_lit 4) P) :: (nat_lit 43, hg_2 (nat_lit 5) P) :: (nat_lit 45, hg_2 (nat_lit 6) P) :: (nat_lit 46, hg_2 (nat_lit 7) P) :: (nat_lit 48, hg_2 (nat_lit 8) P) :: (nat_lit 49, hg_3 (nat_lit 0) P) :: (nat_lit 50, hg_3 (nat_lit 1) P) :: (nat_lit 52, hg_3 (nat_lit 2) P) :: (nat_lit 53, hg_3 (nat_lit 3) P) :: (nat_lit 55, hg_3 (nat_lit 4) P) :: (nat_lit 56, hg_3 (nat_lit 5) P) :: (nat_lit 57, hg_3 (nat_lit 6) P) :: (nat_lit 59, hg_3 (nat_lit 7) P) :: (nat_lit 60, hg_3 (nat_lit 8) P) :: (nat_lit 62, hg_4 (nat_lit 0) P) :: (nat_lit 63, hg_4 (nat_lit 1) P) :: (nat_lit 64, hg_4 (nat_lit 2) P) :: (nat_lit 66, hg_4 (nat_lit 3) P) :: (nat_lit 67, hg_4 (nat_lit 4) P) :: (nat_lit 69, hg_4 (nat_lit 5) P) :: (nat_lit 70, hg_4 (nat_lit 6) P) :: (nat_lit 71, hg_4 (nat_lit 7) P) :: (nat_lit 73, hg_4 (nat_lit 8) P) :: (nat_lit 74, hg_5 (nat_lit 0) P) :: (nat_lit 76, hg_5 (nat_lit 1) P) :: (nat_lit 77, hg_5 (nat_lit 2) P) :: (nat_lit 85, hg_5 (nat_lit 3) P) :: (nat_lit 86, hg_5 (nat_lit 4) P) :: (nat_lit 89, hg_5 (nat_lit 5) P) :: (nat_lit 90, hg_5 (nat_lit 6) P) :: (nat_lit 91, hg_5 (nat_lit 7) P) :: (nat_lit 93, hg_5 (nat_lit 8) P) :: (nat_lit 94, hg_6 (nat_lit 0) P) :: (nat_lit 96, hg_6 (nat_lit 1) P) :: (nat_lit 97, hg_6 (nat_lit 2) P) :: (nat_lit 98, hg_6 (nat_lit 3) P) :: (nat_lit 99, hg_6 (nat_lit 4) P) :: (nat_lit 100, hg_6 (nat_lit 5) P) :: (nat_lit 101, hg_6 (nat_lit 6) P) :: (nat_lit 102, hg_6 (nat_lit 7) P) :: (nat_lit 105, hg_6 (nat_lit 8) P) :: (nat_lit 107, hg_7 (nat_lit 0) P) :: (nat_lit 108, hg_7 (nat_lit 1) P) :: (nat_lit 110, hg_7 (nat_lit 2) P) :: (nat_lit 111, hg_7 (nat_lit 3) P) :: (nat_lit 112, hg_7 (nat_lit 4) P) :: (nat_lit 115, hg_7 (nat_lit 5) P) :: (nat_lit 116, hg_7 (nat_lit 6) P) :: (nat_lit 117, hg_7 (nat_lit 7) P) :: (nat_lit 119, hg_7 (nat_lit 8) P) :: (nat_lit 120, hg_8 (nat_lit 0) P) :: (nat_lit 122, hg_8 (nat_lit 1) P) :: (nat_lit 123, hg_8 (nat_lit 2) P) :: (nat_lit 124, hg_8 (nat_lit 3) P) :: (nat_lit 127, hg_8 (nat_lit 4) P) :: (nat_lit 128, hg_8 (nat_lit 5) P) :: (nat_lit 129, hg_8 (nat_lit 6) P) :: (nat_lit 131, hg_8 (nat_lit 7) P) :: (nat_lit 132, hg_8 (nat_lit 8) P) :: (nat_lit 134, hg_9 (nat_lit 0) P) :: (nat_lit 135, hg_9 (nat_lit 1) P) :: (nat_lit 136, hg_9 (nat_lit 2) P) :: (nat_lit 139, hg_9 (nat_lit 3) P) :: (nat_lit 140, hg_9 (nat_lit 4) P) :: []
def hsAt (i : Nat) : Stmt := List.getD PySem.Challenge.pw_sn0121_01.main.body i (Stmt.Pass ⟨0, 0, 0, 0⟩)
def pw2 : Program := { PySem.Challenge.pw_sn0121_01 with main := { PySem.Challenge.pw_sn0121_01.main with body := [hsAt 0, hsAt 1, hsAt 2, hsAt 3, hsAt 4, hsAt 5, hsAt 6, hsAt 7, hsAt 8, hsAt 9, hsAt 10, hsAt 11, hsAt 12, hsAt 13, hsAt 14, hsAt 15, hsAt 16, hsAt 17, hsAt 18, hsAt 19] } }
noncomputable def hAS : List Addr := [nat_lit 2, nat_lit 3, nat_lit 6, nat_lit 15, nat_lit 17, nat_lit 18, nat_lit 20, nat_lit 21, nat_lit 22, nat_lit 24, nat_lit 25, nat_lit 27, nat_lit 28, nat_lit 29, nat_lit 31, nat_lit 32, nat_lit 34, nat_lit 35, nat_lit 36, nat_lit 38, nat_lit 39, nat_lit 41, nat_lit 42, nat_lit 43, nat_lit 45, nat_lit 46, nat_lit 48, nat_lit 49, nat_lit 50, nat_lit 52, nat_lit 53, nat_lit 55, nat_lit 56, nat_lit 57, nat_lit 59, nat_lit 60, nat_lit 62, nat_lit 63, nat_lit 64, nat_lit 66, nat_lit 67, nat_lit 69, nat_lit 70] ++ [nat_lit 71, nat_lit 73, nat_lit 74, nat_lit 76, nat_lit 77, nat_lit 85, nat_lit 86, nat_lit 89, nat_lit 90, nat_lit 91, nat_lit 93, nat_lit 94, nat_lit 96, nat_lit 97, nat_lit 98, nat_lit 99, nat_lit 100, nat_lit 101, nat_lit 102, nat_lit 105, nat_lit 107, nat_lit 108, nat_lit 110, nat_lit 111, nat_lit 112, nat_lit 115, nat_lit 116, nat_lit 117, nat_lit 119, nat_lit 120, nat_lit 122, nat_lit 123, nat_lit 124, nat_lit 127, nat_lit 128, nat_lit 129, nat_lit 131, nat_lit 132, nat_lit 134, nat_lit 135, nat_lit 136, nat_lit 139, nat_lit 140]
def rw2 : OpenLaw := { PySem.Challenge.rw_sn0121_01 with prog := pw2 }
theorem rw2_eq : PySem.Challenge.rw_sn0121_01 = rw2 := rfl
section
local macro_rules | `(tactic| o_head (kHook $_ $_ $_)) => `(tactic| o_head (@kHook heapK hAS (fun _ => by kernel_rfl)))
open_top hd for rw2
end
noncomputable def hdr : (P : Prop) ×' (P → PySem.Challenge.rw_sn0121_01.Holds) := ⟨_, fun h => by
  refine Eq.mpr (congrArg OpenLaw.Holds rw2_eq) (hd ?_)
  rw [← rw2_eq]
  exact h⟩
end Mine
end

namespace Mine
theorem q_up {a k n R : Nat} (h : a + n < R) (e : Nat.ble k n = true) : a + k < R := Nat.lt_of_le_of_lt (Nat.add_le_add_left (Nat.le_of_ble_eq_true e) a) h
theorem q_0 {a n R : Nat} (h : a + n < R) : a < R := Nat.lt_of_le_of_lt (Nat.le_add_right a n) h
theorem q_2 {a i j n R : Nat} (h : a + n < R) (e : Nat.ble (i + j) n = true) : a + i + j < R := by rw [Nat.add_assoc]; exact q_up h e
theorem q_3 {a i j k n R : Nat} (h : a + n < R) (e : Nat.ble (i + j + k) n = true) : a + i + j + k < R := by rw [Nat.add_assoc a, Nat.add_assoc]; exact q_up h e
theorem q_le {x n m : Nat} (h : x ≤ n) (e : Nat.ble n m = true) : x ≤ m := Nat.le_trans h (Nat.le_of_ble_eq_true e)
theorem q_lt {x n m : Nat} (h : x ≤ n) (e : Nat.ble (n + 1) m = true) : x < m := Nat.lt_of_le_of_lt h (Nat.le_of_ble_eq_true e)
theorem q_int {x n : Nat} {m : Int} (h : x ≤ n) (e : decide ((n : Int) < m) = true) : (x : Int) < m := Int.lt_of_le_of_lt (Int.ofNat_le.mpr h) (of_decide_eq_true e)
end Mine
open Mine PySem.W PyProof.Rows in
theorem Mine.top_off : True := by
  w_top off
  trivial

section
open Mine PySem PySem.W PyProof.Rows
local macro_rules | `(tactic| walk_at $s:str) => `(tactic| k_extra $s)
local macro_rules | `(tactic| k_all) => `(tactic| k_extra "own all")
local macro_rules | `(tactic| k_mem) => `(tactic| k_extra "own mem")
local macro_rules | `(tactic| k_ne) => `(tactic| k_extra "own ne")
local macro_rules | `(tactic| omega) => `(tactic| k_extra "own omega")

section
set_option Elab.async false
set_option maxRecDepth 100000
set_option maxHeartbeats 4000000
namespace Mine
open PySem PySem.W PyProof.Rows PySem.Calls

/-! a set of texts: `add` -/
section
variable {prog : Program} {w : World}

structure StrSetOf (prog : Program) (w : World) (o : Obj) (S : Str → Prop) (n : Nat) (es : Array (Int × Value)) (ep : Nat) (t : SetTable) : Prop where
  ex : o.ExactSet
  dat : o.data = .set es ep t
  el : ElemsOf (strKind prog w) es.toList
  mem : ∀ k, S k ↔ ∃ e ∈ es.toList, (strKind prog w).is k e.2 = true
  room : es.size < scanBound
  fits : t.fits es.size = true
  size : es.size = n
  led : t.led = !w.params.followText "set-order"
  plain : es.size = 0 ∨ t.plain = false

noncomputable def StrSet (prog : Program) (w : World) (o : Obj) (S : Str → Prop) (n : Nat) : Prop := ∃ es ep t, StrSetOf prog w o S n es ep t

theorem StrSet.congr {o : Obj} {S S' : Str → Prop} {n : Nat} (h : StrSet prog w o S n) (e : ∀ k, S k ↔ S' k) : StrSet prog w o S' n := by
  have : S = S' := funext fun k => propext (e k)
  subst this; exact h

theorem StrSet.setOf {h : Heap} {a : Addr} {o : Obj} {S : Str → Prop} [DecidablePred S] {n : Nat} (x : StrSet prog w o S n) (ho : h.get? a = some o) : h.SetOf (strKind prog w) a (fun k => decide (S k)) n := by
  obtain ⟨es, ep, t, y⟩ := x
  exact ⟨o, es, ep, t, ho, y.ex, y.dat, y.el, fun k => by rw [decide_eq_true_eq]; exact y.mem k, y.room, y.fits, y.size⟩

theorem relayAll_led (t : SetTable) (es : Array (Int × Value)) (n : Nat) : (relayAll t es n).2.1.led = t.led := by
  unfold relayAll
  split
  · rename_i t' order hq
    have : t'.led = t.led := by
      unfold SetTable.relaid SetTable.laid at hq
      simp only [Option.pure_def, Option.bind_eq_bind, Option.bind_eq_some_iff, Option.some.injEq, Prod.mk.injEq] at hq
      obtain ⟨_, _, rfl, _⟩ := hq
      rfl
    dsimp only
    split
    · exact this
    · rfl
  · rfl
theorem relayAll_plain (t : SetTable) (es : Array (Int × Value)) (n : Nat) (h : t.plain = false) : (relayAll t es n).2.1.plain = false := by
  unfold relayAll
  split
  · rename_i t' order hq
    have : t'.plain = t.plain := by
      unfold SetTable.relaid SetTable.laid at hq
      simp only [Option.pure_def, Option.bind_eq_bind, Option.bind_eq_some_iff, Option.some.injEq, Prod.mk.injEq] at hq
      obtain ⟨_, _, rfl, _⟩ := hq
      rfl
    dsimp only
    split
    · exact this.trans h
    · rfl
  · rfl
theorem orStandIn_led (t : SetTable) (n : Nat) : (t.orStandIn n).led = t.led := by
  unfold SetTable.orStandIn
  split <;> rfl
theorem layNew_led (t : SetTable) (es : Array (Int × Value)) (h : Int) (x : Value) : (layNew t es h x).2.1.led = t.led := by
  unfold layNew
  split
  · exact orStandIn_led _ _
  · rfl

theorem strset_store {s : Shared} {a : Addr} {o : Obj} {es es' : Array (Int × Value)} {ep : Nat} {t t' : SetTable} (ho : s.heap.get? a = some o) (hex : o.ExactSet) (hd : o.data = .set es ep t) :
    (s.heap.update a (Obj.putSet es' t')).get? a = some { o with data := .set es' (ep + 1) t' } ∧ ({ o with data := .set es' (ep + 1) t' } : Obj).ExactSet := by
  refine ⟨?_, hex⟩
  have := Heap.get?_update_self (Obj.putSet es' t') ho (by rw [putSet_of es' t' hd]; rfl)
  rw [putSet_of es' t' hd] at this; exact this

theorem strset_tail {A : Around} {E : Value → Shared → Prop} {s : Shared} {g : Bool → Sem Unit} (hg : ∀ (b : Bool) (s₁ : Shared) (Q' : Unit → Shared → Prop), Q' () s₁ → wpAny (model prog w) A (g b) Q' E s₁)
    {a : Addr} {o : Obj} {es : Array (Int × Value)} {ep : Nat} {t : SetTable} (ho : s.heap.get? a = some o) (hex : o.ExactSet) (hd : o.data = .set es ep t)
    {es1 : Array (Int × Value)} {t2 : SetTable} (hb1 : es1.size < scanBound) (hf2 : t2.fits es1.size = true) (hp2 : t2.plain = false) {wasDummy : Bool} {R : Option Bool → Shared → Prop}
    (h : ∀ h' o' es' ep' t', Heap.SameBut a s.heap h' → h'.get? a = some o' → o'.ExactSet → o'.data = .set es' ep' t' → List.Perm es'.toList es1.toList → t'.fits es'.size = true → t'.led = t2.led → t'.plain = false → R (some true) { s with heap := h' }) :
    wpAny (model prog w) A (do
        storeSet a es1 t2
        if (!wasDummy && t2.tooFull) = true then do
            g (relayAll t2 es1 (SetTable.grown es1.size)).2.2
            storeSet a (relayAll t2 es1 (SetTable.grown es1.size)).1 (relayAll t2 es1 (SetTable.grown es1.size)).2.1
            pure (some true)
          else pure (some true)) R E s := by
  refine wpAny_bind (wpAny_storeSet_of ho hd ?_ (fits_of_scanBound hb1))
  obtain ⟨ho1, hex1⟩ := strset_store (es' := es1) (t' := t2) ho hex hd
  have hsb1 := Heap.SameBut.update s.heap a (Obj.putSet es1 t2)
  split
  · have hp := relayAll_perm t2 es1 (SetTable.grown es1.size)
    have hfr := relayAll_fits t2 es1 (SetTable.grown es1.size)
    have hl := relayAll_led t2 es1 (SetTable.grown es1.size)
    have hpl := relayAll_plain t2 es1 (SetTable.grown es1.size) hp2
    generalize relayAll t2 es1 (SetTable.grown es1.size) = Rl at hp hfr hl hpl ⊢
    obtain ⟨es2, t3, gave2⟩ := Rl
    dsimp only at hp hfr hl hpl ⊢
    have hsz : es2.size = es1.size := by rw [← Array.length_toList, hp.length_eq, Array.length_toList]
    refine wpAny_bind (hg _ _ _ ?_)
    refine wpAny_bind (wpAny_storeSet_of ho1 rfl ?_ (fits_of_scanBound (by rw [hsz]; exact hb1)))
    obtain ⟨ho2, hex2⟩ := strset_store (s := { s with heap := s.heap.update a (Obj.putSet es1 t2) }) (es' := es2) (t' := t3) ho1 hex1 rfl
    exact wpAny_pure (h _ _ es2 _ t3 (hsb1.trans (Heap.SameBut.update _ a _)) ho2 hex2 rfl hp hfr hl hpl)
  · exact wpAny_pure (h _ _ es1 _ t2 hsb1 ho1 hex1 rfl .rfl hf2 rfl hp2)

theorem strset_add {A : Around} {E : Value → Shared → Prop} {s : Shared} {a : Addr} {o : Obj} {S : Str → Prop} {n : Nat} {k : Str} {tk : Tok} {Q : Bool → Shared → Prop} (ho : s.heap.get? a = some o) (hS : StrSet prog w o S n)
    (hroom : n + 1 < scanBound)
    (h : ∀ b h' o' n', Heap.SameBut a s.heap h' → h'.get? a = some o' → StrSet prog w o' (fun k' => S k' ∨ k' = k) n' → n' ≤ n + 1 → 0 < n' → Q b { s with heap := h' }) :
    wpAny (model prog w) A (setAddHashed a (.str k tk) ((strKind prog w).hash k)) Q E s := by
  obtain ⟨es, ep, t, y⟩ := hS
  have hkey : (strKind prog w).is k (.str k tk) = true := strKind_is prog w k tk
  have hsc : (Value.str k tk).scannable = true := rfl
  have hb1 : es.size + 1 < scanBound := by rw [y.size]; exact hroom
  unfold setAddHashed setAddHashedIn
  refine wpAny_holding (wpAny_bind (wpAny_setState_of ho y.dat y.fits ?_))
  dsimp only
  rw [byScan_of hsc y.room y.el]
  simp only [↓reduceIte]
  unfold setAddByScan
  refine wpAny_bind ?_
  refine wpAny_bind (wpAny_rule ?_)
  refine wpAny_bind (wpAny_setScan_of hkey ho y.dat y.fits y.el ?_)
  cases hr : List.findIdx? (fun e => (strKind prog w).is k e.2) es.toList with
  | some j =>
    dsimp only
    obtain ⟨hj, hpj, _⟩ := List.findIdx?_eq_some_iff_getElem.mp hr
    have hSk : S k := (y.mem k).mpr ⟨es.toList[j], List.getElem_mem hj, hpj⟩
    refine wpAny_pure (wpAny_pure ?_)
    have e : s = { s with heap := s.heap } := by cases s; rfl
    have hpos : 0 < n := by rw [← y.size, ← Array.length_toList]; exact Nat.lt_of_le_of_lt (Nat.zero_le _) hj
    rw [e]
    exact h false s.heap o n (Heap.SameBut.refl a s.heap) ho (StrSet.congr ⟨es, ep, t, y⟩ fun k' => ⟨.inl, fun q => q.elim id fun e => e ▸ hSk⟩) (Nat.le_succ _) hpos
  | none =>
    dsimp only
    have hgw : ∀ (b : Bool) {s₁ : Shared} {Q' : Unit → Shared → Prop}, Q' () s₁ → wpAny (model prog w) A (match b with | true => rule "set.scan.the-table-gave-way" | false => pure ()) Q' E s₁ :=
      fun b s₁ Q' hq => by cases b <;> first | exact wpAny_pure hq | exact wpAny_rule hq
    have hperm := layNew_perm t es ((strKind prog w).hash k) (.str k tk)
    have hfits := layNew_fits t es ((strKind prog w).hash k) (.str k tk)
    have hled := layNew_led t es ((strKind prog w).hash k) (.str k tk)
    generalize layNew t es ((strKind prog w).hash k) (.str k tk) = L at hperm hfits hled ⊢
    obtain ⟨es1, t1, wasDummy, gave⟩ := L
    dsimp only at hperm hfits hled ⊢
    rw [Array.toList_push] at hperm
    have hsz1 : es1.size = n + 1 := by rw [← Array.length_toList, hperm.length_eq, List.length_append, Array.length_toList, y.size]; rfl
    have hb1' : es1.size < scanBound := by rw [hsz1]; exact hroom
    refine wpAny_bind (hgw _ ?_)
    have hend : ∀ (t2 : SetTable), t2.led = t1.led → ∀ h' o' es' ep' t', Heap.SameBut a s.heap h' → h'.get? a = some o' → o'.ExactSet → o'.data = .set es' ep' t' → List.Perm es'.toList es1.toList → t'.fits es'.size = true → t'.led = t2.led → t'.plain = false → Q true { s with heap := h' } := by
      intro t2 h2 h' o' es' ep' t' hsb ho' hex' hd' hp' hf' hl' hpl'
      have hp'' := hp'.trans hperm
      have hsz' : es'.size = n + 1 := by rw [← Array.length_toList, hp'.length_eq, Array.length_toList, hsz1]
      refine h true h' o' (n + 1) hsb ho' ⟨es', ep', t', ⟨hex', hd', (y.el.push hkey hsc).perm hp'', fun k' => ?_, by rw [hsz']; exact hroom, hf', hsz', by rw [hl', h2, hled]; exact y.led, .inr hpl'⟩⟩ (Nat.le_refl _) (Nat.succ_pos _)
      constructor
      · rintro (q | rfl)
        · obtain ⟨e, he, hp⟩ := (y.mem k').mp q
          exact ⟨e, hp''.mem_iff.mpr (List.mem_append_left _ he), hp⟩
        · exact ⟨_, hp''.mem_iff.mpr (List.mem_append_right _ (List.mem_singleton.mpr rfl)), hkey⟩
      · rintro ⟨e, he, hp⟩
        rcases List.mem_append.mp (hp''.mem_iff.mp he) with he | he
        · exact .inl ((y.mem k').mpr ⟨e, he, hp⟩)
        · rw [List.mem_singleton] at he; subst he
          exact .inr ((strKind prog w).inj _ k' k hp hkey)
    split
    · refine wpAny_bind ?_
      rw [hashByValue_scannable 8 hsc]
      refine wpAny_pure ?_
      refine strset_tail ?_ ho y.ex y.dat hb1' ?_ ?_ ?_
      · intro b s₁ Q' hq; cases b <;> first | exact wpAny_pure hq | exact wpAny_rule hq
      · exact SetTable.fits_plain_off hfits
      · rfl
      · intro h' o' es' ep' t' a1 a2 a3 a4 a5 a6 a7 a8; dsimp only; exact wpAny_pure (hend _ rfl h' o' es' ep' t' a1 a2 a3 a4 a5 a6 a7 a8)
    · rename_i hpl
      refine wpAny_bind (wpAny_pure ?_)
      simp only [↓reduceIte]
      refine strset_tail ?_ ho y.ex y.dat hb1' hfits (by simpa using hpl) ?_
      · intro b s₁ Q' hq; cases b <;> first | exact wpAny_pure hq | exact wpAny_rule hq
      · intro h' o' es' ep' t' a1 a2 a3 a4 a5 a6 a7 a8; dsimp only; exact wpAny_pure (hend _ rfl h' o' es' ep' t' a1 a2 a3 a4 a5 a6 a7 a8)
end
end Mine
end

section
set_option Elab.async false
set_option maxRecDepth 100000
set_option maxHeartbeats 4000000
namespace Mine
open PySem PySem.W PyProof.Rows PySem.Calls

section
variable {prog : Program} {w : World}

theorem strs_item : ∀ {vs : List Value} {ks : List Str}, StrsAre vs ks → ∀ (i : Nat) (v : Value), vs[i]? = some v → ∃ k t, ks[i]? = some k ∧ v = .str k t
  | _, _, .nil, i, v, h => by simp at h
  | _, _, .cons k t hr, 0, v, h => by
    simp only [List.getElem?_cons_zero, Option.some.injEq] at h
    exact ⟨k, t, rfl, h.symm⟩
  | _, _, .cons k t hr, i + 1, v, h => by
    simp only [List.getElem?_cons_succ] at h
    obtain ⟨k', t', e, e'⟩ := strs_item hr i v h
    exact ⟨k', t', by simpa using e, e'⟩

theorem set_loop {A : Around} {R : Result → Shared → Prop} {I : Addr} {fp wr : List Addr} {n : Nat} {P : Nat → Value → Prop} {St : Nat → Heap → Prop} (W : Walks prog w A.in1 I fp wr n P St) (S : Addr) (hSf : S ∉ fp)
    (ks : List Str) (hlen : ks.length = n) (hval : ∀ i v, P i v → ∃ k t, ks[i]? = some k ∧ v = .str k t) (hb : n + 1 < scanBound) :
    ∀ (k i : Nat) (s : Shared) (o : Obj) (m : Nat), n - i = k → i ≤ n → St i s.heap → s.heap.get? S = some o → StrSet prog w o (fun x => x ∈ ks.take i) m → m ≤ i → (0 < i → 0 < m) →
      (∀ h' tk' o' m', (∀ b o, b ∉ S :: wr → s.heap.get? b = some o → h'.get? b = some o) → h'.get? S = some o' → StrSet prog w o' (fun x => x ∈ ks) m' → m' ≤ n → (0 < n → 0 < m') → R (.ok (.ret .none)) { s with heap := h', toks := tk' }) →
      codeAny (model prog w) A (.builtin "set.update.loop" ⟨[.ref S, .ref I], []⟩) R s := by
  have hSw : S ∉ wr := fun h => hSf (W.sub _ h)
  intro k
  induction k with
  | zero =>
    intro i s o m hk hi hst ho hS hm hpos hR
    have hin : i = n := by omega
    subst hin
    refine codeAny_builtin F.entry_set_update_loop ?_
    rw [Around.under_plainId F.plain_set_update_loop _]
    show wpAny _ A.in1 (pyNext (.ref I) >>= _) _ _ s
    refine wpAny_bind (W.done s _ _ hst fun h' tk' hk' => ?_)
    show wpAny _ A.in1 (ret Value.none) _ _ _
    refine wpAny_pure (hR h' tk' o m (fun b o hb' e => hk' b o (fun q => hb' (List.mem_cons_of_mem _ q)) e) (hk' S o hSw ho) ?_ hm hpos)
    have e : ks.take i = ks := by rw [← hlen]; exact List.take_length
    rw [e] at hS; exact hS
  | succ k ih =>
    intro i s o m hk hi hst ho hS hm hpos hR
    have hlt : i < n := by omega
    refine codeAny_builtin F.entry_set_update_loop ?_
    rw [Around.under_plainId F.plain_set_update_loop _]
    show wpAny _ A.in1 (pyNext (.ref I) >>= _) _ _ s
    refine wpAny_bind (W.item i s _ _ hlt hst fun v h' tk' hP hst' hk' => ?_)
    obtain ⟨x, t, hx, rfl⟩ := hval i v hP
    have ho' := hk' S o hSw ho
    show wpAny _ A.in1 (holding [Value.str x t] (setAdd S (.str x t)) >>= _) _ _ _
    refine wpAny_bind (wpAny_holding ?_)
    unfold setAdd
    refine wpAny_holding ?_
    refine wpAny_bind ((strKind prog w).pyHash (k := x) (strKind_is prog w x t) ?_)
    have hroom : m + 1 < scanBound := by omega
    refine strset_add (s := { s with heap := h', toks := tk' + 1 }) ho' hS hroom fun b h2 o2 m2 hsb ho2 hS2 hm2 hm2' => ?_
    have hts : ks.take (i + 1) = ks.take i ++ [x] := by rw [List.take_add_one, hx]; rfl
    have hS3 : StrSet prog w o2 (fun y => y ∈ ks.take (i + 1)) m2 := hS2.congr fun y => by rw [hts, List.mem_append, List.mem_singleton]
    refine wpAny_pure ⟨plainId_quiet F.plain_set_update_loop _, ih (i + 1) _ o2 m2 (by omega) hlt (W.frame _ _ _ hst' fun b hb o e => ?_) ho2 hS3 (by omega) (fun _ => hm2') fun h3 tk3 o3 m3 hk3 ho3 hS3 hm3 hp3 => ?_⟩
    · exact (hsb.2 b (fun q : b = S => hSf (by rw [← q]; exact hb))).trans e
    · refine hR h3 tk3 o3 m3 (fun b o hb e => hk3 b o hb ?_) ho3 hS3 hm3 hp3
      exact (hsb.2 b (fun q : b = S => hb (by rw [q]; exact List.mem_cons_self))).trans (hk' b o (fun q => hb (List.mem_cons_of_mem _ q)) e)

theorem code_set_new_led {A : Around} {E : Value → Shared → Prop} {s : Shared} (a : Value) {Q₁ : Value → Shared → Prop}
    (h : Q₁ (.ref s.heap.objs.size) { s with heap := s.heap.push { cls := .type "set", dict := none, data := .set #[] 0 (.fresh 0 0 (!w.params.followText "set-order")) } }) :
    codeAny (model prog w) A (.call (.builtin "set.__new__") ⟨[.type "set", a], []⟩) (wants Q₁ E) s := by
  refine codeAny_of_tree ?_
  show wpAny _ A.in1 (do checkBuiltinCall "set.__new__" ⟨[.type "set", a], []⟩; again (.builtin "set.__new__" ⟨[.type "set", a], []⟩)) _ _ s
  refine wpAny_bind (wpAny_of_eq (F.newCall_set_1 a) (wpAny_pure ⟨plainId_quiet F.plain_set_new _, codeAny_builtin F.entry_set_new ?_⟩))
  rw [Around.under_plainId F.plain_set_new _]
  unfold Builtin.«set.__new__» Builtin.Frozenset.newClass
  have hsub := sub_set_self
  obtain ⟨hp, g, d, tk, os⟩ := s
  dsimp only
  wp_walk
  refine wpAny_askSetting (wpAny_pure ?_)
  dsimp only
  simp only [newObj]
  refine wpAny_bind (wpAny_alloc (wpAny_pure ?_))
  exact wpAny_pure h

theorem strset_fresh : StrSet prog w { cls := .type "set", dict := none, data := .set #[] 0 (.fresh 0 0 (!w.params.followText "set-order")) } (fun x => x ∈ ([] : List Str)) 0 :=
  ⟨#[], 0, _, ⟨rfl, rfl, rfl⟩, rfl, (fun e he => by simp at he), (fun k => by simp), by unfold scanBound; decide, by rfl, rfl, rfl, .inl rfl⟩

theorem call_set_strs {A : Around} {E : Value → Shared → Prop} {s : Shared} {l : Addr} {items : Array Value} {ks : List Str} {Q : Value → Shared → Prop}
    (hh : A.handled = none) (hl : s.heap.IsList l items) (hi : StrsAre items.toList ks) (hb : items.size + 1 < scanBound)
    (h : ∀ (h' : Heap) (tk : Nat) (o : Obj) (m : Nat), h'.get? s.heap.objs.size = some o → StrSet prog w o (fun x => x ∈ ks) m → m ≤ items.size → (0 < items.size → 0 < m) →
      (∀ b o, b < s.heap.objs.size → s.heap.get? b = some o → h'.get? b = some o) → Q (.ref s.heap.objs.size) { s with heap := h', toks := tk }) :
    wpAny (model prog w) A (call (.type "set") [.ref l]) Q E s := by
  obtain ⟨c, tl, hmro⟩ := F.called_set.mro
  have hmade := F.called_set.made
  have hsub := F.called_set.sub
  refine wpAny_call (codeAny_of_tree ?_)
  show wpAny _ _ (callAny (.type "set") _) _ _ _
  refine wpAny_pure ⟨Code.quiet_builtin _ (by decide +kernel), codeAny_builtin F.entry_type_call ?_⟩
  rw [Around.under_plain (weight_type_call_type "set" [.ref l] []) rfl]
  have h1 := F.called_set.notType
  have h2 := F.called_set.canCreate
  have hct := F.typeCall_set_1 (.ref l)
  repeat (any_goals (first | assumption | wp_step))
  refine codeAny_mono (code_set_new_led (.ref l) (E := E) (Q₁ := fun obj s₁ => obj = .ref s.heap.objs.size ∧ s₁ = { s with heap := s.heap.push { cls := .type "set", dict := none, data := .set #[] 0 (.fresh 0 0 (!w.params.followText "set-order")) } }) ⟨rfl, rfl⟩) fun r s₁ hr => ?_
  cases r with
  | error e => exact hr
  | ok fl =>
    cases fl with
    | ret obj =>
      obtain ⟨rfl, rfl⟩ := hr
      generalize hled : (!w.params.followText "set-order") = led at *
      have hS : (s.heap.push { cls := .type "set", dict := none, data := .set #[] 0 (.fresh 0 0 led) }).get? s.heap.objs.size = some { cls := .type "set", dict := none, data := .set #[] 0 (.fresh 0 0 led) } := Heap.get?_push_size _ rfl
      have hT : Shared.TypeIs { s with heap := s.heap.push { cls := .type "set", dict := none, data := .set #[] 0 (.fresh 0 0 led) } } (.ref s.heap.objs.size) "set" := ⟨_, hS, rfl⟩
      have hli := F.called_set.init.lookup
      have hbi := F.called_set.init.bind (.ref s.heap.objs.size)
      repeat (any_goals (first | assumption | wp_step))
      refine codeAny_mono (codeAny_call_builtin (R := wants (fun r s₂ => r = .none ∧ ∃ h' tk o m, s₂ = { s with heap := h', toks := tk } ∧
          h'.get? s.heap.objs.size = some o ∧ StrSet prog w o (fun x => x ∈ ks) m ∧ m ≤ items.size ∧ (0 < items.size → 0 < m) ∧
          (∀ b o, b < s.heap.objs.size → s.heap.get? b = some o → h'.get? b = some o)) E) F.called_set.init.plain F.entry_set_init (check_set_init_1 hT ?_)) fun r₂ s₂ hr₂ => ?_
      · obtain ⟨ol, hol, hcl, nl, hdl⟩ := hl
        obtain ⟨ocls, odict, odata, oslots⟩ := ol
        simp only at hcl hdl
        subst hcl; subst hdl
        have hol' : (s.heap.push { cls := .type "set", dict := none, data := .set #[] 0 (.fresh 0 0 led) }).get? l = some { cls := .type "list", dict := odict, data := .seq items nl, slots := oslots } := Heap.get?_push_of_some _ hol
        have hsls := F.sub_list_set
        have hslf := F.sub_list_frozenset
        have hne : (Value.type "list" == Value.type "dict") = false := by decide
        have hl1 : (s.heap.push { cls := .type "set", dict := none, data := .set #[] 0 (.fresh 0 0 led) }).IsList l items := ⟨_, hol', rfl, nl, rfl⟩
        unfold Builtin.«set.__init__» noKeywords Builtin.Frozenset.updateFrom
        generalize hPI : pyIter = PI
        wp_walk
        subst hPI
        refine wpAny_pyIter_list hl1 ?_
        refine wpAny_bind (wpAny_runValue ?_)
        have hlS : l < s.heap.objs.size := Heap.lt_size hol
        have hh3 : A.in1.in1.in1.handled = none := by simp [hh]
        have hneI : l ≠ (s.heap.push { cls := .type "set", dict := none, data := .set #[] 0 (.fresh 0 0 led) }).objs.size := by
          rw [Heap.size_push]; exact Nat.ne_of_lt (Nat.lt_succ_of_lt hlS)
        have hSf : s.heap.objs.size ∉ [(s.heap.push { cls := .type "set", dict := none, data := .set #[] 0 (.fresh 0 0 led) }).objs.size, l] := by
          rw [Heap.size_push]; simp only [List.mem_cons, List.mem_singleton, List.not_mem_nil, or_false, not_or]
          exact ⟨Nat.ne_of_lt (Nat.lt_succ_self _), Nat.ne_of_gt hlS⟩
        have hlen : ks.length = items.size := by rw [← StrsAre.length hi, Array.length_toList]
        refine set_loop (Walks.list hh3 _ l hneI items) s.heap.objs.size hSf ks hlen (fun i v hv => strs_item hi i v (by rw [Array.getElem?_toList]; exact hv)) hb (items.size - 0) 0 _ _ 0 (by omega) (Nat.zero_le _)
          ⟨⟨_, Heap.get?_push_size _ rfl, rfl, rfl⟩, (hl1.push _)⟩ (Heap.get?_push_of_some _ hS) (by rw [← hled]; exact strset_fresh) (Nat.le_refl _) (fun q => absurd q (Nat.lt_irrefl _)) ?hR
        case hR =>
          intro h' tk' o' m' hk' ho' hS' hm' hp'
          show wpAny _ _ _ _ _ _
          refine wpAny_pure ?_
          show wpAny _ _ (ret Value.none) _ _ _
          refine wpAny_pure ⟨rfl, h', tk', o', m', rfl, ho', hS', hm', hp', fun b o hb e => ?_⟩
          have hb1 : b ≠ s.heap.objs.size := Nat.ne_of_lt hb
          have hb2 : b ≠ (s.heap.push { cls := .type "set", dict := none, data := .set #[] 0 (.fresh 0 0 led) }).objs.size := by
            rw [Heap.size_push]; exact Nat.ne_of_lt (Nat.lt_succ_of_lt hb)
          exact hk' b o (by simp only [List.mem_cons, List.mem_singleton, List.not_mem_nil, or_false, not_or]; exact ⟨hb1, hb2⟩) (Heap.get?_push_of_some _ (Heap.get?_push_of_some _ e))
      · cases r₂ with
        | error e => exact hr₂
        | ok fl₂ =>
          cases fl₂ with
          | ret r =>
            obtain ⟨rfl, h', tk, o, m, rfl, ho', hS', hm', hp', hk'⟩ := hr₂
            repeat (any_goals (first | assumption | wp_step))
            exact h _ _ _ _ ho' hS' hm' hp' hk'
          | _ => exact hr₂.elim
    | _ => exact hr.elim

theorem newSetStrs_N {A : Around} {E : Value → Shared → Prop} {s : Shared} {h₀ : Heap} {L : Addr} {m : Str → Option Value} {news : List (Addr × Obj)} {l : Addr} {vs : List Value} {nl : Nat} {ks : List Str} {Q : Value → Shared → Prop} (F : Fr h₀ L s.heap m) (N : News h₀ L s.heap news)
    (hh : A.handled = none) (hl : (l, listOf vs.toArray nl) ∈ news) (hi : StrsAre vs ks) (hb : ks.length + 1 < scanBound)
    (h : ∀ h' (tk : Nat) (a : Addr) o k, Fr h₀ L h' m → News h₀ L h' ((a, o) :: news) → (∀ p ∈ news, p.1 < a) → StrSet prog w o (fun x => x ∈ ks) k → k ≤ ks.length → (0 < ks.length → 0 < k) → Q (.ref a) { s with heap := h', toks := tk }) :
    wpAny (model prog w) A (call (.type "set") [.ref l]) Q E s := by
  have hl' : s.heap.IsList l vs.toArray := ⟨_, (N _ hl).1, rfl, _, rfl⟩
  have hvn : vs.length = ks.length := hi.length
  have hsz : vs.toArray.size = ks.length := by rw [List.size_toArray, hvn]
  refine call_set_strs (items := vs.toArray) (ks := ks) hh hl' (by simpa using hi) (by rw [hsz]; exact hb) fun h' tk o k ho hS hk1 hk2 hk => ?_
  obtain ⟨oL, _, _, hL, _⟩ := F.ns
  have hLlt : L < s.heap.objs.size := Heap.lt_size hL
  refine h h' tk s.heap.objs.size o k ⟨F.ns.at' fun o' e => hk L o' hLlt e, fun b o' e => hk b o' (Heap.lt_size (F.keep b o' e)) (F.keep b o' e), F.above⟩ (fun p hp => ?_) (fun p hp => Heap.lt_size (N p hp).1) hS (by rw [← hsz]; exact hk1) (by rw [← hsz]; exact hk2)
  rcases List.mem_cons.mp hp with rfl | hp
  · refine ⟨ho, Nat.ne_of_gt hLlt, ?_⟩
    cases hq : h₀.get? s.heap.objs.size with
    | none => rfl
    | some o' => exact absurd (Heap.lt_size (F.keep _ _ hq)) (Nat.lt_irrefl _)
  · exact ⟨hk _ _ (Heap.lt_size (N p hp).1) (N p hp).1, (N p hp).2.1, (N p hp).2.2⟩
end
end Mine
end

section
set_option Elab.async false
set_option maxRecDepth 100000
set_option maxHeartbeats 4000000
namespace Mine
open PySem PySem.W PyProof.Rows PySem.Calls
theorem owner_setit : Manifest.owners.lookup (String.ofList ['r', 'o', 't', 'a', 'r', 'e', 't', 'i', '_', 't', 'e', 's'].reverse) = some Manifest.sig_set_iterator := by kernel_rfl
theorem slot_setit_next : Slot "set_iterator" "__next__" "set_iterator.__next__" :=
  .of (owner := "set_iterator") (n := "__next__") (by rw [typeLookup_type, builtinLookup_eq_fast]; kernel_rfl) (by decide +kernel) (by decide +kernel) (by decide +kernel)
    (by first | exact .inl (by decide +kernel) | exact .inr (by decide +kernel)) (by rw [isSubtype_type]; kernel_rfl)
theorem slot_setit_iter : Slot "set_iterator" "__iter__" "set_iterator.__iter__" :=
  .of (owner := "set_iterator") (n := "__iter__") (by rw [typeLookup_type, builtinLookup_eq_fast]; kernel_rfl) (by decide +kernel) (by decide +kernel) (by decide +kernel)
    (by first | exact .inl (by decide +kernel) | exact .inr (by decide +kernel)) (by rw [isSubtype_type]; kernel_rfl)
theorem args_setit_next (a : Value) : argsOk "set_iterator.__next__" ⟨[a], []⟩ := by
  unfold argsOk; rw [signature?_of (id := "set_iterator.__next__") (n := ['_', '_', 't', 'x', 'e', 'n', '_', '_']) (o := ['r', 'o', 't', 'a', 'r', 'e', 't', 'i', '_', 't', 'e', 's']) (by kernel_rfl) owner_setit]; kernel_rfl
theorem args_setit_iter (a : Value) : argsOk "set_iterator.__iter__" ⟨[a], []⟩ := by
  unfold argsOk; rw [signature?_of (id := "set_iterator.__iter__") (n := ['_', '_', 'r', 'e', 't', 'i', '_', '_']) (o := ['r', 'o', 't', 'a', 'r', 'e', 't', 'i', '_', 't', 'e', 's']) (by kernel_rfl) owner_setit]; kernel_rfl
theorem entry_setit_next : entryFor table "set_iterator.__next__" = some Builtin.«set_iterator.__next__» := entryFor_of_tree (by kernel_rfl)
theorem entry_setit_iter : entryFor table "set_iterator.__iter__" = some Builtin.«dict_keyiterator.__iter__» :=
  entryFor_alias (id' := "dict_keyiterator.__iter__") (by kernel_rfl) rfl (by decide +kernel) (by kernel_rfl)
theorem entry_set_iter : entryFor table "set.__iter__" = some Builtin.«frozenset.__iter__» :=
  entryFor_alias (id' := "frozenset.__iter__") (by kernel_rfl) rfl (by decide +kernel) (by kernel_rfl)
end Mine
end

section
set_option Elab.async false
set_option maxRecDepth 100000
set_option maxHeartbeats 4000000
namespace Mine
open PySem PySem.W PyProof.Rows PySem.Calls

section
variable {M : Model} {A : Around} {E : Value → Shared → Prop} {s : Shared}
theorem wpAny_choose {src : Source} {n : Nat} {Q : Nat → Shared → Prop} (hn : n ≠ 0) (h : ∀ i d, i < n → Q i { s with drawn := d }) : wpAny M A (choose src n) Q E s :=
  fun _ _ _ => ⟨hn, h _ _ (Nat.mod_lt _ (Nat.pos_of_ne_zero hn))⟩
theorem perm_erase {α : Type} : ∀ {xs : List α} {i : Nat} {x : α}, xs[i]? = some x → List.Perm (x :: xs.eraseIdx i) xs
  | [], i, x, h => by simp at h
  | y :: xs, 0, x, h => by
    simp only [List.getElem?_cons_zero, Option.some.injEq] at h
    subst h; exact .refl _
  | y :: xs, i + 1, x, h => by
    simp only [List.getElem?_cons_succ] at h
    show List.Perm (x :: y :: xs.eraseIdx i) (y :: xs)
    exact (List.Perm.swap y x _).trans ((perm_erase h).cons y)
theorem wpAny_drawOrder {α : Type} : ∀ (n : Nat) (xs : List α) (s : Shared) (Q : List α → Shared → Prop), xs.length = n → (∀ ys d, List.Perm ys xs → Q ys { s with drawn := d }) → wpAny M A (drawOrder n xs) Q E s
  | 0, xs, s, Q, hl, h => by
    have : xs = [] := List.eq_nil_of_length_eq_zero hl
    subst this
    exact wpAny_pure (h [] s.drawn (.refl _))
  | n + 1, [], s, Q, hl, h => by simp at hl
  | n + 1, x :: xs, s, Q, hl, h => by
    show wpAny M A (choose .order (x :: xs).length >>= fun i => match (x :: xs)[i]? with
      | some y => drawOrder n ((x :: xs).eraseIdx i) >>= fun r => pure (y :: r)
      | none => unsupported "internal:drawOrder") Q E s
    refine wpAny_bind (wpAny_choose (by simp) fun i d hi => ?_)
    have hx : (x :: xs)[i]? = some (x :: xs)[i] := List.getElem?_eq_getElem hi
    rw [hx]
    dsimp only
    have hp := perm_erase hx
    refine wpAny_bind (wpAny_drawOrder n _ _ _ ?_ fun ys d' hys => wpAny_pure (h _ d' ((hys.cons _).trans hp)))
    have := hp.length_eq
    simp only [List.length_cons] at this hl
    omega
theorem pickOrder_perm {α : Type} (next : Nat → Nat) (xs : Array α) : List.Perm (pickOrder next xs).toList xs.toList := by
  have go : ∀ (fuel k : Nat) (left : List α) (out : Array α), left.length ≤ fuel → List.Perm (pickOrder.go next fuel k left out).toList (out.toList ++ left) := by
    intro fuel
    induction fuel with
    | zero =>
      intro k left out h
      have : left = [] := List.eq_nil_of_length_eq_zero (Nat.le_zero.mp h)
      subst this
      unfold pickOrder.go
      simp
    | succ fuel ih =>
      intro k left out h
      unfold pickOrder.go
      cases left with
      | nil => simp
      | cons y r =>
        have hlt : next k % (y :: r).length < (y :: r).length := Nat.mod_lt _ (by simp)
        generalize next k % (y :: r).length = j at hlt
        have hx : (y :: r)[j]? = some (y :: r)[j] := List.getElem?_eq_getElem hlt
        rw [hx]
        dsimp only
        have hp := perm_erase hx
        have hl := hp.length_eq
        rw [List.length_cons] at hl h
        rw [List.length_cons] at hl
        refine (ih _ _ _ (by omega)).trans ?_
        rw [Array.toList_push, List.append_assoc]
        exact hp.append_left _
  have := go xs.size 0 xs.toList #[] (by simp)
  rw [List.nil_append] at this
  exact this
end

/-! the iterator over a set of texts -/
noncomputable def setItObj (first : Value) (i : Nat) (M n ep : Nat) : Obj := { cls := .type "set_iterator", data := .fields #[first, .int i 0, .ref M, .int n 0, .int ep 0] }

section
variable {prog : Program} {w : World} {A : Around} {E : Value → Shared → Prop} {s : Shared}

theorem setIt_stop {I : Addr} {o : Obj} {vs : Array Value} {Q : Option Value → Shared → Prop} {A' : Around} (hh : A'.handled = none) (ho : s.heap.get? I = some o) (hd : o.data = .fields vs)
    (hQ : ∀ h', Heap.ExtBut I s.heap h' → Q none { s with heap := h' }) :
    wpAny (model prog w) A' (raiseNew (α := Fin) =<< newExc (.type "StopIteration") []) (fun fin s' => ∃ v, fin = .done (.ret v) ∧ False)
      (fun e s' => wpAny (model prog w) A (do if ← isInstance e (.type "StopIteration") then pure none else throw e) Q E s') s := by
  show wpAny _ _ (newExc (.type "StopIteration") [] >>= fun e => raiseNew e) _ _ _
  refine wpAny_bind ?_
  simp only [newExc, newTuple]
  refine wpAny_bind (wpAny_newObj_type ?_ (by size_fits))
  refine wpAny_bind (m := firstArgMember _ _) (wpAny_of_eq (a := Value.none) (by first | rfl | (simp only [firstArgMember]; rfl)) ?_)
  refine wpAny_newObj_type ?_ (by size_fits)
  simp only [raiseNew]
  refine wpAny_bind (wpAny_handled ?_)
  rw [hh]
  refine wpAny_bind (wpAny_pure (wpAny_throw ?_))
  refine wpAny_bind (wpAny_isInstance (T := "StopIteration") (b := true) ⟨_, Heap.get?_push_size _ rfl, rfl⟩ isSubtype_stop ?_)
  exact wpAny_pure (hQ _ (((Heap.ExtBut.refl I s.heap).push _).push _))
end
end Mine
end

section
set_option Elab.async false
set_option maxRecDepth 100000
set_option maxHeartbeats 4000000
namespace Mine
open PySem PySem.W PyProof.Rows PySem.Calls

section
variable {prog : Program} {w : World} {A : Around} {E : Value → Shared → Prop} {s : Shared}

theorem wpAny_setNext_eq (a : Addr) (slot given ep : Nat) : setNext a slot given ep = (setState a >>= fun r => setsByText >>= fun b =>
    if b = true then (if (r.2.1 != ep) = true then unsupported "set_iterator.__next__:elements-changed" else pure ()) >>= fun _ => setWalk a >>= fun es => pure ((es[given]?).map fun e => (e.2, slot))
    else (if (!r.2.2.plain && decide (r.1.size > 1)) = true then unsupported "set_iterator.__next__:the-table-is-plain-no-more" else pure ()) >>= fun _ =>
      (if (!r.2.2.led && !r.1.isEmpty) = true then unsupported "set:maker-not-led" else pure ()) >>= fun _ =>
      pure (match r.1[SetTable.below r.2.2.place slot]?, r.2.2.place[SetTable.below r.2.2.place slot]? with
        | some (_, x), some j => some (x, j + 1)
        | _, _ => none)) := by
  unfold setNext
  refine congrArg _ (funext fun r => ?_)
  obtain ⟨es, ep', t⟩ := r
  dsimp only
  refine congrArg (Bind.bind setsByText) (funext fun b => ?_)
  cases b
  · show (if (!t.plain && decide (es.size > 1)) = true then _ else _) = _
    by_cases h : (!t.plain && decide (es.size > 1)) = true
    · simp only [h, if_true, Bool.false_eq_true, if_false]; rfl
    · simp only [h, Bool.false_eq_true, if_false]; rfl
  · by_cases h : (ep' != ep) = true
    · simp only [h, if_true]
    · simp only [h, if_true, Bool.false_eq_true, if_false]; rfl
theorem wpAny_setWalk_eq (a : Addr) : setWalk a = (setState a >>= fun r => setsByText >>= fun b =>
    if b = true then ask >>= fun g => pure (pickOrder (g.params.setOrder a r.2.1) r.1)
    else if (!r.2.2.plain && decide (r.1.size > 1)) = true then drawOrder r.1.size r.1.toList >>= fun l => pure l.toArray
    else (if (!r.2.2.led && decide (r.1.size > 1)) = true then unsupported "set:maker-not-led" else pure ()) >>= fun _ => pure r.1) := by
  unfold setWalk
  refine congrArg _ (funext fun r => ?_)
  obtain ⟨es, ep', t⟩ := r
  dsimp only
  refine congrArg (Bind.bind setsByText) (funext fun b => ?_)
  cases b
  · show (if (!t.plain && decide (es.size > 1)) = true then _ else _) = _
    by_cases h : (!t.plain && decide (es.size > 1)) = true
    · simp only [h, if_true, Bool.false_eq_true, if_false]
    · simp only [h, Bool.false_eq_true, if_false]; rfl
  · rfl
theorem wpAny_setDrawn_eq (a : Addr) : setDrawn a = (setState a >>= fun r => setsByText >>= fun b => pure (!b && (!r.2.2.plain && decide (r.1.size > 1)))) := rfl
theorem wpAny_setsByText {Q : Bool → Shared → Prop} (h : Q (w.params.followText "set-order") s) : wpAny (model prog w) A setsByText Q E s :=
  wpAny_bind (wpAny_askSetting (wpAny_pure h))

/-- the iterator's turns: what it hands out next -/
inductive SetMode where
  | text (order : Array (Int × Value))
  | draw (T : Addr) (nt : Nat) (pl : List Nat)
  | one

noncomputable def SetFirst (t : SetTable) (h : Heap) (i : Nat) (first : Value) : SetMode → Prop
  | .text _ => first = Value.int 0 0
  | .draw T nt pl => first = Value.ref T ∧ h.get? T = some { cls := .type "tuple", data := .seq (pl.map fun p : Nat => Value.int p 0).toArray nt }
  | .one => ∃ j : Nat, first = Value.int (j : Int) 0 ∧ ((i = 0 ∧ j = 0) ∨ (0 < i ∧ ∃ j', t.place[0]? = some j' ∧ j = j' + 1))

structure SetItAt (prog : Program) (w : World) (S : Str → Prop) (M I : Addr) (oM : Obj) (es : Array (Int × Value)) (ep : Nat) (t : SetTable) (md : SetMode) (n : Nat) (i : Nat) (h : Heap) : Prop where
  hM : h.get? M = some oM
  it : ∃ first, h.get? I = some (setItObj first i M n ep) ∧ SetFirst t h i first md

noncomputable def SetModeOk (w : World) (M : Addr) (es : Array (Int × Value)) (ep : Nat) (t : SetTable) (n : Nat) (ord : List Str) : SetMode → Prop
  | .text order => w.params.followText "set-order" = true ∧ order = pickOrder (w.params.setOrder M ep) es ∧ order.size = n ∧ ∀ (i : Nat) (e : Int × Value), order[i]? = some e → ∃ k tk, ord[i]? = some k ∧ e.2 = Value.str k tk
  | .draw _ _ pl => w.params.followText "set-order" = false ∧ pl.length = n ∧ ∀ (i p : Nat), pl[i]? = some p → ∃ (e : Int × Value) (k : Str) (tk : Tok), es[p]? = some e ∧ ord[i]? = some k ∧ e.2 = Value.str k tk
  | .one => w.params.followText "set-order" = false ∧ n ≤ 1 ∧ ∀ (e : Int × Value), es[0]? = some e → ∃ k tk, ord[0]? = some k ∧ e.2 = Value.str k tk

section
variable {S : Str → Prop} {M I : Addr} {oM : Obj} {es : Array (Int × Value)} {ep : Nat} {t : SetTable} {md : SetMode} {n i : Nat} {ord : List Str}

theorem setIt_upd {first x : Value} {j : Nat} {h : Heap} (ho : h.get? I = some (setItObj first i M n ep)) :
    (h.update I (Obj.mapFields (·.setIfInBounds 1 (rawInt j)))).get? I = some (setItObj first j M n ep) := by
  have := Heap.get?_update_self (Obj.mapFields (·.setIfInBounds 1 (rawInt j))) ho (Obj.isFreed_of_fields (Obj.data_mapFields rfl _))
  rw [this]; rfl
theorem setIt_upd0 {first x : Value} {h : Heap} (ho : h.get? I = some (setItObj first i M n ep)) :
    (h.update I (Obj.mapFields (·.setIfInBounds 0 x))).get? I = some (setItObj x i M n ep) := by
  have := Heap.get?_update_self (Obj.mapFields (·.setIfInBounds 0 x)) ho (Obj.isFreed_of_fields (Obj.data_mapFields rfl _))
  rw [this]; rfl
theorem setMode_keep {h h' : Heap} {first : Value} (hf : SetFirst t h i first md) (hk : ∀ T nt pl, md = .draw T nt pl → ∀ o, h.get? T = some o → h'.get? T = some o) : SetFirst t h' i first md := by
  cases md with
  | text o => exact hf
  | draw T nt pl => exact ⟨hf.1, hk T nt pl rfl _ hf.2⟩
  | one => exact hf

theorem setIt_item {Q : Option Value → Shared → Prop} (y : StrSetOf prog w oM S n es ep t) (ok : SetModeOk w M es ep t n ord md) (hi : i < n) (hne : M ≠ I) (hneT : ∀ T nt pl, md = .draw T nt pl → T ≠ I)
    (x : SetItAt prog w S M I oM es ep t md n i s.heap)
    (hQ : ∀ k tk h', ord[i]? = some k → SetItAt prog w S M I oM es ep t md n (i + 1) h' → Heap.SameBut I s.heap h' → Q (some (.str k tk)) { s with heap := h' }) :
    wpAny (model prog w) A (pyNext (.ref I)) Q E s := by
  obtain ⟨first, ho, hf⟩ := x.it
  have hM := x.hM
  unfold pyNext
  refine wpAny_bind (wpAny_attempt (wpAny_callSpecial?_slot (name := Str.ofString "__next__") ⟨_, ho, rfl⟩ slot_setit_next
    (wpAny_call_entry slot_setit_next ⟨_, ho, rfl⟩ entry_setit_next ?_ (args_setit_next _))))
  show wpAny _ _ (fieldsOf (.ref I) >>= _) _ _ s
  refine wpAny_bind (wpAny_fieldsOf ho rfl ?_)
  show wpAny _ _ (setEntries M >>= _) _ _ s
  refine wpAny_bind (wpAny_setEntries_of hM y.dat y.fits ?_)
  show wpAny _ _ (if ((es.size : Int) != (n : Int)) = true then _ else _) _ _ s
  rw [if_neg (by rw [y.size]; simp)]
  have fin : ∀ (k : Str) (tk : Tok) (first' : Value) (h₁ : Heap), ord[i]? = some k → h₁.get? I = some (setItObj first' i M n ep) → Heap.SameBut I s.heap h₁ → (∀ h', (∀ T nt pl, md = .draw T nt pl → ∀ o, s.heap.get? T = some o → h'.get? T = some o) → SetFirst t h' (i + 1) first' md) →
      wpAny (model prog w) A.in1 (setField (.ref I) 1 (rawInt ((i : Int) + 1)) >>= fun _ => ret (Value.str k tk)) (fun fin s' => ∃ v, fin = .done (.ret v) ∧ wpAny (model prog w) A (pure (some v)) Q E s') (fun e s' => wpAny (model prog w) A (do if ← isInstance e (.type "StopIteration") then pure none else throw e) Q E s') { s with heap := h₁ } := by
    intro k tk first' h₁ hk ho₁ hsb hfirst
    refine wpAny_bind (wpAny_setField ho₁ rfl (by simp) ?_)
    refine wpAny_pure ⟨_, rfl, wpAny_pure ?_⟩
    have hsb' := hsb.trans (Heap.SameBut.update h₁ I (Obj.mapFields (·.setIfInBounds 1 (rawInt ((i + 1 : Nat) : Int)))))
    exact hQ k tk _ hk ⟨(hsb'.2 M hne).trans hM, first', setIt_upd (x := .none) ho₁, hfirst _ fun T nt pl e o q => (hsb'.2 T (hneT T nt pl e)).trans q⟩ hsb'
  cases md with
  | text order =>
    obtain ⟨hb, horder, hosz, hel⟩ := ok
    have hf' : first = Value.int 0 0 := hf
    subst hf'
    show wpAny _ _ (setNext M _ _ _ >>= _) _ _ s
    rw [wpAny_setNext_eq, wpAny_setWalk_eq]
    refine wpAny_bind (wpAny_bind (wpAny_setState_of hM y.dat y.fits (wpAny_bind (wpAny_setsByText ?_))))
    rw [hb]
    simp only [if_true]
    refine wpAny_bind ?_
    rw [if_neg (by simp)]
    refine wpAny_pure ?_
    refine wpAny_bind (wpAny_bind (wpAny_setState_of hM y.dat y.fits (wpAny_bind (wpAny_setsByText ?_))))
    rw [hb]
    simp only [if_true]
    refine wpAny_bind (wpAny_askSetting (wpAny_pure ?_))
    dsimp only
    rw [show pickOrder ((model prog w).w.params.setOrder M ep) es = order from horder.symm]
    have hlt : i < order.size := by rw [hosz]; exact hi
    have hx : order[(i : Int).toNat]? = some order[i] := by rw [Int.toNat_natCast]; exact Array.getElem?_eq_getElem hlt
    rw [hx]
    obtain ⟨k, tk, hk, he⟩ := hel i _ (by rw [Int.toNat_natCast] at hx; exact hx)
    refine wpAny_pure ?_
    dsimp only [Option.map]
    refine wpAny_bind (wpAny_setField ho rfl (by simp) ?_)
    rw [he]
    exact fin k tk _ _ hk (setIt_upd0 ho) (Heap.SameBut.update ..) fun _ _ => rfl
  | draw T nt pl =>
    obtain ⟨hb, hpl, hel⟩ := ok
    obtain ⟨rfl, hT⟩ := hf
    show wpAny _ _ (seqItems? (.ref T) >>= _) _ _ s
    refine wpAny_bind (wpAny_seqItems hT rfl ?_)
    have hlt : i < pl.length := by rw [hpl]; exact hi
    obtain ⟨e, k, tk, he, hk, hek⟩ := hel i pl[i] (List.getElem?_eq_getElem hlt)
    have hx : ((pl.map fun p : Nat => Value.int p 0).toArray)[(i : Int).toNat]? = some (Value.int (pl[i] : Nat) 0) := by
      rw [Int.toNat_natCast, List.getElem?_toArray, List.getElem?_map, List.getElem?_eq_getElem hlt]; rfl
    dsimp only
    rw [hx]
    dsimp only
    unfold setNextDrawn
    refine wpAny_bind (wpAny_bind (wpAny_setState_of hM y.dat y.fits ?_))
    dsimp only
    rw [if_neg (by simp)]
    rw [Int.toNat_natCast, he]
    obtain ⟨eh, ev⟩ := e
    dsimp only at hek ⊢
    subst hek
    refine wpAny_pure ?_
    have e : s = { s with heap := s.heap } := by cases s; rfl
    rw [e]
    exact fin k tk _ _ hk ho (Heap.SameBut.refl ..) fun h' hk' => ⟨rfl, hk' T nt pl rfl _ hT⟩
  | one =>
    obtain ⟨hb, hn1, hel⟩ := ok
    obtain ⟨j, rfl, hj⟩ := hf
    have hi0 : i = 0 := by omega
    have hn : n = 1 := by omega
    subst hi0
    obtain ⟨_, rfl⟩ : 0 = 0 ∧ j = 0 := by
      rcases hj with h | h
      · exact h
      · exact absurd h.1 (Nat.lt_irrefl _)
    have hsz : es.size = 1 := by rw [y.size, hn]
    have hps : t.place.size = 1 := by
      have := y.fits
      unfold SetTable.fits at this
      simp only [Bool.and_eq_true, beq_iff_eq, decide_eq_true_eq] at this
      rw [this.1, hsz]
    show wpAny _ _ (setNext M _ _ _ >>= _) _ _ s
    rw [wpAny_setNext_eq]
    refine wpAny_bind (wpAny_bind (wpAny_setState_of hM y.dat y.fits (wpAny_bind (wpAny_setsByText ?_))))
    rw [hb]
    simp only [Bool.false_eq_true, if_false]
    refine wpAny_bind ?_
    rw [if_neg (by rw [hsz]; simp)]
    refine wpAny_pure (wpAny_bind ?_)
    rw [if_neg (by rw [y.led, hb]; simp)]
    refine wpAny_pure (wpAny_pure ?_)
    have hbl : SetTable.below t.place (((0 : Nat) : Int)).toNat = 0 := by
      unfold SetTable.below
      rw [hps]
      unfold SetTable.below.go
      simp [SetTable.below.go]
    rw [hbl]
    have hx : es[0]? = some es[0] := Array.getElem?_eq_getElem (by omega)
    have hp : t.place[0]? = some t.place[0] := Array.getElem?_eq_getElem (by omega)
    obtain ⟨k, tk, hk, hek⟩ := hel _ hx
    rw [hx, hp]
    generalize es[0] = e0 at hek
    obtain ⟨eh, ev⟩ := e0
    dsimp only at hek ⊢
    subst hek
    refine wpAny_bind (wpAny_setField ho rfl (by simp) ?_)
    exact fin k tk _ _ hk (setIt_upd0 ho) (Heap.SameBut.update ..) fun h' _ => ⟨t.place[0] + 1, rfl, .inr ⟨Nat.succ_pos _, _, hp, rfl⟩⟩
end
end
end Mine
end

section
set_option Elab.async false
set_option maxRecDepth 100000
set_option maxHeartbeats 4000000
namespace Mine
open PySem PySem.W PyProof.Rows PySem.Calls

section
variable {prog : Program} {w : World} {A : Around} {E : Value → Shared → Prop} {s : Shared}
variable {S : Str → Prop} {M I : Addr} {oM : Obj} {es : Array (Int × Value)} {ep : Nat} {t : SetTable} {md : SetMode} {n i : Nat} {ord : List Str}

theorem stop_made {Q : Option Value → Shared → Prop} {A' : Around} (hh : A'.handled = none) (hQ : ∀ h', Heap.ExtBut I s.heap h' → Q none { s with heap := h' }) :
    wpAny (model prog w) A' (newExc (.type "StopIteration") [] >>= fun e => (raiseNew e : Sem Fin)) (fun fin s' => ∃ v, fin = .done (.ret v) ∧ wpAny (model prog w) A (pure (some v)) Q E s')
      (fun e s' => wpAny (model prog w) A (do if ← isInstance e (.type "StopIteration") then pure none else throw e) Q E s') s := by
  refine wpAny_bind ?_
  simp only [newExc, newTuple]
  refine wpAny_bind (wpAny_newObj_type ?_ (by size_fits))
  refine wpAny_bind (m := firstArgMember _ _) (wpAny_of_eq (a := Value.none) (by first | rfl | (simp only [firstArgMember]; rfl)) ?_)
  refine wpAny_newObj_type ?_ (by size_fits)
  simp only [raiseNew]
  refine wpAny_bind (wpAny_handled ?_)
  rw [hh]
  refine wpAny_bind (wpAny_pure (wpAny_throw ?_))
  refine wpAny_bind (wpAny_isInstance (T := "StopIteration") (b := true) ⟨_, Heap.get?_push_size _ rfl, rfl⟩ isSubtype_stop ?_)
  exact wpAny_pure (hQ _ (((Heap.ExtBut.refl I s.heap).push _).push _))

theorem setIt_done {Q : Option Value → Shared → Prop} (hh : A.handled = none) (y : StrSetOf prog w oM S n es ep t) (ok : SetModeOk w M es ep t n ord md)
    (x : SetItAt prog w S M I oM es ep t md n n s.heap) (hQ : ∀ h', Heap.ExtBut I s.heap h' → Q none { s with heap := h' }) :
    wpAny (model prog w) A (pyNext (.ref I)) Q E s := by
  obtain ⟨first, ho, hf⟩ := x.it
  have hM := x.hM
  have hh1 : A.in1.handled = none := hh
  unfold pyNext
  refine wpAny_bind (wpAny_attempt (wpAny_callSpecial?_slot (name := Str.ofString "__next__") ⟨_, ho, rfl⟩ slot_setit_next
    (wpAny_call_entry slot_setit_next ⟨_, ho, rfl⟩ entry_setit_next ?_ (args_setit_next _))))
  show wpAny _ _ (fieldsOf (.ref I) >>= _) _ _ s
  refine wpAny_bind (wpAny_fieldsOf ho rfl ?_)
  show wpAny _ _ (setEntries M >>= _) _ _ s
  refine wpAny_bind (wpAny_setEntries_of hM y.dat y.fits ?_)
  show wpAny _ _ (if ((es.size : Int) != (n : Int)) = true then _ else _) _ _ s
  rw [if_neg (by rw [y.size]; simp)]
  cases md with
  | text order =>
    obtain ⟨hb, horder, hosz, hel⟩ := ok
    have hf' : first = Value.int 0 0 := hf
    subst hf'
    show wpAny _ _ (setNext M _ _ _ >>= _) _ _ s
    rw [wpAny_setNext_eq, wpAny_setWalk_eq]
    refine wpAny_bind (wpAny_bind (wpAny_setState_of hM y.dat y.fits (wpAny_bind (wpAny_setsByText ?_))))
    rw [hb]
    simp only [if_true]
    refine wpAny_bind ?_
    rw [if_neg (by simp)]
    refine wpAny_pure ?_
    refine wpAny_bind (wpAny_bind (wpAny_setState_of hM y.dat y.fits (wpAny_bind (wpAny_setsByText ?_))))
    rw [hb]
    simp only [if_true]
    refine wpAny_bind (wpAny_askSetting (wpAny_pure ?_))
    dsimp only
    rw [show pickOrder ((model prog w).w.params.setOrder M ep) es = order from horder.symm]
    have hx : order[(n : Int).toNat]? = none := by rw [Int.toNat_natCast]; exact Array.getElem?_eq_none (by omega)
    rw [hx]
    refine wpAny_pure ?_
    dsimp only [Option.map]
    refine wpAny_bind (wpAny_setField ho rfl (by simp) ?_)
    exact stop_made (I := I) hh1 fun h' he => hQ h' ((Heap.SameBut.update ..).extBut.trans he)
  | draw T nt pl =>
    obtain ⟨hb, hpl, hel⟩ := ok
    obtain ⟨rfl, hT⟩ := hf
    show wpAny _ _ (seqItems? (.ref T) >>= _) _ _ s
    refine wpAny_bind (wpAny_seqItems hT rfl ?_)
    have hx : ((pl.map fun p : Nat => Value.int p 0).toArray)[(n : Int).toNat]? = none := by
      rw [Int.toNat_natCast, List.getElem?_toArray]; exact List.getElem?_eq_none (by rw [List.length_map]; omega)
    dsimp only
    rw [hx]
    dsimp only
    refine wpAny_bind (wpAny_setField ho rfl (by simp) ?_)
    have h0 := setIt_upd0 (x := rawInt 0) ho
    refine wpAny_bind (wpAny_setField h0 rfl (by simp) ?_)
    exact stop_made (I := I) hh1 fun h' he => hQ h' (((Heap.SameBut.update ..).trans (Heap.SameBut.update ..)).extBut.trans he)
  | one =>
    obtain ⟨hb, hn1, hel⟩ := ok
    obtain ⟨j, rfl, hj⟩ := hf
    have hps : t.place.size = n := by
      have := y.fits
      unfold SetTable.fits at this
      simp only [Bool.and_eq_true, beq_iff_eq, decide_eq_true_eq] at this
      rw [this.1, y.size]
    show wpAny _ _ (setNext M _ _ _ >>= _) _ _ s
    rw [wpAny_setNext_eq]
    refine wpAny_bind (wpAny_bind (wpAny_setState_of hM y.dat y.fits (wpAny_bind (wpAny_setsByText ?_))))
    rw [hb]
    simp only [Bool.false_eq_true, if_false]
    refine wpAny_bind ?_
    rw [if_neg (by rw [y.size]; simp; omega)]
    refine wpAny_pure (wpAny_bind ?_)
    rw [if_neg (by rw [y.led, hb]; simp)]
    refine wpAny_pure (wpAny_pure ?_)
    have hbl : es[SetTable.below t.place ((j : Nat) : Int).toNat]? = none := by
      refine Array.getElem?_eq_none ?_
      rw [y.size, Int.toNat_natCast]
      rcases Nat.lt_or_ge 0 n with h0 | h0
      · have hn : n = 1 := by omega
        obtain ⟨_, j', hj', rfl⟩ : 0 < n ∧ ∃ j', t.place[0]? = some j' ∧ j = j' + 1 := by
          rcases hj with h | h
          · exact absurd h.1 (by omega)
          · exact h
        have : SetTable.below t.place (j' + 1) = 1 := by
          unfold SetTable.below
          rw [hps, hn]
          unfold SetTable.below.go
          simp [SetTable.below.go, hj']
        rw [this]; omega
      · omega
    rw [hbl]
    dsimp only
    refine wpAny_bind (wpAny_setField ho rfl (by simp) ?_)
    exact stop_made (I := I) hh1 fun h' he => hQ h' ((Heap.SameBut.update ..).extBut.trans he)

/-- the iterator is made; the order is drawn -/
theorem strset_iter {Q : Value → Shared → Prop} (ho : s.heap.get? M = some oM) (hS : StrSet prog w oM S n) (hn : n ≤ sizeLine)
    (h : ∀ (I : Addr) es ep t md ord h' d, StrSetOf prog w oM S n es ep t → SetModeOk w M es ep t n ord md → (∀ k, S k ↔ k ∈ ord) → ord.length = n → SetItAt prog w S M I oM es ep t md n 0 h' →
      (∀ b o, s.heap.get? b = some o → h'.get? b = some o) → s.heap.objs.size ≤ I → (∀ T nt pl, md = .draw T nt pl → s.heap.objs.size ≤ T ∧ T ≠ I) → Q (.ref I) { s with heap := h', drawn := d }) :
    wpAny (model prog w) A (pyIter (.ref M)) Q E s := by
  obtain ⟨es, ep, t, y⟩ := hS
  have hT : s.TypeIs (.ref M) "set" := ⟨oM, ho, y.ex.1⟩
  have strOf : ∀ e ∈ es.toList, ∃ k tk, e.2 = Value.str k tk := fun e he => by
    obtain ⟨⟨k, hk, _⟩, _⟩ := y.el e he
    obtain ⟨tk, htk⟩ := Value.isStrOf_shape hk
    exact ⟨k, tk, htk⟩
  -- the texts of a list of entries
  let key : Int × Value → Str := fun e => match e.2 with | .str k _ => k | _ => Str.empty
  have keyOf : ∀ e ∈ es.toList, ∃ tk, e.2 = Value.str (key e) tk := fun e he => by
    obtain ⟨k, tk, hk⟩ := strOf e he
    exact ⟨tk, by show e.2 = Value.str (match e.2 with | .str k _ => k | _ => Str.empty) tk; rw [hk]⟩
  have memOf : ∀ l : List (Int × Value), List.Perm l es.toList → ∀ k, S k ↔ k ∈ l.map key := fun l hp k => by
    rw [y.mem k]
    constructor
    · rintro ⟨e, he, hk⟩
      obtain ⟨tk, hv⟩ := keyOf e he
      refine List.mem_map.mpr ⟨e, hp.mem_iff.mpr he, ?_⟩
      rw [hv] at hk
      exact (strKind prog w).inj _ _ _ (strKind_is prog w (key e) tk) hk
    · intro hm
      obtain ⟨e, he, rfl⟩ := List.mem_map.mp hm
      obtain ⟨tk, hv⟩ := keyOf e (hp.mem_iff.mp he)
      exact ⟨e, hp.mem_iff.mp he, by rw [hv]; exact strKind_is prog w _ tk⟩
  refine wpAny_pyIter_slot hT F.slot_set_iter (wpAny_call_entry F.slot_set_iter hT entry_set_iter ?_ (F.args_set_iter_1 _))
  unfold Builtin.«frozenset.__iter__»
  show wpAny _ _ ((pure M : Sem Addr) >>= _) _ _ s
  refine wpAny_bind (wpAny_pure ?_)
  unfold Builtin.Frozenset.sizeOf
  refine wpAny_bind (wpAny_bind (wpAny_setEntries_of ho y.dat y.fits (wpAny_pure ?_)))
  rw [wpAny_setDrawn_eq]
  refine wpAny_bind (wpAny_bind (wpAny_setState_of ho y.dat y.fits (wpAny_bind (wpAny_setsByText (wpAny_pure ?_)))))
  dsimp only
  have last : ∀ (first : Value) (md : SetMode) (ord : List Str) (h₁ : Heap) (d : Drawn), SetModeOk w M es ep t n ord md → (∀ k, S k ↔ k ∈ ord) → ord.length = n → (∀ h', (∀ b o, h₁.get? b = some o → h'.get? b = some o) → SetFirst t h' 0 first md) →
      (∀ b o, s.heap.get? b = some o → h₁.get? b = some o) → s.heap.objs.size ≤ h₁.objs.size → (∀ T nt pl, md = .draw T nt pl → s.heap.objs.size ≤ T ∧ T < h₁.objs.size) →
      wpAny (model prog w) A.in1 (setEpoch M >>= fun e => newFields "set_iterator" [first, rawInt 0, .ref M, rawInt (es.size : Nat), rawInt (e : Nat)] >>= fun r => ret r)
        (fun fin s' => ∃ v, fin = .done (.ret v) ∧ ∃ T' r, s'.TypeIs v T' ∧ typeLookup (.type T') "__next__" = pure (some r) ∧ Q v s') E { s with heap := h₁, drawn := d } := by
    intro first md ord h₁ d ok hm hl hf hk hsz hTT
    refine wpAny_bind (wpAny_setEpoch_of (hk _ _ ho) y.dat y.fits ?_)
    unfold newFields
    refine wpAny_bind (wpAny_newObj_type (wpAny_pure ⟨_, rfl, "set_iterator", _, ⟨_, Heap.get?_push_size _ rfl, rfl⟩, slot_setit_next.lookup, ?_⟩))
    refine h h₁.objs.size es ep t md ord _ d y ok hm hl ⟨Heap.get?_push_of_some _ (hk _ _ ho), first, ?_, hf _ fun b o e => Heap.get?_push_of_some _ e⟩ (fun b o e => Heap.get?_push_of_some _ (hk b o e)) hsz fun T nt pl e => ⟨(hTT T nt pl e).1, Nat.ne_of_lt (hTT T nt pl e).2⟩
    rw [show setItObj first 0 M n ep = ({ cls := .type "set_iterator", data := .fields [first, rawInt 0, .ref M, rawInt (es.size : Nat), rawInt (ep : Nat)].toArray } : Obj) from by rw [y.size]; rfl]
    exact Heap.get?_push_size _ rfl
  by_cases hb : w.params.followText "set-order" = true
  · rw [hb]
    simp only [Bool.not_true, Bool.false_and, Bool.false_eq_true, if_false]
    refine wpAny_bind (wpAny_pure ?_)
    have hp := pickOrder_perm (w.params.setOrder M ep) es
    have e0 : s = { s with heap := s.heap, drawn := s.drawn } := by cases s; rfl
    rw [e0]
    refine last _ (.text (pickOrder (w.params.setOrder M ep) es)) ((pickOrder (w.params.setOrder M ep) es).toList.map key) s.heap s.drawn ⟨hb, rfl, ?_, fun i e hi => ?_⟩ (memOf _ hp) ?_ (fun _ _ => rfl) (fun _ _ e => e) (Nat.le_refl _) (fun T nt pl e => by cases e)
    · rw [← Array.length_toList, hp.length_eq, Array.length_toList, y.size]
    · have he : e ∈ es.toList := hp.mem_iff.mp (by rw [Array.mem_toList_iff]; exact Array.mem_of_getElem? hi)
      obtain ⟨tk, hv⟩ := keyOf e he
      exact ⟨key e, tk, by rw [List.getElem?_map, Array.getElem?_toList, hi]; rfl, hv⟩
    · rw [List.length_map, hp.length_eq, Array.length_toList, y.size]
  · have hb' : w.params.followText "set-order" = false := by simpa using hb
    by_cases h1 : n ≤ 1
    · rw [if_neg (by rw [hb', y.size]; simp; omega)]
      refine wpAny_bind (wpAny_pure ?_)
      have e0 : s = { s with heap := s.heap, drawn := s.drawn } := by cases s; rfl
      rw [e0]
      refine last _ .one (es.toList.map key) s.heap s.drawn ⟨hb', h1, fun e he => ?_⟩ (memOf _ (.refl _)) (by rw [List.length_map, Array.length_toList, y.size]) (fun _ _ => ⟨0, rfl, .inl ⟨rfl, rfl⟩⟩) (fun _ _ e => e) (Nat.le_refl _) (fun T nt pl e => by cases e)
      have he' : e ∈ es.toList := by rw [Array.mem_toList_iff]; exact Array.mem_of_getElem? he
      obtain ⟨tk, hv⟩ := keyOf e he'
      exact ⟨key e, tk, by rw [List.getElem?_map, Array.getElem?_toList, he]; rfl, hv⟩
    · have hpl : t.plain = false := by
        rcases y.plain with h | h
        · exact absurd h (by rw [y.size]; omega)
        · exact h
      rw [if_pos (by rw [hb', y.size, hpl]; simp; omega)]
      refine wpAny_bind (wpAny_drawOrder es.size (List.range es.size) s _ List.length_range fun ys d hys => wpAny_bind ?_)
      have hyl : ys.length = n := by rw [hys.length_eq, List.length_range, y.size]
      unfold newTuple
      refine wpAny_newObj_type ?_ (by show (ys.map fun i : Nat => rawInt i).toArray.size ≤ sizeLine; rw [List.size_toArray, List.length_map, hyl]; exact hn)
      let ent : Nat → Int × Value := fun p => es.getD p (0, .none)
      have entOf : ∀ p ∈ ys, es[p]? = some (ent p) := fun p hp => by
        have hlt : p < es.size := List.mem_range.mp (hys.mem_iff.mp hp)
        show es[p]? = some (es.getD p (0, .none))
        rw [Array.getD_eq_getD_getElem?, Array.getElem?_eq_getElem hlt]; rfl
      have hperm : List.Perm (ys.map ent) es.toList := by
        have hr : (List.range es.size).map ent = es.toList := by
          refine List.ext_getElem? fun i => ?_
          rw [List.getElem?_map]
          rcases Nat.lt_or_ge i es.size with hi | hi
          · rw [List.getElem?_range hi]
            have := entOf i (hys.mem_iff.mpr (List.mem_range.mpr hi))
            rw [Array.getElem?_toList, this]; rfl
          · rw [List.getElem?_eq_none (by rw [List.length_range]; exact hi), List.getElem?_eq_none (by rw [Array.length_toList]; exact hi)]; rfl
        rw [← hr]; exact hys.map ent
      refine last (.ref s.heap.objs.size) (.draw s.heap.objs.size 0 ys) ((ys.map ent).map key) (s.heap.push { cls := .type "tuple", data := .seq (ys.map fun i : Nat => rawInt i).toArray }) d ⟨hb', hyl, fun i p hp => ?_⟩ (memOf _ hperm) ?_ (fun h' hk => ⟨rfl, hk _ _ ?_⟩) (fun b o e => Heap.get?_push_of_some _ e) (by rw [Heap.size_push]; exact Nat.le_succ _) (fun T nt pl e => by cases e; exact ⟨Nat.le_refl _, by rw [Heap.size_push]; exact Nat.lt_succ_self _⟩)
      · have hpm : p ∈ ys := List.mem_of_getElem? hp
        have he := entOf p hpm
        obtain ⟨tk, hv⟩ := keyOf (ent p) (hperm.mem_iff.mp (List.mem_map_of_mem hpm))
        exact ⟨ent p, key (ent p), tk, he, by rw [List.getElem?_map, List.getElem?_map, hp]; rfl, hv⟩
      · rw [List.length_map, List.length_map, hyl]
      · exact Heap.get?_push_size _ rfl
end
end Mine
end

section
set_option Elab.async false
set_option maxRecDepth 100000
set_option maxHeartbeats 4000000
namespace Mine
open PySem PySem.W PyProof.Rows PySem.Calls

section
variable {prog : Program} {w : World} {A : Around} {E : Value → Shared → Prop} {s : Shared} {env : Env} {h₀ : Heap} {x : Str} {body : List Stmt} {Q : Flow → Shared → Prop}

/-- the end of a turn that searches: it leaves, or it goes on with all as it was -/
noncomputable def SrEnd (h₀ : Heap) (L : Addr) (x : Str) (m₀ : Str → Option Value) (led : List (Addr × Obj)) (G : Prop) (s₁ s₂ : Shared) : Prop :=
  ∃ h' tk m' news', s₂ = { s₁ with heap := h', toks := tk } ∧ Fr h₀ L h' m' ∧ (∀ z, z ≠ x → m' z = m₀ z) ∧ News h₀ L h' news' ∧ (∀ p ∈ led, p ∈ news') ∧ G
noncomputable def SrPost (h₀ : Heap) (L : Addr) (x : Str) (m₀ : Str → Option Value) (led : List (Addr × Obj)) (G : Prop) (s₁ : Shared) (Q : Flow → Shared → Prop) (f : Flow) (s₂ : Shared) : Prop :=
  match f with
  | .ret v => Q (.ret v) s₂
  | .brk => Q .next s₂
  | _ => SrEnd h₀ L x m₀ led G s₁ s₂

theorem loop_search {I : Addr} {fp wr : List Addr} {n : Nat} {P : Nat → Value → Prop} {St : Nat → Heap → Prop} {m₀ : Str → Option Value} {news : List (Addr × Obj)} (ord : List Str) (found : Str → Prop) (safe : List Addr)
    (W : Walks prog w A I fp wr n P St) (hP : ∀ i v, P i v → ∃ k t, ord[i]? = some k ∧ v = .str k t) (hn : ord.length = n) (hLf : env.locals ∉ fp) (hwr : ∀ b ∈ wr, h₀.get? b = none) (hnw : ∀ p ∈ news, p.1 ∉ wr) (hsafe : ∀ b ∈ safe, b ∉ fp)
    (hst : St 0 s.heap) (F : Fr h₀ env.locals s.heap m₀) (N : News h₀ env.locals s.heap news)
    (turn : ∀ k t h tk own, k ∈ ord → OwnOff own safe → Fr h₀ env.locals h (fun y => if y = x then some (.str k t) else m₀ y) → News h₀ env.locals h (news ++ own) →
      wpAny (model prog w) A (execs body env) (SrPost h₀ env.locals x m₀ (news ++ own) (¬ found k) { s with heap := h, toks := tk } Q) E { s with heap := h, toks := tk })
    (done : ∀ (u : Str → Option Value) h tk, (∀ k ∈ ord, ¬ found k) → Fr h₀ env.locals h (fun y => if y = x then u y else m₀ y) → News h₀ env.locals h news → Q .next { s with heap := h, toks := tk }) :
    LoopAtV prog w A h₀ env x body Q E (.ref I) s := by
  let J' : Nat → (Str → Option Value) → List (Addr × Obj) → Prop := fun i m₁ news₁ => news₁ = news ∧ (∀ z, z ≠ x → m₁ z = m₀ z) ∧ ∀ k ∈ ord.take i, ¬ found k
  have same : ∀ (m₁ : Str → Option Value) (g : Str → Option Value), (∀ z, z ≠ x → m₁ z = m₀ z) → (fun y => if y = x then g y else m₁ y) = fun y => if y = x then g y else m₀ y := fun m₁ g hm => by
    funext y
    by_cases hy : y = x
    · rw [if_pos hy, if_pos hy]
    · rw [if_neg hy, if_neg hy]; exact hm y hy
  refine ⟨I, fp, wr, n, P, St, m₀, news, J', rfl, W, hLf, hwr, hnw, hst, F, N, ⟨rfl, fun _ _ => rfl, by simp⟩, ?_, ?_⟩
  · rintro i v m₁ news₁ s₁ own ⟨hh', tk', rfl⟩ hin hPv ⟨rfl, hm, hf⟩ hoff hown _ _ _ F₁ N₁
    obtain ⟨k, t, hk, rfl⟩ := hP i v hPv
    rw [same m₁ (fun _ => some (.str k t)) hm] at F₁
    have N₂ : News h₀ env.locals hh' (news₁ ++ own) := fun p hp => N₁ p ((List.mem_append.mp hp).elim (fun h => List.mem_append.mpr (.inr h)) fun h => List.mem_append.mpr (.inl h))
    refine wpAny_mono (turn k t hh' tk' own (List.mem_of_getElem? hk) (fun p hp b hb e => hsafe b hb (e ▸ hown p hp)) F₁ N₂) (fun f s₂ p => ?_) fun _ _ e => e
    have fin : SrEnd h₀ env.locals x m₀ (news₁ ++ own) (¬ found k) { s with heap := hh', toks := tk' } s₂ → LoopStepU h₀ env.locals wr own (J' (i + 1)) { s with heap := hh', toks := tk' } .next s₂ := by
      rintro ⟨h', tk, m', news', e, F', hm', N', hl, hg⟩
      refine ⟨rfl, h', tk, m', news₁, e, F', fun p hp => N' p (hl p ((List.mem_append.mp hp).elim (fun h => List.mem_append.mpr (.inr h)) fun h => List.mem_append.mpr (.inl h))), hnw, rfl, hm', ?_⟩
      rw [List.take_add_one, hk]
      intro k' hk'
      rcases List.mem_append.mp hk' with h | h
      · exact hf k' h
      · have e : k' = k := by simpa using h
        rw [e]; exact hg
    cases f with
    | ret v => exact .ret p
    | brk => exact .brk p
    | next => exact .next (fin p)
    | cont => exact .cont (fin p)
  · rintro h' tk m' news' F' N' _ ⟨rfl, hm, hf⟩
    rw [← hn, List.take_length] at hf
    refine done m' h' tk hf ?_ N'
    have e1 := same m' m' hm
    have e2 : (fun y => if y = x then m' y else m' y) = m' := by funext y; split <;> rfl
    rw [← e1, e2]; exact F'

noncomputable def modeFp (md : SetMode) (I M : Addr) : List Addr := match md with
  | .draw T _ _ => [I, M, T]
  | _ => [I, M]
theorem walks_strset {S : Str → Prop} {M I : Addr} {oM : Obj} {es : Array (Int × Value)} {ep : Nat} {t : SetTable} {md : SetMode} {n : Nat} {ord : List Str} (hh : A.handled = none)
    (y : StrSetOf prog w oM S n es ep t) (ok : SetModeOk w M es ep t n ord md) (hne : M ≠ I) (hneT : ∀ T nt pl, md = .draw T nt pl → T ≠ I) :
    Walks prog w A I (modeFp md I M) [I] n (fun i v => ∃ k tk, ord[i]? = some k ∧ v = .str k tk) (fun i h => SetItAt prog w S M I oM es ep t md n i h) where
  sub := fun b hb => by
    rw [List.mem_singleton.mp hb]
    cases md <;> exact List.mem_cons_self (a := I)
  frame := fun i h h' st hk => by
    obtain ⟨first, ho, hf⟩ := st.it
    refine ⟨hk M ?_ _ st.hM, first, hk I ?_ _ ho, setMode_keep hf fun T nt pl e o q => hk T ?_ o q⟩
    · cases md <;> simp [modeFp]
    · cases md <;> simp [modeFp]
    · subst e; simp [modeFp]
  item := fun i s Q E hi st hQ => setIt_item y ok hi hne hneT st fun k tk h' hk st' hs' => hQ _ h' s.toks ⟨k, tk, hk, rfl⟩ st' fun b o hb e => (hs'.2 b fun q => hb (by simp [q])).trans e
  done := fun s Q E st hQ => setIt_done hh y ok st fun h' he' => hQ h' s.toks fun b o hb e => he' b o (fun q => hb (by simp [q])) e
  self := fun i s Q E st hQ => by
    obtain ⟨first, ho, hf⟩ := st.it
    refine wpAny_pyIter_slot ⟨_, ho, rfl⟩ slot_setit_iter (wpAny_call_entry slot_setit_iter ⟨_, ho, rfl⟩ entry_setit_iter ?_ (args_setit_iter _))
    show wpAny _ _ (ret (.ref I)) _ _ s
    exact wpAny_pure ⟨_, rfl, "set_iterator", _, ⟨_, ho, rfl⟩, slot_setit_next.lookup, hQ⟩

theorem iter_strset {M : Addr} {oM : Obj} {ms : List Str} {n : Nat} {m₀ : Str → Option Value} {news : List (Addr × Obj)} (found : Str → Prop) (safe : List Addr)
    (hh : A.handled = none) (F : Fr h₀ env.locals s.heap m₀) (N : News h₀ env.locals s.heap news) (hm : (M, oM) ∈ news) (hS : StrSet prog w oM (fun k => k ∈ ms) n) (hn : n ≤ sizeLine) (hsafe : ∀ b ∈ safe, b ≠ M ∧ b < s.heap.objs.size)
    (turn : ∀ k t h d tk own, k ∈ ms → OwnOff own safe → Fr h₀ env.locals h (fun y => if y = x then some (.str k t) else m₀ y) → News h₀ env.locals h (news ++ own) →
      wpAny (model prog w) A (execs body env) (SrPost h₀ env.locals x m₀ (news ++ own) (¬ found k) { s with heap := h, drawn := d, toks := tk } Q) E { s with heap := h, drawn := d, toks := tk })
    (done : ∀ (u : Str → Option Value) h d tk, (∀ k ∈ ms, ¬ found k) → Fr h₀ env.locals h (fun y => if y = x then u y else m₀ y) → News h₀ env.locals h news → Q .next { s with heap := h, drawn := d, toks := tk }) :
    wpAny (model prog w) A (pyIter (.ref M)) (fun it s₂ => LoopAtV prog w A h₀ env x body Q E it s₂) E s := by
  refine strset_iter (N.get hm) hS hn fun I es ep t md ord h' d y ok hmem hl st hk hI hT => ?_
  have hML : M < s.heap.objs.size := Heap.lt_size (N.get hm)
  have hne : M ≠ I := Nat.ne_of_lt (Nat.lt_of_lt_of_le hML hI)
  have hfp : ∀ b ∈ modeFp md I M, b = M ∨ s.heap.objs.size ≤ b := fun b hb => by
    cases md with
    | text o => simp [modeFp] at hb; rcases hb with rfl | rfl; exact .inr hI; exact .inl rfl
    | draw T nt pl => simp [modeFp] at hb; rcases hb with rfl | rfl | rfl; exact .inr hI; exact .inl rfl; exact .inr (hT _ _ _ rfl).1
    | one => simp [modeFp] at hb; rcases hb with rfl | rfl; exact .inr hI; exact .inl rfl
  have new : ∀ b, s.heap.objs.size ≤ b → h₀.get? b = none := fun b hb => by
    cases e : h₀.get? b with
    | none => rfl
    | some o => exact absurd (Heap.lt_size (F.keep b o e)) (Nat.not_lt.mpr hb)
  refine loop_search (s := { s with heap := h', drawn := d }) ord found safe (walks_strset hh y ok hne fun T nt pl e => (hT T nt pl e).2) (fun _ _ p => p) hl (fun hb => ?_) (fun b hb => ?_) (fun p hp hb => ?_) (fun b hb hf => ?_) st (F.keeps hk) (N.grown hk) (fun k t h tk own hk' => turn k t h d tk own ((hmem k).mpr hk')) fun u h tk hf => done u h d tk fun k hk' => hf k ((hmem k).mp hk')
  · rcases hfp _ hb with e | e
    · exact (N _ hm).2.1 e.symm
    · exact absurd F.ns.lt (Nat.not_lt.mpr e)
  · rw [List.mem_singleton.mp hb]; exact new _ hI
  · rw [List.mem_singleton] at hb
    exact absurd (Heap.lt_size (N p hp).1) (by rw [hb]; exact Nat.not_lt.mpr hI)
  · rcases hfp _ hf with e | e
    · exact (hsafe b hb).1 e
    · exact absurd (hsafe b hb).2 (Nat.not_lt.mpr e)

theorem iter_texts {l : Addr} {vs : List Value} {ks : List Str} {nl : Nat} {m₀ : Str → Option Value} {news : List (Addr × Obj)} (found : Str → Prop) (safe : List Addr)
    (hh : A.handled = none) (F : Fr h₀ env.locals s.heap m₀) (N : News h₀ env.locals s.heap news) (hm : (l, listOf vs.toArray nl) ∈ news) (hS : StrsAre vs ks) (hsafe : ∀ b ∈ safe, b ≠ l ∧ b < s.heap.objs.size)
    (turn : ∀ k t h tk own, k ∈ ks → OwnOff own safe → Fr h₀ env.locals h (fun y => if y = x then some (.str k t) else m₀ y) → News h₀ env.locals h (news ++ own) →
      wpAny (model prog w) A (execs body env) (SrPost h₀ env.locals x m₀ (news ++ own) (¬ found k) { s with heap := h, toks := tk } Q) E { s with heap := h, toks := tk })
    (done : ∀ (u : Str → Option Value) h tk, (∀ k ∈ ks, ¬ found k) → Fr h₀ env.locals h (fun y => if y = x then u y else m₀ y) → News h₀ env.locals h news → Q .next { s with heap := h, toks := tk }) :
    wpAny (model prog w) A (pyIter (.ref l)) (fun it s₂ => LoopAtV prog w A h₀ env x body Q E it s₂) E s := by
  have hl : s.heap.IsList l vs.toArray := ⟨_, N.get hm, rfl, _, rfl⟩
  have hlt : l < s.heap.objs.size := Heap.lt_size (N.get hm)
  have hne : l ≠ s.heap.objs.size := Nat.ne_of_lt hlt
  refine wpAny_pyIter_list hl ?_
  have hk : ∀ b o, s.heap.get? b = some o → (s.heap.push { cls := .type "list_iterator", data := .fields #[.ref l, .int 0 0] }).get? b = some o := fun b o e => Heap.get?_push_of_some _ e
  refine loop_search (s := { s with heap := s.heap.push { cls := .type "list_iterator", data := .fields #[.ref l, .int 0 0] } }) ks found safe (Walks.list hh s.heap.objs.size l hne vs.toArray) (fun i v hv => strs_item hS i v (by simpa using hv)) (by rw [List.size_toArray, hS.length]) (fun hb => ?_) (fun b hb => ?_) (fun p hp hb => ?_) (fun b hb hf => ?_)
    ⟨⟨_, Heap.get?_push_size _ rfl, rfl, rfl⟩, hl.push _⟩ (F.keeps hk) (N.grown hk) turn done
  · rcases List.mem_cons.mp hb with e | e
    · exact absurd F.ns.lt (by rw [e]; exact Nat.lt_irrefl _)
    · exact (N _ hm).2.1 (List.mem_singleton.mp e).symm
  · rw [List.mem_singleton.mp hb]; exact next_is_new F
  · rw [List.mem_singleton] at hb
    exact absurd (Heap.lt_size (N p hp).1) (by rw [hb]; exact Nat.lt_irrefl _)
  · rcases List.mem_cons.mp hf with e | e
    · exact absurd (hsafe b hb).2 (by rw [e]; exact Nat.lt_irrefl _)
    · exact (hsafe b hb).1 (List.mem_singleton.mp e)
end
end Mine
end

section
set_option Elab.async false
set_option maxRecDepth 100000
set_option maxHeartbeats 4000000
namespace Mine
open PySem PySem.W PyProof.Rows PySem.Calls

section
variable {prog : Program} {w : World} {A : Around} {E : Value → Shared → Prop} {s : Shared} {env : Env} {h₀ : Heap} {x : Str} {body : List Stmt} {Q : Flow → Shared → Prop}

theorem fr_same {L : Addr} {h : Heap} {m₀ m₁ : Str → Option Value} {v : Value} (hm : ∀ z, z ≠ x → m₁ z = m₀ z) (F : Fr h₀ L h (fun y => if y = x then some v else m₁ y)) : Fr h₀ L h (fun y => if y = x then some v else m₀ y) := by
  have e : (fun y => if y = x then some v else m₁ y) = fun y => if y = x then some v else m₀ y := by
    funext y
    by_cases hy : y = x
    · rw [if_pos hy, if_pos hy]
    · rw [if_neg hy, if_neg hy]; exact hm y hy
  rw [← e]; exact F
theorem fr_out {L : Addr} {h : Heap} {m₀ m₁ : Str → Option Value} (hm : ∀ z, z ≠ x → m₁ z = m₀ z) (F : Fr h₀ L h m₁) : Fr h₀ L h (fun y => if y = x then m₁ y else m₀ y) := by
  have e : (fun y => if y = x then m₁ y else m₀ y) = m₁ := by
    funext y
    by_cases hy : y = x
    · rw [if_pos hy]
    · rw [if_neg hy]; exact (hm y hy).symm
  rw [e]; exact F

theorem loop_J {I : Addr} {fp wr : List Addr} {n : Nat} {P : Nat → Value → Prop} {St : Nat → Heap → Prop} {m₀ : Str → Option Value} {news : List (Addr × Obj)} (J : Nat → (Str → Option Value) → List (Addr × Obj) → Prop) (safe : List Addr)
    (W : Walks prog w A I fp wr n P St) (hLf : env.locals ∉ fp) (hwr : ∀ b ∈ wr, h₀.get? b = none) (hnw : ∀ p ∈ news, p.1 ∉ wr) (hsafe : ∀ b ∈ safe, b ∉ fp) (hst : St 0 s.heap) (F : Fr h₀ env.locals s.heap m₀) (N : News h₀ env.locals s.heap news) (hj : J 0 m₀ news)
    (turn : ∀ i v m₁ news₁ h tk own, i < n → P i v → news₁.map (·.1) = news.map (·.1) → OwnOff own safe → J i m₁ news₁ → Fr h₀ env.locals h (fun y => if y = x then some v else m₁ y) → News h₀ env.locals h (news₁ ++ own) →
      wpAny (model prog w) A (execs body env) (InvPostN h₀ env.locals (J (i + 1)) own (news.map (·.1)) { s with heap := h, toks := tk } Q) E { s with heap := h, toks := tk })
    (done : ∀ m₁ news₁ h tk, J n m₁ news₁ → Fr h₀ env.locals h m₁ → News h₀ env.locals h news₁ → Q .next { s with heap := h, toks := tk }) :
    LoopAtV prog w A h₀ env x body Q E (.ref I) s := by
  let J' : Nat → (Str → Option Value) → List (Addr × Obj) → Prop := fun i m₁ news₁ => news₁.map (·.1) = news.map (·.1) ∧ J i m₁ news₁
  refine ⟨I, fp, wr, n, P, St, m₀, news, J', rfl, W, hLf, hwr, hnw, hst, F, N, ⟨rfl, hj⟩, ?_, ?_⟩
  · rintro i v m₁ news₁ s₁ own ⟨hh', tk', rfl⟩ hin hP ⟨hadr, hJ⟩ hoff hown _ _ _ F₁ N₁
    have N₂ : News h₀ env.locals hh' (news₁ ++ own) := fun p hp => N₁ p ((List.mem_append.mp hp).elim (fun h => List.mem_append.mpr (.inr h)) fun h => List.mem_append.mpr (.inl h))
    refine wpAny_mono (turn i v m₁ news₁ hh' tk' own hin hP hadr (fun p hp b hb e => hsafe b hb (e ▸ hown p hp)) hJ F₁ N₂) (fun f s₂ p => ?_) fun _ _ e => e
    have fin : InvEndN h₀ env.locals (J (i + 1)) own (news.map (·.1)) { s with heap := hh', toks := tk' } s₂ → LoopStepU h₀ env.locals wr own (J' (i + 1)) { s with heap := hh', toks := tk' } .next s₂ := by
      rintro ⟨h', tk, m', news', nx, e, F', N', hn, ho, ha, hm⟩
      refine ⟨rfl, h', tk, m', nx, e, F', fun p hp => N' p ((List.mem_append.mp hp).elim (ho p) (hn p)), fun p hp hq => ?_, ha, hm⟩
      have h1 : p.1 ∈ nx.map (·.1) := List.mem_map.mpr ⟨p, hp, rfl⟩
      rw [ha, ← hadr] at h1
      obtain ⟨q, hq1, hq2⟩ := List.mem_map.mp h1
      exact hoff q hq1 (by rw [hq2]; exact hq)
    cases f with
    | ret v => exact .ret p
    | brk => exact .brk p
    | next => exact .next (fin p)
    | cont => exact .cont (fin p)
  · rintro h' tk m' news' F' N' _ ⟨_, hJ⟩
    exact done m' news' h' tk hJ F' N'

/-- a for over a list: any state between the turns -/
theorem iter_list {lo : Addr} {vs : List Value} {m₀ : Str → Option Value} {news : List (Addr × Obj)} (J : Nat → (Str → Option Value) → List (Addr × Obj) → Prop) (safe : List Addr)
    (hh : A.handled = none) (hl : s.heap.IsList lo vs.toArray) (hlL : lo ≠ env.locals) (F : Fr h₀ env.locals s.heap m₀) (N : News h₀ env.locals s.heap news) (hsafe : ∀ b ∈ safe, b ≠ lo ∧ b < s.heap.objs.size) (hj : J 0 m₀ news)
    (turn : ∀ i v m₁ news₁ h tk own, vs[i]? = some v → news₁.map (·.1) = news.map (·.1) → OwnOff own safe → J i m₁ news₁ → Fr h₀ env.locals h (fun y => if y = x then some v else m₁ y) → News h₀ env.locals h (news₁ ++ own) →
      wpAny (model prog w) A (execs body env) (InvPostN h₀ env.locals (J (i + 1)) own (news.map (·.1)) { s with heap := h, toks := tk } Q) E { s with heap := h, toks := tk })
    (done : ∀ m₁ news₁ h tk, J vs.length m₁ news₁ → Fr h₀ env.locals h m₁ → News h₀ env.locals h news₁ → Q .next { s with heap := h, toks := tk }) :
    wpAny (model prog w) A (pyIter (.ref lo)) (fun it s₂ => LoopAtV prog w A h₀ env x body Q E it s₂) E s := by
  obtain ⟨ol, hol, _⟩ := id hl
  have hlt : lo < s.heap.objs.size := Heap.lt_size hol
  have hne' : lo ≠ s.heap.objs.size := Nat.ne_of_lt hlt
  refine wpAny_pyIter_list hl ?_
  have hk : ∀ b o, s.heap.get? b = some o → (s.heap.push { cls := .type "list_iterator", data := .fields #[.ref lo, .int 0 0] }).get? b = some o := fun b o e => Heap.get?_push_of_some _ e
  have W := Walks.list (prog := prog) (w := w) hh s.heap.objs.size lo hne' vs.toArray
  have hsz : vs.toArray.size = vs.length := List.size_toArray
  rw [hsz] at W
  refine loop_J (s := { s with heap := s.heap.push { cls := .type "list_iterator", data := .fields #[.ref lo, .int 0 0] } }) J safe W (fun hb => ?_) (fun b hb => ?_) (fun p hp hb => ?_) (fun b hb hf => ?_) ⟨⟨_, Heap.get?_push_size _ rfl, rfl, rfl⟩, hl.push _⟩ (F.keeps hk) (N.grown hk) hj
    (fun i v m₁ news₁ h tk own _ hv => turn i v m₁ news₁ h tk own (by simpa using hv)) done
  · rcases List.mem_cons.mp hb with e | e
    · exact absurd F.ns.lt (by rw [e]; exact Nat.lt_irrefl _)
    · exact hlL (List.mem_singleton.mp e).symm
  · rw [List.mem_singleton.mp hb]; exact next_is_new F
  · rw [List.mem_singleton] at hb
    exact absurd (Heap.lt_size (N p hp).1) (by rw [hb]; exact Nat.lt_irrefl _)
  · rcases List.mem_cons.mp hf with e | e
    · exact absurd (hsafe b hb).2 (by rw [e]; exact Nat.lt_irrefl _)
    · exact (hsafe b hb).1 (List.mem_singleton.mp e)
end
end Mine
end

section
set_option Elab.async false
set_option maxRecDepth 100000
set_option maxHeartbeats 4000000
namespace Mine
open PySem PySem.W PyProof.Rows PySem.Calls PySem.Spec
open PyProof.Rows.LCg (lst NsObj ns_obj lst_snoc)

noncomputable abbrev testsOf (ifs : List PySem.Expr) (env : Env) : Sem Bool := forIn ifs true fun c r => if r = true then do let ok ← isTrue c env (eval c env); pure (ForInStep.yield ok) else pure (ForInStep.yield r)

section
variable {prog : Program} {w : World} {A : Around} {E : Value → Shared → Prop} {s : Shared} {h₀ : Heap} {L : Addr} {m : Str → Option Value} {env : Env}

theorem compLoop_G {elt target iter : PySem.Expr} {ifs : List PySem.Expr} {scope : Scope} {pos : Pos} {it acc : Value} {env : Env} {R : Result → Shared → Prop} (I : Nat → Shared → Prop)
    (turn : ∀ n s, I n s → wpAny (model prog w) A (pyNext it) (fun r s₁ => match r with
      | none => R (.ok .next) s₁
      | some v => wpAny (model prog w) A (letOwnedTupleGo target it v) (fun _ s₀ => wpAny (model prog w) A (assign target env v) (fun _ s₂ =>
          wpAny (model prog w) A (testsOf ifs env) (fun ok s₃ => if ok = true then wpAny (model prog w) A (eval elt env) (fun x s₄ =>
            wpAny (model prog w) A (call (.builtin "list.append") [acc, x]) (fun _ s₅ => ∃ m, m < n ∧ I m s₅) (notedBy (model prog w) A env fun e s' => R (.error e) s') s₄) (notedBy (model prog w) A env fun e s' => R (.error e) s') s₃
            else ∃ m, m < n ∧ I m s₃) (notedBy (model prog w) A env fun e s' => R (.error e) s') s₂)
          (notedBy (model prog w) A env fun e s' => R (.error e) s') s₀) (notedBy (model prog w) A env fun e s' => R (.error e) s') s₁) (notedBy (model prog w) A env fun e s' => R (.error e) s') s)
    (n : Nat) (h : I n s) : codeAny (model prog w) A (.compLoop (.ListComp elt [⟨target, iter, ifs, 0⟩] scope pos) 0 it acc env) R s := by
  refine codeAny_loop rfl I (fun n s hI => ?_) n h
  show wpAny _ A ((compTurn (.ListComp elt [⟨target, iter, ifs, 0⟩] scope pos) 0 it acc env).onRaise (fun x => do noteFrame x env; theTreesLotGoes x)) _ _ s
  refine wpAny_noted ?_
  rw [compTurn_list]
  refine wpAny_bind (wpAny_standAt (wpAny_bind (wpAny_mono (turn n s hI) (fun r s₁ h₁ => ?_) fun _ _ h' => h')))
  cases r with
  | none => exact wpAny_pure h₁
  | some v =>
    refine wpAny_bind (wpAny_mono h₁ (fun _ s₀ h₀' => ?_) fun _ _ h' => h')
    refine wpAny_bind (wpAny_mono h₀' (fun _ s₂ h₂ => wpAny_bind (wpAny_mono h₂ (fun ok s₃ h₃ => ?_) fun _ _ h' => h')) fun _ _ h' => h')
    cases ok with
    | false => exact wpAny_pure ⟨rfl, h₃⟩
    | true =>
      exact wpAny_bind (wpAny_bind (wpAny_mono h₃ (fun x s₄ h₄ => wpAny_bind (wpAny_mono h₄ (fun _ s₅ h₅ => wpAny_pure (wpAny_pure ⟨rfl, h₅⟩)) fun _ _ h' => h')) fun _ _ h' => h'))

/-- the end of one evaluation in a comprehension -/
inductive GEnd (h₀ : Heap) (L : Addr) (m : Str → Option Value) (Kd : Drawn → Prop) (X : List (Addr × Obj)) (adr : List Addr) (rest : Value → List (Addr × Obj) → Prop) (s₁ : Shared) (y : Value) (s₂ : Shared) : Prop
  | mk (h' : Heap) (tk : Nat) (dr : Drawn) (all news' : List (Addr × Obj)) (h1 : s₂ = { s₁ with heap := h', toks := tk, drawn := dr }) (h2 : Kd dr) (h3 : Fr h₀ L h' m) (h4 : News h₀ L h' all) (h5 : (∀ p ∈ X, p ∈ all)) (h6 : (∀ p ∈ news', p ∈ all)) (h7 : news'.map (·.1) = adr) (h8 : rest y news') : GEnd h₀ L m Kd X adr rest s₁ y s₂
theorem GEnd.same {Kd : Drawn → Prop} {X : List (Addr × Obj)} {adr : List Addr} {rest : Value → List (Addr × Obj) → Prop} {s₁ : Shared} {y : Value} {h' : Heap} {tk : Nat} {all : List (Addr × Obj)} (F : Fr h₀ L h' m) (N : News h₀ L h' all) (news' : List (Addr × Obj)) (hK : Kd s₁.drawn)
    (hX : ∀ p ∈ X, p ∈ all) (hn : ∀ p ∈ news', p ∈ all) (ha : news'.map (·.1) = adr) (r : rest y news') : GEnd h₀ L m Kd X adr rest s₁ y { s₁ with heap := h', toks := tk } :=
  ⟨h', tk, s₁.drawn, all, news', rfl, hK, F, N, hX, hn, ha, r⟩

/-- the body of a turn, seen from its end -/
abbrev Body := (Value → Shared → Prop) → Shared → (Shared → Prop) → Prop

/-- what a turn must leave -/
inductive TurnEnd (h₀ : Heap) (L : Addr) (m : Str → Option Value) (Kd : Drawn → Prop) (Inv : (Str → Option Value) → Prop) (own : List (Addr × Obj)) (C D : Addr) (adr : List Addr) (J : List Value → List (Addr × Obj) → Prop) (s₁ s₂ : Shared) : Prop
  | mk (h' : Heap) (tk : Nat) (dr : Drawn) (all : List (Addr × Obj)) (ys : List Value) (m' : Str → Option Value) (news' : List (Addr × Obj)) (h1 : s₂ = { s₁ with heap := h', toks := tk, drawn := dr }) (h2 : Kd dr) (h3 : Fr h₀ L h' m) (h4 : News h₀ L h' all) (h5 : (∀ p ∈ own, p ∈ all)) (h6 : (∀ p ∈ news', p ∈ all)) (h7 : news'.map (·.1) = adr) (h8 : h'.Ns C m') (h9 : Inv m') (h10 : h'.get? D = some (lst ys)) (h11 : J ys news') : TurnEnd h₀ L m Kd Inv own C D adr J s₁ s₂

inductive LoopInv (h₀ : Heap) (L : Addr) (m : Str → Option Value) (s₂ : Shared) (n : Nat) (Kd : Drawn → Prop) (St : Nat → Heap → Prop) (Inv : (Str → Option Value) → Prop) (C D : Addr) (adr : List Addr) (J : Nat → List Value → List (Addr × Obj) → Prop) (k : Nat) (s' : Shared) : Prop
  | mk (h' : Heap) (tk : Nat) (dr : Drawn) (i : Nat) (ys : List Value) (m' : Str → Option Value) (news' : List (Addr × Obj)) (h1 : s' = { s₂ with heap := h', toks := tk, drawn := dr }) (h2 : Kd dr) (h3 : i ≤ n) (h4 : k = n + 1 - i) (h5 : St i h') (h6 : Fr h₀ L h' m) (h7 : h'.Ns C m') (h8 : Inv m') (h9 : h'.get? D = some (lst ys)) (h10 : News h₀ L h' news') (h11 : news'.map (·.1) = adr) (h12 : J i ys news') : LoopInv h₀ L m s₂ n Kd St Inv C D adr J k s'
theorem loop_G {target : PySem.Expr} {scope : Scope} {cl : List (Str × Addr)} {c : Code} {s₂ : Shared} {I C D : Addr} {fp wr : List Addr} {n : Nat} {P Md : Nat → Value → Heap → Prop} {St : Nat → Heap → Prop} {news : List (Addr × Obj)} {safe : List Addr} {ys₀ : List Value} {m₀ : Str → Option Value}
    {B : Nat → (Str → Option Value) → Prop} (J : Nat → List Value → List (Addr × Obj) → Prop) (Kd : Drawn → Prop) (Inv : (Str → Option Value) → Prop) (body : Body) {R : Result → Shared → Prop} {EE : Value → Shared → Prop}
    (hc : ∀ (Iv : Nat → Shared → Prop), (∀ n s, Iv n s → wpAny (model prog w) A (pyNext (.ref I)) (fun r s₁ => match r with
        | none => R (.ok .next) s₁
        | some v => wpAny (model prog w) A (letOwnedTupleGo target (.ref I) v) (fun _ s₀ => wpAny (model prog w) A (assign target (compEnvC scope cl C env) v) (fun _ s₂ => body EE s₂ (fun s₅ => ∃ m, m < n ∧ Iv m s₅)) EE s₀) EE s₁) EE s) → ∀ n s, Iv n s → codeAny (model prog w) A c R s)
    (hmono : ∀ E s K K', body E s K → (∀ s', K s' → K' s') → body E s K')
    (W : KTurns prog w A target I fp wr n P Md St)
    (asg : ∀ i v (s' : Shared) m' (Q : Unit → Shared → Prop) (E : Value → Shared → Prop), P i v s'.heap → s'.heap.Ns C m' → Inv m' → (∀ h' tk m'', h'.Ns C m'' → B i m'' → Inv m'' → (∀ b o, b ≠ C → s'.heap.get? b = some o → h'.get? b = some o) → Q () { s' with heap := h', toks := tk }) → wpAny (model prog w) A (assign target (compEnvC scope cl C env) v) Q E s')
    (hst : St 0 s₂.heap) (hLf : L ∉ fp) (hDf : D ∉ fp) (hCf : C ∉ fp) (hCD : C ≠ D) (hCL : C ≠ L) (hDL : D ≠ L) (hC₀ : h₀.get? C = none) (hD₀ : h₀.get? D = none) (hwr : ∀ b ∈ wr, h₀.get? b = none) (hnw : ∀ p ∈ news, p.1 ∉ wr ∧ p.1 ≠ C ∧ p.1 ≠ D) (hsafe : ∀ b ∈ safe, b ∉ fp ∧ b ≠ C ∧ b ≠ D)
    (F : Fr h₀ L s₂.heap m) (hns : s₂.heap.Ns C m₀) (hInv : Inv m₀) (hacc : s₂.heap.get? D = some (lst ys₀)) (N : News h₀ L s₂.heap news) (hK : Kd s₂.drawn) (hJ : J 0 ys₀ news)
    (turn : ∀ i ys news₁ (s₁ : Shared) own oC m₂, i < n → B i m₂ → Inv m₂ → news₁.map (·.1) = news.map (·.1) → J i ys news₁ → Kd s₁.drawn → OwnOff ((C, oC) :: (D, lst ys) :: own) safe → (∀ p ∈ news₁, p.1 ≠ C) → s₁.heap.Ns C m₂ →
      NsObj oC m₂ → Fr h₀ L s₁.heap m → News h₀ L s₁.heap ((C, oC) :: (D, lst ys) :: (news₁ ++ own)) → (∀ p ∈ own, p.1 ≠ C ∧ p.1 ≠ D) → (∀ p ∈ news₁, p.1 ≠ D) →
      body EE s₁ (TurnEnd h₀ L m Kd Inv own C D (news.map (·.1)) (J (i + 1)) s₁))
    (hRR : ∀ h tk dr m' ys news', Kd dr → Fr h₀ L h m → News h₀ L h ((D, lst ys) :: news') → h.Ns C m' → Inv m' → news'.map (·.1) = news.map (·.1) → J n ys news' → R (.ok .next) { s₂ with heap := h, toks := tk, drawn := dr }) :
    codeAny (model prog w) A c R s₂ := by
  have hLw : L ∉ wr := fun h => hLf (W.sub _ h)
  have oldw : ∀ b o, h₀.get? b = some o → b ∉ wr := fun b o e hb => by rw [hwr b hb] at e; cases e
  have hDw : D ∉ wr := fun h => hDf (W.sub _ h)
  have hCw : C ∉ wr := fun h => hCf (W.sub _ h)
  have offs : ∀ news₁ : List (Addr × Obj), news₁.map (·.1) = news.map (·.1) → ∀ p ∈ news₁, p.1 ∉ wr ∧ p.1 ≠ C ∧ p.1 ≠ D := fun news₁ e p hp => by
    have h1 : p.1 ∈ news₁.map (·.1) := List.mem_map.mpr ⟨p, hp, rfl⟩
    rw [e] at h1
    obtain ⟨q, hq, e'⟩ := List.mem_map.mp h1
    rw [← e']
    exact hnw q hq
  refine hc
    (LoopInv h₀ L m s₂ n Kd St Inv C D (news.map (·.1)) J) ?_ (n + 1) s₂
    ⟨s₂.heap, s₂.toks, s₂.drawn, 0, ys₀, m₀, news, rfl, hK, Nat.zero_le _, rfl, hst, F, hns, hInv, hacc, N, rfl, hJ⟩
  rintro k s' ⟨h', tk, dr, i, ys, m', news', rfl, hK', hi, rfl, hst', F', hn', hI', hD', N', ha', hJ'⟩
  have next : ∀ h₁ : Heap, (∀ b o, b ∉ wr → h'.get? b = some o → h₁.get? b = some o) → Fr h₀ L h₁ m ∧ News h₀ L h₁ news' ∧ h₁.Ns C m' ∧ h₁.get? D = some (lst ys) := fun h₁ hk₁ =>
    ⟨⟨F'.ns.at' fun o e => hk₁ _ o hLw e, fun b o e => hk₁ b o (oldw b o e) (F'.keep b o e), F'.above⟩, fun p hp => ⟨hk₁ _ _ (offs _ ha' p hp).1 (N' p hp).1, (N' p hp).2⟩, hn'.at' fun o e => hk₁ _ o hCw e, hk₁ _ _ hDw hD'⟩
  by_cases hlt : i < n
  · refine W.item i _ _ _ hlt hst' fun v h₂ tk₂ hMd hk₂ => ?_
    refine W.go i v _ _ _ hMd fun h₃ hP hst₃ hk₃ => ?_
    obtain ⟨F₃, N₃, hn₃, hD₃⟩ := next h₃ fun b o hb e => hk₃ b o hb (hk₂ b o hb e)
    refine asg i v _ m' _ _ hP hn₃ hI' fun h₄ tk₄ m₄ hn₄ hB hI₄ hk₄ => ?_
    have F₄ : Fr h₀ L h₄ m := ⟨F₃.ns.at' fun o e => hk₄ _ o (Ne.symm hCL) e, fun b o e => hk₄ b o (fun q => by rw [q, hC₀] at e; cases e) (F₃.keep b o e), F₃.above⟩
    have hst₄ : St (i + 1) h₄ := W.frame _ _ _ hst₃ fun b hb o e => hk₄ b o (fun q => hCf (q ▸ hb)) e
    have hD₄ : h₄.get? D = some (lst ys) := hk₄ _ _ (Ne.symm hCD) hD₃
    have N₄ : News h₀ L h₄ news' := fun p hp => ⟨hk₄ _ _ (offs _ ha' p hp).2.1 (N₃ p hp).1, (N₃ p hp).2⟩
    obtain ⟨oC, heC, hoC⟩ := ns_obj hn₄
    have Nown : News h₀ L h₄ (ownOf h₀ fp h₄) := news_ownOf hLf
    have hoff : OwnOff ((C, oC) :: (D, lst ys) :: ownOf h₀ fp h₄) safe := fun p hp b hb e => by
      have z := hsafe b hb
      rcases List.mem_cons.mp hp with rfl | hp
      · exact z.2.1 e.symm
      · rcases List.mem_cons.mp hp with rfl | hp
        · exact z.2.2 e.symm
        · exact z.1 (e ▸ ownOf_sub p hp)
    refine hmono _ _ _ _ (turn i ys news' { s₂ with heap := h₄, toks := tk₄, drawn := dr } (ownOf h₀ fp h₄) oC m₄ hlt hB hI₄ ha' hJ' hK' hoff (fun p hp => (offs _ ha' p hp).2.1) hn₄ hoC F₄ (fun p hp => ?_) (fun p hp => ⟨fun e => hCf (e ▸ ownOf_sub p hp), fun e => hDf (e ▸ ownOf_sub p hp)⟩) (fun p hp => (offs _ ha' p hp).2.2)) fun s₅ h₅ => ?_
    · rcases List.mem_cons.mp hp with rfl | hp
      · exact ⟨heC, hCL, hC₀⟩
      · rcases List.mem_cons.mp hp with rfl | hp
        · exact ⟨hD₄, hDL, hD₀⟩
        · rcases List.mem_append.mp hp with hp | hp
          · exact N₄ p hp
          · exact Nown p hp
    · obtain ⟨h₅, tk₅, dr₅, all, ys₅, m₅, news₅, rfl, hK₅, F₅, N₅, hX₅, hn₅, ha₅, hns₅, hI₅, hD₅, r₅⟩ := h₅
      refine ⟨n + 1 - (i + 1), by omega, h₅, tk₅, dr₅, i + 1, ys₅, m₅, news₅, rfl, hK₅, hlt, rfl, ?_, F₅, hns₅, hI₅, hD₅, fun p hp => N₅ p (hn₅ p hp), ha₅, r₅⟩
      refine W.frame _ _ _ hst₄ fun b hb o e => ?_
      cases hnn : h₀.get? b with
      | some o₀ =>
        have : o₀ = o := by have q := F₄.keep b o₀ hnn; rw [e] at q; exact (Option.some.inj q).symm
        exact this ▸ F₅.keep b o₀ hnn
      | none => exact (N₅ _ (hX₅ _ (mem_ownOf hb hnn e))).1
  · obtain rfl : i = n := Nat.le_antisymm hi (Nat.not_lt.mp hlt)
    refine W.done _ _ _ hst' fun h₂ tk₂ hk₂ => ?_
    obtain ⟨F₃, N₃, hn₃, hD₃⟩ := next h₂ hk₂
    refine hRR h₂ tk₂ dr m' ys news' hK' F₃ (fun p hp => ?_) hn₃ hI' ha' hJ'
    rcases List.mem_cons.mp hp with rfl | hp
    · exact ⟨hD₃, hDL, hD₀⟩
    · exact N₃ p hp

/-- the body of a turn with tests -/
noncomputable abbrev bodyT (prog : Program) (w : World) (A : Around) (ifs : List PySem.Expr) (elt : PySem.Expr) (acc : Value) (env : Env) : Body := fun E s K =>
  wpAny (model prog w) A (testsOf ifs env) (fun ok s₃ => if ok = true then wpAny (model prog w) A (eval elt env) (fun x s₄ => wpAny (model prog w) A (call (.builtin "list.append") [acc, x]) (fun _ s₅ => K s₅) E s₄) E s₃ else K s₃) E s

theorem bodyT_mono {ifs : List PySem.Expr} {elt : PySem.Expr} {acc : Value} {env : Env} : ∀ E s K K', bodyT prog w A ifs elt acc env E s K → (∀ s', K s' → K' s') → bodyT prog w A ifs elt acc env E s K' := by
  intro E s K K' h hk
  refine wpAny_mono h (fun ok s₃ h₃ => ?_) fun _ _ e => e
  cases ok with
  | false =>
    simp only [Bool.false_eq_true, if_false] at h₃ ⊢
    exact hk _ h₃
  | true =>
    simp only [if_true] at h₃ ⊢
    exact wpAny_mono h₃ (fun x s₄ h₄ => wpAny_mono h₄ (fun _ s₅ h₅ => hk _ h₅) fun _ _ e => e) fun _ _ e => e

/-- from the end of an evaluation to the end of its turn -/
theorem bodyT_turn {ifs : List PySem.Expr} {elt : PySem.Expr} {cenv : Env} {Kd : Drawn → Prop} {Inv : (Str → Option Value) → Prop} {own : List (Addr × Obj)} {C D : Addr} {oC : Obj} {m₂ : Str → Option Value} {adr : List Addr} {J : List Value → List (Addr × Obj) → Prop} {ys : List Value} {s₁ : Shared}
    (hC : NsObj oC m₂) (hI : Inv m₂) (hCD : C ≠ D) (hDL : D ≠ L) (hD₀ : h₀.get? D = none) (hown : ∀ p ∈ own, p.1 ≠ D) (hadr : ∀ b ∈ adr, b ≠ D) (hsz : ys.length ≤ sizeLine)
    (h : wpAny (model prog w) A (testsOf ifs cenv) (fun ok s₃ => if ok = true then wpAny (model prog w) A (eval elt cenv) (GEnd h₀ L m Kd ((C, oC) :: (D, lst ys) :: own) adr (fun y n' => J (ys ++ [y]) n') s₁) E s₃
        else GEnd h₀ L m Kd ((C, oC) :: (D, lst ys) :: own) adr (fun _ n' => J ys n') s₁ .none s₃) E s₁) :
    bodyT prog w A ifs elt (.ref D) cenv E s₁ (TurnEnd h₀ L m Kd Inv own C D adr J s₁) := by
  refine wpAny_mono h (fun ok s₃ h₃ => ?_) fun _ _ e => e
  cases ok with
  | false =>
    simp only [Bool.false_eq_true, if_false] at h₃ ⊢
    obtain ⟨h₅, tk₅, dr₅, all, news₅, e, hK₅, F₅, N₅, hX₅, hn₅, ha₅, r₅⟩ := h₃
    exact ⟨h₅, tk₅, dr₅, all, ys, m₂, news₅, e, hK₅, F₅, N₅, fun p hp => hX₅ p (.tail _ (.tail _ hp)), hn₅, ha₅, hC.ns (N₅ _ (hX₅ _ (.head _))).1, hI, (N₅ _ (hX₅ _ (.tail _ (.head _)))).1, r₅⟩
  | true =>
    simp only [if_true] at h₃ ⊢
    refine wpAny_mono h₃ (fun y s₆ h₆ => ?_) fun _ _ e => e
    obtain ⟨h₅, tk₅, dr₅, all, news₅, rfl, hK₅, F₅, N₅, hX₅, hn₅, ha₅, r₅⟩ := h₆
    have hD₅ := (N₅ _ (hX₅ _ (.tail _ (.head _)))).1
    refine append_at (hsz := by show ys.toArray.size ≤ sizeLine; rw [List.size_toArray]; exact hsz) hD₅ fun h₇ hs₇ hD₇ => ?_
    have hnD : ∀ p ∈ news₅, p.1 ≠ D := fun p hp => hadr _ (ha₅ ▸ List.mem_map.mpr ⟨p, hp, rfl⟩)
    refine ⟨h₇, tk₅, dr₅, own ++ news₅, ys ++ [y], m₂, news₅, rfl, hK₅, F₅.change hs₇ hDL hD₀, fun p hp => ?_, fun p hp => List.mem_append_left _ hp, fun p hp => List.mem_append_right _ hp, ha₅, (hC.ns (N₅ _ (hX₅ _ (.head _))).1).sameBut hs₇ hCD, hI, hD₇.trans (congrArg some (lst_snoc ys y)), r₅⟩
    rcases List.mem_append.mp hp with hp | hp
    · exact ⟨hs₇.extBut _ _ (hown p hp) (N₅ _ (hX₅ _ (.tail _ (.tail _ hp)))).1, (N₅ _ (hX₅ _ (.tail _ (.tail _ hp)))).2⟩
    · exact ⟨hs₇.extBut _ _ (hnD p hp) (N₅ _ (hn₅ p hp)).1, (N₅ _ (hn₅ p hp)).2⟩

theorem block_G {elt target iter : PySem.Expr} {ifs : List PySem.Expr} {scope : Scope} {cl : List (Str × Addr)} {pos : Pos} {s₂ : Shared} {I : Addr} {fp wr : List Addr} {n : Nat} {P Md : Nat → Value → Heap → Prop} {St : Nat → Heap → Prop} {news : List (Addr × Obj)} {safe : List Addr}
    {B : Nat → (Str → Option Value) → Prop} (J : Nat → List Value → List (Addr × Obj) → Prop) (Kd : Drawn → Prop) {RR : Value → Addr → Result → Shared → Prop}
    (W : KTurns prog w A target I fp wr n P Md St) (hself : ∀ i (s : Shared) (Q : Value → Shared → Prop) (E : Value → Shared → Prop), St i s.heap → Q (.ref I) s → wpAny (model prog w) A (pyIter (.ref I)) Q E s) (hsz : n ≤ sizeLine)
    (asg : ∀ i v (s' : Shared) C m' (Q : Unit → Shared → Prop) (E : Value → Shared → Prop), P i v s'.heap → s'.heap.Ns C m' → (∀ h' tk m'', h'.Ns C m'' → B i m'' → (∀ b o, b ≠ C → s'.heap.get? b = some o → h'.get? b = some o) → Q () { s' with heap := h', toks := tk }) → wpAny (model prog w) A (assign target (compEnvC scope cl C env) v) Q E s')
    (hcell : ∀ y ∈ scope.names, y.2 ≠ .cell) (hkind : scope.kind = .function) (hst : St 0 s₂.heap) (hfp : ∀ b ∈ fp, b < s₂.heap.objs.size) (hLf : L ∉ fp) (hwr : ∀ b ∈ wr, h₀.get? b = none) (hnw : ∀ p ∈ news, p.1 ∉ wr) (hsafe : ∀ b ∈ safe, b ∉ fp ∧ b < s₂.heap.objs.size)
    (F : Fr h₀ L s₂.heap m) (N : News h₀ L s₂.heap news) (hK : Kd s₂.drawn) (hJ : J 0 [] news)
    (turn : ∀ i ys news₁ (s₁ : Shared) X C oC m₂ (E' : Value → Shared → Prop), i < n → B i m₂ → news₁.map (·.1) = news.map (·.1) → J i ys news₁ → Kd s₁.drawn → OwnOff X safe → (∀ p ∈ news₁, p.1 ≠ C) →
      (C, oC) ∈ X → NsObj oC m₂ → Fr h₀ L s₁.heap m → News h₀ L s₁.heap ((C, oC) :: (news₁ ++ X)) →
      wpAny (model prog w) A (testsOf ifs (compEnvC scope cl C env)) (fun ok s₃ => if ok = true then wpAny (model prog w) A (eval elt (compEnvC scope cl C env)) (GEnd h₀ L m Kd X (news.map (·.1)) (fun y n' => J (i + 1) (ys ++ [y]) n') s₁) E' s₃
        else GEnd h₀ L m Kd X (news.map (·.1)) (fun _ n' => J (i + 1) ys n') s₁ .none s₃) E' s₁)
    (hRR : ∀ D C h tk dr m' ys news', Kd dr → Fr h₀ L h m → News h₀ L h ((D, lst ys) :: news') → (∀ p ∈ news', p.1 < D) → h.Ns C m' → h₀.get? C = none → h₀.get? D = none → C ≠ L → D ≠ L → C ≠ D → (∀ p ∈ news', p.1 ≠ C) → news'.map (·.1) = news.map (·.1) → J n ys news' → RR (.ref D) C (.ok .next) { s₂ with heap := h, toks := tk, drawn := dr }) :
    wpAny (model prog w) A (newList []) (fun acc s₃ => wpAny (model prog w) A (newFunctionEnv scope env.globals cl [] env.qual none .none (some env)) (fun cenv s₄ =>
      codeAny (model prog w) A (.compStart (.ListComp elt [⟨target, iter, ifs, 0⟩] scope pos) 0 (.ref I) acc { cenv with scope := relabel scope env }) (RR acc cenv.locals) s₄) E s₃) E s₂ := by
  refine wpAny_newObj_type (wpAny_newFunctionEnv hcell (by intro y hy; simp at hy) (fun h₁ hns₁ hsb₁ => ?_) hkind)
  dsimp only at hns₁ hsb₁ ⊢
  generalize hH2 : s₂.heap.push { cls := .type "list", dict := none, data := .seq ([] : List Value).toArray } = H2 at hns₁ hsb₁ ⊢
  obtain ⟨D, hD⟩ : ∃ D : Addr, D = s₂.heap.objs.size := ⟨_, rfl⟩
  obtain ⟨C, hC'⟩ : ∃ C : Addr, C = H2.objs.size := ⟨_, rfl⟩
  have hC : C = D + 1 := by rw [hC', ← hH2, Heap.size_push, hD]
  have hacc2 : H2.get? D = some (lst []) := by rw [← hH2, hD]; exact Heap.get?_push_size _ rfl
  have hacc : h₁.get? D = some (lst []) := hsb₁.extBut _ _ (by rw [← hC', hC]; exact Nat.ne_of_lt (Nat.lt_succ_self _)) (Heap.get?_push_of_some _ hacc2)
  have old : ∀ b o, s₂.heap.get? b = some o → h₁.get? b = some o := fun b o e => hsb₁.extBut b o (by have := Heap.lt_size e; rw [← hC', hC, hD]; exact Nat.ne_of_lt (Nat.lt_succ_of_lt this)) (Heap.get?_push_of_some _ (hH2 ▸ Heap.get?_push_of_some _ e))
  rw [← hC'] at hns₁
  rw [← hD, ← hC']
  rw [← hD] at hfp hsafe
  have hCD : C ≠ D := by rw [hC]; exact Nat.succ_ne_self _
  have below : ∀ b, b < D → b ≠ C ∧ b ≠ D := fun b hb => ⟨by rw [hC]; exact Nat.ne_of_lt (Nat.lt_succ_of_lt hb), Nat.ne_of_lt hb⟩
  have hDf : D ∉ fp := fun hm => Nat.lt_irrefl _ (hfp _ hm)
  have hCf : C ∉ fp := fun hm => by have := hfp _ hm; rw [hC] at this; exact Nat.lt_irrefl _ (Nat.lt_of_succ_lt this)
  have fresh₀ : ∀ a, D ≤ a → h₀.get? a = none := fun a ha => ktu_new F (hD ▸ ha)
  have hD₀ : h₀.get? D = none := fresh₀ _ (Nat.le_refl _)
  have hC₀ : h₀.get? C = none := fresh₀ _ (by rw [hC]; exact Nat.le_succ _)
  have hLlt : L < D := hD ▸ F.ns.lt
  have hDL : D ≠ L := Ne.symm (below L hLlt).2
  have hCL : C ≠ L := Ne.symm (below L hLlt).1
  have hLw : L ∉ wr := fun h => hLf (W.sub _ h)
  have oldw : ∀ b o, h₀.get? b = some o → b ∉ wr := fun b o e hb => by rw [hwr b hb] at e; cases e
  have hDw : D ∉ wr := fun h => hDf (W.sub _ h)
  have hCw : C ∉ wr := fun h => hCf (W.sub _ h)
  have offs : ∀ news₁ : List (Addr × Obj), news₁.map (·.1) = news.map (·.1) → ∀ p ∈ news₁, p.1 ∉ wr ∧ p.1 ≠ C ∧ p.1 ≠ D ∧ p.1 < D := fun news₁ e p hp => by
    have h1 : p.1 ∈ news₁.map (·.1) := List.mem_map.mpr ⟨p, hp, rfl⟩
    rw [e] at h1
    obtain ⟨q, hq, e'⟩ := List.mem_map.mp h1
    have h2 := Heap.lt_size (N q hq).1
    have h3 := below _ (hD ▸ h2)
    rw [← e']
    exact ⟨hnw q hq, h3.1, h3.2, hD ▸ h2⟩
  have offs' : ∀ p ∈ news, p.1 ∉ wr ∧ p.1 ≠ C ∧ p.1 ≠ D := fun p hp => ⟨(offs _ rfl p hp).1, (offs _ rfl p hp).2.1, (offs _ rfl p hp).2.2.1⟩
  have hadr : ∀ b ∈ news.map (·.1), b ≠ D := fun b hb => by
    obtain ⟨q, hq, e'⟩ := List.mem_map.mp hb
    rw [← e']; exact (offs' q hq).2.2
  have loop : ∀ s₃ : Shared, s₃ = { s₂ with heap := h₁, toks := s₂.toks + ([] : List (Str × Value)).length } →
      codeAny (model prog w) A (.compLoop (.ListComp elt [⟨target, iter, ifs, 0⟩] scope pos) 0 (.ref I) (.ref D) (compEnvC scope cl C env)) (RR (.ref D) C) s₃ := by
    rintro s₃ rfl
    refine loop_G (fun i ys nw => J i ys nw ∧ ys.length ≤ i) Kd (fun _ => True) (bodyT prog w A ifs elt (.ref D) (compEnvC scope cl C env)) (fun Iv turn n s h => compLoop_G Iv turn n h) bodyT_mono W
      (fun i v s' m' Q E hP hn _ hQ => asg i v s' C m' Q E hP hn fun h' tk m'' a b c => hQ h' tk m'' a b trivial c) (W.frame _ _ _ hst fun b _ o e => old b o e) hLf hDf hCf hCD hCL hDL hC₀ hD₀ hwr offs' (fun b hb => ⟨(hsafe b hb).1, below b (hsafe b hb).2⟩) (F.keeps old) hns₁ trivial hacc (N.grown old) hK ⟨hJ, Nat.le_refl _⟩ ?_ ?_
    · intro i ys news₁ s₁ own oC m₂ hi hB _ ha hj hk ho hc hns hoC F₁ N₁ howD hnD
      refine bodyT_turn (ys := ys) hoC trivial hCD hDL hD₀ (fun p hp => (howD p hp).2) hadr (by omega) ?_
      refine wpAny_mono (turn i ys news₁ s₁ ((C, oC) :: (D, lst ys) :: own) C oC m₂ _ hi hB ha hj.1 hk ho hc (.head _) hoC F₁ (fun p hp => N₁ p ?_)) (fun ok s₅ hq₅ => ?_) fun _ _ e => e
      · rcases List.mem_cons.mp hp with rfl | hp
        · exact .head _
        · rcases List.mem_append.mp hp with hp | hp
          · exact .tail _ (.tail _ (List.mem_append_left _ hp))
          · rcases List.mem_cons.mp hp with rfl | hp
            · exact .head _
            · rcases List.mem_cons.mp hp with rfl | hp
              · exact .tail _ (.head _)
              · exact .tail _ (.tail _ (List.mem_append_right _ hp))
      · cases ok with
        | false =>
          simp only [Bool.false_eq_true, if_false] at hq₅ ⊢
          obtain ⟨h₅, tk₅, dr₅, all, news₅, e, hK₅, F₅, N₅, hX₅, hn₅, ha₅, r₅⟩ := hq₅
          exact ⟨h₅, tk₅, dr₅, all, news₅, e, hK₅, F₅, N₅, hX₅, hn₅, ha₅, r₅, Nat.le_succ_of_le hj.2⟩
        | true =>
          simp only [if_true] at hq₅ ⊢
          refine wpAny_mono hq₅ (fun y s₆ h₆ => ?_) fun _ _ e => e
          obtain ⟨h₅, tk₅, dr₅, all, news₅, e, hK₅, F₅, N₅, hX₅, hn₅, ha₅, r₅⟩ := h₆
          exact ⟨h₅, tk₅, dr₅, all, news₅, e, hK₅, F₅, N₅, hX₅, hn₅, ha₅, r₅, by rw [List.length_append]; exact Nat.succ_le_succ hj.2⟩
    · intro h tk dr m' ys news' hK' F' N' hn' _ ha hj
      exact hRR D C h tk dr m' ys news' hK' F' N' (fun p hp => (offs _ ha p hp).2.2.2) hn' hC₀ hD₀ hCL hDL hCD (fun p hp => (offs _ ha p hp).2.1) ha hj.1
  exact codeAny_compStart_list (loop _ rfl) (hself 0 _ _ _ (W.frame _ _ _ hst fun b _ o e => old b o e) (loop _ rfl))

noncomputable def FinGE (h₀ : Heap) (L : Addr) (m : Str → Option Value) (Q : Value → Shared → Prop) (ys : List Value) (news : List (Addr × Obj)) (dr : Drawn) (s : Shared) : Prop :=
  ∀ D h tk, Fr h₀ L h m → News h₀ L h ((D, lst ys) :: news) → (∀ p ∈ news, p.1 < D) → Q (.ref D) { s with heap := h, toks := tk, drawn := dr }
noncomputable def FinGA (h₀ : Heap) (L : Addr) (m : Str → Option Value) (y : Str) (Q : Flow → Shared → Prop) (ys : List Value) (news : List (Addr × Obj)) (dr : Drawn) (s : Shared) : Prop :=
  ∀ D h tk, Fr h₀ L h (fun z => if z = y then some (.ref D) else m z) → News h₀ L h ((D, lst ys) :: news) → (∀ p ∈ news, p.1 < D) → Q .next { s with heap := h, toks := tk, drawn := dr }

noncomputable def GTurn (prog : Program) (w : World) (A : Around) (h₀ : Heap) (L : Addr) (m : Str → Option Value) (env : Env) (elt : PySem.Expr) (ifs : List PySem.Expr) (scope : Scope) (cl : List (Str × Addr)) (Kd : Drawn → Prop) (J : Nat → List Value → List (Addr × Obj) → Prop) (safe adr : List Addr) (Bd : (Str → Option Value) → Prop) (i : Nat) (ys : List Value) (news₁ : List (Addr × Obj)) : Prop :=
  ∀ (s₁ : Shared) X C oC m₂ (E' : Value → Shared → Prop), Bd m₂ → Kd s₁.drawn → OwnOff X safe → (∀ p ∈ news₁, p.1 ≠ C) → (C, oC) ∈ X → NsObj oC m₂ → Fr h₀ L s₁.heap m → News h₀ L s₁.heap ((C, oC) :: (news₁ ++ X)) →
      wpAny (model prog w) A (testsOf ifs (compEnvC scope cl C env)) (fun ok s₃ => if ok = true then wpAny (model prog w) A (eval elt (compEnvC scope cl C env)) (GEnd h₀ L m Kd X adr (fun y n' => J (i + 1) (ys ++ [y]) n') s₁) E' s₃
        else GEnd h₀ L m Kd X adr (fun _ n' => J (i + 1) ys n') s₁ .none s₃) E' s₁

inductive GAt (prog : Program) (w : World) (A : Around) (h₀ : Heap) (L : Addr) (m : Str → Option Value) (env : Env) (elt target : PySem.Expr) (ifs : List PySem.Expr) (scope : Scope) (cl : List (Str × Addr)) (fin : List Value → List (Addr × Obj) → Drawn → Shared → Prop) (it : Value) (s₂ : Shared) : Prop
  | mk (I : Addr) (fp wr : List Addr) (n : Nat) (P Md : Nat → Value → Heap → Prop) (St : Nat → Heap → Prop) (news : List (Addr × Obj)) (safe : List Addr) (B : Nat → (Str → Option Value) → Prop) (J : Nat → List Value → List (Addr × Obj) → Prop) (Kd : Drawn → Prop) (h1 : it = .ref I) (h2 : KTurns prog w A target I fp wr n P Md St) (h3 : (∀ i (s : Shared) (Q : Value → Shared → Prop) (E : Value → Shared → Prop), St i s.heap → Q (.ref I) s → wpAny (model prog w) A (pyIter (.ref I)) Q E s)) (h4 : n ≤ sizeLine) (h5 : (∀ i v (s' : Shared) C m' (Q : Unit → Shared → Prop) (E : Value → Shared → Prop), P i v s'.heap → s'.heap.Ns C m' → (∀ h' tk m'', h'.Ns C m'' → B i m'' → (∀ b o, b ≠ C → s'.heap.get? b = some o → h'.get? b = some o) → Q () { s' with heap := h', toks := tk }) → wpAny (model prog w) A (assign target (compEnvC scope cl C env) v) Q E s')) (h6 : St 0 s₂.heap) (h7 : (∀ b ∈ fp, b < s₂.heap.objs.size)) (h8 : L ∉ fp) (h9 : (∀ b ∈ wr, h₀.get? b = none)) (h10 : (∀ p ∈ news, p.1 ∉ wr)) (h11 : (∀ b ∈ safe, b ∉ fp ∧ b < s₂.heap.objs.size)) (h12 : Fr h₀ L s₂.heap m) (h13 : News h₀ L s₂.heap news) (h14 : Kd s₂.drawn) (h15 : J 0 [] news) (h16 : (∀ i ys news₁, i < n → news₁.map (·.1) = news.map (·.1) → J i ys news₁ → GTurn prog w A h₀ L m env elt ifs scope cl Kd J safe (news.map (·.1)) (B i) i ys news₁)) (h17 : ∀ dr ys news', Kd dr → news'.map (·.1) = news.map (·.1) → J n ys news' → fin ys news' dr s₂) : GAt prog w A h₀ L m env elt target ifs scope cl fin it s₂

theorem ListComp_G {elt target iter : PySem.Expr} {ifs : List PySem.Expr} {scope : Scope} {cl : List (Str × Addr)} {pos : Pos} {Q : Value → Shared → Prop} (_F₀ : Fr h₀ L s.heap m)
    (hclos : closureFor scope env = pure cl) (hcell : ∀ y ∈ scope.names, y.2 ≠ .cell) (hkind : scope.kind = .function)
    (hnames : ∀ y ∈ scope.names, y.2 = .local → scope.names.lookup y.1 = some .local)
    (h : wpAny (model prog w) A (eval iter env) (fun xv s₁ => wpAny (model prog w) A (pyIter xv) (fun it s₂ => GAt prog w A h₀ L m env elt target ifs scope cl (FinGE h₀ L m Q) it s₂) E s₁) E s)
    (hs : ∀ x, foldedSetIterable iter env x = pure x) :
    wpAny (model prog w) A (eval (.ListComp elt [⟨target, iter, ifs, 0⟩] scope pos) env) Q E s := by
  rw [eval_ListComp]
  refine wpAny_comprehension_free (use := none) rfl hs hclos hkind hnames (wpAny_mono h (fun xv s₁ h₁ => wpAny_mono h₁ (fun it s₂ h₂ => ?_) fun _ _ e => e) fun _ _ e => e)
  obtain ⟨I, fp, wr, n, P, Md, St, news, safe, B, J, Kd, rfl, W, hself, hsz, asg, hst, hfp, hLf, hwr, hnw, hsafe, F, N, hK, hJ, turn, fin⟩ := h₂
  refine block_G J Kd W hself hsz asg hcell hkind hst hfp hLf hwr hnw hsafe F N hK hJ (fun i ys news₁ s₁ X C oC m₂ E' hi hB ha hj hk ho hc hX hC F' N' => turn i ys news₁ hi ha hj s₁ X C oC m₂ E' hB hk ho hc hX hC F' N') ?_
  intro D C h tk dr m' ys news' hK' F' N' oD hn hC₀ hD₀ hCL hDL hCD offC ha hj
  refine ⟨m', hn, fun h'' hs'' => fin dr ys news' hK' ha hj D h'' tk (F'.change hs'' hCL hC₀) (fun p hp => ?_) oD⟩
  refine ⟨hs''.extBut _ _ ?_ (N' p hp).1, (N' p hp).2⟩
  rcases List.mem_cons.mp hp with rfl | hp
  · exact Ne.symm hCD
  · exact offC p hp

theorem Assign_ListComp_G {elt target iter : PySem.Expr} {ifs : List PySem.Expr} {y : Str} {py : Pos} {scope : Scope} {cl : List (Str × Addr)} {pos spos : Pos} {Q : Flow → Shared → Prop} (_F₀ : Fr h₀ L s.heap m) (hLe : env.locals = L)
    (hsw : swapsWith (.ListComp elt [⟨target, iter, ifs, 0⟩] scope pos) (some (.Name y py)) spos.line env = pure true)
    (hclos : closureFor scope env = pure cl) (hcell : ∀ z ∈ scope.names, z.2 ≠ .cell) (hkind : scope.kind = .function)
    (hnames : ∀ z ∈ scope.names, z.2 = .local → scope.names.lookup z.1 = some .local)
    (hy : env.kindOf y = some .local) (hp : (env.scope.kind == .class || (env.scope.kind == .module && env.locals != env.globals)) = false)
    (h : wpAny (model prog w) A (eval iter env) (fun xv s₁ => wpAny (model prog w) A (pyIter xv) (fun it s₂ => GAt prog w A h₀ L m env elt target ifs scope cl (FinGA h₀ L m y Q) it s₂) E s₁) E s)
    (hs : ∀ x, foldedSetIterable iter env x = pure x) :
    wpAny (model prog w) A (exec (.Assign [.Name y py] (.ListComp elt [⟨target, iter, ifs, 0⟩] scope pos) spos) env) Q E s := by
  subst hLe
  rw [exec_Assign_Name_used _ _ _ _ hsw]
  refine wpAny_bind (wpAny_standAt (wpAny_bind ?_))
  show wpAny _ A (do let _ ← comprehension (.ListComp elt [⟨target, iter, ifs, 0⟩] scope pos) scope env _ (newList []) false (eval iter env) (some (assign (.Name y py) env))) _ _ s
  refine wpAny_bind (wpAny_mono (wpAny_comprehension_free (use := some (assign (.Name y py) env)) (Q := fun _ s' => Q .next s') rfl hs hclos hkind hnames
    (wpAny_mono h (fun xv s₁ h₁ => wpAny_mono h₁ (fun it s₂ h₂ => ?_) fun _ _ e => e) fun _ _ e => e)) (fun _ s' hq => wpAny_pure (wpAny_pure hq)) fun _ _ e => e)
  obtain ⟨I, fp, wr, n, P, Md, St, news, safe, B, J, Kd, rfl, W, hself, hsz, asg, hst, hfp, hLf, hwr, hnw, hsafe, F, N, hK, hJ, turn, fin⟩ := h₂
  refine block_G J Kd W hself hsz asg hcell hkind hst hfp hLf hwr hnw hsafe F N hK hJ (fun i ys news₁ s₁ X C oC m₂ E' hi hB ha hj hk ho hc hX hC F' N' => turn i ys news₁ hi ha hj s₁ X C oC m₂ E' hB hk ho hc hX hC F' N') ?_
  intro D C h' tk dr m' ys news' hK' F' N' oD hn hC₀ hD₀ hCL hDL hCD offC ha hj
  show wpAny _ A (assign (.Name y py) env (.ref D)) _ _ _
  refine wpAny_assign_Name (wpAny_storeName_local hy F'.ns (fun h₂ hn₂ hs₂ => ?_) hp)
  have hL₀ : h₀.get? env.locals = none := Heap.get?_none_of_le F'.above
  have F₂ : Fr h₀ env.locals h₂ (fun z => if z = y then some (.ref D) else m z) := ⟨hn₂, fun b o e => hs₂.extBut b o (fun q => by rw [q, hL₀] at e; cases e) (F'.keep b o e), F'.above⟩
  refine ⟨m', hn.sameBut hs₂ hCL, fun h'' hs'' => fin dr ys news' hK' ha hj D h'' _ (F₂.change hs'' hCL hC₀) (fun p hp => ?_) oD⟩
  have z : h₂.get? p.1 = some p.2 := hs₂.extBut _ _ (N' p hp).2.1 (N' p hp).1
  refine ⟨hs''.extBut _ _ ?_ z, (N' p hp).2⟩
  rcases List.mem_cons.mp hp with rfl | hp
  · exact Ne.symm hCD
  · exact offC p hp

/-- the turns over a list with one name -/
theorem gat_list {elt : PySem.Expr} {ifs : List PySem.Expr} {x : Str} {px : Pos} {scope : Scope} {cl : List (Str × Addr)} {fin : List Value → List (Addr × Obj) → Drawn → Shared → Prop} {ax : Addr} {vs : List Value} {news : List (Addr × Obj)}
    (Kd : Drawn → Prop) (J : Nat → List Value → List (Addr × Obj) → Prop) (safe : List Addr)
    (hh : A.handled = none) (hkind : scope.kind = .function) (hx : scope.names.lookup x = some .local) (hl : s.heap.IsList ax vs.toArray) (hlL : ax ≠ L) (hsz : vs.length ≤ sizeLine) (F : Fr h₀ L s.heap m) (N : News h₀ L s.heap news) (hsafe : ∀ b ∈ safe, b ≠ ax ∧ b < s.heap.objs.size) (hK : Kd s.drawn) (hJ : J 0 [] news)
    (turn : ∀ i v ys news₁, vs[i]? = some v → news₁.map (·.1) = news.map (·.1) → J i ys news₁ → GTurn prog w A h₀ L m env elt ifs scope cl Kd J safe (news.map (·.1)) (fun m₂ => m₂ x = some v) i ys news₁)
    (done : ∀ h dr ys news', Kd dr → news'.map (·.1) = news.map (·.1) → J vs.length ys news' → fin ys news' dr { s with heap := h }) :
    wpAny (model prog w) A (pyIter (.ref ax)) (fun it s₂ => GAt prog w A h₀ L m env elt (.Name x px) ifs scope cl fin it s₂) E s := by
  obtain ⟨ol, hol, _⟩ := id hl
  have hlt : ax < s.heap.objs.size := Heap.lt_size hol
  have hne' : ax ≠ s.heap.objs.size := Nat.ne_of_lt hlt
  refine wpAny_pyIter_list hl ?_
  have up : ∀ b o, s.heap.get? b = some o → (s.heap.push { cls := .type "list_iterator", data := .fields #[.ref ax, .int 0 0] }).get? b = some o := fun b o e => Heap.get?_push_of_some _ e
  have W := Walks.list (prog := prog) (w := w) hh s.heap.objs.size ax hne' vs.toArray
  have hs0 : vs.toArray.size = vs.length := List.size_toArray
  rw [hs0] at W
  refine ⟨s.heap.objs.size, _, _, vs.length, _, _, _, news, safe, fun i m₂ => ∃ v, vs[i]? = some v ∧ m₂ x = some v, J, Kd, rfl, KTurns.ofWalks W (fun i v s Q E st q => letGo_listiter st.1 q), W.self, hsz, ?_, ⟨⟨_, Heap.get?_push_size _ rfl, rfl, rfl⟩, hl.push _⟩, fun b hb => ?_, fun hb => ?_, fun b hb => ?_, fun p hp hb => ?_, fun b hb => ⟨fun hf => ?_, ?_⟩, F.keeps up, N.grown up, hK, hJ, ?_, fun dr ys news' a b c => done _ dr ys news' a b c⟩
  · intro i v s' C m' Q E hP hn hQ
    refine wpAny_assign_Name (wpAny_storeName_local (lookup_relabel_local hx) hn (fun h₃ hn₃ hs₃ => ?_) (by simp [compEnvC, relabel, hkind]))
    exact hQ h₃ _ _ hn₃ ⟨v, by simpa using hP, by simp⟩ fun b o hb e => hs₃.extBut b o hb e
  · show b < (s.heap.push _).objs.size
    rw [Heap.size_push]
    rcases List.mem_cons.mp hb with rfl | hb
    · exact Nat.lt_succ_self _
    · rw [List.mem_singleton.mp hb]; exact Nat.lt_succ_of_lt hlt
  · rcases List.mem_cons.mp hb with e | e
    · exact absurd F.ns.lt (by rw [e]; exact Nat.lt_irrefl _)
    · exact hlL (List.mem_singleton.mp e).symm
  · rw [List.mem_singleton.mp hb]; exact next_is_new F
  · rw [List.mem_singleton] at hb
    exact absurd (Heap.lt_size (N p hp).1) (by rw [hb]; exact Nat.lt_irrefl _)
  · rcases List.mem_cons.mp hf with e | e
    · exact absurd (hsafe b hb).2 (by rw [e]; exact Nat.lt_irrefl _)
    · exact (hsafe b hb).1 (List.mem_singleton.mp e)
  · show b < (s.heap.push _).objs.size
    rw [Heap.size_push]; exact Nat.lt_succ_of_lt (hsafe b hb).2
  · intro i ys news₁ hi ha hj s₁ X C oC m₂ E' hB hk ho hc hX hC F' N'
    obtain ⟨v, hv, hm⟩ := hB
    exact turn i v ys news₁ hv ha hj s₁ X C oC m₂ E' hm hk ho hc hX hC F' N'

/-- the turns over a zip of two lists, with two names -/
theorem gat_zip {elt : PySem.Expr} {ifs : List PySem.Expr} {x₁ x₂ : Str} {px₁ px₂ tp : Pos} {kk : Nat} {scope : Scope} {cl : List (Str × Addr)} {fin : List Value → List (Addr × Obj) → Drawn → Shared → Prop} {l1 l2 : Addr} {xs ys₀ : List Value} {news : List (Addr × Obj)}
    (Kd : Drawn → Prop) (J : Nat → List Value → List (Addr × Obj) → Prop) (safe : List Addr)
    (hh : A.handled = none) (hkind : scope.kind = .function) (hx₁ : scope.names.lookup x₁ = some .local) (hx₂ : scope.names.lookup x₂ = some .local) (hxx : x₁ ≠ x₂) (hl1 : s.heap.IsList l1 xs.toArray) (hl2 : s.heap.IsList l2 ys₀.toArray) (hlL1 : l1 ≠ L) (hlL2 : l2 ≠ L) (hsz : xs.length ≤ sizeLine) (F : Fr h₀ L s.heap m) (N : News h₀ L s.heap news) (hsafe : ∀ b ∈ safe, b ≠ l1 ∧ b ≠ l2 ∧ b < s.heap.objs.size) (hK : Kd s.drawn) (hJ : J 0 [] news)
    (turn : ∀ i v u ys news₁, xs[i]? = some v → ys₀[i]? = some u → news₁.map (·.1) = news.map (·.1) → J i ys news₁ → GTurn prog w A h₀ L m env elt ifs scope cl Kd J safe (news.map (·.1)) (fun m₂ => m₂ x₁ = some v ∧ m₂ x₂ = some u) i ys news₁)
    (done : ∀ h dr ys news', Kd dr → news'.map (·.1) = news.map (·.1) → J (min xs.length ys₀.length) ys news' → fin ys news' dr { s with heap := h }) :
    wpAny (model prog w) A (call (.type "zip") [.ref l1, .ref l2]) (fun xv s₁ => wpAny (model prog w) A (pyIter xv) (fun it s₂ => GAt prog w A h₀ L m env elt (.Tuple [.Name x₁ px₁, .Name x₂ px₂] kk tp) ifs scope cl fin it s₂) E s₁) E s := by
  have hlt1 : l1 < s.heap.objs.size := by obtain ⟨_, e, _⟩ := id hl1; exact Heap.lt_size e
  have hlt2 : l2 < s.heap.objs.size := by obtain ⟨_, e, _⟩ := id hl2; exact Heap.lt_size e
  have hLs : L < s.heap.objs.size := F.ns.lt
  have D : ZipApart (s.heap.objs.size + 4) (s.heap.objs.size + 2) (s.heap.objs.size + 3) s.heap.objs.size (s.heap.objs.size + 1) l1 l2 := ktu_apart _ _ _ hlt1 hlt2
  refine call_zip_2 hl1 hl2 fun h' hz hTI hTO hi1 hi2 hhs hk => ?_
  refine wpAny_pyIter_zip hz ?_
  have W := WalksT.zip2 (prog := prog) (w := w) hh _ _ _ _ _ _ _ D xs.toArray ys₀.toArray
  have hs1 : xs.toArray.size = xs.length := List.size_toArray
  have hs2 : ys₀.toArray.size = ys₀.length := List.size_toArray
  rw [hs1, hs2] at W
  refine ⟨s.heap.objs.size + 4, _, _, min xs.length ys₀.length, _, _, _, news, safe, fun i m₂ => ∃ v u, xs[i]? = some v ∧ ys₀[i]? = some u ∧ m₂ x₁ = some v ∧ m₂ x₂ = some u, J, Kd, rfl, KTurns.ofWalksU W.toU, W.self, Nat.le_trans (Nat.min_le_left _ _) hsz, ?_, ⟨hz, hTI, ⟨_, _, hTO⟩, hi1, hi2, hl1.at fun o e => hk l1 o e, hl2.at fun o e => hk l2 o e⟩, fun b hb => ?_, fun hb => ?_, fun b hb => ?_, fun p hp hb => ?_, fun b hb => ⟨fun hf => ?_, ?_⟩, F.keeps hk, N.grown hk, hK, hJ, ?_, fun dr ys news' a b c => done _ dr ys news' a b c⟩
  · rintro i v s' C m' Q E ⟨T, vals, rfl, ⟨x, y, hx, hy, rfl⟩, hT⟩ hn hQ
    refine kcp_assign (env := compEnvC scope cl C env) hh hT (lookup_relabel_local hx₁) (lookup_relabel_local hx₂) (by simp [compEnvC, relabel, hkind]) hn fun h' tk hn' hk' => ?_
    exact hQ h' tk _ hn' ⟨x, y, by simpa using hx, by simpa using hy, by simp [hxx], by simp⟩ fun b o hb e => hk' b o hb e
  · show b < h'.objs.size
    rw [hhs]
    have hb' : b = s.heap.objs.size + 4 ∨ b = s.heap.objs.size + 2 ∨ b = s.heap.objs.size + 3 ∨ b = s.heap.objs.size ∨ b = s.heap.objs.size + 1 ∨ b = l1 ∨ b = l2 := by simpa using hb
    have a1 : b < (s.heap.objs.size : Nat) + 5 := by
      rcases hb' with e | e | e | e | e | e | e <;> (rw [e]) <;> first | exact Nat.lt_of_lt_of_le hlt1 (Nat.le_add_right _ _) | exact Nat.lt_of_lt_of_le hlt2 (Nat.le_add_right _ _) | exact Nat.add_lt_add_left (by decide) _ | exact Nat.lt_add_of_pos_right (by decide)
    exact a1
  · have hb' : L = s.heap.objs.size + 4 ∨ L = s.heap.objs.size + 2 ∨ L = s.heap.objs.size + 3 ∨ L = s.heap.objs.size ∨ L = s.heap.objs.size + 1 ∨ L = l1 ∨ L = l2 := by simpa using hb
    rcases hb' with e | e | e | e | e | e | e
    · exact ktu_ne 4 hLs e
    · exact ktu_ne 2 hLs e
    · exact ktu_ne 3 hLs e
    · exact Nat.ne_of_lt hLs e
    · exact ktu_ne 1 hLs e
    · exact hlL1 e.symm
    · exact hlL2 e.symm
  · have hb' : b = s.heap.objs.size + 4 ∨ b = s.heap.objs.size + 3 ∨ b = s.heap.objs.size ∨ b = s.heap.objs.size + 1 := by simpa using hb
    rcases hb' with rfl | rfl | rfl | rfl
    · exact ktu_new F (Nat.le_add_right _ _)
    · exact ktu_new F (Nat.le_add_right _ _)
    · exact ktu_new F (Nat.le_refl _)
    · exact ktu_new F (Nat.le_add_right _ _)
  · have hb' : p.1 = s.heap.objs.size + 4 ∨ p.1 = s.heap.objs.size + 3 ∨ p.1 = s.heap.objs.size ∨ p.1 = s.heap.objs.size + 1 := by simpa using hb
    have hlp := Heap.lt_size (N p hp).1
    rcases hb' with e | e | e | e
    · exact ktu_ne 4 hlp e
    · exact ktu_ne 3 hlp e
    · exact Nat.ne_of_lt hlp e
    · exact ktu_ne 1 hlp e
  · have hb' : b = s.heap.objs.size + 4 ∨ b = s.heap.objs.size + 2 ∨ b = s.heap.objs.size + 3 ∨ b = s.heap.objs.size ∨ b = s.heap.objs.size + 1 ∨ b = l1 ∨ b = l2 := by simpa using hf
    have hlp := (hsafe b hb).2.2
    rcases hb' with e | e | e | e | e | e | e
    · exact ktu_ne 4 hlp e
    · exact ktu_ne 2 hlp e
    · exact ktu_ne 3 hlp e
    · exact Nat.ne_of_lt hlp e
    · exact ktu_ne 1 hlp e
    · exact (hsafe b hb).1 e
    · exact (hsafe b hb).2.1 e
  · show b < h'.objs.size
    rw [hhs]; exact Nat.lt_of_lt_of_le (hsafe b hb).2.2 (Nat.le_add_right _ _)
  · intro i ys news₁ hi ha hj s₁ X C oC m₂ E' hB hk ho hc hX hC F' N'
    obtain ⟨v, u, hv, hu, hm⟩ := hB
    exact turn i v u ys news₁ hv hu ha hj s₁ X C oC m₂ E' hm hk ho hc hX hC F' N'
end
end Mine
end

section
set_option Elab.async false
set_option maxRecDepth 100000
set_option maxHeartbeats 4000000
namespace Mine
open PySem PySem.W PyProof.Rows PySem.Calls PySem.Spec
open PyProof.Rows.LCg (lst NsObj ns_obj lst_snoc)
section
variable {prog : Program} {w : World} {A : Around} {E : Value → Shared → Prop} {s : Shared} {h₀ : Heap} {L : Addr} {m : Str → Option Value} {env : Env}

noncomputable abbrev two (elt t1 i1 t2 i2 : PySem.Expr) (scope : Scope) (pos : Pos) : PySem.Expr := .ListComp elt [⟨t1, i1, [], 0⟩, ⟨t2, i2, [], 0⟩] scope pos

theorem turn_in (elt t1 i1 t2 i2 : PySem.Expr) (scope : Scope) (pos : Pos) (it acc : Value) (env : Env) :
    compTurn (two elt t1 i1 t2 i2 scope pos) 1 it acc env = (do
      standAt i2.pos
      match ← pyNext it with
      | none => pure (.done .next)
      | some v =>
        letOwnedTupleGo t2 it v
        assign t2 env v
        let mut ok := true
        for c in ([] : List PySem.Expr) do
          if ok then ok ← isTrue c env (eval c env)
        if ok then
          (do let _ ← call (.builtin "list.append") [acc, ← eval elt env])
        again (.compLoop (two elt t1 i1 t2 i2 scope pos) 1 it acc env)) := by rfl

theorem turn_out (elt t1 i1 t2 i2 : PySem.Expr) (scope : Scope) (pos : Pos) (it acc : Value) (env : Env) :
    compTurn (two elt t1 i1 t2 i2 scope pos) 0 it acc env = (do
      standAt i1.pos
      match ← pyNext it with
      | none => pure (.done .next)
      | some v =>
        letOwnedTupleGo t1 it v
        assign t1 env v
        let mut ok := true
        for c in ([] : List PySem.Expr) do
          if ok then ok ← isTrue c env (eval c env)
        if ok then
          let x ← eval i2 env
          standAt i2.pos
          let x ← foldedSetIterable i2 env x
          let _ ← runOwn (.compStart (two elt t1 i1 t2 i2 scope pos) 1 (← holding [x] (pyIter x)) acc env) env
        again (.compLoop (two elt t1 i1 t2 i2 scope pos) 0 it acc env)) := by rfl

theorem compLoop_in {elt t1 i1 t2 i2 : PySem.Expr} {scope : Scope} {pos : Pos} {it acc : Value} {env : Env} {R : Result → Shared → Prop} (I : Nat → Shared → Prop)
    (turn : ∀ n s, I n s → wpAny (model prog w) A (pyNext it) (fun r s₁ => match r with
      | none => R (.ok .next) s₁
      | some v => wpAny (model prog w) A (letOwnedTupleGo t2 it v) (fun _ s₀ => wpAny (model prog w) A (assign t2 env v) (fun _ s₂ =>
          bodyT prog w A [] elt acc env (notedBy (model prog w) A env fun e s' => R (.error e) s') s₂ (fun s₅ => ∃ m, m < n ∧ I m s₅))
          (notedBy (model prog w) A env fun e s' => R (.error e) s') s₀) (notedBy (model prog w) A env fun e s' => R (.error e) s') s₁) (notedBy (model prog w) A env fun e s' => R (.error e) s') s)
    (n : Nat) (h : I n s) : codeAny (model prog w) A (.compLoop (two elt t1 i1 t2 i2 scope pos) 1 it acc env) R s := by
  refine codeAny_loop rfl I (fun n s hI => ?_) n h
  show wpAny _ A ((compTurn (two elt t1 i1 t2 i2 scope pos) 1 it acc env).onRaise (fun x => do noteFrame x env; theTreesLotGoes x)) _ _ s
  refine wpAny_noted ?_
  rw [turn_in]
  refine wpAny_bind (wpAny_standAt (wpAny_bind (wpAny_mono (turn n s hI) (fun r s₁ h₁ => ?_) fun _ _ h' => h')))
  cases r with
  | none => exact wpAny_pure h₁
  | some v =>
    refine wpAny_bind (wpAny_mono h₁ (fun _ s₀ h₀' => ?_) fun _ _ h' => h')
    refine wpAny_bind (wpAny_mono h₀' (fun _ s₂ h₂ => wpAny_bind (wpAny_mono h₂ (fun ok s₃ h₃ => ?_) fun _ _ h' => h')) fun _ _ h' => h')
    cases ok with
    | false => exact wpAny_pure ⟨rfl, h₃⟩
    | true =>
      exact wpAny_bind (wpAny_bind (wpAny_mono h₃ (fun x s₄ h₄ => wpAny_bind (wpAny_mono h₄ (fun _ s₅ h₅ => wpAny_pure (wpAny_pure ⟨rfl, h₅⟩)) fun _ _ h' => h')) fun _ _ h' => h'))

/-- the body of a turn that runs a clause of its own -/
noncomputable abbrev bodyO (prog : Program) (w : World) (A : Around) (e i2 : PySem.Expr) (acc : Value) (env : Env) : Body := fun E s K =>
  wpAny (model prog w) A (eval i2 env) (fun xv s₃ => wpAny (model prog w) A (pyIter xv) (fun it2 s₄ =>
    codeAny (model prog w) A (.compStart e 1 it2 acc env) (fun r s₅ => match r with | .ok _ => K s₅ | .error x => cameBackBy (model prog w) A env E x s₅) s₄) E s₃) E s

theorem compLoop_out {elt t1 i1 t2 i2 : PySem.Expr} {scope : Scope} {pos : Pos} {it acc : Value} {env : Env} {R : Result → Shared → Prop} (hs : ∀ x, foldedSetIterable i2 env x = pure x) (I : Nat → Shared → Prop)
    (turn : ∀ n s, I n s → wpAny (model prog w) A (pyNext it) (fun r s₁ => match r with
      | none => R (.ok .next) s₁
      | some v => wpAny (model prog w) A (letOwnedTupleGo t1 it v) (fun _ s₀ => wpAny (model prog w) A (assign t1 env v) (fun _ s₂ =>
          bodyO prog w A (two elt t1 i1 t2 i2 scope pos) i2 acc env (notedBy (model prog w) A env fun e s' => R (.error e) s') s₂ (fun s₅ => ∃ m, m < n ∧ I m s₅))
          (notedBy (model prog w) A env fun e s' => R (.error e) s') s₀) (notedBy (model prog w) A env fun e s' => R (.error e) s') s₁) (notedBy (model prog w) A env fun e s' => R (.error e) s') s)
    (n : Nat) (h : I n s) : codeAny (model prog w) A (.compLoop (two elt t1 i1 t2 i2 scope pos) 0 it acc env) R s := by
  refine codeAny_loop rfl I (fun n s hI => ?_) n h
  show wpAny _ A ((compTurn (two elt t1 i1 t2 i2 scope pos) 0 it acc env).onRaise (fun x => do noteFrame x env; theTreesLotGoes x)) _ _ s
  refine wpAny_noted ?_
  rw [turn_out]
  refine wpAny_bind (wpAny_standAt (wpAny_bind (wpAny_mono (turn n s hI) (fun r s₁ h₁ => ?_) fun _ _ h' => h')))
  cases r with
  | none => exact wpAny_pure h₁
  | some v =>
    refine wpAny_bind (wpAny_mono h₁ (fun _ s₀ h₀' => ?_) fun _ _ h' => h')
    refine wpAny_bind (wpAny_mono h₀' (fun _ s₂ h₂ => ?_) fun _ _ h' => h')
    refine wpAny_bind (wpAny_tests_nil ?_)
    simp only [if_true]
    refine wpAny_bind (wpAny_mono h₂ (fun xv s₃ h₃ => ?_) fun _ _ h' => h')
    refine wpAny_bind (wpAny_standAt (wpAny_bind (wpAny_of_eq (hs xv) (wpAny_bind (wpAny_holding (wpAny_mono h₃ (fun it2 s₄ h₄ => ?_) fun _ _ h' => h'))))))
    exact wpAny_bind (wpAny_mono (wpAny_runOwn (Q := fun _ s₅ => ∃ m, m < n ∧ I m s₅) h₄) (fun _ s₅ h₅ => wpAny_pure ⟨rfl, h₅⟩) fun _ _ h' => h')

theorem compStart_two {elt t1 i1 t2 i2 : PySem.Expr} {scope : Scope} {pos : Pos} {it acc : Value} {env : Env} {R : Result → Shared → Prop}
    (h0 : codeAny (model prog w) A (.compLoop (two elt t1 i1 t2 i2 scope pos) 1 it acc env) R s)
    (h : wpAny (model prog w) A (pyIter it) (fun it' s' => codeAny (model prog w) A (.compLoop (two elt t1 i1 t2 i2 scope pos) 1 it' acc env) R s')
      (notedBy (model prog w) A env fun x s' => R (.error x) s') s) :
    codeAny (model prog w) A (.compStart (two elt t1 i1 t2 i2 scope pos) 1 it acc env) R s := by
  refine codeAny_of_tree ?_
  show wpAny _ _ ((compStart (two elt t1 i1 t2 i2 scope pos) 1 it acc env).onRaise (fun x => do noteFrame x env; standAt theWindowsPlace)) _ _ s
  refine wpAny_notedAt ?_
  unfold compStart
  show wpAny _ _ (ask >>= _) _ _ s
  refine wpAny_bind (wpAny_askSetting (wpAny_ite ?_))
  split
  · first
      | exact wpAny_bind (wpAny_pure (wpAny_pure (And.intro rfl h0)))
      | exact wpAny_pure (And.intro rfl h0)
  · first
      | exact wpAny_bind (wpAny_rule (wpAny_bind (wpAny_standAt (wpAny_bind (wpAny_mono h (fun it' s' h' => wpAny_pure (And.intro rfl h')) fun _ _ x => x)))))
      | (refine wpAny_bind (wpAny_rule ?_); show wpAny _ _ (standAt i2.pos >>= _) _ _ s; exact wpAny_bind (wpAny_standAt (wpAny_bind (wpAny_mono h (fun it' s' h' => wpAny_pure (And.intro rfl h')) fun _ _ x => x))))

theorem bodyO_mono {e i2 : PySem.Expr} {acc : Value} {env : Env} : ∀ E s K K', bodyO prog w A e i2 acc env E s K → (∀ s', K s' → K' s') → bodyO prog w A e i2 acc env E s K' := by
  intro E s K K' h hk
  refine wpAny_mono h (fun xv s₃ h₃ => wpAny_mono h₃ (fun it s₄ h₄ => ?_) fun _ _ e => e) fun _ _ e => e
  refine codeAny_mono h₄ fun r s₅ h₅ => ?_
  cases r with
  | ok _ => exact hk _ h₅
  | error _ => exact h₅

theorem block_N {elt t1 i1 t2 i2 : PySem.Expr} {scope : Scope} {cl : List (Str × Addr)} {pos : Pos} {s₂ : Shared} {I : Addr} {fp wr : List Addr} {n : Nat} {P Md : Nat → Value → Heap → Prop} {St : Nat → Heap → Prop} {news : List (Addr × Obj)}
    {B : Nat → (Str → Option Value) → Prop} (J : Nat → List Value → Prop) {RR : Value → Addr → Result → Shared → Prop} (hs : ∀ C x, foldedSetIterable i2 (compEnvC scope cl C env) x = pure x)
    (W : KTurns prog w A t1 I fp wr n P Md St) (hself : ∀ i (s : Shared) (Q : Value → Shared → Prop) (E : Value → Shared → Prop), St i s.heap → Q (.ref I) s → wpAny (model prog w) A (pyIter (.ref I)) Q E s)
    (asg : ∀ i v (s' : Shared) C m' (Q : Unit → Shared → Prop) (E : Value → Shared → Prop), P i v s'.heap → s'.heap.Ns C m' → (∀ h' tk m'', h'.Ns C m'' → B i m'' → (∀ b o, b ≠ C → s'.heap.get? b = some o → h'.get? b = some o) → Q () { s' with heap := h', toks := tk }) → wpAny (model prog w) A (assign t1 (compEnvC scope cl C env) v) Q E s')
    (hcell : ∀ y ∈ scope.names, y.2 ≠ .cell) (hkind : scope.kind = .function) (hst : St 0 s₂.heap) (hfp : ∀ b ∈ fp, b < s₂.heap.objs.size) (hLf : L ∉ fp) (hwr : ∀ b ∈ wr, h₀.get? b = none) (hnw : ∀ p ∈ news, p.1 ∉ wr)
    (F : Fr h₀ L s₂.heap m) (N : News h₀ L s₂.heap news) (hJ : J 0 [])
    (turn : ∀ i ys (s₁ : Shared) own C D oC m₂ (E' : Value → Shared → Prop), i < n → B i m₂ → J i ys → s₁.drawn = s₂.drawn → (∀ p ∈ news, p.1 ≠ C ∧ p.1 ≠ D) → (∀ p ∈ own, p.1 ≠ C ∧ p.1 ≠ D) → C ≠ D → C ≠ L → D ≠ L → h₀.get? C = none → h₀.get? D = none → s₁.heap.Ns C m₂ → NsObj oC m₂ → Fr h₀ L s₁.heap m → News h₀ L s₁.heap ((C, oC) :: (D, lst ys) :: (news ++ own)) →
      bodyO prog w A (two elt t1 i1 t2 i2 scope pos) i2 (.ref D) (compEnvC scope cl C env) E' s₁ (TurnEnd h₀ L m (fun d => d = s₂.drawn) (fun _ => True) own C D (news.map (·.1)) (fun ys' n' => J (i + 1) ys' ∧ n' = news) s₁))
    (hRR : ∀ D C h tk m' ys, Fr h₀ L h m → News h₀ L h ((D, lst ys) :: news) → (∀ p ∈ news, p.1 < D) → h.Ns C m' → h₀.get? C = none → h₀.get? D = none → C ≠ L → D ≠ L → C ≠ D → (∀ p ∈ news, p.1 ≠ C) → J n ys → RR (.ref D) C (.ok .next) { s₂ with heap := h, toks := tk }) :
    wpAny (model prog w) A (newList []) (fun acc s₃ => wpAny (model prog w) A (newFunctionEnv scope env.globals cl [] env.qual none .none (some env)) (fun cenv s₄ =>
      codeAny (model prog w) A (.compStart (two elt t1 i1 t2 i2 scope pos) 0 (.ref I) acc { cenv with scope := relabel scope env }) (RR acc cenv.locals) s₄) E s₃) E s₂ := by
  refine wpAny_newObj_type (wpAny_newFunctionEnv hcell (by intro y hy; simp at hy) (fun h₁ hns₁ hsb₁ => ?_) hkind)
  dsimp only at hns₁ hsb₁ ⊢
  generalize hH2 : s₂.heap.push { cls := .type "list", dict := none, data := .seq ([] : List Value).toArray } = H2 at hns₁ hsb₁ ⊢
  obtain ⟨D, hD⟩ : ∃ D : Addr, D = s₂.heap.objs.size := ⟨_, rfl⟩
  obtain ⟨C, hC'⟩ : ∃ C : Addr, C = H2.objs.size := ⟨_, rfl⟩
  have hC : C = D + 1 := by rw [hC', ← hH2, Heap.size_push, hD]
  have hacc2 : H2.get? D = some (lst []) := by rw [← hH2, hD]; exact Heap.get?_push_size _ rfl
  have hacc : h₁.get? D = some (lst []) := hsb₁.extBut _ _ (by rw [← hC', hC]; exact Nat.ne_of_lt (Nat.lt_succ_self _)) (Heap.get?_push_of_some _ hacc2)
  have old : ∀ b o, s₂.heap.get? b = some o → h₁.get? b = some o := fun b o e => hsb₁.extBut b o (by have := Heap.lt_size e; rw [← hC', hC, hD]; exact Nat.ne_of_lt (Nat.lt_succ_of_lt this)) (Heap.get?_push_of_some _ (hH2 ▸ Heap.get?_push_of_some _ e))
  rw [← hC'] at hns₁
  rw [← hD, ← hC']
  rw [← hD] at hfp
  have hCD : C ≠ D := by rw [hC]; exact Nat.succ_ne_self _
  have below : ∀ b, b < D → b ≠ C ∧ b ≠ D := fun b hb => ⟨by rw [hC]; exact Nat.ne_of_lt (Nat.lt_succ_of_lt hb), Nat.ne_of_lt hb⟩
  have hDf : D ∉ fp := fun hm => Nat.lt_irrefl _ (hfp _ hm)
  have hCf : C ∉ fp := fun hm => by have := hfp _ hm; rw [hC] at this; exact Nat.lt_irrefl _ (Nat.lt_of_succ_lt this)
  have fresh₀ : ∀ a, D ≤ a → h₀.get? a = none := fun a ha => ktu_new F (hD ▸ ha)
  have hD₀ : h₀.get? D = none := fresh₀ _ (Nat.le_refl _)
  have hC₀ : h₀.get? C = none := fresh₀ _ (by rw [hC]; exact Nat.le_succ _)
  have hLlt : L < D := hD ▸ F.ns.lt
  have hDL : D ≠ L := Ne.symm (below L hLlt).2
  have hCL : C ≠ L := Ne.symm (below L hLlt).1
  have hLw : L ∉ wr := fun h => hLf (W.sub _ h)
  have oldw : ∀ b o, h₀.get? b = some o → b ∉ wr := fun b o e hb => by rw [hwr b hb] at e; cases e
  have hDw : D ∉ wr := fun h => hDf (W.sub _ h)
  have hCw : C ∉ wr := fun h => hCf (W.sub _ h)
  have offs : ∀ news₁ : List (Addr × Obj), news₁.map (·.1) = news.map (·.1) → ∀ p ∈ news₁, p.1 ∉ wr ∧ p.1 ≠ C ∧ p.1 ≠ D ∧ p.1 < D := fun news₁ e p hp => by
    have h1 : p.1 ∈ news₁.map (·.1) := List.mem_map.mpr ⟨p, hp, rfl⟩
    rw [e] at h1
    obtain ⟨q, hq, e'⟩ := List.mem_map.mp h1
    have h2 := Heap.lt_size (N q hq).1
    have h3 := below _ (hD ▸ h2)
    rw [← e']
    exact ⟨hnw q hq, h3.1, h3.2, hD ▸ h2⟩
  have offs' : ∀ p ∈ news, p.1 ∉ wr ∧ p.1 ≠ C ∧ p.1 ≠ D := fun p hp => ⟨(offs _ rfl p hp).1, (offs _ rfl p hp).2.1, (offs _ rfl p hp).2.2.1⟩
  have loop : ∀ s₃ : Shared, s₃ = { s₂ with heap := h₁, toks := s₂.toks + ([] : List (Str × Value)).length } →
      codeAny (model prog w) A (.compLoop (two elt t1 i1 t2 i2 scope pos) 0 (.ref I) (.ref D) (compEnvC scope cl C env)) (RR (.ref D) C) s₃ := by
    rintro s₃ rfl
    refine loop_G (fun i ys nw => J i ys ∧ nw = news) (fun d => d = s₂.drawn) (fun _ => True) (bodyO prog w A (two elt t1 i1 t2 i2 scope pos) i2 (.ref D) (compEnvC scope cl C env)) (fun Iv turn n s h => compLoop_out (hs C) Iv turn n h) bodyO_mono W
      (fun i v s' m' Q E hP hn _ hQ => asg i v s' C m' Q E hP hn fun h' tk m'' a b c => hQ h' tk m'' a b trivial c) (W.frame _ _ _ hst fun b _ o e => old b o e) hLf hDf hCf hCD hCL hDL hC₀ hD₀ hwr offs' (safe := []) (fun b hb => nomatch hb) (F.keeps old) hns₁ trivial hacc (N.grown old) rfl ⟨hJ, rfl⟩ ?_ ?_
    · intro i ys news₁ s₁ own oC m₂ hi hB _ ha hj hk ho hc hns hoC F₁ N₁ howD hnD
      obtain ⟨hj, rfl⟩ := hj
      exact turn i ys s₁ own C D oC m₂ _ hi hB hj hk (fun p hp => (offs' p hp).2) howD hCD hCL hDL hC₀ hD₀ hns hoC F₁ N₁
    · intro h tk dr m' ys news' hK' F' N' hn' _ ha hj
      obtain ⟨hj, rfl⟩ := hj
      subst hK'
      exact hRR D C h tk m' ys F' N' (fun p hp => (offs _ rfl p hp).2.2.2) hn' hC₀ hD₀ hCL hDL hCD (fun p hp => (offs' p hp).2.1) hj
  exact codeAny_compStart_list (loop _ rfl) (hself 0 _ _ _ (W.frame _ _ _ hst fun b _ o e => old b o e) (loop _ rfl))

/-- the clause inside: the turns of a loop of its own -/
theorem inner_G {elt t1 i1 i2 : PySem.Expr} {y : Str} {py : Pos} {scope : Scope} {cl : List (Str × Addr)} {pos : Pos} {s₁ s₄ : Shared} {I C D : Addr} {fp wr : List Addr} {n : Nat} {P : Nat → Value → Prop} {St : Nat → Heap → Prop} {news own : List (Addr × Obj)} {ys₀ : List Value} {m₂ : Str → Option Value} {oC : Obj}
    (JJ : Nat → List Value → Prop) {Jf : List Value → List (Addr × Obj) → Prop} {EE : Value → Shared → Prop}
    (hkind : scope.kind = .function) (hy : scope.names.lookup y = some .local)
    (W : Walks prog w A I fp wr n P St) (hgo : ∀ i v (s : Shared) (Q : Unit → Shared → Prop) (E : Value → Shared → Prop), St i s.heap → Q () s → wpAny (model prog w) A (letOwnedTupleGo (.Name y py) (.ref I) v) Q E s)
    (hst : St 0 s₄.heap) (hLf : L ∉ fp) (hCf : C ∉ fp) (hDf : D ∉ fp) (hwr : ∀ b ∈ wr, h₀.get? b = none) (hnw : ∀ p ∈ news ++ own, p.1 ∉ wr)
    (hoC : NsObj oC m₂) (F : Fr h₀ L s₄.heap m) (N : News h₀ L s₄.heap ((C, oC) :: (D, lst ys₀) :: (news ++ own))) (hs₄ : ∃ h tk, s₄ = { s₁ with heap := h, toks := tk })
    (hnews : ∀ p ∈ news, p.1 ≠ C ∧ p.1 ≠ D) (hown : ∀ p ∈ own, p.1 ≠ C ∧ p.1 ≠ D) (hCD : C ≠ D) (hCL : C ≠ L) (hDL : D ≠ L) (hC₀ : h₀.get? C = none) (hD₀ : h₀.get? D = none) (hlen : ∀ j ys, j ≤ n → JJ j ys → ys.length ≤ sizeLine)
    (hJ : JJ 0 ys₀) (hfin : ∀ ys, JJ n ys → Jf ys news)
    (turn : ∀ j v ys (s₅ : Shared) X oC' m' (E' : Value → Shared → Prop), j < n → s₅.drawn = s₁.drawn → P j v → m' y = some v → (∀ z, z ≠ y → m' z = m₂ z) → JJ j ys → (C, oC') ∈ X → NsObj oC' m' → (∀ p ∈ news ++ own, p.1 ≠ C) → Fr h₀ L s₅.heap m → News h₀ L s₅.heap ((C, oC') :: (news ++ own ++ X)) →
      wpAny (model prog w) A (eval elt (compEnvC scope cl C env)) (GEnd h₀ L m (fun d => d = s₁.drawn) X ((news ++ own).map (·.1)) (fun r n' => JJ (j + 1) (ys ++ [r]) ∧ n' = news ++ own) s₅) E' s₅) :
    codeAny (model prog w) A (.compLoop (two elt t1 i1 (.Name y py) i2 scope pos) 1 (.ref I) (.ref D) (compEnvC scope cl C env)) (fun r s₅ => match r with | .ok _ => TurnEnd h₀ L m (fun d => d = s₁.drawn) (fun _ => True) own C D (news.map (·.1)) Jf s₁ s₅ | .error x => EE x s₅) s₄ := by
  obtain ⟨h₄, tk₄, rfl⟩ := hs₄
  refine loop_G (news := news ++ own) (fun j ys nw => (JJ j ys ∧ j ≤ n) ∧ nw = news ++ own) (fun d => d = s₁.drawn) (fun m' => ∀ z, z ≠ y → m' z = m₂ z) (bodyT prog w A [] elt (.ref D) (compEnvC scope cl C env)) (fun Iv turn n s h => compLoop_in Iv turn n h) bodyT_mono (KTurns.ofWalks W hgo) (B := fun j m' => ∃ v, P j v ∧ m' y = some v)
    ?_ hst hLf hDf hCf hCD hCL hDL hC₀ hD₀ hwr (fun p hp => ⟨hnw p hp, (List.mem_append.mp hp).elim (hnews p) (hown p)⟩) (safe := []) (fun b hb => nomatch hb) F (hoC.ns (N _ (.head _)).1) (fun _ _ => rfl) (N _ (.tail _ (.head _))).1 (fun p hp => N p (.tail _ (.tail _ hp))) rfl ⟨⟨hJ, Nat.zero_le _⟩, rfl⟩ ?_ ?_
  · intro j v s' m' Q E hP hn hI hQ
    refine wpAny_assign_Name (wpAny_storeName_local (lookup_relabel_local hy) hn (fun h₃ hn₃ hs₃ => ?_) (by simp [compEnvC, relabel, hkind]))
    exact hQ h₃ _ _ hn₃ ⟨v, hP, by simp⟩ (fun z hz => by simp [hz, hI z hz]) fun b o hb e => hs₃.extBut b o hb e
  · intro j ys news₁ s₅ own' oC' m' hj hB hI ha hjj hk ho hc hns hoC' F₅ N₅ howD hnD
    obtain ⟨⟨hjj, hjn⟩, rfl⟩ := hjj
    obtain ⟨v, hP, hv⟩ := hB
    refine bodyT_turn (ys := ys) hoC' hI hCD hDL hD₀ (fun p hp => (howD p hp).2) (fun b hb => ?_) (hlen j ys hjn hjj) ?_
    · obtain ⟨q, hq, e'⟩ := List.mem_map.mp hb
      rw [← e']; exact hnD q hq
    · refine wpAny_tests_nil ?_
      simp only [if_true]
      refine wpAny_mono (turn j v ys s₅ ((C, oC') :: (D, lst ys) :: own') oC' m' _ hj hk hP hv hI hjj (.head _) hoC' hc F₅ (fun p hp => N₅ p ?_)) (fun r s₆ h₆ => ?_) fun _ _ e => e
      · rcases List.mem_cons.mp hp with rfl | hp
        · exact .head _
        · rcases List.mem_append.mp hp with hp | hp
          · exact .tail _ (.tail _ (List.mem_append_left _ hp))
          · rcases List.mem_cons.mp hp with rfl | hp
            · exact .head _
            · rcases List.mem_cons.mp hp with rfl | hp
              · exact .tail _ (.head _)
              · exact .tail _ (.tail _ (List.mem_append_right _ hp))
      · obtain ⟨h₅, tk₅, dr₅, all, news₅, e, hK₅, F₅, N₅, hX₅, hn₅, ha₅, r₅, e₅⟩ := h₆
        exact ⟨h₅, tk₅, dr₅, all, news₅, e, hK₅, F₅, N₅, hX₅, hn₅, ha₅, ⟨r₅, hj⟩, e₅⟩
  · intro h tk dr m' ys news' hK' F' N' hn' _ ha hj
    obtain ⟨⟨hj, _⟩, rfl⟩ := hj
    exact ⟨h, tk, dr, _, ys, m', news, rfl, hK', F', N', fun p hp => .tail _ (List.mem_append_right _ hp), fun p hp => .tail _ (List.mem_append_left _ hp), rfl, hn', trivial, (N' _ (.head _)).1, hfin ys hj⟩
end
end Mine
end

section
set_option Elab.async false
set_option maxRecDepth 100000
set_option maxHeartbeats 4000000
namespace Mine
open PySem PySem.W PyProof.Rows PySem.Calls PySem.Spec
open PyProof.Rows.LCg (lst NsObj ns_obj lst_snoc)
section
variable {prog : Program} {w : World} {A : Around} {E : Value → Shared → Prop} {s : Shared} {h₀ : Heap} {L : Addr} {m : Str → Option Value} {env : Env}

/-- the clause inside, at its iterator -/
noncomputable def InAt (prog : Program) (w : World) (A : Around) (h₀ : Heap) (L : Addr) (m : Str → Option Value) (e : PySem.Expr) (cenv : Env) (own news : List (Addr × Obj)) (C D : Addr) (Jf : List Value → Prop) (s₁ : Shared) (E' : Value → Shared → Prop) (it2 : Value) (s₄ : Shared) : Prop :=
  codeAny (model prog w) A (.compStart e 1 it2 (.ref D) cenv) (fun r s₅ => match r with | .ok _ => TurnEnd h₀ L m (fun d => d = s₁.drawn) (fun _ => True) own C D (news.map (·.1)) (fun ys' n' => Jf ys' ∧ n' = news) s₁ s₅ | .error x => cameBackBy (model prog w) A cenv E' x s₅) s₄

noncomputable def NTurn (prog : Program) (w : World) (A : Around) (h₀ : Heap) (L : Addr) (m : Str → Option Value) (env : Env) (e i2 : PySem.Expr) (x : Str) (scope : Scope) (cl : List (Str × Addr)) (news : List (Addr × Obj)) (v : Value) (ys : List Value) (Jf : List Value → Prop) : Prop :=
  ∀ (s₁ : Shared) own C D oC m₂ (E' : Value → Shared → Prop), m₂ x = some v → (∀ p ∈ news, p.1 ≠ C ∧ p.1 ≠ D) → (∀ p ∈ own, p.1 ≠ C ∧ p.1 ≠ D) → C ≠ D → C ≠ L → D ≠ L → h₀.get? C = none → h₀.get? D = none → NsObj oC m₂ → Fr h₀ L s₁.heap m → News h₀ L s₁.heap ((C, oC) :: (D, lst ys) :: (news ++ own)) →
    wpAny (model prog w) A (eval i2 (compEnvC scope cl C env)) (fun xv s₃ => wpAny (model prog w) A (pyIter xv) (fun it2 s₄ => InAt prog w A h₀ L m e (compEnvC scope cl C env) own news C D Jf s₁ E' it2 s₄) E' s₃) E' s₁

inductive NAt (prog : Program) (w : World) (A : Around) (h₀ : Heap) (L : Addr) (m : Str → Option Value) (env : Env) (e i2 : PySem.Expr) (x : Str) (scope : Scope) (cl : List (Str × Addr)) (Q : Value → Shared → Prop) (it : Value) (s₂ : Shared) : Prop
  | mk (I : Addr) (fp wr : List Addr) (vs : List Value) (St : Nat → Heap → Prop) (news : List (Addr × Obj)) (J : Nat → List Value → Prop) (h1 : it = .ref I) (h2 : Walks prog w A I fp wr vs.length (fun i v => vs[i]? = some v) St) (h3 : (∀ (tg : PySem.Expr) i v (s : Shared) (Q : Unit → Shared → Prop) (E : Value → Shared → Prop), St i s.heap → Q () s → wpAny (model prog w) A (letOwnedTupleGo tg (.ref I) v) Q E s)) (h4 : St 0 s₂.heap) (h5 : (∀ b ∈ fp, b < s₂.heap.objs.size)) (h6 : L ∉ fp) (h7 : (∀ b ∈ wr, h₀.get? b = none)) (h8 : (∀ p ∈ news, p.1 ∉ wr)) (h9 : Fr h₀ L s₂.heap m) (h10 : News h₀ L s₂.heap news) (h11 : J 0 []) (h12 : (∀ i v ys, vs[i]? = some v → J i ys → NTurn prog w A h₀ L m env e i2 x scope cl news v ys (J (i + 1)))) (h13 : ∀ ys, J vs.length ys → FinGE h₀ L m Q ys news s₂.drawn s₂) : NAt prog w A h₀ L m env e i2 x scope cl Q it s₂

theorem ListComp_N {elt i1 i2 : PySem.Expr} {x y : Str} {px py : Pos} {scope : Scope} {cl : List (Str × Addr)} {pos : Pos} {Q : Value → Shared → Prop} (_F₀ : Fr h₀ L s.heap m)
    (hclos : closureFor scope env = pure cl) (hcell : ∀ y ∈ scope.names, y.2 ≠ .cell) (hkind : scope.kind = .function)
    (hnames : ∀ y ∈ scope.names, y.2 = .local → scope.names.lookup y.1 = some .local) (hx : scope.names.lookup x = some .local)
    (h : wpAny (model prog w) A (eval i1 env) (fun xv s₁ => wpAny (model prog w) A (pyIter xv) (fun it s₂ => NAt prog w A h₀ L m env (two elt (.Name x px) i1 (.Name y py) i2 scope pos) i2 x scope cl Q it s₂) E s₁) E s)
    (hs2 : ∀ C x, foldedSetIterable i2 (compEnvC scope cl C env) x = pure x) (hs : ∀ x, foldedSetIterable i1 env x = pure x) :
    wpAny (model prog w) A (eval (.ListComp elt [⟨.Name x px, i1, [], 0⟩, ⟨.Name y py, i2, [], 0⟩] scope pos) env) Q E s := by
  rw [eval_ListComp]
  refine wpAny_comprehension_free (use := none) rfl hs hclos hkind hnames (wpAny_mono h (fun xv s₁ h₁ => wpAny_mono h₁ (fun it s₂ h₂ => ?_) fun _ _ e => e) fun _ _ e => e)
  obtain ⟨I, fp, wr, vs, St, news, J, rfl, W, hgo, hst, hfp, hLf, hwr, hnw, F, N, hJ, turn, fin⟩ := h₂
  refine block_N (B := fun i m₂ => ∃ v, vs[i]? = some v ∧ m₂ x = some v) J hs2 (KTurns.ofWalks W (hgo _)) W.self ?_ hcell hkind hst hfp hLf hwr hnw F N hJ ?_ ?_
  · intro i v s' C m' Q E hP hn hQ
    refine wpAny_assign_Name (wpAny_storeName_local (lookup_relabel_local hx) hn (fun h₃ hn₃ hs₃ => ?_) (by simp [compEnvC, relabel, hkind]))
    exact hQ h₃ _ _ hn₃ ⟨v, hP, by simp⟩ fun b o hb e => hs₃.extBut b o hb e
  · intro i ys s₁ own C D oC m₂ E' hi hB hj hk hn ho hCD hCL hDL hC₀ hD₀ hns hoC F₁ N₁
    obtain ⟨v, hv, hm⟩ := hB
    have z := turn i v ys hv hj s₁ own C D oC m₂ E' hm hn ho hCD hCL hDL hC₀ hD₀ hoC F₁ N₁
    unfold InAt at z
    rw [hk] at z
    exact z
  · intro D C h tk m' ys F' N' oD hn hC₀ hD₀ hCL hDL hCD offC hj
    refine ⟨m', hn, fun h'' hs'' => fin ys hj D h'' tk (F'.change hs'' hCL hC₀) (fun p hp => ?_) oD⟩
    refine ⟨hs''.extBut _ _ ?_ (N' p hp).1, (N' p hp).2⟩
    rcases List.mem_cons.mp hp with rfl | hp
    · exact Ne.symm hCD
    · exact offC p hp

theorem nat_list {elt i1 i2 : PySem.Expr} {x y : Str} {px py : Pos} {scope : Scope} {cl : List (Str × Addr)} {pos : Pos} {Q : Value → Shared → Prop} {ax : Addr} {vs : List Value} {news : List (Addr × Obj)} (J : Nat → List Value → Prop)
    (hh : A.handled = none) (hl : s.heap.IsList ax vs.toArray) (hlL : ax ≠ L) (F : Fr h₀ L s.heap m) (N : News h₀ L s.heap news) (hJ : J 0 [])
    (turn : ∀ i v ys, vs[i]? = some v → J i ys → NTurn prog w A h₀ L m env (two elt (.Name x px) i1 (.Name y py) i2 scope pos) i2 x scope cl news v ys (J (i + 1)))
    (done : ∀ h ys, J vs.length ys → FinGE h₀ L m Q ys news s.drawn { s with heap := h }) :
    wpAny (model prog w) A (pyIter (.ref ax)) (fun it s₂ => NAt prog w A h₀ L m env (two elt (.Name x px) i1 (.Name y py) i2 scope pos) i2 x scope cl Q it s₂) E s := by
  obtain ⟨ol, hol, _⟩ := id hl
  have hlt : ax < s.heap.objs.size := Heap.lt_size hol
  have hne' : ax ≠ s.heap.objs.size := Nat.ne_of_lt hlt
  refine wpAny_pyIter_list hl ?_
  have up : ∀ b o, s.heap.get? b = some o → (s.heap.push { cls := .type "list_iterator", data := .fields #[.ref ax, .int 0 0] }).get? b = some o := fun b o e => Heap.get?_push_of_some _ e
  have W := Walks.list (prog := prog) (w := w) hh s.heap.objs.size ax hne' vs.toArray
  have hs0 : vs.toArray.size = vs.length := List.size_toArray
  rw [hs0] at W
  have e1 : (fun i v => vs.toArray[i]? = some v) = (fun (i : Nat) v => vs[i]? = some v) := by funext i v; simp
  rw [e1] at W
  refine ⟨s.heap.objs.size, _, _, vs, _, news, J, rfl, W, (fun tg i v s Q E st q => letGo_listiter st.1 q), ⟨⟨_, Heap.get?_push_size _ rfl, rfl, rfl⟩, hl.push _⟩, fun b hb => ?_, fun hb => ?_, fun b hb => ?_, fun p hp hb => ?_, F.keeps up, N.grown up, hJ, turn, fun ys hj => done _ ys hj⟩
  · show b < (s.heap.push _).objs.size
    rw [Heap.size_push]
    rcases List.mem_cons.mp hb with rfl | hb
    · exact Nat.lt_succ_self _
    · rw [List.mem_singleton.mp hb]; exact Nat.lt_succ_of_lt hlt
  · rcases List.mem_cons.mp hb with e | e
    · exact absurd F.ns.lt (by rw [e]; exact Nat.lt_irrefl _)
    · exact hlL (List.mem_singleton.mp e).symm
  · rw [List.mem_singleton.mp hb]; exact next_is_new F
  · rw [List.mem_singleton] at hb
    exact absurd (Heap.lt_size (N p hp).1) (by rw [hb]; exact Nat.lt_irrefl _)

/-- the clause inside: a list or a tuple -/
theorem in_seq {elt t1 i1 i2 : PySem.Expr} {y : Str} {py : Pos} {scope : Scope} {cl : List (Str × Addr)} {pos : Pos} {s₁ : Shared} {ax C D : Addr} {vs : List Value} {news own : List (Addr × Obj)} {ys₀ : List Value} {m₂ : Str → Option Value} {oC : Obj}
    (JJ : Nat → List Value → Prop) {Jf : List Value → Prop} {E' : Value → Shared → Prop}
    (hh : A.handled = none) (hkind : scope.kind = .function) (hy : scope.names.lookup y = some .local) (hl : s.heap.IsList ax vs.toArray ∨ s.heap.IsTuple ax vs.toArray) (hlL : ax ≠ L) (hlC : ax ≠ C) (hlD : ax ≠ D)
    (hoC : NsObj oC m₂) (F : Fr h₀ L s.heap m) (N : News h₀ L s.heap ((C, oC) :: (D, lst ys₀) :: (news ++ own))) (hs : ∃ h tk, s = { s₁ with heap := h, toks := tk })
    (hnews : ∀ p ∈ news, p.1 ≠ C ∧ p.1 ≠ D) (hown : ∀ p ∈ own, p.1 ≠ C ∧ p.1 ≠ D) (hCD : C ≠ D) (hCL : C ≠ L) (hDL : D ≠ L) (hC₀ : h₀.get? C = none) (hD₀ : h₀.get? D = none) (hlen : ∀ j ys, j ≤ vs.length → JJ j ys → ys.length ≤ sizeLine)
    (hJ : JJ 0 ys₀) (hfin : ∀ ys, JJ vs.length ys → Jf ys)
    (turn : ∀ j v ys (s₅ : Shared) X oC' m' (E' : Value → Shared → Prop), vs[j]? = some v → s₅.drawn = s₁.drawn → m' y = some v → (∀ z, z ≠ y → m' z = m₂ z) → JJ j ys → (C, oC') ∈ X → NsObj oC' m' → (∀ p ∈ news ++ own, p.1 ≠ C) → Fr h₀ L s₅.heap m → News h₀ L s₅.heap ((C, oC') :: (news ++ own ++ X)) →
      wpAny (model prog w) A (eval elt (compEnvC scope cl C env)) (GEnd h₀ L m (fun d => d = s₁.drawn) X ((news ++ own).map (·.1)) (fun r n' => JJ (j + 1) (ys ++ [r]) ∧ n' = news ++ own) s₅) E' s₅) :
    wpAny (model prog w) A (pyIter (.ref ax)) (fun it2 s₄ => InAt prog w A h₀ L m (two elt t1 i1 (.Name y py) i2 scope pos) (compEnvC scope cl C env) own news C D Jf s₁ E' it2 s₄) E' s := by
  have hlt : ax < s.heap.objs.size := by
    rcases hl with hl | hl <;> (obtain ⟨_, e, _⟩ := hl; exact Heap.lt_size e)
  have hne' : ax ≠ s.heap.objs.size := Nat.ne_of_lt hlt
  have hCs : C < s.heap.objs.size := Heap.lt_size (N _ (.head _)).1
  have hDs : D < s.heap.objs.size := Heap.lt_size (N _ (.tail _ (.head _))).1
  obtain ⟨h1, tk1, rfl⟩ := hs
  have key : ∀ (it : Obj) (W : ∃ St, Walks prog w A h1.objs.size [h1.objs.size, ax] [h1.objs.size] vs.length (fun i v => vs[i]? = some v) St ∧ St 0 (h1.push it) ∧ (∀ i v (s : Shared) (Q : Unit → Shared → Prop) (E : Value → Shared → Prop), St i s.heap → Q () s → wpAny (model prog w) A (letOwnedTupleGo (.Name y py) (.ref h1.objs.size) v) Q E s)),
      InAt prog w A h₀ L m (two elt t1 i1 (.Name y py) i2 scope pos) (compEnvC scope cl C env) own news C D Jf s₁ E' (.ref h1.objs.size) { s₁ with heap := h1.push it, toks := tk1 } := by
    rintro it ⟨St, W, st0, hgo⟩
    have up : ∀ b o, h1.get? b = some o → (h1.push it).get? b = some o := fun b o e => Heap.get?_push_of_some _ e
    have lp : codeAny (model prog w) A (.compLoop (two elt t1 i1 (.Name y py) i2 scope pos) 1 (.ref h1.objs.size) (.ref D) (compEnvC scope cl C env)) (fun r s₅ => match r with | .ok _ => TurnEnd h₀ L m (fun d => d = s₁.drawn) (fun _ => True) own C D (news.map (·.1)) (fun ys' n' => Jf ys' ∧ n' = news) s₁ s₅ | .error x => cameBackBy (model prog w) A (compEnvC scope cl C env) E' x s₅) { s₁ with heap := h1.push it, toks := tk1 } := by
      refine inner_G JJ hkind hy W hgo st0 (fun hb => ?_) (fun hb => ?_) (fun hb => ?_) (fun b hb => ?_) (fun p hp hb => ?_) hoC (F.keeps up) (N.grown up) ⟨_, _, rfl⟩ hnews hown hCD hCL hDL hC₀ hD₀ hlen hJ (fun ys hj => ⟨hfin ys hj, rfl⟩) (fun j v ys s₅ X oC' m' E' _ hd hv => turn j v ys s₅ X oC' m' E' hv hd)
      · rcases List.mem_cons.mp hb with e | e
        · exact absurd F.ns.lt (by rw [e]; exact Nat.lt_irrefl _)
        · exact hlL (List.mem_singleton.mp e).symm
      · rcases List.mem_cons.mp hb with e | e
        · exact absurd hCs (by rw [e]; exact Nat.lt_irrefl _)
        · exact hlC (List.mem_singleton.mp e).symm
      · rcases List.mem_cons.mp hb with e | e
        · exact absurd hDs (by rw [e]; exact Nat.lt_irrefl _)
        · exact hlD (List.mem_singleton.mp e).symm
      · rw [List.mem_singleton.mp hb]; exact next_is_new F
      · rw [List.mem_singleton] at hb
        exact absurd (Heap.lt_size (N p (.tail _ (.tail _ hp))).1) (by rw [hb]; exact Nat.lt_irrefl _)
    exact compStart_two lp (W.self 0 _ _ _ st0 lp)
  have e1 : (fun i v => vs.toArray[i]? = some v) = (fun (i : Nat) v => vs[i]? = some v) := by funext i v; simp
  have hs0 : vs.toArray.size = vs.length := List.size_toArray
  rcases hl with hl | hl
  · refine wpAny_pyIter_list hl ?_
    have W := Walks.list (prog := prog) (w := w) hh h1.objs.size ax hne' vs.toArray
    rw [hs0, e1] at W
    exact key _ ⟨_, W, ⟨⟨_, Heap.get?_push_size _ rfl, rfl, rfl⟩, hl.push _⟩, fun i v s Q E st q => letGo_listiter st.1 q⟩
  · refine wpAny_pyIter_tuple hl ?_
    have W := Walks.tuple (prog := prog) (w := w) hh h1.objs.size ax hne' vs.toArray
    rw [hs0, e1] at W
    exact key _ ⟨_, W, ⟨⟨_, Heap.get?_push_size _ rfl, rfl, rfl⟩, hl.at fun o e => Heap.get?_push_of_some _ e⟩, fun i v s Q E st q => letGo_tupleiter st.1 q⟩
/-- the turns over a tuple with one name -/
theorem gat_tuple {elt : PySem.Expr} {ifs : List PySem.Expr} {x : Str} {px : Pos} {scope : Scope} {cl : List (Str × Addr)} {fin : List Value → List (Addr × Obj) → Drawn → Shared → Prop} {ax : Addr} {vs : List Value} {news : List (Addr × Obj)}
    (Kd : Drawn → Prop) (J : Nat → List Value → List (Addr × Obj) → Prop) (safe : List Addr)
    (hh : A.handled = none) (hkind : scope.kind = .function) (hx : scope.names.lookup x = some .local) (hl : s.heap.IsTuple ax vs.toArray) (hlL : ax ≠ L) (hsz : vs.length ≤ sizeLine) (F : Fr h₀ L s.heap m) (N : News h₀ L s.heap news) (hsafe : ∀ b ∈ safe, b ≠ ax ∧ b < s.heap.objs.size) (hK : Kd s.drawn) (hJ : J 0 [] news)
    (turn : ∀ i v ys news₁, vs[i]? = some v → news₁.map (·.1) = news.map (·.1) → J i ys news₁ → GTurn prog w A h₀ L m env elt ifs scope cl Kd J safe (news.map (·.1)) (fun m₂ => m₂ x = some v) i ys news₁)
    (done : ∀ h dr ys news', Kd dr → news'.map (·.1) = news.map (·.1) → J vs.length ys news' → fin ys news' dr { s with heap := h }) :
    wpAny (model prog w) A (pyIter (.ref ax)) (fun it s₂ => GAt prog w A h₀ L m env elt (.Name x px) ifs scope cl fin it s₂) E s := by
  obtain ⟨ol, hol, _⟩ := id hl
  have hlt : ax < s.heap.objs.size := Heap.lt_size hol
  have hne' : ax ≠ s.heap.objs.size := Nat.ne_of_lt hlt
  refine wpAny_pyIter_tuple hl ?_
  have up : ∀ b o, s.heap.get? b = some o → (s.heap.push { cls := .type "tuple_iterator", data := .fields #[.ref ax, .int 0 0] }).get? b = some o := fun b o e => Heap.get?_push_of_some _ e
  have W := Walks.tuple (prog := prog) (w := w) hh s.heap.objs.size ax hne' vs.toArray
  have hs0 : vs.toArray.size = vs.length := List.size_toArray
  rw [hs0] at W
  refine ⟨s.heap.objs.size, _, _, vs.length, _, _, _, news, safe, fun i m₂ => ∃ v, vs[i]? = some v ∧ m₂ x = some v, J, Kd, rfl, KTurns.ofWalks W (fun i v s Q E st q => letGo_tupleiter st.1 q), W.self, hsz, ?_, ⟨⟨_, Heap.get?_push_size _ rfl, rfl, rfl⟩, hl.at fun o e => Heap.get?_push_of_some _ e⟩, fun b hb => ?_, fun hb => ?_, fun b hb => ?_, fun p hp hb => ?_, fun b hb => ⟨fun hf => ?_, ?_⟩, F.keeps up, N.grown up, hK, hJ, ?_, fun dr ys news' a b c => done _ dr ys news' a b c⟩
  · intro i v s' C m' Q E hP hn hQ
    refine wpAny_assign_Name (wpAny_storeName_local (lookup_relabel_local hx) hn (fun h₃ hn₃ hs₃ => ?_) (by simp [compEnvC, relabel, hkind]))
    exact hQ h₃ _ _ hn₃ ⟨v, by simpa using hP, by simp⟩ fun b o hb e => hs₃.extBut b o hb e
  · show b < (s.heap.push _).objs.size
    rw [Heap.size_push]
    rcases List.mem_cons.mp hb with rfl | hb
    · exact Nat.lt_succ_self _
    · rw [List.mem_singleton.mp hb]; exact Nat.lt_succ_of_lt hlt
  · rcases List.mem_cons.mp hb with e | e
    · exact absurd F.ns.lt (by rw [e]; exact Nat.lt_irrefl _)
    · exact hlL (List.mem_singleton.mp e).symm
  · rw [List.mem_singleton.mp hb]; exact next_is_new F
  · rw [List.mem_singleton] at hb
    exact absurd (Heap.lt_size (N p hp).1) (by rw [hb]; exact Nat.lt_irrefl _)
  · rcases List.mem_cons.mp hf with e | e
    · exact absurd (hsafe b hb).2 (by rw [e]; exact Nat.lt_irrefl _)
    · exact (hsafe b hb).1 (List.mem_singleton.mp e)
  · show b < (s.heap.push _).objs.size
    rw [Heap.size_push]; exact Nat.lt_succ_of_lt (hsafe b hb).2
  · intro i ys news₁ hi ha hj s₁ X C oC m₂ E' hB hk ho hc hX hC F' N'
    obtain ⟨v, hv, hm⟩ := hB
    exact turn i v ys news₁ hv ha hj s₁ X C oC m₂ E' hm hk ho hc hX hC F' N'

end
end Mine
end

section
open PySem PySem.W PyProof.Rows PySem.Calls
set_option Elab.async false
set_option maxRecDepth 100000
set_option maxHeartbeats 8000000
namespace Mine

theorem in_strset {prog : Program} {w : World} {A : Around} {E : Value → Shared → Prop} {s : Shared} {h₀ : Heap} {L M : Addr} {news : List (Addr × Obj)} {oM : Obj} {ms : List Str} {n : Nat} {k : Str} {tk : Tok} {Q : Value → Shared → Prop}
    (N : News h₀ L s.heap news) (hm : (M, oM) ∈ news) (hS : StrSet prog w oM (fun x => x ∈ ms) n) (h : Q (.bool (decide (k ∈ ms))) { s with toks := s.toks + 1 }) :
    wpAny (model prog w) A (compareOp .In (.str k tk) (.ref M)) Q E s :=
  wpAny_inSet_of (knd := strKind prog w) (strKind_is prog w k tk) rfl (hS.setOf (N.get hm)) h

noncomputable abbrev selfLed (w : World) (G : Addr) (oG : Obj) (M : Addr) (oM : Obj) (D : Addr) (dvs : List Value) (nd : Nat) (dS self : Addr) (t1 t2 t3 : Tok) (sl : Array (Option Value)) (rest : List (Addr × Obj)) : List (Addr × Obj) :=
  (G, oG) :: (M, oM) :: (D, listOf dvs.toArray nd) ::
  (dS, dictOf [⟨PyData.keyHash w.params (Str.ofString "_mods"), Value.str (Str.ofString "_mods") t1, Value.ref M⟩, ⟨PyData.keyHash w.params (Str.ofString "_dirs"), Value.str (Str.ofString "_dirs") t2, Value.ref D⟩, ⟨PyData.keyHash w.params (Str.ofString "_ignore"), Value.str (Str.ofString "_ignore") t3, Value.ref G⟩] 3) ::
  (self, (⟨.ref 100, some dS, .plain, sl⟩ : Obj)) :: rest

abbrev NmRet (w : World) (c' : List (Str × Int)) (h₀ : Heap) (L : Addr) (m : Str → Option Value) (G : Addr) (led : Obj → List (Addr × Obj)) (s : Shared) (Q : Value → Shared → Prop) (r : Int) : Prop :=
  ∀ (t : Tok) (h' : Heap) (tk' : Nat) (d' : Drawn) (oG : Obj) (kvs : List (Str × Value)), oG.IsDictOf (PySem.strKind PySem.Challenge.rw_sn0121_01.row.prog w) kvs → PyProof.V.FlatPairs PyData.str kvs (kdpD c') → Fr h₀ L h' m → News h₀ L h' (led oG) → Q (.int r t) { s with heap := h', toks := tk', drawn := d' }


theorem led_drop {h₀ h : Heap} {L : Addr} {a b c d e : Addr × Obj} {rest own : List (Addr × Obj)} (N : News h₀ L h (a :: b :: c :: d :: e :: (rest ++ own))) : News h₀ L h (a :: b :: c :: d :: e :: rest) := fun p hp => N p (by
  simp only [List.mem_cons, List.mem_append] at hp ⊢
  rcases hp with h | h | h | h | h | h
  · exact .inl h
  · exact .inr (.inl h)
  · exact .inr (.inr (.inl h))
  · exact .inr (.inr (.inr (.inl h)))
  · exact .inr (.inr (.inr (.inr (.inl h))))
  · exact .inr (.inr (.inr (.inr (.inr (.inl h))))))

theorem names_new (w : World) {loose mean mg mb} {G M D dS self : Addr} {oG oM : Obj} {dvs : List Value} {nd : Nat} {t1 t2 t3 : Tok} {sl : Array (Option Value)} {rest : List (Addr × Obj)}
    {kvs : List (Str × Value)} {c : List (Str × Int)} (hG : oG.IsDictOf (PySem.strKind PySem.Challenge.rw_sn0121_01.row.prog w) kvs) (hf : PyProof.V.FlatPairs PyData.str kvs (kdpD c)) (hc : c.length ≤ 1000)
    {ms ds : List Str} {nm : Nat} (hM : StrSet PySem.Challenge.rw_sn0121_01.row.prog w oM (fun x => x ∈ ms) nm) (hnm : nm ≤ 1000) (hds : StrsAre dvs ds)
    (hGs : (G == sysModules) = false) (hoff : ∀ p ∈ (M, oM) :: (D, listOf dvs.toArray nd) ::
  (dS, dictOf [⟨PyData.keyHash w.params (Str.ofString "_mods"), Value.str (Str.ofString "_mods") t1, Value.ref M⟩, ⟨PyData.keyHash w.params (Str.ofString "_dirs"), Value.str (Str.ofString "_dirs") t2, Value.ref D⟩, ⟨PyData.keyHash w.params (Str.ofString "_ignore"), Value.str (Str.ofString "_ignore") t3, Value.ref G⟩] 3) ::
  (self, (⟨.ref 100, some dS, .plain, sl⟩ : Obj)) :: rest, p.1 ≠ G)
    (fn : Str) (tf : Tok) (mn : Str) (tm : Tok) (hk : kdpHas c mn = false) (hmn : mn.length ≤ 1000) (hfn : fn.length ≤ 1000) (hms : ∀ k ∈ ms, k.length ≤ 1000) (hdl : ∀ d ∈ ds, d.length ≤ 1000)
    (dp un : Nat) (gd : Option (List Code)) (cn : Str) (cs : Scope) (a : Addr) (ccd : Value) (cl : List (Str × Addr)) (outer : List Env) (A₀ : Around) (base h₀ : Heap) (L : Addr) (m : Str → Option Value) (s : Shared) (Q E : Value → Shared → Prop)
    (hB : Below A₀ base outer h₀) (hF : Fr h₀ L s.heap m) (hK : (heapK w.params).In h₀) (hN : News h₀ L s.heap (selfLed w G oG M oM D dvs nd dS self t1 t2 t3 sl rest)) (hT : Top hd.view_39 loose mean mg mb h₀) (hcs : cs.kind = .function)
    (hdp : dp + 5 < recursionLimit) (hun : un + 40 < cLine)
    (hret1 : (mn ∈ ms ∨ (∃ k ∈ ms, Txt.startswith mn (k ++ Str.ofString ".") = true) ∨ (∃ d ∈ ds, Txt.startswith fn (d ++ Str.ofString "/") = true)) → NmRet w (kdpPut c mn 1) h₀ L m G (fun oG => selfLed w G oG M oM D dvs nd dS self t1 t2 t3 sl rest) s Q 1)
    (hret0 : mn ∉ ms → (∀ k ∈ ms, ¬ Txt.startswith mn (k ++ Str.ofString ".") = true) → (∀ d ∈ ds, ¬ Txt.startswith fn (d ++ Str.ofString "/") = true) → NmRet w (kdpPut c mn 0) h₀ L m G (fun oG => selfLed w G oG M oM D dvs nd dS self t1 t2 t3 sl rest) s Q 0) :
    wpAny (model PySem.Challenge.rw_sn0121_01.row.prog w) (ktrTop dp un gd cn cs L a ccd cl outer) (call (.ref 97) [.ref self, .str fn tf, .str mn tm]) Q E s := by
  k_with_none
  k_with "own all" => (assumption)
  k_with "own omega" => with_reducible (first | exact Nat.zero_le _ | exact q_le (by assumption) (by decide) | exact q_up (by assumption) (by decide) | exact q_2 (by assumption) (by decide) | exact q_3 (by assumption) (by decide) | exact q_0 (by assumption) | exact q_int (by assumption) (by decide) | exact q_lt (by assumption) (by decide) | fail)
  revert hK
  k_fill
  intro hK
  dsimp only [selfLed, NmRet] at hN hret1 hret0
  refine wpAny_call ?_
  k_dflt cell_enter
  k_with "compareOp In str ref" => (k_here; refine in_strset (by k_asm) (by k_mem) (by assumption) ?_)
  k_with "exec For Name Attribute cons nil" => (k_here; (rename Fr _ _ _ _ => lF'); (refine' For_invVF lF' ?k1 ?k2 ?_; (case k1 => exact rfl); (case k2 => exact rfl)))
  k_with "pyIter ref" => (refine iter_texts (fun k => Txt.startswith fn (k ++ Str.ofString "/") = true) [G] (by rfl) (by k_asm) (by k_asm) (by k_mem) hds (fun b hb => by (rw [List.mem_singleton.mp hb]); exact ⟨fun e => hoff _ (.tail _ (.head _)) e.symm, Heap.lt_size (News.get (by assumption) (.head _))⟩) (fun k t h tk own hk9 hown F9 N9 => ?_) (fun u h tk hnoD F9 N9 => ?_))
  k_with "pyIter ref" => (refine iter_strset (fun k => Txt.startswith mn (k ++ Str.ofString ".") = true) [G] (by rfl) (by k_asm) (by k_asm) (by k_mem) hM (by rw [sizeLine_eq]; omega) (fun b hb => by (rw [List.mem_singleton.mp hb]); exact ⟨fun e => hoff _ (.head _) e.symm, Heap.lt_size (News.get (by assumption) (.head _))⟩) (fun k t h d tk own hk9 hown F9 N9 => ?_) (fun u h d tk hnoM F9 N9 => ?_))
  k_steps
  all_goals (try (simp only [List.cons_append] at N9))
  all_goals (try (have hl9 := hms _ hk9))
  all_goals (try (have hl9 := hdl _ hk9))
  all_goals (try (have hoff9 : ∀ p ∈ (M, oM) :: (D, listOf dvs.toArray nd) :: (dS, dictOf [⟨PyData.keyHash w.params (Str.ofString "_mods"), Value.str (Str.ofString "_mods") t1, Value.ref M⟩, ⟨PyData.keyHash w.params (Str.ofString "_dirs"), Value.str (Str.ofString "_dirs") t2, Value.ref D⟩, ⟨PyData.keyHash w.params (Str.ofString "_ignore"), Value.str (Str.ofString "_ignore") t3, Value.ref G⟩] 3) :: (self, (⟨.ref 100, some dS, .plain, sl⟩ : Obj)) :: (rest ++ own), p.1 ≠ G := fun p hp => (List.mem_append.mp (show p ∈ ((M, oM) :: (D, listOf dvs.toArray nd) :: (dS, _) :: (self, (⟨.ref 100, some dS, .plain, sl⟩ : Obj)) :: rest) ++ own from hp)).elim (hoff p) (fun q => hown p q G (.head _))))
  all_goals (try k_fold)
  k_steps
  all_goals (try dsimp only [SrPost])
  all_goals (try (with_reducible show _ = _ → _))
  all_goals (try k_steps)
  · exact hret1 (.inl (by assumption)) _ _ _ _ _ _ (by assumption) (by assumption) (by k_asm) (by k_asm)
  · exact hret1 (.inr (.inl ⟨k, hk9, by assumption⟩)) _ _ _ _ _ _ (by assumption) (by assumption) (by k_asm) (led_drop (by k_asm))
  · exact ⟨_, _, _, _, rfl, by k_asm, fun z hz => if_neg hz, by k_asm, fun p hp => by simpa only [List.cons_append] using hp, by first | assumption | exact Bool.eq_false_iff.mp (by assumption) | exact of_decide_eq_false (by assumption) | exact fun hm => absurd (decide_eq_true hm) (by assumption)⟩
  · exact hret1 (.inr (.inr ⟨k, hk9, by assumption⟩)) _ _ _ _ _ _ (by assumption) (by assumption) (by k_asm) (led_drop (by k_asm))
  · exact ⟨_, _, _, _, rfl, by k_asm, fun z hz => if_neg hz, by k_asm, fun p hp => by simpa only [List.cons_append] using hp, by first | assumption | exact Bool.eq_false_iff.mp (by assumption) | exact of_decide_eq_false (by assumption) | exact fun hm => absurd (decide_eq_true hm) (by assumption)⟩
  · exact hret0 (by first | assumption | exact Bool.eq_false_iff.mp (by assumption) | exact of_decide_eq_false (by assumption) | exact fun hm => absurd (decide_eq_true hm) (by assumption)) hnoM hnoD _ _ _ _ _ _ (by assumption) (by assumption) (by k_asm) (by k_asm)
end Mine
end

section
open PySem PySem.W PyProof.Rows PySem.Calls
set_option Elab.async false
set_option maxRecDepth 100000
set_option maxHeartbeats 8000000
namespace Mine

theorem names_cached (w : World) {loose mean mg mb} {G M D dS self : Addr} {oG oM : Obj} {dvs : List Value} {nd : Nat} {t1 t2 t3 : Tok} {sl : Array (Option Value)} {rest : List (Addr × Obj)}
    {kvs : List (Str × Value)} {c : List (Str × Int)} (hG : oG.IsDictOf (PySem.strKind PySem.Challenge.rw_sn0121_01.row.prog w) kvs) (hf : PyProof.V.FlatPairs PyData.str kvs (kdpD c))
    (hGs : (G == sysModules) = false) (fn : Value) (mn : Str) (tm : Tok) (hk : kdpHas c mn = true) :
    CbClaim PySem.Challenge.rw_sn0121_01.row.prog w (heapK w.params) hd.view_39 loose mean mg mb 97 (selfLed w G oG M oM D dvs nd dS self t1 t2 t3 sl rest) [] True [.ref self, fn, .str mn tm] (fun t => .int (kdpLook c mn 0) t) := by
  k_with_none
  k_with "own omega" => with_reducible (first | exact Nat.zero_le _ | exact q_le (by assumption) (by decide) | exact q_up (by assumption) (by decide) | exact q_2 (by assumption) (by decide) | exact q_3 (by assumption) (by decide) | exact q_0 (by assumption) | exact q_int (by assumption) (by decide) | exact q_lt (by assumption) (by decide) | fail)
  k_fill
  dsimp only [CbClaim, CbLists, CbRet, selfLed]
  intros; rename_i hret
  refine wpAny_call ?_
  k_dflt cell_enter
  k_steps
  all_goals cb_end hret
end Mine
end

section
open PySem PySem.W PyProof.Rows PySem.Calls
set_option Elab.async false
set_option maxRecDepth 100000
set_option maxHeartbeats 8000000
namespace Mine

abbrev Sp (w : World) (loose : List Str) (mean : ExcName → Option Value) (mg mb : Str → Option Value) (rd ru : Nat) (f : Addr) (news : List (Addr × Obj)) (vs : List Value) (R : Tok → Value) : Prop :=
  ∀ (dp un : Nat) (gd : Option (List Code)) (cn : Str) (cs : Scope) (a : Addr) (ccd : Value) (cl : List (Str × Addr)) (outer : List Env) (A₀ : Around) (base h₀ : Heap) (L : Addr) (m : Str → Option Value) (s : Shared) (Q E : Value → Shared → Prop),
    Below A₀ base outer h₀ → Fr h₀ L s.heap m → (heapK w.params).In h₀ → News h₀ L s.heap news → Top hd.view_39 loose mean mg mb h₀ → cs.kind = .function →
    dp + rd < recursionLimit → un + ru < cLine → CbRet h₀ L m news s Q R →
      wpAny (model PySem.Challenge.rw_sn0121_01.row.prog w) (ktrTop dp un gd cn cs L a ccd cl outer) (call (.ref f) vs) Q E s

theorem spec_kind (w : World) {loose mean mg mb} (news : List (Addr × Obj)) (n : Str) (nt : Tok) (p : Str) (t : Tok) :
    Sp w loose mean mg mb 2 10 28 news [.str n nt, .str p t] (fun t => .str (Str.ofString "") t) := by
  k_with_none
  k_with "own omega" => with_reducible (first | exact Nat.zero_le _ | exact q_le (by assumption) (by decide) | exact q_up (by assumption) (by decide) | exact q_2 (by assumption) (by decide) | exact q_3 (by assumption) (by decide) | exact q_0 (by assumption) | exact q_int (by assumption) (by decide) | exact q_lt (by assumption) (by decide) | fail)
  k_with "call ref" => (refine wpAny_call ?_; k_dflt (refine' code_def ?k1 ?k2 ?k3 ?k4 ?k5 ?kA ?kF ?kK ?k6 ?k7 ?k8 ?k9 ?kB ?_ ?c2 ?c3 ?c4 ?c5; (case kA => exact rfl); (case kF => exact rfl); (case kK => first | exact rfl | assumption); (case k1 => k_asm); (case k2 => k_asm); (case k3 => k_asm); (case k4 => k_asm); (case k5 => k_asm); (case k6 => k_is); (case k7 => k_is); (case k8 => ktr_room); (case k9 => exact BindsTo.of_eq rfl); (case c5 => decide); (case kB => exact locs rfl); (case c2 => exact rfl); (case c3 => exact rfl); (case c4 => exact rfl); k_whole; intro g'kk L'kk h'kk FG'kk F'kk N'kk B'kk X'kk T'kk; (try dsimp only); (try k_lift B'kk); (try k_fold)))
  unfold Sp
  k_fill
  intros; rename_i hret
  refine wpAny_call ?_
  k_dflt cell_enter
  k_steps
  all_goals cb_end hret

theorem spec_fspath (w : World) {loose mean mg mb} (news : List (Addr × Obj)) (n : Str) (nt : Tok) (p : Str) (t : Tok) :
    Sp w loose mean mg mb 4 20 35 news [.str n nt, .str p t] (fun t => .str p t) := by
  k_with_none
  k_with "own omega" => with_reducible (first | exact Nat.zero_le _ | exact q_le (by assumption) (by decide) | exact q_up (by assumption) (by decide) | exact q_2 (by assumption) (by decide) | exact q_3 (by assumption) (by decide) | exact q_0 (by assumption) | exact q_int (by assumption) (by decide) | exact q_lt (by assumption) (by decide) | fail)
  k_with "call ref" => (refine wpAny_call ?_; k_dflt (refine' code_def ?k1 ?k2 ?k3 ?k4 ?k5 ?kA ?kF ?kK ?k6 ?k7 ?k8 ?k9 ?kB ?_ ?c2 ?c3 ?c4 ?c5; (case kA => exact rfl); (case kF => exact rfl); (case kK => first | exact rfl | assumption); (case k1 => k_asm); (case k2 => k_asm); (case k3 => k_asm); (case k4 => k_asm); (case k5 => k_asm); (case k6 => k_is); (case k7 => k_is); (case k8 => ktr_room); (case k9 => exact BindsTo.of_eq rfl); (case c5 => decide); (case kB => exact locs rfl); (case c2 => exact rfl); (case c3 => exact rfl); (case c4 => exact rfl); k_whole; intro g'kk L'kk h'kk FG'kk F'kk N'kk B'kk X'kk T'kk; (try dsimp only); (try k_lift B'kk); (try k_fold)))
  k_with "call ref" => (k_dflt (refine' spec_kind _ _ _ _ _ _ _ _ _ _ _ _ _ _ _ _ _ _ _ _ _ _ _ ?k1 ?k2 ?k3 ?k4 ?k5 ?k6 ?k7 ?k8 ?_); (case k1 => k_asm); (case k2 => k_asm); (case k3 => k_asm); (case k4 => k_asm); (case k5 => k_asm); (case k6 => exact rfl); (case k7 => ktr_room); (case k8 => ktr_units); intro t9kk h9kk tk9kk F9kk N9kk; (try dsimp only); (try k_fold))
  unfold Sp
  k_fill
  intros; rename_i hret
  refine wpAny_call ?_
  k_dflt cell_enter
  k_steps
  all_goals cb_end hret

abbrev baseF (p : Str) : Str := Txt.slice p (some (Txt.rfind p (Str.ofString "/") + 1)) none

theorem spec_base (w : World) {loose mean mg mb} (news : List (Addr × Obj)) (p : Str) (t : Tok) (hp : p.length ≤ 1000) :
    Sp w loose mean mg mb 6 30 63 news [.str p t] (fun t => .str (baseF p) t) := by
  k_with_none
  k_with "own omega" => with_reducible (first | exact Nat.zero_le _ | exact q_le (by assumption) (by decide) | exact q_up (by assumption) (by decide) | exact q_2 (by assumption) (by decide) | exact q_3 (by assumption) (by decide) | exact q_0 (by assumption) | exact q_int (by assumption) (by decide) | exact q_lt (by assumption) (by decide) | fail)
  k_with "call ref" => (refine wpAny_call ?_; k_dflt (refine' code_def ?k1 ?k2 ?k3 ?k4 ?k5 ?kA ?kF ?kK ?k6 ?k7 ?k8 ?k9 ?kB ?_ ?c2 ?c3 ?c4 ?c5; (case kA => exact rfl); (case kF => exact rfl); (case kK => first | exact rfl | assumption); (case k1 => k_asm); (case k2 => k_asm); (case k3 => k_asm); (case k4 => k_asm); (case k5 => k_asm); (case k6 => k_is); (case k7 => k_is); (case k8 => ktr_room); (case k9 => exact BindsTo.of_eq rfl); (case c5 => decide); (case kB => exact locs rfl); (case c2 => exact rfl); (case c3 => exact rfl); (case c4 => exact rfl); k_whole; intro g'kk L'kk h'kk FG'kk F'kk N'kk B'kk X'kk T'kk; (try dsimp only); (try k_lift B'kk); (try k_fold)))
  k_with "call ref" => (k_dflt (refine' spec_kind _ _ _ _ _ _ _ _ _ _ _ _ _ _ _ _ _ _ _ _ _ _ _ ?k1 ?k2 ?k3 ?k4 ?k5 ?k6 ?k7 ?k8 ?_); (case k1 => k_asm); (case k2 => k_asm); (case k3 => k_asm); (case k4 => k_asm); (case k5 => k_asm); (case k6 => exact rfl); (case k7 => ktr_room); (case k8 => ktr_units); intro t9kk h9kk tk9kk F9kk N9kk; (try dsimp only); (try k_fold))
  k_with "call ref" => (k_dflt (refine' spec_fspath _ _ _ _ _ _ _ _ _ _ _ _ _ _ _ _ _ _ _ _ _ _ _ ?k1 ?k2 ?k3 ?k4 ?k5 ?k6 ?k7 ?k8 ?_); (case k1 => k_asm); (case k2 => k_asm); (case k3 => k_asm); (case k4 => k_asm); (case k5 => k_asm); (case k6 => exact rfl); (case k7 => ktr_room); (case k8 => ktr_units); intro t9kk h9kk tk9kk F9kk N9kk; (try dsimp only); (try k_fold))
  unfold Sp
  k_fill
  intros; rename_i hret
  refine wpAny_call ?_
  k_dflt cell_enter
  k_steps
  all_goals cb_end hret

theorem spec_modname (w : World) {loose mean mg mb} (news : List (Addr × Obj)) (p : Str) (t : Tok) (hp : p.length ≤ 1000) (r : Str) (hbl : (baseF p).length ≤ 1000)
    (hs : Txt.rfind (baseF p) (Str.ofString "/") = -1) (hd0 : 0 < Txt.rfind (baseF p) (Str.ofString ".")) (hdm : Txt.rfind (baseF p) (Str.ofString ".") ≤ 1000) (hc : Txt.slice (baseF p) (some (Txt.rfind (baseF p) (Str.ofString "/") + 1)) (some (Txt.rfind (baseF p) (Str.ofString "/") + 1 + 1)) ≠ Str.ofString ".") (hr : Txt.slice (baseF p) none (some (Txt.rfind (baseF p) (Str.ofString "."))) = r) :
    Sp w loose mean mg mb 10 60 111 news [.str p t] (fun t => .str r t) := by
  k_with_none
  k_with "own omega" => with_reducible (first | exact Nat.zero_le _ | exact q_le (by assumption) (by decide) | exact q_up (by assumption) (by decide) | exact q_2 (by assumption) (by decide) | exact q_3 (by assumption) (by decide) | exact q_0 (by assumption) | exact q_int (by assumption) (by decide) | exact q_lt (by assumption) (by decide) | fail)
  k_with "call ref" => (refine wpAny_call ?_; k_dflt (refine' code_def ?k1 ?k2 ?k3 ?k4 ?k5 ?kA ?kF ?kK ?k6 ?k7 ?k8 ?k9 ?kB ?_ ?c2 ?c3 ?c4 ?c5; (case kA => exact rfl); (case kF => exact rfl); (case kK => first | exact rfl | assumption); (case k1 => k_asm); (case k2 => k_asm); (case k3 => k_asm); (case k4 => k_asm); (case k5 => k_asm); (case k6 => k_is); (case k7 => k_is); (case k8 => ktr_room); (case k9 => exact BindsTo.of_eq rfl); (case c5 => decide); (case kB => exact locs rfl); (case c2 => exact rfl); (case c3 => exact rfl); (case c4 => exact rfl); k_whole; intro g'kk L'kk h'kk FG'kk F'kk N'kk B'kk X'kk T'kk; (try dsimp only); (try k_lift B'kk); (try k_fold)))
  k_with "call ref" => (k_dflt (refine' spec_kind _ _ _ _ _ _ _ _ _ _ _ _ _ _ _ _ _ _ _ _ _ _ _ ?k1 ?k2 ?k3 ?k4 ?k5 ?k6 ?k7 ?k8 ?_); (case k1 => k_asm); (case k2 => k_asm); (case k3 => k_asm); (case k4 => k_asm); (case k5 => k_asm); (case k6 => exact rfl); (case k7 => ktr_room); (case k8 => ktr_units); intro t9kk h9kk tk9kk F9kk N9kk; (try dsimp only); (try k_fold))
  k_with "call ref" => (k_dflt (refine' spec_fspath _ _ _ _ _ _ _ _ _ _ _ _ _ _ _ _ _ _ _ _ _ _ _ ?k1 ?k2 ?k3 ?k4 ?k5 ?k6 ?k7 ?k8 ?_); (case k1 => k_asm); (case k2 => k_asm); (case k3 => k_asm); (case k4 => k_asm); (case k5 => k_asm); (case k6 => exact rfl); (case k7 => ktr_room); (case k8 => ktr_units); intro t9kk h9kk tk9kk F9kk N9kk; (try dsimp only); (try k_fold))
  k_with "call ref" => (k_dflt (refine' spec_base _ _ _ _ (by assumption) _ _ _ _ _ _ _ _ _ _ _ _ _ _ _ _ _ ?k1 ?k2 ?k3 ?k4 ?k5 ?k6 ?k7 ?k8 ?_); (case k1 => k_asm); (case k2 => k_asm); (case k3 => k_asm); (case k4 => k_asm); (case k5 => k_asm); (case k6 => exact rfl); (case k7 => ktr_room); (case k8 => ktr_units); intro t9kk h9kk tk9kk F9kk N9kk; (try dsimp only); (try k_fold))
  unfold Sp
  k_fill
  intros; rename_i hret
  refine wpAny_call ?_
  k_dflt cell_enter
  k_steps
  · subst hr; cb_end hret
  · exfalso
    rename Passed _ _ _ => hP
    have h0 := hP 0 (by omega) (by omega)
    simp only [Int.mul_zero, Int.add_zero] at h0
    simp [hc] at h0
end Mine
end

section
open PySem PySem.W PyProof.Rows PySem.Calls
set_option Elab.async false
set_option maxRecDepth 100000
set_option maxHeartbeats 8000000
namespace Mine

theorem eq_known {prog : Program} {w : World} {A : Around} {E : Value → Shared → Prop} {s : Shared} {c d : Str} {t u : Tok} {b : Bool} {Q : Value → Shared → Prop} (h : (c == d) = b) (hQ : Q (.bool b) s) : wpAny (model prog w) A (compareOp .Eq (.str c t) (.str d u)) Q E s := by
  subst h; exact PyProof.Rows.eq_str hQ
theorem ne_known {prog : Program} {w : World} {A : Around} {E : Value → Shared → Prop} {s : Shared} {c d : Str} {t u : Tok} {b : Bool} {Q : Value → Shared → Prop} (h : (c != d) = b) (hQ : Q (.bool b) s) : wpAny (model prog w) A (compareOp .NotEq (.str c t) (.str d u)) Q E s := by
  subst h; exact PyProof.Rows.ne_str hQ
theorem truthy_known {prog : Program} {w : World} {A : Around} {E : Value → Shared → Prop} {s : Shared} {c : Str} {t : Tok} {b : Bool} {Q : Bool → Shared → Prop} (hl : c.length ≤ 1000) (h : ((c.length : Int) != 0) = b) (hQ : Q b { s with toks := s.toks + 1 + 1 }) : wpAny (model prog w) A (truthy (.str c t)) Q E s := by
  subst h; exact PySem.P.truthy_str (by omega) hQ
theorem truthy_led {prog : Program} {w : World} {A : Around} {E : Value → Shared → Prop} {s : Shared} {h₀ : Heap} {L D : Addr} {news : List (Addr × Obj)} {vs : List Value} {n : Nat} {b : Bool} {Q : Bool → Shared → Prop} (N : News h₀ L s.heap news) (hm : (D, listOf vs.toArray n) ∈ news) (hl : vs.length ≤ 1000) (h : (!vs.isEmpty) = b) (hQ : Q b { s with toks := s.toks + 1 + 1 }) : wpAny (model prog w) A (truthy (.ref D)) Q E s := by
  subst h
  refine wpAny_truthy_list (items := vs.toArray) ⟨_, N.get hm, rfl, _, rfl⟩ (by rw [List.size_toArray]; omega) ?_
  have e : (!vs.toArray.isEmpty) = !vs.isEmpty := by cases vs <;> rfl
  rw [e]; exact hQ
theorem last_led {prog : Program} {w : World} {A : Around} {E : Value → Shared → Prop} {s : Shared} {h₀ : Heap} {L D : Addr} {news : List (Addr × Obj)} {vs : List Value} {x : Value} {n : Nat} {u : Tok} {value slice : PySem.Expr} {Q : Value → Shared → Prop} (N : News h₀ L s.heap news) (hm : (D, listOf (vs ++ [x]).toArray n) ∈ news) (hQ : Q x s)
    (hs : subscripted slice false (.ref D) (.int (-1) u) = operate [.ref D, .int (-1) u] (getItem (.ref D) (.int (-1) u)) := by with_unfolding_all rfl) : wpAny (model prog w) A (subscriptTail value slice (.ref D) (.int (-1) u)) Q E s := by
  have hl : s.heap.IsList D (vs ++ [x]).toArray := ⟨_, N.get hm, rfl, _, rfl⟩
  refine tail_any hl.typeIs slot_list_getitem.lookup (wpAny_getItem_list_neg hl (by decide) ?_ (by decide) ?_ hQ) hs
  · rw [List.size_toArray, List.length_append, List.length_singleton]; omega
  · rw [List.size_toArray, List.length_append, List.length_singleton]
    have : ((-1 : Int) + ((vs.length + 1 : Nat) : Int)).toNat = vs.length := by omega
    rw [this]; simp
theorem kl_last_snoc (vs : List Value) (x : Value) : kl_last (vs ++ [x]).toArray.toList = some (vs, x) := by
  rw [List.toList_toArray]
  induction vs with
  | nil => rfl
  | cons v r ih => show kl_last (v :: (r ++ [x])) = _; unfold kl_last; rw [ih]
noncomputable abbrev ledKey {h₀ h : Heap} {L a : Addr} {o : Obj} {r : List (Addr × Obj)} (_ : News h₀ L h ((a, o) :: r)) : Addr := a
noncomputable abbrev ledKey2 {h₀ h : Heap} {L a : Addr} {o : Obj} {p : Addr × Obj} {r : List (Addr × Obj)} (_ : News h₀ L h (p :: (a, o) :: r)) : Addr := a
noncomputable abbrev ledTail {h₀ h : Heap} {L : Addr} {p : Addr × Obj} {r : List (Addr × Obj)} (_ : News h₀ L h (p :: r)) : List (Addr × Obj) := r
noncomputable abbrev frMap {h₀ h : Heap} {L : Addr} {m : Str → Option Value} (_ : Fr h₀ L h m) : Str → Option Value := m

noncomputable def normStep (acc : List Str) (c : Str) : List Str :=
  if c = Str.ofString "" then acc else if c = Str.ofString "." then acc else if c = Str.ofString ".." then acc.dropLast else acc ++ [c]
noncomputable def normFold (cs : List Str) : List Str := cs.foldl normStep []
noncomputable def normComps (p : Str) : List Str := Txt.split (Txt.slice p (some 1) none) (Str.ofString "/")
noncomputable def normOut (p : Str) : Str := Str.ofString "/" ++ Txt.join (Str.ofString "/") (normFold (normComps p))

theorem normFold_take {ks : List Str} {i : Nat} {k : Str} (h : ks[i]? = some k) : normFold (ks.take (i + 1)) = normStep (normFold (ks.take i)) k := by
  unfold normFold
  rw [List.take_add_one, h, List.foldl_append]; rfl
theorem normFold_len (ks : List Str) : (normFold ks).length ≤ ks.length := by
  have : ∀ (l acc : List Str), (l.foldl normStep acc).length ≤ acc.length + l.length := by
    intro l
    induction l with
    | nil => intro acc; exact Nat.le_refl _
    | cons c r ih =>
      intro acc
      rw [List.foldl_cons, List.length_cons]
      refine Nat.le_trans (ih _) ?_
      have : (normStep acc c).length ≤ acc.length + 1 := by
        unfold normStep
        repeat' split
        · omega
        · omega
        · rw [List.length_dropLast]; omega
        · rw [List.length_append, List.length_singleton]; exact Nat.le_refl _
      omega
  have := this ks []
  rwa [List.length_nil, Nat.zero_add] at this
theorem normFold_dots (ks : List Str) : ∀ x ∈ normFold ks, x ≠ Str.ofString ".." := by
  have : ∀ (l acc : List Str), (∀ x ∈ acc, x ≠ Str.ofString "..") → ∀ x ∈ l.foldl normStep acc, x ≠ Str.ofString ".." := by
    intro l
    induction l with
    | nil => intro acc h; exact h
    | cons c r ih =>
      intro acc h
      rw [List.foldl_cons]
      refine ih _ ?_
      unfold normStep
      repeat' split
      · exact h
      · exact h
      · exact fun x hx => h x (List.dropLast_subset _ hx)
      · rename_i h1
        intro x hx
        rcases List.mem_append.mp hx with hx | hx
        · exact h x hx
        · rw [List.mem_singleton.mp hx]; exact h1
  exact this ks [] (fun _ h => nomatch h)


theorem allLt_mem {b : Addr} : ∀ {l : List (Addr × Obj)}, AllLt b l → ∀ q ∈ l, q.1 < b
  | [], _, _, h => nomatch h
  | _ :: _, h, q, hq => by
    rcases List.mem_cons.mp hq with rfl | hq
    · exact h.1
    · exact allLt_mem h.2 q hq
theorem len_ne0 {k : Str} (h : k ≠ Str.ofString "") : ((k.length : Int) != 0) = true := by
  rcases Nat.eq_zero_or_pos k.length with e | e
  · exfalso
    apply h
    obtain ⟨c⟩ := k
    have : c = #[] := Array.eq_empty_of_size_eq_zero e
    rw [this]; rfl
  · simp; omega
theorem beq_no {a b : Str} (h : a ≠ b) : (a == b) = false := by simpa using h
theorem bne_yes {a b : Str} (h : a ≠ b) : (a != b) = true := by simpa using h
theorem snoc_or (a : List (Str × Tok)) : a = [] ∨ ∃ a' q u, a = a' ++ [(q, u)] := by
  rcases List.eq_nil_or_concat a with h | ⟨a', x, h⟩
  · exact .inl h
  · exact .inr ⟨a', x.1, x.2, by rw [h]; simp⟩
theorem strValues_snoc (l : List (Str × Tok)) (p : Str × Tok) : strValues (l ++ [p]) = strValues l ++ [.str p.1 p.2] := by simp [strValues]
theorem strValues_length (l : List (Str × Tok)) : (strValues l).length = l.length := by simp [strValues]

noncomputable def NormOk (p : Str) : Prop := (normComps p).length ≤ 100 ∧ JoinOk (Str.ofString "/") (normFold (normComps p)) = true ∧ (Txt.join (Str.ofString "/") (normFold (normComps p))).length ≤ 900
theorem len_slash (x : Str) : (Str.ofString "/" ++ x).length = x.length + 1 := by rw [Str.length_append, show (Str.ofString "/").length = 1 from by decide]; omega
theorem strs_push (a : List (Str × Tok)) (k : Str) (t : Tok) : (strValues a).toArray.push (.str k t) = (strValues (a ++ [(k, t)])).toArray := by
  rw [strValues_snoc]; simp
theorem join_led {prog : Program} {w : World} {A : Around} {E : Value → Shared → Prop} {s : Shared} {h₀ : Heap} {L D : Addr} {news : List (Addr × Obj)} {l : List (Str × Tok)} {n : Nat} {x : Str} {t : Tok} {ts : List Str} {Q : Value → Shared → Prop} (N : News h₀ L s.heap news) (hm : (D, listOf (strValues l).toArray n) ∈ news) (ht : l.map (fun x => x.1) = ts) (hok : JoinOk x ts = true)
    (hq : ∀ t' k, Q (.str (Txt.join x ts) t') { s with toks := k }) : wpAny (model prog w) A (call (.builtin "str.join") [.str x t, .ref D]) Q E s :=
  SC.join ⟨_, N.get hm, rfl, _, rfl⟩ ht hok hq
theorem fr_to {h₀ h : Heap} {L : Addr} {m m0 : Str → Option Value} (F : Fr h₀ L h m) (e : m0 = m) : Fr h₀ L h m0 := e ▸ F
inductive Box1 (h₀ h : Heap) (L : Addr) (D : Addr) (o : Obj) (a : Addr × Obj) (r : List (Addr × Obj)) : Prop
  | mk (R : List (Addr × Obj)) (N : News h₀ L h ((D, o) :: R)) (hD : ∀ q ∈ R, q.1 ≠ D) (ha : a ∈ R) (hl : a.1 ≠ D) (hr : ∀ q ∈ r, q ∈ R) : Box1 h₀ h L D o a r
theorem box1 {h₀ h : Heap} {L D : Addr} {o : Obj} {a b : Addr × Obj} {r : List (Addr × Obj)} (N : News h₀ L h ((D, o) :: a :: b :: r)) (h1 : a.1 < D ∧ b.1 < D ∧ AllLt D r) : Box1 h₀ h L D o a r :=
  ⟨a :: b :: r, N, fun q hq => by
    rcases List.mem_cons.mp hq with rfl | hq
    · exact Nat.ne_of_lt h1.1
    · rcases List.mem_cons.mp hq with rfl | hq
      · exact Nat.ne_of_lt h1.2.1
      · exact Nat.ne_of_lt (allLt_mem h1.2.2 q hq), .head _, Nat.ne_of_lt h1.1, fun q hq => .tail _ (.tail _ hq)⟩
inductive JN (ks : List Str) (D : Addr) (R : List (Addr × Obj)) (m0 : Str → Option Value) (i : Nat) (m₁ : Str → Option Value) (nx : List (Addr × Obj)) : Prop
  | mk (a : List (Str × Tok)) (n : Nat) (h : nx = (D, listOf (strValues a).toArray n) :: R) (ha : a.map (fun x => x.1) = normFold (ks.take i)) (hm : ∀ z, z ≠ Str.ofString "comp" → m₁ z = m0 z) : JN ks D R m0 i m₁ nx
theorem news_tl {h₀ h : Heap} {L : Addr} {p : Addr × Obj} {R r : List (Addr × Obj)} (N : News h₀ L h (p :: R)) (hr : ∀ q ∈ r, q ∈ R) : News h₀ L h r := fun q hq => N q (.tail _ (hr q hq))
theorem spec_norm (w : World) {loose mean mg mb} (news : List (Addr × Obj)) (p : Str) (t : Tok) (hp : p.length ≤ 1000) (hp0 : ((p.length : Int) != 0) = true)
    (h1 : (Txt.slice p none (some 1) != Str.ofString "/") = false) (h2 : (Txt.slice p (some 1) (some 2) != Str.ofString "/") = true) (hok : NormOk p) :
    Sp w loose mean mg mb 6 40 70 news [.str p t] (fun t => .str (normOut p) t) := by
  k_with_none
  k_with "own all" => (assumption)
  k_with "own omega" => with_reducible (first | exact Nat.zero_le _ | exact q_le (by assumption) (by decide) | exact q_up (by assumption) (by decide) | exact q_2 (by assumption) (by decide) | exact q_3 (by assumption) (by decide) | exact q_0 (by assumption) | exact q_int (by assumption) (by decide) | exact q_lt (by assumption) (by decide) | fail)
  k_with "call ref" => (refine wpAny_call ?_; k_dflt (refine' code_def ?k1 ?k2 ?k3 ?k4 ?k5 ?kA ?kF ?kK ?k6 ?k7 ?k8 ?k9 ?kB ?_ ?c2 ?c3 ?c4 ?c5; (case kA => exact rfl); (case kF => exact rfl); (case kK => first | exact rfl | assumption); (case k1 => k_asm); (case k2 => k_asm); (case k3 => k_asm); (case k4 => k_asm); (case k5 => k_asm); (case k6 => k_is); (case k7 => k_is); (case k8 => ktr_room); (case k9 => exact BindsTo.of_eq rfl); (case c5 => decide); (case kB => exact locs rfl); (case c2 => exact rfl); (case c3 => exact rfl); (case c4 => exact rfl); k_whole; intro g'kk L'kk h'kk FG'kk F'kk N'kk B'kk X'kk T'kk; (try dsimp only); (try k_lift B'kk); (try k_fold)))
  k_with "call ref" => (k_dflt (refine' spec_kind _ _ _ _ _ _ _ _ _ _ _ _ _ _ _ _ _ _ _ _ _ _ _ ?k1 ?k2 ?k3 ?k4 ?k5 ?k6 ?k7 ?k8 ?_); (case k1 => k_asm); (case k2 => k_asm); (case k3 => k_asm); (case k4 => k_asm); (case k5 => k_asm); (case k6 => exact rfl); (case k7 => ktr_room); (case k8 => ktr_units); intro t9kk h9kk tk9kk F9kk N9kk; (try dsimp only); (try k_fold))
  k_with "compareOp Eq str str" => (refine eq_known (by assumption) ?_)
  k_with "compareOp NotEq str str" => (refine ne_known (by assumption) ?_)
  k_with "truthy str" => (refine truthy_known (by assumption) (by assumption) ?_)
  k_with "truthy ref" => (refine truthy_led (by k_asm) (by k_mem) (by assumption) (by assumption) ?_)
  k_with "subscriptTail" => (k_here; k_dflt (refine last_led (by k_asm) (by k_mem) ?_))
  k_with "call builtin:list.pop" => (k_here; k_dflt (refine' kl_pop ?F ?N (kl_last_snoc _ _) ?U ?z ?_; (case F => k_asm); (case N => k_asm); (case U => k_upd); (case z => (rw [List.toList_toArray, sizeLine_eq]; omega)); k_whole); intro h'kk F'kk N'kk)
  k_with "eval Name" => (k_here; k_dflt (refine' ld ?k1 ?k2 ?_; (case k1 => k_asm); (case k2 => first | exact rfl | exact (id (by assumption))); k_whole))
  unfold Sp
  k_fill
  intros; rename_i hret
  refine wpAny_call ?_
  k_dflt cell_enter
  k_steps
  (rename Fr _ _ _ _ => lF')
  refine' For_invVF lF' ?k1 ?k2 ?_
  case k1 => exact rfl
  case k2 => exact rfl
  k_steps
  rename (List.map _ _ = Txt.split _ _) => hsp
  rename (StrsAre _ _) => hstrs
  rename (∀ a, a ∈ List.map _ _ → _) => hlens
  rename ((Txt.slice p (some 1) none).length ≤ _) => hsl
  rename Fr _ _ _ _ => F9
  rename News _ _ _ _ => N9
  rename List (Str × Tok) => l9
  rename (_ < _ ∧ _ < _ ∧ AllLt _ _) => hlt
  have hlN : (strValues l9).length = (normComps p).length := by rw [strValues_length, ← List.length_map (f := fun x : Str × Tok => x.1), hsp]; rfl
  obtain ⟨R9, N8, hoff, hma, hlD, hr9⟩ := box1 N9 hlt
  obtain ⟨m0, hm0⟩ : ∃ m, m = frMap F9 := ⟨_, rfl⟩
  have g1 := (congrFun hm0 (Str.ofString "dot")).trans (show frMap F9 (Str.ofString "dot") = some _ from rfl)
  have g2 := (congrFun hm0 (Str.ofString "dotdot")).trans (show frMap F9 (Str.ofString "dotdot") = some _ from rfl)
  have g3 := (congrFun hm0 (Str.ofString "initial_slashes")).trans (show frMap F9 (Str.ofString "initial_slashes") = some _ from rfl)
  have g4 := (congrFun hm0 (Str.ofString "sep")).trans (show frMap F9 (Str.ofString "sep") = some _ from rfl)
  have F8 := fr_to F9 hm0
  have g5 := (congrFun hm0 (Str.ofString "new_comps")).trans (show frMap F9 (Str.ofString "new_comps") = some _ from rfl)
  clear hm0 F9 N9 hlt
  rename Fr _ _ _ m0 => F9
  rename News _ _ _ _ => N9
  refine iter_list (JN (l9.map fun x => x.1) (ledKey N9) R9 (frMap F9)) [ledKey N9]
    (by rfl) ⟨_, N9.get (.tail _ hma), rfl, _, rfl⟩ (N9 _ (.tail _ hma)).2.1 F9 N9 (fun b hb => by rw [List.mem_singleton.mp hb]; exact ⟨Ne.symm hlD, Heap.lt_size (N9.get (.head _))⟩) ⟨[], 0, rfl, rfl, fun _ _ => rfl⟩ ?_ ?_
  · rintro i v m₁ news₁ h tk own hv - hown ⟨a, n, rfl, ha, hm⟩ F N
    obtain ⟨k, t, hk, rfl⟩ := strs_item hstrs i v hv
    have F := fr_same hm F
    simp only [ledKey, frMap] at F N hown hm hoff
    have hkm : k ∈ l9.map fun x => x.1 := List.mem_of_getElem? hk
    have hkl : k.length ≤ 1000 := Nat.le_trans (hlens k hkm) (by omega)
    have hil : i < (normComps p).length := by rw [← hlN]; exact (List.getElem?_eq_some_iff.mp hv).1
    have hal : (strValues a).length ≤ 1000 := by
      rw [strValues_length, ← List.length_map (f := fun x : Str × Tok => x.1), ha]
      refine Nat.le_trans (normFold_len _) ?_
      rw [List.length_take]
      have := hok.1
      omega
    have hstep := normFold_take hk
    rw [← ha] at hstep
    have hoff9 : ∀ q ∈ R9 ++ own, q.1 ≠ ledKey N9 := fun q hq => (List.mem_append.mp hq).elim (hoff q) fun hq => hown q hq _ (.head _)
    clear hm
    simp only [List.cons_append, ledKey] at N hoff9
    clear hoff
    have hdots := normFold_dots ((l9.map fun x => x.1).take i)
    rw [← ha] at hdots
    by_cases c0 : k = Str.ofString ""
    · have e0 : ((k.length : Int) != 0) = false := by rw [c0]; decide
      have es : normStep (a.map fun x => x.1) k = a.map fun x => x.1 := by unfold normStep; rw [if_pos c0]
      rw [es] at hstep
      try k_fold
      k_steps
      exact InvEndN.intro (by k_asm) (by k_asm) ⟨a, _, rfl, hstep.symm, fun z hz => if_neg hz⟩ rfl (fun q hq => List.mem_append_left own hq) (fun q hq => List.mem_append_right (_ :: R9) hq)
    have e0 : ((k.length : Int) != 0) = true := len_ne0 c0
    by_cases c1 : k = Str.ofString "."
    · have e1 : (k == Str.ofString ".") = true := by rw [c1]; decide
      have es : normStep (a.map fun x => x.1) k = a.map fun x => x.1 := by unfold normStep; rw [if_neg c0, if_pos c1]
      rw [es] at hstep
      try k_fold
      k_steps
      exact InvEndN.intro (by k_asm) (by k_asm) ⟨a, _, rfl, hstep.symm, fun z hz => if_neg hz⟩ rfl (fun q hq => List.mem_append_left own hq) (fun q hq => List.mem_append_right (_ :: R9) hq)
    have e1 : (k == Str.ofString ".") = false := beq_no c1
    by_cases c2 : k = Str.ofString ".."
    · have e2 : (k != Str.ofString "..") = false := by rw [c2]; decide
      have es : normStep (a.map fun x => x.1) k = (a.map fun x => x.1).dropLast := by unfold normStep; rw [if_neg c0, if_neg c1, if_pos c2]
      rw [es] at hstep
      rcases snoc_or a with ca | ⟨a', q, u, ca⟩
      · have e3 : (!(strValues a).isEmpty) = false := by rw [ca]; rfl
        have hst2 : (a.map fun x => x.1) = normFold ((l9.map fun x => x.1).take (i + 1)) := by rw [hstep, ca]; rfl
        try k_fold
        k_steps
        exact InvEndN.intro (by k_asm) (by k_asm) ⟨a, _, rfl, hst2, fun z hz => if_neg hz⟩ rfl (fun q hq => List.mem_append_left own hq) (fun q hq => List.mem_append_right (_ :: R9) hq)
      · have e3 : (!(strValues a' ++ [Value.str q u]).isEmpty) = true := by cases strValues a' <;> rfl
        have hst2 : (a'.map fun x => x.1) = normFold ((l9.map fun x => x.1).take (i + 1)) := by rw [hstep, ca, List.map_append, List.map_cons, List.map_nil, List.dropLast_concat]
        have e4 : (q == Str.ofString "..") = false := beq_no (hdots q (by rw [ca]; simp))
        rw [ca, strValues_snoc] at N hal
        dsimp only at N hal
        have hal2 : (strValues a' ++ [Value.str q u]).length ≤ 16777216 := by omega
        try k_fold
        k_steps
        exact InvEndN.intro (by k_asm) (by k_asm) ⟨a', _, rfl, hst2, fun z hz => if_neg hz⟩ rfl (fun q hq => List.mem_append_left own hq) (fun q hq => List.mem_append_right (_ :: R9) hq)
    · have e2 : (k != Str.ofString "..") = true := bne_yes c2
      have es : normStep (a.map fun x => x.1) k = (a.map fun x => x.1) ++ [k] := by unfold normStep; rw [if_neg c0, if_neg c1, if_neg c2]
      have hst2 : ((a ++ [(k, t)]).map fun x => x.1) = normFold ((l9.map fun x => x.1).take (i + 1)) := by rw [hstep, es, List.map_append]; rfl
      try k_fold
      k_steps
      rename News _ _ _ _ => N8
      rw [strs_push] at N8
      exact InvEndN.intro (by k_asm) (by k_asm) ⟨a ++ [(k, t)], _, rfl, hst2, fun z hz => if_neg hz⟩ rfl (fun q hq => List.mem_append_left own hq) (fun q hq => List.mem_append_right (_ :: R9) hq)
  · rintro m₁ news₁ h tk ⟨a, n, rfl, ha, hm⟩ F N
    have F := fr_out hm F
    have ha2 : a.map (fun x => x.1) = normFold (normComps p) := by
      rw [ha, hlN, List.take_of_length_le (by rw [hsp]; exact Nat.le_refl _), hsp]; rfl
    simp only [ledKey, frMap] at F N
    clear hoff hm
    try k_fold
    k_steps
    have hjl := hok.2.2
    have hol : (Str.ofString "/" ++ Txt.join (Str.ofString "/") (normFold (normComps p))).length ≤ 1000 := by rw [len_slash]; omega
    have hon : (((Str.ofString "/" ++ Txt.join (Str.ofString "/") (normFold (normComps p))).length : Int) != 0) = true := by rw [len_slash]; simp; omega
    refine join_led (by k_asm) (by k_mem) ha2 hok.2.1 ?_
    intro t' k'
    try k_fold
    k_steps
    all_goals (rename News _ _ _ _ => N8; replace N8 := news_tl N8 hr9; cb_end hret)
end Mine
end

section
open PySem PySem.W PyProof.Rows PySem.Calls
set_option Elab.async false
set_option maxRecDepth 100000
set_option maxHeartbeats 8000000
namespace Mine

noncomputable def NormGood (p : Str) : Prop := p.length ≤ 1000 ∧ ((p.length : Int) != 0) = true ∧ (Txt.slice p none (some 1) != Str.ofString "/") = false ∧ (Txt.slice p (some 1) (some 2) != Str.ofString "/") = true ∧ NormOk p


theorem spec_normpath (w : World) {loose mean mg mb} (news : List (Addr × Obj)) (p : Str) (t : Tok) (hg : NormGood p) :
    Sp w loose mean mg mb 10 80 77 news [.str p t] (fun t => .str (normOut p) t) := by
  k_with_none
  k_with "own omega" => with_reducible (first | exact Nat.zero_le _ | exact q_le (by assumption) (by decide) | exact q_up (by assumption) (by decide) | exact q_2 (by assumption) (by decide) | exact q_3 (by assumption) (by decide) | exact q_0 (by assumption) | exact q_int (by assumption) (by decide) | exact q_lt (by assumption) (by decide) | fail)
  k_with "call ref" => (refine wpAny_call ?_; k_dflt (refine' code_def ?k1 ?k2 ?k3 ?k4 ?k5 ?kA ?kF ?kK ?k6 ?k7 ?k8 ?k9 ?kB ?_ ?c2 ?c3 ?c4 ?c5; (case kA => exact rfl); (case kF => exact rfl); (case kK => first | exact rfl | assumption); (case k1 => k_asm); (case k2 => k_asm); (case k3 => k_asm); (case k4 => k_asm); (case k5 => k_asm); (case k6 => k_is); (case k7 => k_is); (case k8 => ktr_room); (case k9 => exact BindsTo.of_eq rfl); (case c5 => decide); (case kB => exact locs rfl); (case c2 => exact rfl); (case c3 => exact rfl); (case c4 => exact rfl); k_whole; intro g'kk L'kk h'kk FG'kk F'kk N'kk B'kk X'kk T'kk; (try dsimp only); (try k_lift B'kk); (try k_fold)))
  k_with "call ref" => (k_dflt (refine' spec_kind _ _ _ _ _ _ _ _ _ _ _ _ _ _ _ _ _ _ _ _ _ _ _ ?k1 ?k2 ?k3 ?k4 ?k5 ?k6 ?k7 ?k8 ?_); (case k1 => k_asm); (case k2 => k_asm); (case k3 => k_asm); (case k4 => k_asm); (case k5 => k_asm); (case k6 => exact rfl); (case k7 => ktr_room); (case k8 => ktr_units); intro t9kk h9kk tk9kk F9kk N9kk; (try dsimp only); (try k_fold))
  k_with "call ref" => (k_dflt (refine' spec_norm _ _ _ _ (And.left (by assumption)) (And.left (And.right (by assumption))) (And.left (And.right (And.right (by assumption)))) (And.left (And.right (And.right (And.right (by assumption))))) (And.right (And.right (And.right (And.right (by assumption))))) _ _ _ _ _ _ _ _ _ _ _ _ _ _ _ _ _ ?k1 ?k2 ?k3 ?k4 ?k5 ?k6 ?k7 ?k8 ?_); (case k1 => k_asm); (case k2 => k_asm); (case k3 => k_asm); (case k4 => k_asm); (case k5 => k_asm); (case k6 => exact rfl); (case k7 => ktr_room); (case k8 => ktr_units); intro t9kk h9kk tk9kk F9kk N9kk; (try dsimp only); (try k_fold))
  unfold Sp
  k_fill
  intros; rename_i hret
  refine wpAny_call ?_
  k_dflt (refine' kp_both ?k1 ?k2 ?k3 ?k4 ?k5 ?kA ?kF ?kK ?k6 ?k7 ?k8 ?kV ?kX ?kQ ?kM ?kN ?kD ?kR ?kP ?kS ?kT ?kB ?_ ?c2 ?c3 ?c4 ?c5; (case kA => exact rfl); (case kF => exact rfl); (case kK => assumption); (case k1 => k_asm); (case k2 => k_asm); (case k3 => k_asm); (case k4 => k_asm); (case k5 => k_asm); (case k6 => k_is); (case k7 => k_is); (case k8 => ktr_room); (case kV => kp_lit); (case kX => kp_lit); (case kQ => exact rfl); (case kM => exact rfl); (case kN => exact rfl); (case kD => kp_flats); (case kR => exact rfl); (case kP => exact rfl); (case kS => exact fun _ => rfl); (case kT => exact fun _ _ => rfl); (case kB => exact fun _ _ => locs rfl); (case c5 => decide); (case c2 => exact rfl); (case c3 => exact rfl); (case c4 => exact rfl); k_whole; intro C' D' o' g' L' h' tk' l1 l2 lo' hs' fs' FG' F' N' B' X' T'; (try k_lt l1); (try k_lt2 l2); (try dsimp only); (try k_lift B'); (try k_fold))
  k_steps
  all_goals cb_end hret
end Mine
end

section
open PySem PySem.W PyProof.Rows PySem.Calls
set_option Elab.async false
set_option maxRecDepth 100000
set_option maxHeartbeats 8000000
namespace Mine
open PyProof.Rows.LCg (lst)

theorem u_new (A : Around) (c : Addr) (args : List Value) : (A.under (Code.builtin "type.__call__" { pos := .ref c :: args })).units = A.units + 1 := by
  show A.units + (Code.builtin "type.__call__" { pos := .ref c :: args }).cUnits = _
  rfl
theorem news_turn {h₀ h : Heap} {L : Addr} {a b c d e : Addr × Obj} {r : List (Addr × Obj)} (N : News h₀ L h (a :: b :: c :: d :: e :: r)) : News h₀ L h (a :: c :: b :: e :: d :: r) := fun p hp => N p (by
  simp only [List.mem_cons] at hp ⊢
  rcases hp with h | h | h | h | h | h
  · exact .inl h
  · exact .inr (.inr (.inl h))
  · exact .inr (.inl h)
  · exact .inr (.inr (.inr (.inr (.inl h))))
  · exact .inr (.inr (.inr (.inl h)))
  · exact .inr (.inr (.inr (.inr (.inr h)))))
noncomputable abbrev ledAll {h₀ h : Heap} {L : Addr} {r : List (Addr × Obj)} (_ : News h₀ L h r) : List (Addr × Obj) := r
theorem allLt_ne {b : Addr} {l : List (Addr × Obj)} (h : AllLt b l) : ∀ q ∈ l, q.1 ≠ b := fun q hq => Nat.ne_of_lt (allLt_mem h q hq)
end Mine
end

section
open PySem PySem.W PyProof.Rows PySem.Calls PyProof.V PySem.Spec
set_option Elab.async false
set_option maxRecDepth 100000
set_option maxHeartbeats 8000000
namespace Mine
theorem lt_two {b x y : Addr} {ox oy : Obj} {rest : List (Addr × Obj)} (h1 : @LT.lt Nat instLTNat x b) (h2 : @LT.lt Nat instLTNat y b) (h : ∀ p ∈ rest, p.1 < b) : ∀ p ∈ (x, ox) :: (y, oy) :: rest, p.1 < b := fun p hp => by
  rcases List.mem_cons.mp hp with rfl | hp
  · exact h1
  · rcases List.mem_cons.mp hp with rfl | hp
    · exact h2
    · exact h p hp

theorem spec_ignore2 (w : World) {loose mean mg mb} {GA GB : Addr} {vsA vsB : List Value} {nA nB : Nat} {ms ds : List Str} (rest : List (Addr × Obj)) (hA : StrsAre vsA ms) (hB : StrsAre vsB ds) (hms : ms ≠ []) (hml : ms.length ≤ 1000) (hdl : ds.length ≤ 1000) (hgood : ∀ d ∈ ds, NormGood d)
    (dp un : Nat) (gd : Option (List Code)) (cn : Str) (cs : Scope) (a : Addr) (ccd : Value) (cl : List (Str × Addr)) (outer : List Env) (A₀ : Around) (base h₀ : Heap) (L : Addr) (m : Str → Option Value) (s : Shared) (Q E : Value → Shared → Prop)
    (hBl : Below A₀ base outer h₀) (hF : Fr h₀ L s.heap m) (hK : (heapK w.params).In h₀) (hN : News h₀ L s.heap ((GA, listOf vsA.toArray nA) :: (GB, listOf vsB.toArray nB) :: rest)) (hT : Top hd.view_39 loose mean mg mb h₀) (hcs : cs.kind = .function)
    (hdp : dp + 20 < recursionLimit) (hun : un + 600 < cLine)
    (hret : ∀ G oG M oM D dvs nd dS self t1 t2 t3 sl kvs nm h' tk', oG.IsDictOf (PySem.strKind PySem.Challenge.rw_sn0121_01.row.prog w) kvs → PyProof.V.FlatPairs PyData.str kvs (kdpD [(Str.ofString "<string>", 1)]) → StrSet PySem.Challenge.rw_sn0121_01.row.prog w oM (fun x => x ∈ ms) nm → nm ≤ ms.length → StrsAre dvs (ds.map normOut) → (G == sysModules) = false → M ≠ G ∧ D ≠ G ∧ dS ≠ G ∧ self ≠ G ∧ M ≠ D ∧ M ≠ dS ∧ M ≠ self ∧ D ≠ dS ∧ D ≠ self ∧ dS ≠ self → (∀ p ∈ (GA, listOf vsA.toArray nA) :: (GB, listOf vsB.toArray nB) :: rest, p.1 < G) → (∀ p ∈ (GA, listOf vsA.toArray nA) :: (GB, listOf vsB.toArray nB) :: rest, p.1 < M) → (∀ p ∈ (GA, listOf vsA.toArray nA) :: (GB, listOf vsB.toArray nB) :: rest, p.1 < D) → (∀ p ∈ (GA, listOf vsA.toArray nA) :: (GB, listOf vsB.toArray nB) :: rest, p.1 < dS) → (∀ p ∈ (GA, listOf vsA.toArray nA) :: (GB, listOf vsB.toArray nB) :: rest, p.1 < self) →
      Fr h₀ L h' m → News h₀ L h' (selfLed w G oG M oM D dvs nd dS self t1 t2 t3 sl ((GA, listOf vsA.toArray nA) :: (GB, listOf vsB.toArray nB) :: rest)) → Q (.ref self) { s with heap := h', toks := tk' }) :
    wpAny (model PySem.Challenge.rw_sn0121_01.row.prog w) (ktrTop dp un gd cn cs L a ccd cl outer) (call (.ref 100) [.ref GA, .ref GB]) Q E s := by
  k_with_none
  k_with "own all" => (first | exact allLt_ne (by assumption) | exact allLt_ne (And.right (by assumption)) | exact allLt_ne (And.right (And.right (by assumption))) | exact allLt_ne (And.right (And.right (And.right (by assumption)))) | exact allLt_ne (And.right (And.right (And.right (And.right (by assumption))))) | exact allLt_ne (And.right (And.right (And.right (And.right (And.right (by assumption)))))))
  k_with "own omega" => with_reducible (first | exact Nat.zero_le _ | exact q_le (by assumption) (by decide) | exact q_up (by assumption) (by decide) | exact q_2 (by assumption) (by decide) | exact q_3 (by assumption) (by decide) | exact q_0 (by assumption) | exact q_int (by assumption) (by decide) | exact q_lt (by assumption) (by decide) | fail)
  k_with "own ne" => ((refine neN ?_; (try dsimp only); first | exact Nat.ne_of_gt (by with_reducible (first | assumption | exact And.left (by assumption) | exact And.left (And.right (by assumption)) | exact And.left (And.right (And.right (by assumption))) | exact And.left (And.right (And.right (And.right (by assumption)))) | exact And.left (And.right (And.right (And.right (And.right (by assumption))))) | exact And.left (And.right (And.right (And.right (And.right (And.right (by assumption)))))) | exact And.left (And.right (And.right (And.right (And.right (And.right (And.right (by assumption))))))) | exact And.left (And.right (And.right (And.right (And.right (And.right (And.right (And.right (by assumption)))))))) | exact And.left (And.right (And.right (And.right (And.right (And.right (And.right (And.right (And.right (by assumption))))))))) | exact And.left (And.right (And.right (And.right (And.right (And.right (And.right (And.right (And.right (And.right (by assumption)))))))))) | exact And.left (And.right (And.right (And.right (And.right (And.right (And.right (And.right (And.right (And.right (And.right (by assumption))))))))))) | exact And.left (And.right (And.right (And.right (And.right (And.right (And.right (And.right (And.right (And.right (And.right (And.right (by assumption)))))))))))) | exact And.left (And.right (And.right (And.right (And.right (And.right (And.right (And.right (And.right (And.right (And.right (And.right (And.right (by assumption))))))))))))) | exact And.left (And.right (And.right (And.right (And.right (And.right (And.right (And.right (And.right (And.right (And.right (And.right (And.right (And.right (by assumption)))))))))))))) | exact And.left (And.right (And.right (And.right (And.right (And.right (And.right (And.right (And.right (And.right (And.right (And.right (And.right (And.right (And.right (by assumption))))))))))))))) | exact And.left (And.right (And.right (And.right (And.right (And.right (And.right (And.right (And.right (And.right (And.right (And.right (And.right (And.right (And.right (And.right (by assumption)))))))))))))))) | exact And.left (And.right (And.right (And.right (And.right (And.right (And.right (And.right (And.right (And.right (And.right (And.right (And.right (And.right (And.right (And.right (And.right (by assumption))))))))))))))))) | exact And.left (And.right (And.right (And.right (And.right (And.right (And.right (And.right (And.right (And.right (And.right (And.right (And.right (And.right (And.right (And.right (And.right (And.right (by assumption)))))))))))))))))) | exact And.left (And.right (And.right (And.right (And.right (And.right (And.right (And.right (And.right (And.right (And.right (And.right (And.right (And.right (And.right (And.right (And.right (And.right (And.right (by assumption))))))))))))))))))) | exact And.left (And.right (And.right (And.right (And.right (And.right (And.right (And.right (And.right (And.right (And.right (And.right (And.right (And.right (And.right (And.right (And.right (And.right (And.right (And.right (by assumption)))))))))))))))))))) | exact And.left (And.right (And.right (And.right (And.right (And.right (And.right (And.right (And.right (And.right (And.right (And.right (And.right (And.right (And.right (And.right (And.right (And.right (And.right (And.right (And.right (by assumption))))))))))))))))))))) | exact And.left (And.right (And.right (And.right (And.right (And.right (And.right (And.right (And.right (And.right (And.right (And.right (And.right (And.right (And.right (And.right (And.right (And.right (And.right (And.right (And.right (And.right (by assumption)))))))))))))))))))))) | exact And.left (And.right (And.right (And.right (And.right (And.right (And.right (And.right (And.right (And.right (And.right (And.right (And.right (And.right (And.right (And.right (And.right (And.right (And.right (And.right (And.right (And.right (And.right (by assumption))))))))))))))))))))))) | exact And.left (And.right (And.right (And.right (And.right (And.right (And.right (And.right (And.right (And.right (And.right (And.right (And.right (And.right (And.right (And.right (And.right (And.right (And.right (And.right (And.right (And.right (And.right (And.right (by assumption)))))))))))))))))))))))) | fail "no order")) | exact Nat.ne_of_lt (by with_reducible (first | assumption | exact And.left (by assumption) | exact And.left (And.right (by assumption)) | exact And.left (And.right (And.right (by assumption))) | exact And.left (And.right (And.right (And.right (by assumption)))) | exact And.left (And.right (And.right (And.right (And.right (by assumption))))) | exact And.left (And.right (And.right (And.right (And.right (And.right (by assumption)))))) | exact And.left (And.right (And.right (And.right (And.right (And.right (And.right (by assumption))))))) | exact And.left (And.right (And.right (And.right (And.right (And.right (And.right (And.right (by assumption)))))))) | exact And.left (And.right (And.right (And.right (And.right (And.right (And.right (And.right (And.right (by assumption))))))))) | exact And.left (And.right (And.right (And.right (And.right (And.right (And.right (And.right (And.right (And.right (by assumption)))))))))) | exact And.left (And.right (And.right (And.right (And.right (And.right (And.right (And.right (And.right (And.right (And.right (by assumption))))))))))) | exact And.left (And.right (And.right (And.right (And.right (And.right (And.right (And.right (And.right (And.right (And.right (And.right (by assumption)))))))))))) | exact And.left (And.right (And.right (And.right (And.right (And.right (And.right (And.right (And.right (And.right (And.right (And.right (And.right (by assumption))))))))))))) | exact And.left (And.right (And.right (And.right (And.right (And.right (And.right (And.right (And.right (And.right (And.right (And.right (And.right (And.right (by assumption)))))))))))))) | exact And.left (And.right (And.right (And.right (And.right (And.right (And.right (And.right (And.right (And.right (And.right (And.right (And.right (And.right (And.right (by assumption))))))))))))))) | exact And.left (And.right (And.right (And.right (And.right (And.right (And.right (And.right (And.right (And.right (And.right (And.right (And.right (And.right (And.right (And.right (by assumption)))))))))))))))) | exact And.left (And.right (And.right (And.right (And.right (And.right (And.right (And.right (And.right (And.right (And.right (And.right (And.right (And.right (And.right (And.right (And.right (by assumption))))))))))))))))) | exact And.left (And.right (And.right (And.right (And.right (And.right (And.right (And.right (And.right (And.right (And.right (And.right (And.right (And.right (And.right (And.right (And.right (And.right (by assumption)))))))))))))))))) | exact And.left (And.right (And.right (And.right (And.right (And.right (And.right (And.right (And.right (And.right (And.right (And.right (And.right (And.right (And.right (And.right (And.right (And.right (And.right (by assumption))))))))))))))))))) | exact And.left (And.right (And.right (And.right (And.right (And.right (And.right (And.right (And.right (And.right (And.right (And.right (And.right (And.right (And.right (And.right (And.right (And.right (And.right (And.right (by assumption)))))))))))))))))))) | exact And.left (And.right (And.right (And.right (And.right (And.right (And.right (And.right (And.right (And.right (And.right (And.right (And.right (And.right (And.right (And.right (And.right (And.right (And.right (And.right (And.right (by assumption))))))))))))))))))))) | exact And.left (And.right (And.right (And.right (And.right (And.right (And.right (And.right (And.right (And.right (And.right (And.right (And.right (And.right (And.right (And.right (And.right (And.right (And.right (And.right (And.right (And.right (by assumption)))))))))))))))))))))) | exact And.left (And.right (And.right (And.right (And.right (And.right (And.right (And.right (And.right (And.right (And.right (And.right (And.right (And.right (And.right (And.right (And.right (And.right (And.right (And.right (And.right (And.right (And.right (by assumption))))))))))))))))))))))) | exact And.left (And.right (And.right (And.right (And.right (And.right (And.right (And.right (And.right (And.right (And.right (And.right (And.right (And.right (And.right (And.right (And.right (And.right (And.right (And.right (And.right (And.right (And.right (And.right (by assumption)))))))))))))))))))))))) | fail "no order")) | fail "k_ne"))
  k_with "truthy ref" => (refine truthy_led (by k_asm) (by k_mem) (by assumption) (by assumption) ?_)
  k_with "call type:set" => (k_here; refine newSetStrs_N (by k_asm) (by k_asm) (by rfl) (by k_mem) (by assumption) (by assumption) ?_; intro h9kk tk9kk a9kk o9kk k9kk F9kk N9kk l9kk hS9kk hle9kk hpos9kk; (try k_lt l9kk))
  k_with "eval ListComp" => (k_here; k_dflt (refine ListComp_G (by k_asm) (by with_unfolding_all rfl) (by decide) (by rfl) (by decide) ?_ (by intro _; rfl)))
  k_with "call ref" => (k_dflt (refine' spec_normpath _ _ _ _ (by assumption) _ _ _ _ _ _ _ _ _ _ _ _ _ _ _ _ _ ?k1 ?k2 ?k3 ?k4 ?k5 ?k6 ?k7 ?k8 ?_); (case k1 => k_asm); (case k2 => k_asm); (case k3 => k_asm); (case k4 => k_asm); (case k5 => k_asm); (case k6 => exact rfl); (case k7 => ktr_room); (case k8 => ((try simp only [u_new]); ktr_units)); intro t9kk h9kk tk9kk F9kk N9kk; (try dsimp only); (try k_fold))
  revert hK
  k_fill
  intro hK
  have hm0 : (!vsA.isEmpty) = true := by cases hA <;> simp_all
  have hal : vsA.length ≤ 1000 := by rw [hA.length]; exact hml
  have hbl : vsB.length ≤ 1000 := by rw [hB.length]; exact hdl
  have hsb : ms.length + 1 < scanBound := by (have e : scanBound = 4096 := rfl); omega
  cases hd0 : (!vsB.isEmpty) with
  | true =>
    k_dflt (refine' call_cls ?k1 ?k2 ?k3 ?k4 ?k5 ?k6 ?_; (case k1 => k_asm); (case k2 => k_asm); (case k3 => k_asm); (case k4 => k_is); (case k5 => k_is); (case k6 => k_is); k_whole; intro x' d' h' F' N' l1 l2; (try k_lt l1); (try k_lt2 l2); (try k_sweep); (refine' code_def ?k1 ?k2 ?k3 ?k4 ?k5 ?kA ?kF ?kK ?k6 ?k7 ?k8 ?k9 ?kB ?_ ?c2 ?c3 ?c4 ?c5; (case kA => exact rfl); (case kF => exact rfl); (case kK => first | exact rfl | assumption); (case k1 => k_asm); (case k2 => k_asm); (case k3 => k_asm); (case k4 => k_asm); (case k5 => k_asm); (case k6 => k_is); (case k7 => k_is); (case k8 => ktr_room); (case k9 => first | exact BindsTo.of_eq rfl | exact binds_K (by k_in) rfl (by k_is) rfl rfl rfl); (case c5 => decide); (case kB => exact locs rfl); (case c2 => exact rfl); (case c3 => exact rfl); (case c4 => exact rfl); k_whole; intro g' L' h' FG' F' N' B' X' T'; (try dsimp only); (try k_lift B'); (try k_fold)))
    k_steps
    rename Fr _ _ _ _ => F9
    rename News _ _ _ _ => N9
    refine gat_list (fun d => d = s.drawn) (fun i ys nw => nw = ledAll N9 ∧ StrsAre ys ((ds.take i).map normOut)) [] (by rfl) (by rfl) (by rfl) ⟨_, N9.get (a := GB) (by k_mem), rfl, _, rfl⟩ (N9 (GB, _) (by k_mem)).2.1 (by rw [sizeLine_eq]; omega) F9 N9 (fun b hb => nomatch hb) rfl ⟨rfl, .nil⟩ ?_ ?_
    · rintro i v ys nw hv - ⟨hnw, hy⟩ s₁ X C oC m₂ E' hm hk9 ho hc hX hC F N
      obtain ⟨d, td, hd, rfl⟩ := strs_item hB i v hv
      have hg := hgood d (List.mem_of_getElem? hd)
      subst hnw
      simp only [ledAll, List.cons_append] at N
      refine wpAny_tests_nil ?_
      simp only [if_true]
      k_steps
      exact GEnd.same (by k_asm) (by k_asm) _ (by assumption) (fun p hp => .tail _ (List.mem_append_right (ledAll N9) hp)) (fun p hp => .tail _ (List.mem_append_left X hp)) rfl ⟨rfl, by rw [List.take_add_one, hd]; simpa using kct_snoc hy⟩
    · intro h dr ys nw hd9 ha9 hj9
      obtain ⟨hnw, hy⟩ := hj9
      subst hnw
      have hd9 : dr = s.drawn := hd9
      subst hd9
      unfold FinGE
      intro D hh tk FD ND offD
      rw [List.take_of_length_le (by rw [← hB.length]; exact Nat.le_refl _)] at hy
      simp only [ledAll] at ND offD
      (try k_lt offD)
      clear ha9 N9 F9
      try k_fold
      k_steps
      refine hret _ _ _ _ _ _ _ _ _ _ _ _ _ _ _ _ _ (by assumption) (by assumption) (by assumption) (by assumption) hy (by assumption) ?_ ?_ ?_ ?_ ?_ ?_ (by k_asm) (news_turn (by k_asm))
      · refine ⟨?_, ?_, ?_, ?_, ?_, ?_, ?_, ?_, ?_, ?_⟩ <;> k_ne
      all_goals (refine lt_two (by omega) (by omega) ?_; first | exact fun p hp => Nat.lt_trans (allLt_mem l1.2.2 p hp) l2 | exact allLt_mem (by assumption) | exact allLt_mem (And.right (by assumption)) | exact allLt_mem (And.right (And.right (by assumption))) | exact allLt_mem (And.right (And.right (And.right (by assumption)))) | exact allLt_mem (And.right (And.right (And.right (And.right (by assumption))))) | exact allLt_mem (And.right (And.right (And.right (And.right (And.right (by assumption)))))) | exact allLt_mem (And.right (And.right (And.right (And.right (And.right (And.right (by assumption))))))) | exact allLt_mem (And.right (And.right (And.right (And.right (And.right (And.right (And.right (by assumption)))))))) | exact allLt_mem (And.right (And.right (And.right (And.right (And.right (And.right (And.right (And.right (by assumption))))))))))
  | false =>
    have hds0 : vsB = [] := by cases hB <;> simp_all
    subst hds0
    cases hB
    k_dflt (refine' call_cls ?k1 ?k2 ?k3 ?k4 ?k5 ?k6 ?_; (case k1 => k_asm); (case k2 => k_asm); (case k3 => k_asm); (case k4 => k_is); (case k5 => k_is); (case k6 => k_is); k_whole; intro x' d' h' F' N' l1 l2; (try k_lt l1); (try k_lt2 l2); (try k_sweep); (refine' code_def ?k1 ?k2 ?k3 ?k4 ?k5 ?kA ?kF ?kK ?k6 ?k7 ?k8 ?k9 ?kB ?_ ?c2 ?c3 ?c4 ?c5; (case kA => exact rfl); (case kF => exact rfl); (case kK => first | exact rfl | assumption); (case k1 => k_asm); (case k2 => k_asm); (case k3 => k_asm); (case k4 => k_asm); (case k5 => k_asm); (case k6 => k_is); (case k7 => k_is); (case k8 => ktr_room); (case k9 => first | exact BindsTo.of_eq rfl | exact binds_K (by k_in) rfl (by k_is) rfl rfl rfl); (case c5 => decide); (case kB => exact locs rfl); (case c2 => exact rfl); (case c3 => exact rfl); (case c4 => exact rfl); k_whole; intro g' L' h' FG' F' N' B' X' T'; (try dsimp only); (try k_lift B'); (try k_fold)))
    k_steps
    refine hret _ _ _ _ _ _ _ _ _ _ _ _ _ _ _ _ _ (by assumption) (by assumption) (by assumption) (by assumption) .nil (by assumption) ?_ ?_ ?_ ?_ ?_ ?_ (by k_asm) (news_turn (by k_asm))
    · refine ⟨?_, ?_, ?_, ?_, ?_, ?_, ?_, ?_, ?_, ?_⟩ <;> k_ne
    all_goals (refine lt_two (by omega) (by omega) ?_; first | exact fun p hp => Nat.lt_trans (allLt_mem l1.2.2 p hp) l2 | exact allLt_mem (by assumption) | exact allLt_mem (And.right (by assumption)) | exact allLt_mem (And.right (And.right (by assumption))) | exact allLt_mem (And.right (And.right (And.right (by assumption)))) | exact allLt_mem (And.right (And.right (And.right (And.right (by assumption))))) | exact allLt_mem (And.right (And.right (And.right (And.right (And.right (by assumption)))))) | exact allLt_mem (And.right (And.right (And.right (And.right (And.right (And.right (by assumption))))))) | exact allLt_mem (And.right (And.right (And.right (And.right (And.right (And.right (And.right (by assumption)))))))) | exact allLt_mem (And.right (And.right (And.right (And.right (And.right (And.right (And.right (And.right (by assumption))))))))))
end Mine
end

section
open PySem PySem.W PyProof.Rows PySem.Calls
set_option Elab.async false
set_option maxRecDepth 100000
set_option maxHeartbeats 8000000
namespace Mine
open PyProof.Rows.LCg (lst)

noncomputable def upF (mark e : Str) : Str := Txt.slice e none (some (Txt.rfind e mark))

section
open Builtin Builtin.Str
theorem rindex_known {prog : Program} {w : World} {A : Around} {E : Value → Shared → Prop} {s : Shared} {x y : Str} {t u : Tok} {Q : Value → Shared → Prop} (h0 : 0 ≤ Txt.rfind x y) (hq : ∀ t' k, Q (.int (Txt.rfind x y) t') { s with toks := k }) :
    wpAny (model prog w) A (call (.builtin "str.rindex") [.str x t, .str y u]) Q E s := by
  cases hl : lastOccurrence x y 0 x.length with
  | none =>
    exfalso
    unfold Txt.rfind at h0
    rw [hl] at h0
    exact absurd h0 (by decide)
  | some i =>
    have e : Txt.rfind x y = (i : Int) := by unfold Txt.rfind; rw [hl]
    rw [e] at hq
    exact call_gives F.slot_str_rindex (typeIs_str _ _ _) F.entry_str_rindex (F.args_str_rindex_2 _ _) (gives_str_rindex x y t u i hl) (hq _ _)
end
theorem spec_above (w : World) {loose mean mg mb} (news : List (Addr × Obj)) (e : Str) (te : Tok) (mark : Str) (tm : Tok) (he : e.length ≤ 1000) (hm : mark.length = 1) (h0 : 0 ≤ Txt.rfind e mark) :
    Sp w loose mean mg mb 4 40 123 news [.str e te, .str mark tm] (fun t => .str (upF mark e) t) := by
  k_with_none
  k_with "own omega" => with_reducible (first | exact Nat.zero_le _ | exact q_le (by assumption) (by decide) | exact q_up (by assumption) (by decide) | exact q_2 (by assumption) (by decide) | exact q_3 (by assumption) (by decide) | exact q_0 (by assumption) | exact q_int (by assumption) (by decide) | exact q_lt (by assumption) (by decide) | fail)
  k_with "call builtin:str.rindex" => (k_here; refine rindex_known (by assumption) ?_; intro _ _)
  unfold Sp
  k_fill
  intros; rename_i hret
  refine wpAny_call ?_
  k_dflt cell_enter
  k_steps
  cb_end hret


theorem news_drop4 {h₀ h : Heap} {L : Addr} {a b c d e : Addr × Obj} {r : List (Addr × Obj)} (N : News h₀ L h (a :: b :: c :: d :: e :: r)) : News h₀ L h (a :: r) := fun p hp => N p (by
  rcases List.mem_cons.mp hp with h | h
  · exact List.mem_cons.mpr (.inl h)
  · exact .tail _ (.tail _ (.tail _ (.tail _ (.tail _ h)))))
theorem strs_app : ∀ {vs us : List Value} {ks ls : List Str}, StrsAre vs ks → StrsAre us ls → StrsAre (vs ++ us) (ks ++ ls)
  | _, _, _, _, .nil, h => h
  | _, _, _, _, .cons z u r, h => .cons z u (strs_app r h)
noncomputable def partsF : List Str := [Str.ofString "a", Str.ofString "aa"]
noncomputable def upperF (mark : Str) : List Str := partsF.map (mark ++ ·)
noncomputable def everyF (mark : Str) : List Str := upperF mark ++ (upperF mark).flatMap fun ab => partsF.map fun p => ab ++ mark ++ p

theorem spec_every (w : World) {loose mean mg mb} (news : List (Addr × Obj)) (mark : Str) (tm : Tok) (hm : mark.length ≤ 10)
    (dp un : Nat) (gd : Option (List Code)) (cn : Str) (cs : Scope) (a : Addr) (ccd : Value) (cl : List (Str × Addr)) (outer : List Env) (A₀ : Around) (base h₀ : Heap) (L : Addr) (m : Str → Option Value) (s : Shared) (Q E : Value → Shared → Prop)
    (hBl : Below A₀ base outer h₀) (hF : Fr h₀ L s.heap m) (hK : (heapK w.params).In h₀) (hN : News h₀ L s.heap news) (hT : Top hd.view_39 loose mean mg mb h₀) (hcs : cs.kind = .function)
    (hdp : dp + 20 < recursionLimit) (hun : un + 600 < cLine)
    (hret : ∀ D vs n h' tk', StrsAre vs (everyF mark) → Fr h₀ L h' m → News h₀ L h' ((D, listOf vs.toArray n) :: news) → (∀ p ∈ news, p.1 < D) → Q (.ref D) { s with heap := h', toks := tk' }) :
    wpAny (model PySem.Challenge.rw_sn0121_01.row.prog w) (ktrTop dp un gd cn cs L a ccd cl outer) (call (.ref 116) [.str mark tm]) Q E s := by
  k_with_none
  k_with "own omega" => with_reducible (first | exact Nat.zero_le _ | exact q_le (by assumption) (by decide) | exact q_up (by assumption) (by decide) | exact q_2 (by assumption) (by decide) | exact q_3 (by assumption) (by decide) | exact q_0 (by assumption) | exact q_int (by assumption) (by decide) | exact q_lt (by assumption) (by decide) | fail)
  k_with "call builtin:str.rindex" => (k_here; refine rindex_known (by assumption) ?_; intro _ _)
  k_with "exec Assign cons ListComp" => (k_here; k_dflt (refine Assign_ListComp_G (by k_asm) (by rfl) (by with_unfolding_all rfl) (by with_unfolding_all rfl) (by decide) (by rfl) (by decide) (by rfl) (by rfl) ?_ (by intro _; rfl)))
  k_with "eval ListComp" => (k_here; k_dflt (first | refine ListComp_N (by k_asm) (by with_unfolding_all rfl) (by decide) (by rfl) (by decide) (by rfl) ?_ (by intro _ _; rfl) (by intro _; rfl) | refine ListComp_G (by k_asm) (by with_unfolding_all rfl) (by decide) (by rfl) (by decide) ?_ (by intro _; rfl)))
  k_with "binaryOp Add ref ref" => (k_here; refine kmk_add_lit (by k_asm) (by k_asm) (News.isList (by k_asm) (by k_mem)) (News.isList (by k_asm) (by k_mem)) rfl ?_ (by assumption); intro D'kk h'kk F'kk N'kk l1kk; (try k_lt l1kk))
  revert hK
  k_fill
  intro hK
  refine wpAny_call ?_
  k_dflt (refine' code_defC ?k1 ?k2 ?k3 ?k4 ?k5 ?kA ?kF ?kK ?k6 ?k7 ?k8 ?k9 ?kB ?kD ?_ ?c2 ?c3 ?c4; (case kA => exact rfl); (case kF => exact rfl); (case kK => assumption); (case k1 => k_asm); (case k2 => k_asm); (case k3 => k_asm); (case k4 => k_asm); (case k5 => k_asm); (case k6 => k_is); (case k7 => k_is); (case k8 => ktr_room); (case k9 => first | exact BindsTo.of_eq rfl | exact binds_K (by k_in) rfl (by k_is) rfl rfl rfl); (case kB => exact rfl); (case kD => decide +kernel); (case c2 => exact rfl); (case c3 => exact rfl); (case c4 => exact rfl); k_whole; intro g' L' h' tk' cells' FG' F' N' Y' B' X' T' l1; (try k_lt l1); k_cells Y'; (try simp only [List.cons_append, List.nil_append] at N'); (try dsimp only); (try k_lift B'); (try k_fold))
  k_steps
  rename Fr _ _ _ _ => F9
  rename News _ _ _ _ => N9
  rename (_ < _ ∧ AllLt _ _) => hlt9
  refine gat_tuple (fun d => d = s.drawn) (fun i ys nw => nw = ledAll N9 ∧ StrsAre ys ((partsF.take i).map (mark ++ ·))) [] (by rfl) (by rfl) (by rfl) ⟨_, N9.get (.head _), rfl, _, rfl⟩ (N9 _ (.head _)).2.1 (by rw [sizeLine_eq]; exact Nat.le_of_ble_eq_true rfl) F9 N9 (fun b hb => nomatch hb) rfl ⟨rfl, .nil⟩ ?_ ?_
  · rintro i v ys nw hv - ⟨hnw, hy⟩ s₁ X C oC m₂ E' hmv hk9 ho hc hX hC F N
    subst hnw
    simp only [ledAll, List.cons_append] at N
    have hv2 : ∃ p t, partsF[i]? = some p ∧ v = .str p t ∧ p.length ≤ 10 := by
      rcases i with _ | _ | i
      · exact ⟨_, _, rfl, (Option.some.inj hv).symm, by decide⟩
      · exact ⟨_, _, rfl, (Option.some.inj hv).symm, by decide⟩
      · exact absurd hv (by simp)
    obtain ⟨p, tp, hp, rfl, hpl⟩ := hv2
    refine wpAny_tests_nil ?_
    simp only [if_true]
    k_steps
    exact GEnd.same (by k_asm) (by k_asm) _ (by assumption) (fun p hp => .tail _ (List.mem_append_right (ledAll N9) hp)) (fun p hp => .tail _ (List.mem_append_left X hp)) rfl ⟨rfl, by rw [List.take_add_one, hp]; simpa using kct_snoc hy⟩
  · intro h dr ys nw hd9 ha9 hj9
    obtain ⟨hnw, hy⟩ := hj9
    subst hnw
    have hd9 : dr = s.drawn := hd9
    subst hd9
    unfold FinGA
    intro D hh tk FD ND offD
    simp only [ledAll] at ND offD
    (try k_lt offD)
    clear ha9 N9 F9
    have hy : StrsAre ys (upperF mark) := hy
    have hul : ∀ k ∈ upperF mark, k.length ≤ 20 := by
      intro k hk
      obtain ⟨p, hp, rfl⟩ := List.mem_map.mp hk
      rw [Str.length_append]
      have hpl : p.length ≤ 2 := by
        rcases List.mem_cons.mp hp with rfl | hp
        · decide
        · rw [List.mem_singleton.mp hp]; decide
      omega
    try k_fold
    k_steps
    rename Fr _ _ _ _ => F8
    rename News _ _ _ _ => N8
    refine nat_list (fun i ys2 => StrsAre ys2 (((upperF mark).take i).flatMap fun ab => partsF.map fun p => ab ++ mark ++ p)) (by rfl) ⟨_, N8.get (.head _), rfl, _, rfl⟩ (N8 _ (.head _)).2.1 F8 N8 .nil ?_ ?_
    · rintro i v ys2 hv hj s₁ own C D₂ oC m₂ E' hmx hnews hown hCD hCL hDL hC₀ hD₀ hoC F₁ N₁
      obtain ⟨ab, tab, hab, rfl⟩ := strs_item hy i v hv
      have habl := hul ab (List.mem_of_getElem? hab)
      simp only [List.cons_append] at N₁
      k_steps
      rename Fr _ _ _ _ => F7
      rename News _ _ _ _ => N7
      rename (C < _ ∧ _) => hlt7
      refine in_seq (D := D₂) (ys₀ := ys2) (oC := oC) (own := own) (fun j ys3 => StrsAre ys3 ((((upperF mark).take i).flatMap fun ab => partsF.map fun p => ab ++ mark ++ p) ++ (partsF.take j).map fun p => ab ++ mark ++ p)) (by rfl) (by rfl) (by rfl) (.inr ⟨_, N7.get (.head _), rfl, _, rfl⟩) (N7 _ (.head _)).2.1 (Nat.ne_of_gt hlt7.1) (Nat.ne_of_gt hlt7.2.1) hoC F7 (fun p hp => N7 p (.tail _ hp)) ⟨_, _, rfl⟩ hnews hown hCD hCL hDL hC₀ hD₀ ?_ ?_ ?_ ?_
      · intro j ys3 hj hj3
        have e1 := hj3.length
        have e2 : (((upperF mark).take i).flatMap fun ab => partsF.map fun p => ab ++ mark ++ p).length ≤ 4 := by
          have hil : i < 2 := by have := (List.getElem?_eq_some_iff.mp hab).1; exact this
          rcases i with _ | _ | i
          · exact Nat.le_of_ble_eq_true rfl
          · exact Nat.le_of_ble_eq_true rfl
          · omega
        have e3 : ((partsF.take j).map fun p => ab ++ mark ++ p).length ≤ 2 := by rw [List.length_map, List.length_take]; exact Nat.min_le_right _ _
        rw [List.length_append] at e1
        rw [sizeLine_eq]; omega
      · simpa using hj
      · intro ys3 hj3
        have hj3 : StrsAre ys3 ((((upperF mark).take i).flatMap fun ab => partsF.map fun p => ab ++ mark ++ p) ++ partsF.map fun p => ab ++ mark ++ p) := hj3
        rw [List.take_add_one, hab]
        simpa using hj3
      · intro j u ys3 s₅ X oC' m' E2 hu hdr hmy hmo hjj hCX hoC' hoffC F₅ N₅
        have hv2 : ∃ p t, partsF[j]? = some p ∧ u = .str p t ∧ p.length ≤ 10 := by
          rcases j with _ | _ | j
          · exact ⟨_, _, rfl, (Option.some.inj hu).symm, by decide⟩
          · exact ⟨_, _, rfl, (Option.some.inj hu).symm, by decide⟩
          · exact absurd hu (by simp)
        obtain ⟨p, tp, hp, rfl, hpl⟩ := hv2
        have hmx' : m' (Str.ofString "above") = some (.str ab tab) := by rw [hmo _ (by decide)]; exact hmx
        clear hmx hmo
        simp only [ledAll, List.cons_append] at N₅
        k_steps
        exact GEnd.same (by k_asm) (by k_asm) _ (by assumption) (fun p hp => .tail _ (List.mem_append_right _ hp)) (fun p hp => .tail _ (List.mem_append_left X hp)) rfl ⟨by rw [List.take_add_one, hp]; simpa using kct_snoc hjj, rfl⟩
    · intro h ys2 hj2
      unfold FinGE
      intro D2 hh2 tk2 FD2 ND2 offD2
      (try k_lt offD2)
      have hlen9 : ys.toArray.toList.length + ys2.toArray.toList.length ≤ sizeLine := by
        have e1 := hy.length
        have e2 := hj2.length
        rw [List.toList_toArray, List.toList_toArray, e1, e2]
        have e3 : ((upperF mark).take ys.length).length ≤ 2 := by rw [List.length_take]; exact Nat.min_le_right _ _
        rw [List.take_of_length_le (by rw [e1]; exact Nat.le_refl _)]
        exact Nat.le_of_ble_eq_true rfl
      clear N8 F8
      try k_fold
      k_steps
      exact hret _ _ _ _ _ (strs_app (by simpa using hy) (by rw [hy.length, List.take_of_length_le (Nat.le_refl _)] at hj2; simpa using hj2)) (by k_asm) (news_drop4 (by k_asm)) (allLt_mem (And.right (And.right (And.right (And.right (by assumption))))))
end Mine
end

section
open PySem PySem.W PyProof.Rows PySem.Calls PyProof.V PySem.Spec
set_option Elab.async false
set_option maxRecDepth 100000
set_option maxHeartbeats 8000000
namespace Mine
open PyProof.Rows.LCg (lst)

noncomputable def OkStrs (ns : List Str) : Prop := ∀ k ∈ ns, PyData.strOk k = true
theorem s_canLayAll0 : ∀ ns : List Str, OkStrs ns → PyData.canLayAll0 (ns.map PyData.str) = true
  | [], _ => rfl
  | a :: r, h => by simp [PyData.canLayAll0, PyData.canLay0, h a (.head _), s_canLayAll0 r fun k hk => h k (.tail _ hk)]
theorem s_depthAll : ∀ ns : List Str, PyData.depthAll (ns.map PyData.str) = 0
  | [] => rfl
  | _ :: r => by simp [PyData.depthAll, PyData.depth, s_depthAll r]
theorem s_shaped (ns : List Str) (h : OkStrs ns) : SeqAt.shaped (.list (ns.map PyData.str)) = true := by
  simp [SeqAt.shaped, PyData.canLay0, PyData.depth, s_canLayAll0 ns h, s_depthAll]
theorem s_sameAll : ∀ ns ms : List Str, PySem.Spec.sameAll (ns.map PyData.str) (ms.map PyData.str) = decide (ns = ms)
  | [], [] => by simp [PySem.Spec.sameAll]
  | [], _ :: _ => by simp [PySem.Spec.sameAll]
  | _ :: _, [] => by simp [PySem.Spec.sameAll]
  | a :: r, b :: t => by
    simp only [List.map_cons, PySem.Spec.sameAll, PySem.Spec.same, s_sameAll r t]
    by_cases h : a = b <;> by_cases h' : r = t <;> simp [h, h']
theorem s_same (ns ms : List Str) : PySem.Spec.same (.list (ns.map PyData.str)) (.list (ms.map PyData.str)) = decide (ns = ms) := by
  simp only [PySem.Spec.same]; exact s_sameAll ns ms
theorem eq_strs {prog : Program} {w : World} {A : Around} {E : Value → Shared → Prop} {s : Shared} {a b : Addr} {xs ys : List Value} {ns ms : List Str} {Q : Value → Shared → Prop}
    (ha : s.heap.IsList a xs.toArray) (hb : s.heap.IsList b ys.toArray) (hi : StrsAre xs ns) (hj : StrsAre ys ms) (h1 : OkStrs ns) (h2 : OkStrs ms) (hu : A.units + 64 < cLine) (h : Q (.bool (decide (ns = ms))) s) :
    wpAny (model prog w) A (compareOp .Eq (.ref a) (.ref b)) Q E s :=
  eq_dataH_same (reads_newData ha hi.carried) (reads_newData hb hj.carried) (s_shaped _ h1) (s_shaped _ h2) hu (SeqAt.noMix_of_shape (.list .str) rfl _ _ (list_map_has fun _ => rfl) (list_map_has fun _ => rfl)) (by rw [s_same]; exact h)

noncomputable def shortF (mark : Str) (ks ls : List Str) : List Str := ks.filter fun e => decide (e ∈ ls) && !decide (upF mark e ∈ ls)

theorem any_in (ks : List Str) (k : Str) : (ks.any (· == k)) = decide (k ∈ ks) := by
  induction ks with
  | nil => simp
  | cons a r ih =>
    simp only [List.any_cons, ih]
    by_cases h : a = k
    · subst h; simp
    · have h' : ¬ k = a := fun e => h e.symm
      simp [h, h']


theorem shortF_take {mark : Str} {ks ls : List Str} {i : Nat} {k : Str} (h : ks[i]? = some k) : shortF mark (ks.take (i + 1)) ls = shortF mark (ks.take i) ls ++ (if (decide (k ∈ ls) && !decide (upF mark k ∈ ls)) = true then [k] else []) := by
  unfold shortF
  rw [List.take_add_one, h, List.filter_append]
  simp [List.filter_cons]
theorem spec_short (w : World) {loose mean mg mb} (news : List (Addr × Obj)) {GE GL : Addr} {vsE vsL : List Value} {nE nL : Nat} {ks ls : List Str} (mark : Str) (tm : Tok) (hE : StrsAre vsE ks) (hL : StrsAre vsL ls) (hGE : (GE, listOf vsE.toArray nE) ∈ news) (hGL : (GL, listOf vsL.toArray nL) ∈ news)
    (hm : mark.length = 1) (hks : ∀ e ∈ ks, e.length ≤ 1000 ∧ 0 ≤ Txt.rfind e mark) (hkl : ks.length ≤ 1000)
    (dp un : Nat) (gd : Option (List Code)) (cn : Str) (cs : Scope) (a : Addr) (ccd : Value) (cl : List (Str × Addr)) (outer : List Env) (A₀ : Around) (base h₀ : Heap) (L : Addr) (m : Str → Option Value) (s : Shared) (Q E : Value → Shared → Prop)
    (hBl : Below A₀ base outer h₀) (hF : Fr h₀ L s.heap m) (hK : (heapK w.params).In h₀) (hN : News h₀ L s.heap news) (hT : Top hd.view_39 loose mean mg mb h₀) (hcs : cs.kind = .function)
    (hdp : dp + 20 < recursionLimit) (hun : un + 600 < cLine)
    (hret : ∀ D vs n h' tk', StrsAre vs (shortF mark ks ls) → Fr h₀ L h' m → News h₀ L h' ((D, listOf vs.toArray n) :: news) → (∀ p ∈ news, p.1 < D) → Q (.ref D) { s with heap := h', toks := tk' }) :
    wpAny (model PySem.Challenge.rw_sn0121_01.row.prog w) (ktrTop dp un gd cn cs L a ccd cl outer) (call (.ref 135) [.ref GE, .ref GL, .str mark tm]) Q E s := by
  k_with_none
  k_with "own mem" => (first | (with_reducible assumption) | exact List.mem_append_left _ (by with_reducible assumption))
  k_with "own all" => (assumption)
  k_with "own omega" => with_reducible (first | exact Nat.zero_le _ | exact q_le (by assumption) (by decide) | exact q_up (by assumption) (by decide) | exact q_2 (by assumption) (by decide) | exact q_3 (by assumption) (by decide) | exact q_0 (by assumption) | exact q_int (by assumption) (by decide) | exact q_lt (by assumption) (by decide) | fail)
  k_with "compareOp In str ref" => (k_here; refine in_list_strs (News.isList (by k_asm) (by k_mem)) (by assumption) ?_; (try rw [any_in]))
  k_with "compareOp NotIn str ref" => (k_here; refine notin_list_strs (News.isList (by k_asm) (by k_mem)) (by assumption) ?_; (try rw [any_in]))
  k_with "call ref" => (k_dflt (refine' spec_above _ _ _ _ _ _ (by assumption) (by assumption) (by assumption) _ _ _ _ _ _ _ _ _ _ _ _ _ _ _ _ _ ?k1 ?k2 ?k3 ?k4 ?k5 ?k6 ?k7 ?k8 ?_); (case k1 => k_asm); (case k2 => k_asm); (case k3 => k_asm); (case k4 => k_asm); (case k5 => k_asm); (case k6 => exact rfl); (case k7 => ktr_room); (case k8 => ktr_units); intro t9kk h9kk tk9kk F9kk N9kk; (try dsimp only); (try k_fold))
  k_with "exec For Name Name cons nil" => (k_here; (rename Fr _ _ _ _ => lF'kk); (refine' For_invVF lF'kk ?k1 ?k2 ?_; (case k1 => exact rfl); (case k2 => exact rfl)))
  revert hK
  k_fill
  intro hK
  refine wpAny_call ?_
  k_dflt cell_enter
  k_steps
  rename Fr _ _ _ _ => F9
  rename News _ _ _ _ => N9
  rename (∀ p : Addr × Obj, p ∈ news → p.fst < _) => hlt
  have hoff : ∀ q ∈ news, q.1 ≠ ledKey N9 := fun q hq => Nat.ne_of_lt (hlt q hq)
  have hvl : vsE.length = ks.length := hE.length
  refine iter_list (fun i m₁ nx => ∃ vs n, nx = (ledKey N9, listOf vs.toArray n) :: news ∧ StrsAre vs (shortF mark (ks.take i) ls) ∧ ∀ z, z ≠ Str.ofString "entry" → m₁ z = frMap F9 z) [ledKey N9]
    (by rfl) ⟨_, N9.get (.tail _ hGE), rfl, _, rfl⟩ (N9 _ (.tail _ hGE)).2.1 F9 N9 (fun b hb => by rw [List.mem_singleton.mp hb]; exact ⟨fun e => hoff _ hGE e.symm, Heap.lt_size (N9.get (.head _))⟩) ⟨[], 0, rfl, .nil, fun _ _ => rfl⟩ ?_ ?_
  · rintro i v m₁ news₁ h tk own hv - hown ⟨vs, n, rfl, ha, hmm⟩ F N
    obtain ⟨k, t, hk, rfl⟩ := strs_item hE i v hv
    have F := fr_same hmm F
    simp only [ledKey, frMap] at F N hown hmm hoff
    have hkm : k ∈ ks := List.mem_of_getElem? hk
    have hkl9 := (hks k hkm).1
    have hk0 := (hks k hkm).2
    have hstep := shortF_take (mark := mark) (ls := ls) hk
    have hvs : vs.length ≤ 1000 := by
      rw [ha.length]
      refine Nat.le_trans (List.length_filter_le _ _) ?_
      rw [List.length_take]; omega
    have hoff9 : ∀ q ∈ news ++ own, q.1 ≠ ledKey N9 := fun q hq => (List.mem_append.mp hq).elim (hoff q) fun hq => hown q hq _ (.head _)
    clear hmm
    simp only [List.cons_append, ledKey] at N hoff9
    clear hoff
    by_cases c0 : k ∈ ls
    · have d0 : decide (k ∈ ls) = true := decide_eq_true c0
      by_cases c1 : upF mark k ∈ ls
      · have d1 : decide (upF mark k ∈ ls) = true := decide_eq_true c1
        rw [d0, d1] at hstep
        simp only [Bool.not_true, Bool.and_false, Bool.false_eq_true, if_false, List.append_nil] at hstep
        rw [← hstep] at ha
        try k_fold
        k_steps
        exact InvEndN.intro (by k_asm) (by k_asm) ⟨vs, _, rfl, ha, fun z hz => if_neg hz⟩ rfl (fun q hq => List.mem_append_left own hq) (fun q hq => List.mem_append_right (_ :: news) hq)
      · have d1 : decide (upF mark k ∈ ls) = false := decide_eq_false c1
        rw [d0, d1] at hstep
        simp only [Bool.not_false, Bool.and_true, if_true] at hstep
        have ha2 : StrsAre (vs ++ [.str k t]) (shortF mark (ks.take (i + 1)) ls) := by rw [hstep]; exact kct_snoc ha
        try k_fold
        k_steps
        rename News _ _ _ _ => N8
        rw [List.push_toArray] at N8
        exact InvEndN.intro (by k_asm) (by k_asm) ⟨_, _, rfl, ha2, fun z hz => if_neg hz⟩ rfl (fun q hq => List.mem_append_left own hq) (fun q hq => List.mem_append_right (_ :: news) hq)
    · have d0 : decide (k ∈ ls) = false := decide_eq_false c0
      rw [d0] at hstep
      simp only [Bool.false_and, Bool.false_eq_true, if_false, List.append_nil] at hstep
      rw [← hstep] at ha
      try k_fold
      k_steps
      exact InvEndN.intro (by k_asm) (by k_asm) ⟨vs, _, rfl, ha, fun z hz => if_neg hz⟩ rfl (fun q hq => List.mem_append_left own hq) (fun q hq => List.mem_append_right (_ :: news) hq)
  · rintro m₁ news₁ h tk ⟨vs, n, rfl, ha, hmm⟩ F N
    have F := fr_out hmm F
    rw [List.take_of_length_le (by rw [hvl]; exact Nat.le_refl _)] at ha
    simp only [ledKey, frMap] at F N
    clear hoff hmm
    try k_fold
    k_steps
    exact hret _ _ _ _ _ ha (by k_asm) (by k_asm) hlt
end Mine
end

section
open PySem PySem.W PyProof.Rows PySem.Calls PyProof.V PySem.Spec
set_option Elab.async false
set_option maxRecDepth 100000
set_option maxHeartbeats 8000000
namespace Mine
open PyProof.Rows.LCg (lst)

theorem news_keep2 {h₀ h : Heap} {L : Addr} {a b c d e f : Addr × Obj} {r : List (Addr × Obj)} (N : News h₀ L h (a :: b :: c :: d :: e :: f :: r)) : News h₀ L h (a :: c :: r) := fun p hp => N p (by
  rcases List.mem_cons.mp hp with h | h
  · exact List.mem_cons.mpr (.inl h)
  · rcases List.mem_cons.mp h with h | h
    · exact .tail _ (.tail _ (List.mem_cons.mpr (.inl h)))
    · exact .tail _ (.tail _ (.tail _ (.tail _ (.tail _ (.tail _ h))))))
theorem mem_of {a : Addr × Obj} {l : List (Addr × Obj)} (h : a ∈ l) : List.Mem a l := h
noncomputable def leftF (ks as : List Str) : List Str := ((ks.zip as).filter fun p => p.2 == Str.ofString "1").map (·.1)
noncomputable def headsF (mark : Str) (lf : List Str) : List Str := lf.filter fun e => !decide (upF mark e ∈ lf)
noncomputable def heldF (mark : Str) (ks lf : List Str) : List Str := ks.filter fun e => decide (e ∈ lf) || decide (upF mark e ∈ lf)


theorem leftF_take {ks as : List Str} {i : Nat} {e q : Str} (h : ks[i]? = some e) (h2 : as[i]? = some q) : leftF (ks.take (i + 1)) (as.take (i + 1)) = leftF (ks.take i) (as.take i) ++ (if (q == Str.ofString "1") = true then [e] else []) := by
  have hi : i < ks.length := (List.getElem?_eq_some_iff.mp h).1
  have hi2 : i < as.length := (List.getElem?_eq_some_iff.mp h2).1
  unfold leftF
  rw [List.take_add_one, List.take_add_one, h, h2]
  have hl : (ks.take i).length = (as.take i).length := by rw [List.length_take, List.length_take]; omega
  rw [show (some e).toList = [e] from rfl, show (some q).toList = [q] from rfl, List.zip_append hl, List.filter_append, List.map_append]
  by_cases hq : (q == Str.ofString "1") = true
  · simp [hq]
  · simp [hq]
theorem eq_strs_same {prog : Program} {w : World} {A : Around} {E : Value → Shared → Prop} {s : Shared} {a b : Addr} {xs ys : List Value} {ns : List Str} {Q : Value → Shared → Prop}
    (ha : s.heap.IsList a xs.toArray) (hb : s.heap.IsList b ys.toArray) (hi : StrsAre xs ns) (hj : StrsAre ys ns) (h1 : OkStrs ns) (hu : A.units + 64 < cLine) (h : Q (.bool true) s) :
    wpAny (model prog w) A (compareOp .Eq (.ref a) (.ref b)) Q E s :=
  eq_strs ha hb hi hj h1 h1 hu (by rw [decide_eq_true rfl]; exact h)
set_option maxHeartbeats 600000 in
theorem spec_read (w : World) {loose mean mg mb} (news : List (Addr × Obj)) {GE GA : Addr} {vsE vsA : List Value} {nE nA : Nat} {ks as : List Str} (mark : Str) (tm : Tok) (hE : StrsAre vsE ks) (hA : StrsAre vsA as) (hGE : (GE, listOf vsE.toArray nE) ∈ news) (hGA : (GA, listOf vsA.toArray nA) ∈ news)
    (hm : mark.length = 1) (hks : ∀ e ∈ ks, e.length ≤ 1000 ∧ 0 ≤ Txt.rfind e mark) (hkl : ks.length ≤ 1000) (hal : as.length ≤ 1000) (hok : OkStrs ks) (hkas : as.length = ks.length) (hheld : heldF mark ks (leftF ks as) = leftF ks as) (hcnt : ((leftF ks as).length : Int) + countIn (.str (Str.ofString "0")) (as.map PyData.str) = ks.length)
    (dp un : Nat) (gd : Option (List Code)) (cn : Str) (cs : Scope) (a : Addr) (ccd : Value) (cl : List (Str × Addr)) (outer : List Env) (A₀ : Around) (base h₀ : Heap) (L : Addr) (m : Str → Option Value) (s : Shared) (Q E : Value → Shared → Prop)
    (hBl : Below A₀ base outer h₀) (hF : Fr h₀ L s.heap m) (hK : (heapK w.params).In h₀) (hN : News h₀ L s.heap news) (hT : Top hd.view_39 loose mean mg mb h₀) (hcs : cs.kind = .function)
    (hdp : dp + 20 < recursionLimit) (hun : un + 600 < cLine)
    (hret : ∀ T H vs n nt h' tk', StrsAre vs (headsF mark (leftF ks as)) → Fr h₀ L h' m → News h₀ L h' ((T, ({ cls := .type "tuple", data := .seq #[.ref H, .bool true] nt } : Obj)) :: (H, listOf vs.toArray n) :: news) → (∀ p ∈ news, p.1 < H) → H < T → Q (.ref T) { s with heap := h', toks := tk' }) :
    wpAny (model PySem.Challenge.rw_sn0121_01.row.prog w) (ktrTop dp un gd cn cs L a ccd cl outer) (call (.ref 128) [.ref GE, .ref GA, .str mark tm]) Q E s := by
  k_with_none
  k_with "own mem" => (first | (with_reducible assumption) | (refine mem_of ?_; with_reducible assumption) | exact List.mem_append_left _ (by with_reducible assumption))
  k_with "own all" => (assumption)
  k_with "own omega" => with_reducible (first | exact Nat.zero_le _ | exact q_le (by assumption) (by decide) | exact q_up (by assumption) (by decide) | exact q_2 (by assumption) (by decide) | exact q_3 (by assumption) (by decide) | exact q_0 (by assumption) | exact q_int (by assumption) (by decide) | exact q_lt (by assumption) (by decide) | fail)
  k_with "compareOp In str ref" => (k_here; k_dflt (refine in_list_strs (News.isList (by k_asm) (by k_mem)) (by assumption) ?_); (try rw [any_in]))
  k_with "compareOp NotIn str ref" => (k_here; k_dflt (refine notin_list_strs (News.isList (by k_asm) (by k_mem)) (by assumption) ?_); (try rw [any_in]))
  k_with "call ref" => (k_dflt (refine' spec_above _ _ _ _ _ _ (by assumption) (by assumption) (by assumption) _ _ _ _ _ _ _ _ _ _ _ _ _ _ _ _ _ ?k1 ?k2 ?k3 ?k4 ?k5 ?k6 ?k7 ?k8 ?_); (case k1 => k_asm); (case k2 => k_asm); (case k3 => k_asm); (case k4 => k_asm); (case k5 => k_asm); (case k6 => exact rfl); (case k7 => ktr_room); (case k8 => ktr_units); intro t9kk h9kk tk9kk F9kk N9kk; (try dsimp only); (try k_fold))
  k_with "eval ListComp" => (k_here; k_dflt (refine ListComp_G (by k_asm) (by with_unfolding_all rfl) (by decide) (by rfl) (by decide) ?_ (by intro _; rfl)))
  k_with "exec Assign cons ListComp" => (k_here; k_dflt (refine Assign_ListComp_G (by k_asm) (by rfl) (by with_unfolding_all rfl) (by with_unfolding_all rfl) (by decide) (by rfl) (by decide) (by rfl) (by rfl) ?_ (by intro _; rfl)))
  k_with "compareOp Eq str str" => (refine eq_known (by assumption) ?_)
  k_with "compareOp Eq ref ref" => (k_dflt (refine eq_strs_same (News.isList (by k_asm) (by k_mem)) (News.isList (by k_asm) (by k_mem)) (by assumption) (by assumption) (by assumption) (by ktr_units) ?_))
  k_with "call builtin:list.count" => (k_dflt (refine count_list_strs (News.isList (by k_asm) (by k_mem)) (by assumption) ?_))
  k_with "getMethod ref" => (k_dflt (refine' kl_method ?N ?m PySem.F.slot_list_count PySem.F.type_list_count ?_; (case N => k_asm); (case m => k_mem)))
  k_with "call builtin:len" => (k_dflt (refine len_strsA (News.isList (by k_asm) (by k_mem)) (by assumption) (by omega) ?_))
  revert hK
  k_fill
  intro hK
  refine wpAny_call ?_
  k_dflt (refine' code_defC ?k1 ?k2 ?k3 ?k4 ?k5 ?kA ?kF ?kK ?k6 ?k7 ?k8 ?k9 ?kB ?kD ?_ ?c2 ?c3 ?c4; (case kA => exact rfl); (case kF => exact rfl); (case kK => assumption); (case k1 => k_asm); (case k2 => k_asm); (case k3 => k_asm); (case k4 => k_asm); (case k5 => k_asm); (case k6 => k_is); (case k7 => k_is); (case k8 => ktr_room); (case k9 => first | exact BindsTo.of_eq rfl | exact binds_K (by k_in) rfl (by k_is) rfl rfl rfl); (case kB => exact rfl); (case kD => decide +kernel); (case c2 => exact rfl); (case c3 => exact rfl); (case c4 => exact rfl); k_whole; intro g' L' h' tk' cells' FG' F' N' Y' B' X' T' l1; (try k_lt l1); k_cells Y'; (try simp only [List.cons_append, List.nil_append] at N'); (try dsimp only); (try k_lift B'); (try k_fold))
  have hc1 : ∀ q ∈ news, q.1 ≠ L' + 1 := fun q hq => Nat.ne_of_lt (Nat.lt_of_lt_of_le (l1 q hq) (Nat.le_add_right _ _))
  have hc2 : ∀ q ∈ news, q.1 ≠ L' + 2 := fun q hq => Nat.ne_of_lt (Nat.lt_of_lt_of_le (l1 q hq) (Nat.le_add_right _ _))
  walk1
  refine wpAny_Assign_Name ?_ ?hs9
  case hs9 => exact rfl
  walk1
  walk1
  walk1
  walk1
  walk1
  walk1
  walk1
  walk1
  walk1
  rename Fr _ _ _ _ => F9
  rename News _ _ _ _ => N9
  have hvE : vsE.length = ks.length := hE.length
  have hvA : vsA.length = as.length := hA.length
  refine gat_zip (xs := vsE) (ys₀ := vsA) (fun d => d = s.drawn) (fun i ys nw => nw = ledAll N9 ∧ StrsAre ys (leftF (ks.take i) (as.take i))) [] (by rfl) (by rfl) (by rfl) (by rfl) (by decide) ⟨_, N9.get (.tail _ (.tail _ hGE)), rfl, _, rfl⟩ ⟨_, N9.get (.tail _ (.tail _ hGA)), rfl, _, rfl⟩ (N9 _ (.tail _ (.tail _ hGE))).2.1 (N9 _ (.tail _ (.tail _ hGA))).2.1 (by rw [sizeLine_eq]; omega) F9 N9 (fun b hb => nomatch hb) rfl ⟨rfl, .nil⟩ ?_ ?_
  · rintro i v u ys nw hv hu - ⟨hnw, hy⟩ s₁ X C oC m₂ E' ⟨hm1, hm2⟩ hk9 ho hc hX hC F N
    subst hnw
    obtain ⟨e, te, he, rfl⟩ := strs_item hE i v hv
    obtain ⟨q, tq, hq, rfl⟩ := strs_item hA i u hu
    simp only [ledAll, List.cons_append] at N
    have hstep := leftF_take he hq
    refine wpAny_tests_one ?_
    by_cases c1 : q = Str.ofString "1"
    · have e1 : (q == Str.ofString "1") = true := by rw [c1]; decide
      rw [e1] at hstep
      simp only [if_true] at hstep
      k_steps
      exact GEnd.same (by k_asm) (by k_asm) _ (by assumption) (fun p hp => .tail _ (List.mem_append_right (ledAll N9) hp)) (fun p hp => .tail _ (List.mem_append_left X hp)) rfl ⟨rfl, by rw [hstep]; first | exact kct_snoc hy | exact hy⟩
    · have e1 : (q == Str.ofString "1") = false := beq_no c1
      rw [e1] at hstep
      simp only [Bool.false_eq_true, if_false, List.append_nil] at hstep
      k_steps
      exact GEnd.same (by k_asm) (by k_asm) _ (by assumption) (fun p hp => .tail _ (List.mem_append_right (ledAll N9) hp)) (fun p hp => .tail _ (List.mem_append_left X hp)) rfl ⟨rfl, by rw [hstep]; first | exact kct_snoc hy | exact hy⟩
  · intro h dr ys nw hd9 ha9 hj9
    obtain ⟨hnw, hy⟩ := hj9
    subst hnw
    have hd9 : dr = s.drawn := hd9
    subst hd9
    rw [hvE, hvA, hkas, Nat.min_self, List.take_of_length_le (Nat.le_refl _), List.take_of_length_le (by rw [hkas]; exact Nat.le_refl _)] at hy
    unfold FinGE
    intro D hh tk FD ND offD
    simp only [ledAll] at ND offD
    (try k_lt offD)
    clear ha9 N9 F9
    try k_fold
    have hlm : ∀ e ∈ leftF ks as, e ∈ ks := by
      intro e he
      obtain ⟨p, hp, rfl⟩ := List.mem_map.mp he
      exact (List.of_mem_zip (List.mem_filter.mp hp).1).1
    have hlfl : (leftF ks as).length ≤ 1000 := by
      unfold leftF
      rw [List.length_map]
      refine Nat.le_trans (List.length_filter_le _ _) ?_
      rw [List.length_zip]
      omega
    have hysl : ys.length = (leftF ks as).length := hy.length
    have hokl : OkStrs (leftF ks as) := fun k hk => hok k (hlm k hk)
    generalize hlf : leftF ks as = lf at *
    walk1
    walk1
    walk1
    walk1
    walk1
    rename Fr _ _ _ _ => F9
    rename News _ _ _ _ => N9
    refine gat_list (vs := ys) (fun d => d = s.drawn) (fun i zs nw => nw = ledAll N9 ∧ StrsAre zs ((lf.take i).filter fun e => !decide (upF mark e ∈ lf))) [] (by rfl) (by rfl) (by rfl) ⟨_, N9.get (a := D) (by k_mem), rfl, _, rfl⟩ (N9 (D, lst ys) (by k_mem)).2.1 (by rw [sizeLine_eq]; omega) F9 N9 (fun b hb => nomatch hb) rfl ⟨rfl, .nil⟩ ?_ ?_
    · rintro i v zs nw hv - ⟨hnw, hz⟩ s₁ X C oC m₂ E' hm1 hk9 ho hc hX hC F N
      subst hnw
      obtain ⟨e, te, he, rfl⟩ := strs_item hy i v hv
      have hkm := hks e (hlm e (List.mem_of_getElem? he))
      have hl1 := hkm.1
      have hr1 := hkm.2
      simp only [ledAll, List.cons_append] at N
      have hstep := take_succ_filter (fun e => !decide (upF mark e ∈ lf)) lf i e he
      refine wpAny_tests_one ?_
      by_cases c1 : upF mark e ∈ lf
      · have e1 : decide (upF mark e ∈ lf) = true := decide_eq_true c1
        rw [e1] at hstep
        simp only [Bool.not_true, Bool.false_eq_true, if_false, List.append_nil] at hstep
        k_steps
        exact GEnd.same (by k_asm) (by k_asm) _ (by assumption) (fun p hp => .tail _ (List.mem_append_right (ledAll N9) hp)) (fun p hp => .tail _ (List.mem_append_left X hp)) rfl ⟨rfl, by rw [hstep]; first | exact kct_snoc hz | exact hz⟩
      · have e1 : decide (upF mark e ∈ lf) = false := decide_eq_false c1
        rw [e1] at hstep
        simp only [Bool.not_false, if_true] at hstep
        k_steps
        exact GEnd.same (by k_asm) (by k_asm) _ (by assumption) (fun p hp => .tail _ (List.mem_append_right (ledAll N9) hp)) (fun p hp => .tail _ (List.mem_append_left X hp)) rfl ⟨rfl, by rw [hstep]; first | exact kct_snoc hz | exact hz⟩
    · intro h2 dr ys2 nw hd9 ha9 hj9
      obtain ⟨hnw, hy2⟩ := hj9
      subst hnw
      have hd9 : dr = s.drawn := hd9
      subst hd9
      rw [hysl, List.take_of_length_le (Nat.le_refl _)] at hy2
      unfold FinGA
      intro D2 hh2 tk2 FD2 ND2 offD2
      simp only [ledAll] at ND2 offD2
      (try k_lt offD2)
      clear ha9 N9 F9
      try k_fold
      walk1
      walk1
      walk1
      rename Fr _ _ _ _ => F9
      rename News _ _ _ _ => N9
      refine gat_list (vs := vsE) (fun d => d = s.drawn) (fun i zs nw => nw = ledAll N9 ∧ StrsAre zs ((ks.take i).filter fun e => decide (e ∈ lf) || decide (upF mark e ∈ lf))) [] (by rfl) (by rfl) (by rfl) ⟨_, N9.get (.tail _ (.tail _ (.tail _ (.tail _ hGE)))), rfl, _, rfl⟩ (N9 _ (.tail _ (.tail _ (.tail _ (.tail _ hGE))))).2.1 (by rw [sizeLine_eq]; omega) F9 N9 (fun b hb => nomatch hb) rfl ⟨rfl, .nil⟩ ?_ ?_
      · rintro i v zs nw hv - ⟨hnw, hz⟩ s₁ X C oC m₂ E' hm1 hk9 ho hc hX hC F N
        subst hnw
        obtain ⟨e, te, he, rfl⟩ := strs_item hE i v hv
        have hkm := hks e (List.mem_of_getElem? he)
        have hl1 := hkm.1
        have hr1 := hkm.2
        simp only [ledAll, List.cons_append] at N
        have hstep := take_succ_filter (fun e => decide (e ∈ lf) || decide (upF mark e ∈ lf)) ks i e he
        refine wpAny_tests_one ?_
        by_cases c0 : e ∈ lf
        · have e0 : decide (e ∈ lf) = true := decide_eq_true c0
          rw [e0] at hstep
          simp only [Bool.true_or, if_true] at hstep
          k_steps
          exact GEnd.same (by k_asm) (by k_asm) _ (by assumption) (fun p hp => .tail _ (List.mem_append_right (ledAll N9) hp)) (fun p hp => .tail _ (List.mem_append_left X hp)) rfl ⟨rfl, by rw [hstep]; first | exact kct_snoc hz | exact hz⟩
        have e0 : decide (e ∈ lf) = false := decide_eq_false c0
        by_cases c1 : upF mark e ∈ lf
        · have e1 : decide (upF mark e ∈ lf) = true := decide_eq_true c1
          rw [e0, e1] at hstep
          simp only [Bool.or_true, if_true] at hstep
          k_steps
          exact GEnd.same (by k_asm) (by k_asm) _ (by assumption) (fun p hp => .tail _ (List.mem_append_right (ledAll N9) hp)) (fun p hp => .tail _ (List.mem_append_left X hp)) rfl ⟨rfl, by rw [hstep]; first | exact kct_snoc hz | exact hz⟩
        · have e1 : decide (upF mark e ∈ lf) = false := decide_eq_false c1
          rw [e0, e1] at hstep
          simp only [Bool.or_false, Bool.false_eq_true, if_false, List.append_nil] at hstep
          k_steps
          exact GEnd.same (by k_asm) (by k_asm) _ (by assumption) (fun p hp => .tail _ (List.mem_append_right (ledAll N9) hp)) (fun p hp => .tail _ (List.mem_append_left X hp)) rfl ⟨rfl, by rw [hstep]; first | exact kct_snoc hz | exact hz⟩
      · intro h3 dr ys3 nw hd9 ha9 hj9
        obtain ⟨hnw, hy3⟩ := hj9
        subst hnw
        have hd9 : dr = s.drawn := hd9
        subst hd9
        rw [hvE, List.take_of_length_le (Nat.le_refl _)] at hy3
        unfold FinGA
        intro D3 hh3 tk3 FD3 ND3 offD3
        simp only [ledAll] at ND3 offD3
        (try k_lt offD3)
        clear ha9 N9 F9
        have hy3 : StrsAre ys3 lf := hheld ▸ hy3
        clear hheld
        try k_fold
        iterate 11 walk1
        walk1
        walk1
        walk1
        walk1
        walk1
        walk1
        walk1
        walk1
        walk1
        walk1
        walk1
        walk1
        walk1
        walk1
        walk1
        walk1
        walk1
        walk1
        walk1
        walk1
        iterate 7 walk1
        k_steps
        rename News h₀ L _ _ => N8
        rw [show ((lf.length : Int) + PySem.Spec.countIn (PyData.str (Str.ofString "0")) (List.map PyData.str as) == (ks.length : Int)) = true from by rw [hcnt]; exact beq_self_eq_true _] at N8
        exact hret _ _ _ _ _ _ _ hy2 (by k_asm) (news_keep2 N8) (allLt_mem offD2.2.2.2) (And.left (And.right (by assumption)))
end Mine
end

section
set_option Elab.async false
set_option maxRecDepth 100000
set_option maxHeartbeats 4000000
namespace Mine
open PySem PySem.W PyProof.Rows PySem.Calls PySem.Spec
section
variable {prog : Program} {w : World} {A : Around} {E : Value → Shared → Prop} {s : Shared} {env : Env} {h₀ : Heap} {body : List Stmt} {Q : Flow → Shared → Prop}

/-- a for over the enumeration of a list: any state between the turns -/
theorem iter_enum {elts : List PySem.Expr} {kk : Nat} {pos : Pos} {lo : Addr} {vs : List Value} {m₀ : Str → Option Value} {news : List (Addr × Obj)} (J : Nat → (Str → Option Value) → List (Addr × Obj) → Prop) (safe : List Addr)
    (hh : A.handled = none) (hl : s.heap.IsList lo vs.toArray) (hlL : lo ≠ env.locals) (F : Fr h₀ env.locals s.heap m₀) (N : News h₀ env.locals s.heap news) (hsafe : ∀ b ∈ safe, b ≠ lo ∧ b < s.heap.objs.size) (hj : J 0 m₀ news)
    (turn : ∀ i v T t m₁ news₁ h tk own, vs[i]? = some v → news₁.map (·.1) = news.map (·.1) → OwnOff own safe → J i m₁ news₁ → IsTup h T #[.int (i : Int) t, v] → Fr h₀ env.locals h m₁ → News h₀ env.locals h (news₁ ++ own) →
      wpAny (model prog w) A (assign (.Tuple elts kk pos) env (.ref T)) (fun _ s₂ => wpAny (model prog w) A (execs body env) (InvPostN h₀ env.locals (J (i + 1)) own (news.map (·.1)) { s with heap := h, toks := tk } Q) E s₂) E { s with heap := h, toks := tk })
    (done : ∀ m₁ news₁ h tk, J vs.length m₁ news₁ → Fr h₀ env.locals h m₁ → News h₀ env.locals h news₁ → Q .next { s with heap := h, toks := tk }) :
    wpAny (model prog w) A (call (.type "enumerate") [.ref lo]) (fun xv s₁ => wpAny (model prog w) A (pyIter xv) (fun it s₂ => TurnsAt prog w A h₀ env (.Tuple elts kk pos) body Q E it s₂) E s₁) E s := by
  obtain ⟨ol, hol, _⟩ := id hl
  have hlt : lo < s.heap.objs.size := Heap.lt_size hol
  have hLs : env.locals < s.heap.objs.size := F.ns.lt
  refine call_enumerate_list hl fun h' hE hI hsz hk => ?_
  refine wpAny_pyIter_enum hE ?_
  have W := KTurns.ofWalksU (elts := elts) (k := kk) (pos := pos) (WalksT.enumerate (prog := prog) (w := w) hh (s.heap.objs.size + 1) s.heap.objs.size lo (Nat.succ_ne_self _) (ktu_ne 1 hlt) (Nat.ne_of_lt hlt) vs.toArray).toU
  have hs0 : vs.toArray.size = vs.length := List.size_toArray
  rw [hs0] at W
  let J' : Nat → (Str → Option Value) → List (Addr × Obj) → Prop := fun i m₁ news₁ => news₁.map (·.1) = news.map (·.1) ∧ J i m₁ news₁
  refine ⟨s.heap.objs.size + 1, _, _, vs.length, _, _, _, m₀, news, J', rfl, W, fun hb => ?_, fun b hb => ?_, fun p hp hb => ?_, ⟨⟨.none, hE⟩, hI, hl.at fun o e => hk lo o e⟩, F.keeps hk, N.grown hk, ⟨rfl, hj⟩, ?_, ?_⟩
  · have hb' : env.locals = s.heap.objs.size + 1 ∨ env.locals = s.heap.objs.size ∨ env.locals = lo := by simpa using hb
    rcases hb' with e | e | e
    · exact ktu_ne 1 hLs e
    · exact Nat.ne_of_lt hLs e
    · exact hlL e.symm
  · have hb' : b = s.heap.objs.size + 1 ∨ b = s.heap.objs.size := by simpa using hb
    rcases hb' with rfl | rfl
    · exact ktu_new F (Nat.le_add_right _ _)
    · exact ktu_new F (Nat.le_refl _)
  · have hb' : p.1 = s.heap.objs.size + 1 ∨ p.1 = s.heap.objs.size := by simpa using hb
    have hlp := Heap.lt_size (N p hp).1
    rcases hb' with e | e
    · exact ktu_ne 1 hlp e
    · exact Nat.ne_of_lt hlp e
  · rintro i v m₁ news₁ h₁ tk₁ own hin hP ⟨hadr, hJ⟩ hoff hown _ _ _ F₁ N₁
    obtain ⟨T, vals, rfl, ⟨t, x, hx, rfl⟩, hT⟩ := hP
    have N₂ : News h₀ env.locals h₁ (news₁ ++ own) := fun p hp => N₁ p ((List.mem_append.mp hp).elim (fun h => List.mem_append.mpr (.inr h)) fun h => List.mem_append.mpr (.inl h))
    refine wpAny_mono (turn i x T t m₁ news₁ h₁ tk₁ own (by simpa using hx) hadr (fun p hp b hb e => ?_) hJ hT F₁ N₂) (fun _ s₂ h₂ => wpAny_mono h₂ (fun f s₃ p => ?_) fun _ _ e => e) fun _ _ e => e
    · have z := hsafe b hb
      have hp' := hown p hp
      have hb' : p.1 = s.heap.objs.size + 1 ∨ p.1 = s.heap.objs.size ∨ p.1 = lo := by simpa using hp'
      rcases hb' with q | q | q
      · exact ktu_ne 1 z.2 (e ▸ q)
      · exact Nat.ne_of_lt z.2 (e ▸ q)
      · exact z.1 (e ▸ q)
    have fin : InvEndN h₀ env.locals (J (i + 1)) own (news.map (·.1)) { s with heap := h₁, toks := tk₁ } s₃ → LoopStepU h₀ env.locals [s.heap.objs.size + 1, s.heap.objs.size] own (J' (i + 1)) { s with heap := h₁, toks := tk₁ } .next s₃ := by
      rintro ⟨h', tk, m', news', nx, e, F', N', hn, ho, ha, hm⟩
      refine ⟨rfl, h', tk, m', nx, e, F', fun p hp => N' p ((List.mem_append.mp hp).elim (ho p) (hn p)), fun p hp hq => ?_, ha, hm⟩
      have h1 : p.1 ∈ nx.map (·.1) := List.mem_map.mpr ⟨p, hp, rfl⟩
      rw [ha, ← hadr] at h1
      obtain ⟨q, hq1, hq2⟩ := List.mem_map.mp h1
      exact hoff q hq1 (by rw [hq2]; exact hq)
    cases f with
    | ret v => exact .ret p
    | brk => exact .brk p
    | next => exact .next (fin p)
    | cont => exact .cont (fin p)
  · rintro h' tk m' news' F' N' _ ⟨_, hJ⟩
    exact done m' news' h' tk hJ F' N'
end
end Mine
end

section
set_option Elab.async false
set_option maxRecDepth 100000
set_option maxHeartbeats 4000000
namespace Mine
open PySem PySem.W PyProof.Rows PySem.Calls PySem.Spec
section
variable {prog : Program} {w : World} {A : Around} {E : Value → Shared → Prop} {s : Shared} {env : Env} {h₀ : Heap} {body : List Stmt} {Q : Flow → Shared → Prop}

theorem fr_at {x : Str} {L : Addr} {h : Heap} {m₀ m₁ : Str → Option Value} (hm : ∀ z, z ≠ x → m₁ z = m₀ z) (F : Fr h₀ L h m₁) : Fr h₀ L h (fun y => if y = x then m₁ x else m₀ y) := by
  have e : (fun y => if y = x then m₁ x else m₀ y) = m₁ := by
    funext y
    by_cases hy : y = x
    · rw [if_pos hy, hy]
    · rw [if_neg hy]; exact (hm y hy).symm
  rw [e]; exact F
/-- between the turns of the loop that sums the script up: a list of ints of its length, that begins with 4; the cell of `spot`; the name `x` -/
inductive SumSt (D A4 A3 A2 A1 : Addr) (o4 o3 o2 : Obj) (x : Str) (m₀ : Str → Option Value) (len : Nat) (m₁ : Str → Option Value) (nx : List (Addr × Obj)) : Prop
  | mk (vs : List Value) (ns : List Int) (n : Nat) (oS : Obj) (ov : Option Value) (h1 : nx = [(D, listOf vs.toArray n), (A4, o4), (A3, o3), (A2, o2), (A1, oS)]) (h2 : oS.data = .cell ov) (h3 : IntsAre vs ns) (h4 : ns.length = len) (h5 : ns[0]? = some 4) (h6 : ∀ z, z ≠ x → m₁ z = m₀ z) : SumSt D A4 A3 A2 A1 o4 o3 o2 x m₀ len m₁ nx

theorem iter_sums {elts : List PySem.Expr} {kk : Nat} {pos : Pos} {lo : Addr} {vs : List Value} {is : List Int} {m₀ : Str → Option Value} {D A4 A3 A2 A1 : Addr} {o4 o3 o2 o1 : Obj} {d1 d2 d3 : Addr × Obj} {ws : List Value} {ns₀ : List Int} {n₀ : Nat} {ov₀ : Option Value} (x : Str)
    (F : Fr h₀ env.locals s.heap m₀) (N : News h₀ env.locals s.heap [(D, listOf ws.toArray n₀), d1, d2, d3, (A4, o4), (A3, o3), (A2, o2), (A1, o1)])
    (hh : A.handled = none) (hl : s.heap.IsList lo vs.toArray) (hi : IntsAre vs is) (hlo : h₀.get? lo ≠ none) (hlL : lo ≠ env.locals) (hI : IntsAre ws ns₀) (h4 : ns₀[0]? = some 4) (ho : o1.data = .cell ov₀)
    (turn : ∀ i k tk0 T t vsD ns n oS ov a h tk own, is[i]? = some k → i < is.length → OwnOff own [D, A1] → oS.data = .cell ov → IntsAre vsD ns → ns.length = ns₀.length → ns[0]? = some 4 → IsTup h T #[.int (i : Int) t, .int k tk0] → Fr h₀ env.locals h (fun y => if y = x then a else m₀ y) → News h₀ env.locals h ((D, listOf vsD.toArray n) :: (A4, o4) :: (A3, o3) :: (A2, o2) :: (A1, oS) :: own) →
      wpAny (model prog w) A (assign (.Tuple elts kk pos) env (.ref T)) (fun _ s₂ => wpAny (model prog w) A (execs body env) (InvPostN h₀ env.locals (SumSt D A4 A3 A2 A1 o4 o3 o2 x m₀ ns₀.length) own [D, A4, A3, A2, A1] { s with heap := h, toks := tk } Q) E s₂) E { s with heap := h, toks := tk })
    (done : ∀ vsD ns n oS ov a h tk, oS.data = .cell ov → IntsAre vsD ns → ns.length = ns₀.length → ns[0]? = some 4 → Fr h₀ env.locals h (fun y => if y = x then a else m₀ y) → News h₀ env.locals h [(D, listOf vsD.toArray n), (A4, o4), (A3, o3), (A2, o2), (A1, oS)] → Q .next { s with heap := h, toks := tk }) :
    wpAny (model prog w) A (call (.type "enumerate") [.ref lo]) (fun xv s₁ => wpAny (model prog w) A (pyIter xv) (fun it s₂ => TurnsAt prog w A h₀ env (.Tuple elts kk pos) body Q E it s₂) E s₁) E s := by
  have N' : News h₀ env.locals s.heap [(D, listOf ws.toArray n₀), (A4, o4), (A3, o3), (A2, o2), (A1, o1)] := fun p hp => N p (by
    simp only [List.mem_cons, List.not_mem_nil, or_false] at hp ⊢
    rcases hp with h | h | h | h | h <;> simp [h])
  refine iter_enum (fun _ m₁ nx => SumSt D A4 A3 A2 A1 o4 o3 o2 x m₀ ns₀.length m₁ nx) [D, A1] hh hl hlL F N' (fun b hb => ?_) ⟨ws, ns₀, n₀, o1, ov₀, rfl, ho, hI, rfl, h4, fun _ _ => rfl⟩ ?_ ?_
  · have hb' : b = D ∨ b = A1 := by simpa using hb
    have key : ∀ q ∈ [(D, listOf ws.toArray n₀), (A4, o4), (A3, o3), (A2, o2), (A1, o1)], q.1 ≠ lo ∧ q.1 < s.heap.objs.size := fun q hq => ⟨fun e => hlo (e ▸ (N' q hq).2.2), Heap.lt_size (N' q hq).1⟩
    rcases hb' with rfl | rfl
    · exact key _ (.head _)
    · exact key _ (.tail _ (.tail _ (.tail _ (.tail _ (.head _)))))
  · rintro i v T t m₁ news₁ h tk own hv - hown ⟨vsD, ns, n, oS, ov, rfl, hS, hID, hlen, h4', hm⟩ hT F₁ N₁
    obtain ⟨k, tk0, hv0, hk⟩ := IntsAre.at hi i v hv
    subst hv0
    exact turn i k tk0 T t vsD ns n oS ov (m₁ x) h tk own hk (List.getElem?_eq_some_iff.mp hk).1 hown hS hID hlen h4' hT (fr_at hm F₁) N₁
  · rintro m₁ news₁ h tk ⟨vsD, ns, n, oS, ov, rfl, hS, hID, hlen, h4', hm⟩ F₁ N₁
    exact done vsD ns n oS ov (m₁ x) h tk hS hID hlen h4' (fr_at hm F₁) N₁
end
end Mine
end

section
open PySem PySem.W PyProof.Rows PySem.Calls PyProof.V PySem.Spec
set_option Elab.async false
set_option maxRecDepth 100000
set_option maxHeartbeats 8000000
namespace Mine
open PyProof.Rows.LCg (lst)
noncomputable def upd4 (led : List (Addr × Obj)) (x0 x1 x2 x3 : Obj) : List (Addr × Obj) :=
  match led with
  | (a0, _) :: (a1, _) :: (a2, _) :: (a3, _) :: r => (a0, x0) :: (a1, x1) :: (a2, x2) :: (a3, x3) :: r
  | l => l
noncomputable def key4 (led : List (Addr × Obj)) : List Addr :=
  match led with
  | (a0, _) :: (a1, _) :: (a2, _) :: (a3, _) :: _ => [a0, a1, a2, a3]
  | _ => []
noncomputable def pickS (ks : List Str) (n : Int) : Str := ks.getD ((n.fdiv 2).fmod 6).toNat (Str.ofString "")
noncomputable def someF (ks : List Str) (b : Int) (ns : List Int) : List Str := (ns.filter fun n => n.fmod 2 == b).map (pickS ks)
noncomputable def WR : List (Str × Str) := [(Str.ofString "", Str.ofString ""), (Str.ofString "", Str.ofString "/"), (Str.ofString "/aa/..", Str.ofString ""), (Str.ofString "", Str.ofString "/a/.."), (Str.ofString "/.", Str.ofString ""), (Str.ofString "", Str.ofString "//.")]
noncomputable def wrF (n : Int) : Str × Str := WR.getD (((n.fdiv 2).fdiv 6).fmod 6).toNat (Str.ofString "", Str.ofString "")
noncomputable def givenF (n : Int) : Str := (wrF n).1 ++ pickS (everyF (Str.ofString "/")) n ++ (wrF n).2
noncomputable def tailF (x : Str) : Str := Txt.slice x (some 1) none
inductive JB (ns : List Int) (led : List (Addr × Obj)) (m0 : Str → Option Value) (i : Nat) (m₁ : Str → Option Value) (nx : List (Addr × Obj)) : Prop
  | mk (v0 v1 v2 v3 : List Value) (n0 n1 n2 n3 : Nat) (h : nx = upd4 led (listOf (List.toArray v0) n0) (listOf (List.toArray v1) n1) (listOf (List.toArray v2) n2) (listOf (List.toArray v3) n3))
      (h3 : StrsAre v3 (someF (everyF (Str.ofString ".")) 0 (ns.take i))) (h1 : StrsAre v1 ((someF (everyF (Str.ofString ".")) 0 (ns.take i)).map tailF))
      (h2 : StrsAre v2 (someF (everyF (Str.ofString "/")) 1 (ns.take i))) (h0 : StrsAre v0 (((ns.take i).filter fun n => n.fmod 2 == 1).map givenF))
      (hm : ∀ z, z ∉ [Str.ofString "number", Str.ofString "sort_of", Str.ofString "pick", Str.ofString "ahead", Str.ofString "behind"] → m₁ z = m0 z) : JB ns led m0 i m₁ nx
theorem text_get {prog : Program} {w : World} {A : Around} {E : Value → Shared → Prop} {s : Shared} {h₀ : Heap} {L : Addr} {D : Addr} {vs : List Value} {ns : List Str} {n : Nat} {k : Int} {u : Tok} {news : List (Addr × Obj)} {Q : Value → Shared → Prop}
    (N : News h₀ L s.heap news) (hm : (D, listOf vs.toArray n) ∈ news) (hi : StrsAre vs ns) (h0 : 0 ≤ k) (h1 : k < ns.length) (hfit : k < 2 ^ 63) (hB : ∀ e ∈ ns, e.length ≤ 1000) (h : ∀ X t, ns.getD k.toNat (Str.ofString "") = X → X.length ≤ 1000 → Q (.str X t) s) :
    wpAny (model prog w) A (getItem (.ref D) (.int k u)) Q E s := by
  have hl : vs.length = ns.length := hi.length
  have hj : k.toNat < vs.length := by omega
  obtain ⟨e, te, he, hv⟩ := strs_item hi k.toNat vs[k.toNat] (List.getElem?_eq_getElem hj)
  refine wpAny_getItem_list (x := vs[k.toNat]) (PySem.IsL.isList (n := n) (N _ hm).1) h0 hfit (by simp) ?_
  rw [hv]
  have e1 : ns.getD k.toNat (Str.ofString "") = e := by rw [List.getD_eq_getElem?_getD, he]; rfl
  exact h e te e1 (hB e (List.mem_of_getElem? he))
theorem text_tail {prog : Program} {w : World} {A : Around} {E : Value → Shared → Prop} {s : Shared} {h₀ : Heap} {L : Addr} {D : Addr} {vs : List Value} {ns : List Str} {n : Nat} {k : Int} {u : Tok} {news : List (Addr × Obj)} {Q : Value → Shared → Prop} {value slice : PySem.Expr}
    (N : News h₀ L s.heap news) (hm : (D, listOf vs.toArray n) ∈ news) (hi : StrsAre vs ns) (h0 : 0 ≤ k) (h1 : k < ns.length) (hfit : k < 2 ^ 63) (hB : ∀ e ∈ ns, e.length ≤ 1000) (h : ∀ X t, ns.getD k.toNat (Str.ofString "") = X → X.length ≤ 1000 → Q (.str X t) s)
    (hs : subscripted slice false (.ref D) (.int k u) = operate [.ref D, .int k u] (getItem (.ref D) (.int k u))) :
    wpAny (model prog w) A (subscriptTail value slice (.ref D) (.int k u)) Q E s :=
  tail_any (PySem.IsL.isList (n := n) (N _ hm).1).typeIs slot_list_getitem.lookup (text_get N hm hi h0 h1 hfit hB h) hs
theorem fr_five {a b c d e : Str} {m₀ m₁ : Str → Option Value} (hm : ∀ z, z ∉ [a, b, c, d, e] → m₁ z = m₀ z) : m₁ = fun y => if y = a then m₁ a else if y = b then m₁ b else if y = c then m₁ c else if y = d then m₁ d else if y = e then m₁ e else m₀ y := by
  funext y
  by_cases ha : y = a
  · rw [if_pos ha, ha]
  rw [if_neg ha]
  by_cases hb : y = b
  · rw [if_pos hb, hb]
  rw [if_neg hb]
  by_cases hc : y = c
  · rw [if_pos hc, hc]
  rw [if_neg hc]
  by_cases hd : y = d
  · rw [if_pos hd, hd]
  rw [if_neg hd]
  by_cases he : y = e
  · rw [if_pos he, he]
  rw [if_neg he]
  exact hm y (by simp [ha, hb, hc, hd, he])
theorem fmod2 (k : Int) : k.fmod 2 = 0 ∨ k.fmod 2 = 1 := by
  have h0 : 0 ≤ k.fmod 2 := Int.fmod_nonneg_of_pos _ (by decide)
  have h1 : k.fmod 2 < 2 := Int.fmod_lt_of_pos _ (by decide)
  omega
theorem fmod6 (k : Int) : 0 ≤ k.fmod 6 ∧ k.fmod 6 < 6 := ⟨Int.fmod_nonneg_of_pos _ (by decide), Int.fmod_lt_of_pos _ (by decide)⟩
theorem everyF_len (mark : Str) : (everyF mark).length = 6 := rfl
theorem someF_len (ks : List Str) (b : Int) (ns : List Int) : (someF ks b ns).length ≤ ns.length := by unfold someF; rw [List.length_map]; exact List.length_filter_le _ _
theorem someF_take {ks : List Str} {b : Int} {ns : List Int} {i : Nat} {k : Int} (h : ns[i]? = some k) : someF ks b (ns.take (i + 1)) = someF ks b (ns.take i) ++ if (k.fmod 2 == b) = true then [pickS ks k] else [] := by
  unfold someF
  rw [List.take_add_one, h, List.filter_append, List.map_append]
  by_cases c : (k.fmod 2 == b) = true
  · simp [c]
  · simp [c]
theorem givF_take {b : Int} {ns : List Int} {i : Nat} {k : Int} (h : ns[i]? = some k) : ((ns.take (i + 1)).filter fun n => n.fmod 2 == b).map givenF = ((ns.take i).filter fun n => n.fmod 2 == b).map givenF ++ if (k.fmod 2 == b) = true then [givenF k] else [] := by
  rw [List.take_add_one, h, List.filter_append, List.map_append]
  by_cases c : (k.fmod 2 == b) = true
  · simp [c]
  · simp [c]
theorem getD_len {ks : List Str} {n k : Nat} (h : ∀ e ∈ ks, e.length ≤ n) : (ks.getD k (Str.ofString "")).length ≤ n := by
  rw [List.getD_eq_getElem?_getD]
  cases e : ks[k]? with
  | none => exact Nat.zero_le _
  | some x => exact h x (List.mem_of_getElem? e)
theorem news_drop2 {h₀ h : Heap} {L : Addr} {a b : Addr × Obj} {r : List (Addr × Obj)} (N : News h₀ L h (a :: b :: r)) : News h₀ L h r := fun p hp => N p (.tail _ (.tail _ hp))
theorem someF_yes {ks : List Str} {b : Int} {ns : List Int} {i : Nat} {k : Int} (h : ns[i]? = some k) (c : k.fmod 2 = b) : someF ks b (ns.take (i + 1)) = someF ks b (ns.take i) ++ [pickS ks k] := by
  rw [someF_take h, if_pos (by rw [c]; exact beq_self_eq_true b)]
theorem someF_no {ks : List Str} {b : Int} {ns : List Int} {i : Nat} {k : Int} (h : ns[i]? = some k) (c : k.fmod 2 ≠ b) : someF ks b (ns.take (i + 1)) = someF ks b (ns.take i) := by
  rw [someF_take h, if_neg (by simpa using c), List.append_nil]
theorem givF_yes {b : Int} {ns : List Int} {i : Nat} {k : Int} (h : ns[i]? = some k) (c : k.fmod 2 = b) : ((ns.take (i + 1)).filter fun n => n.fmod 2 == b).map givenF = ((ns.take i).filter fun n => n.fmod 2 == b).map givenF ++ [givenF k] := by
  rw [givF_take h, if_pos (by rw [c]; exact beq_self_eq_true b)]
theorem givF_no {b : Int} {ns : List Int} {i : Nat} {k : Int} (h : ns[i]? = some k) (c : k.fmod 2 ≠ b) : ((ns.take (i + 1)).filter fun n => n.fmod 2 == b).map givenF = ((ns.take i).filter fun n => n.fmod 2 == b).map givenF := by
  rw [givF_take h, if_neg (by simpa using c), List.append_nil]
theorem someF_zero {ns : List Int} {i : Nat} {k : Int} (h : ns[i]? = some k) (ks : List Str) (c : k.fmod 2 = 0) : someF ks 1 (ns.take (i + 1)) = someF ks 1 (ns.take i) := someF_no h (by rw [c]; decide)
theorem givF_zero {ns : List Int} {i : Nat} {k : Int} (h : ns[i]? = some k) (c : k.fmod 2 = 0) : ((ns.take (i + 1)).filter fun n => n.fmod 2 == 1).map givenF = ((ns.take i).filter fun n => n.fmod 2 == 1).map givenF := givF_no h (by rw [c]; decide)
theorem snoc_eq {vs : List Value} {ks : List Str} {x y : Str} {t : Tok} (h : StrsAre vs ks) (e : y = x) : StrsAre (vs ++ [.str x t]) (ks ++ [y]) := e ▸ kct_snoc h
theorem pair_tail {prog : Program} {w : World} {A : Around} {E : Value → Shared → Prop} {s : Shared} {h₀ : Heap} {L : Addr} {W : Addr} {items : Array Value} {n : Nat} {k : Int} {u : Tok} {news : List (Addr × Obj)} {Q : Value → Shared → Prop} {value slice : PySem.Expr}
    (N : News h₀ L s.heap news) (hm : (W, ({ cls := .type "tuple", data := .seq items n } : Obj)) ∈ news) (hz : items.size = 6) (h0 : 0 ≤ k) (h1 : k < 6)
    (hp : ∀ j, j < 6 → ∃ p x y t v, items[j]? = some (.ref p) ∧ (p, ({ cls := .type "tuple", data := .seq #[.str x t, .str y v] } : Obj)) ∈ news ∧ WR.getD j (Str.ofString "", Str.ofString "") = (x, y) ∧ x.length ≤ 100 ∧ y.length ≤ 100)
    (h : ∀ p x y t v, IsTup s.heap p #[.str x t, .str y v] → WR.getD k.toNat (Str.ofString "", Str.ofString "") = (x, y) → x.length ≤ 100 → y.length ≤ 100 → Q (.ref p) s)
    (hs : subscripted slice false (.ref W) (.int k u) = operate [.ref W, .int k u] (getItem (.ref W) (.int k u))) :
    wpAny (model prog w) A (subscriptTail value slice (.ref W) (.int k u)) Q E s := by
  obtain ⟨j, hj, rfl⟩ : ∃ j : Nat, j < 6 ∧ k = (j : Int) := ⟨k.toNat, by omega, by omega⟩
  obtain ⟨p, x, y, t, v, e1, e2, e3, e4, e5⟩ := hp j hj
  have hT := News.isTup N hm
  have hj6 : j < items.size := by rw [hz]; exact hj
  refine tail_any hT.typeIs slot_tuple_getitem.lookup (getItem_tuple hT (by omega) (by omega) (j := j) ?_ e1 ?_) hs
  · unfold seqIndex?
    simp
    omega
  · exact h p x y t v (News.isTup N e2) (by simpa using e3) e4 e5
theorem box4 {h₀ h : Heap} {L : Addr} {t1 a b t2 c d w w1 w2 w3 w4 w5 w6 t3 P M dr c4 c3 c2 c1 : Addr × Obj} (N : News h₀ L h [t1, a, b, t2, c, d, w, w1, w2, w3, w4, w5, w6, t3, P, M, dr, c4, c3, c2, c1])
    (ha : ∀ p ∈ [w, w1, w2, w3, w4, w5, w6, t3, P, M, dr, c4, c3, c2, c1], p.1 ≠ a.1) (hb : ∀ p ∈ [w, w1, w2, w3, w4, w5, w6, t3, P, M, dr, c4, c3, c2, c1], p.1 ≠ b.1) (hc : ∀ p ∈ [w, w1, w2, w3, w4, w5, w6, t3, P, M, dr, c4, c3, c2, c1], p.1 ≠ c.1) (hd : ∀ p ∈ [w, w1, w2, w3, w4, w5, w6, t3, P, M, dr, c4, c3, c2, c1], p.1 ≠ d.1) :
    ∃ R, News h₀ L h (a :: b :: c :: d :: R) ∧ (∀ p ∈ R, p.1 ≠ a.1) ∧ (∀ p ∈ R, p.1 ≠ b.1) ∧ (∀ p ∈ R, p.1 ≠ c.1) ∧ (∀ p ∈ R, p.1 ≠ d.1) ∧ w ∈ R ∧ w1 ∈ R ∧ w2 ∈ R ∧ w3 ∈ R ∧ w4 ∈ R ∧ w5 ∈ R ∧ w6 ∈ R ∧ P ∈ R ∧ M ∈ R ∧ dr ∈ R ∧ c4 ∈ R ∧ c3 ∈ R ∧ c2 ∈ R ∧ c1 ∈ R :=
  ⟨[w, w1, w2, w3, w4, w5, w6, t3, P, M, dr, c4, c3, c2, c1], fun p hp => N p (by
    rcases List.mem_cons.mp hp with h | hp
    · exact h ▸ .tail _ (.head _)
    rcases List.mem_cons.mp hp with h | hp
    · exact h ▸ .tail _ (.tail _ (.head _))
    exact .tail _ (.tail _ (.tail _ (.tail _ hp)))), ha, hb, hc, hd, .head _, .tail _ (.head _), .tail _ (.tail _ (.head _)), .tail _ (.tail _ (.tail _ (.head _))), .tail _ (.tail _ (.tail _ (.tail _ (.head _)))), .tail _ (.tail _ (.tail _ (.tail _ (.tail _ (.head _))))), .tail _ (.tail _ (.tail _ (.tail _ (.tail _ (.tail _ (.head _)))))), .tail _ (.tail _ (.tail _ (.tail _ (.tail _ (.tail _ (.tail _ (.tail _ (.head _)))))))), .tail _ (.tail _ (.tail _ (.tail _ (.tail _ (.tail _ (.tail _ (.tail _ (.tail _ (.head _))))))))), .tail _ (.tail _ (.tail _ (.tail _ (.tail _ (.tail _ (.tail _ (.tail _ (.tail _ (.tail _ (.head _)))))))))), .tail _ (.tail _ (.tail _ (.tail _ (.tail _ (.tail _ (.tail _ (.tail _ (.tail _ (.tail _ (.tail _ (.head _))))))))))), .tail _ (.tail _ (.tail _ (.tail _ (.tail _ (.tail _ (.tail _ (.tail _ (.tail _ (.tail _ (.tail _ (.tail _ (.head _)))))))))))), .tail _ (.tail _ (.tail _ (.tail _ (.tail _ (.tail _ (.tail _ (.tail _ (.tail _ (.tail _ (.tail _ (.tail _ (.tail _ (.head _))))))))))))), .tail _ (.tail _ (.tail _ (.tail _ (.tail _ (.tail _ (.tail _ (.tail _ (.tail _ (.tail _ (.tail _ (.tail _ (.tail _ (.tail _ (.head _))))))))))))))⟩
theorem off_app {R own : List (Addr × Obj)} {a : Addr} (h : ∀ p ∈ R, p.1 ≠ a) (ho : ∀ p ∈ own, p.1 ≠ a) : ∀ p ∈ R ++ own, p.1 ≠ a := fun p hp => (List.mem_append.mp hp).elim (h p) (ho p)
theorem box_out {h₀ h : Heap} {L : Addr} {a b c d P M c4 c3 c2 c1 : Addr × Obj} {R : List (Addr × Obj)} (N : News h₀ L h (a :: b :: c :: d :: R)) (mP : P ∈ R) (mM : M ∈ R) (m4 : c4 ∈ R) (m3 : c3 ∈ R) (m2 : c2 ∈ R) (m1 : c1 ∈ R) : News h₀ L h [a, b, c, d, P, M, c4, c3, c2, c1] := fun p hp => N p (by
  rcases List.mem_cons.mp hp with h | hp
  · exact h ▸ .head _
  rcases List.mem_cons.mp hp with h | hp
  · exact h ▸ .tail _ (.head _)
  rcases List.mem_cons.mp hp with h | hp
  · exact h ▸ .tail _ (.tail _ (.head _))
  rcases List.mem_cons.mp hp with h | hp
  · exact h ▸ .tail _ (.tail _ (.tail _ (.head _)))
  refine .tail _ (.tail _ (.tail _ (.tail _ ?_)))
  exact (List.forall_mem_cons.mpr ⟨mP, List.forall_mem_cons.mpr ⟨mM, List.forall_mem_cons.mpr ⟨m4, List.forall_mem_cons.mpr ⟨m3, List.forall_mem_cons.mpr ⟨m2, List.forall_mem_cons.mpr ⟨m1, fun _ h => nomatch h⟩⟩⟩⟩⟩⟩ : ∀ q ∈ [P, M, c4, c3, c2, c1], q ∈ R) p hp)

noncomputable def path1F (e : Str) : Str := Str.ofString "/q/" ++ tailF e ++ Str.ofString ".py"
theorem map_take {f : Str → Str} {ks : List Str} {i : Nat} {k : Str} (h : ks[i]? = some k) : (ks.take (i + 1)).map f = (ks.take i).map f ++ [f k] := by
  rw [List.take_add_one, h, List.map_append]; rfl
noncomputable def upd3 (led : List (Addr × Obj)) (x y z : Obj) : List (Addr × Obj) :=
  match led with
  | (D, _) :: a :: b :: c :: d :: P :: M :: c4 :: c3 :: (A2, _) :: (A1, _) :: [] => (D, x) :: a :: b :: c :: d :: P :: M :: c4 :: c3 :: (A2, y) :: (A1, z) :: []
  | l => l
noncomputable def key3 (led : List (Addr × Obj)) : List Addr :=
  match led with
  | (D, _) :: _ :: _ :: _ :: _ :: _ :: _ :: _ :: _ :: (A2, _) :: (A1, _) :: [] => [D, A2, A1]
  | _ => []
inductive JP (f : Nat → List Str) (led : List (Addr × Obj)) (m0 : Str → Option Value) (i : Nat) (m₁ : Str → Option Value) (nx : List (Addr × Obj)) : Prop
  | mk (ps : List Value) (n : Nat) (o2 o1 : Obj) (ov2 ov1 : Option Value) (h : nx = upd3 led (listOf (List.toArray ps) n) o2 o1) (h2 : o2.data = .cell ov2) (h1 : o1.data = .cell ov1) (hp : StrsAre ps (f i)) (hm : m₁ = m0) : JP f led m0 i m₁ nx
noncomputable def q1F (p : Str × Nat) : Str := p.1 ++ Str.ofString "/q" ++ Str.ofString (toString (p.2 : Int)) ++ Str.ofString ".py"
theorem zip_take {α : Type} {f : Str × Nat → α} {ks : List Str} {i : Nat} {k : Str} (h : ks[i]? = some k) : (ks.zipIdx.take (i + 1)).map f = (ks.zipIdx.take i).map f ++ [f (k, i)] := by
  have e : ks.zipIdx[i]? = some (k, i) := by rw [List.getElem?_zipIdx, h]; simp
  rw [List.take_add_one, e, List.map_append]; rfl
noncomputable def PS1 : List Str := (everyF (Str.ofString ".")).map path1F
noncomputable def PS2 (i : Nat) : List Str := PS1 ++ ((everyF (Str.ofString "/")).zipIdx.take i).map q1F
theorem PS2_len (i : Nat) : (PS2 i).length ≤ 12 := by
  unfold PS2
  rw [List.length_append, List.length_map, List.length_take, List.length_zipIdx, everyF_len]
  have : PS1.length = 6 := rfl
  omega
theorem PS2_next {i : Nat} {k : Str} (h : (everyF (Str.ofString "/"))[i]? = some k) : PS2 (i + 1) = PS2 i ++ [q1F (k, i)] := by
  unfold PS2
  rw [zip_take h, List.append_assoc]
noncomputable def m1F (p : Str × Nat) (e : Str) : Str := p.1 ++ Str.ofString "/" ++ tailF e ++ Str.ofString ".m" ++ Str.ofString (toString (p.2 : Int)) ++ Str.ofString ".py"
noncomputable def PS3 (i : Nat) : List Str := PS2 6 ++ ((everyF (Str.ofString "/")).zipIdx.take i).flatMap fun p => (everyF (Str.ofString ".")).map (m1F p)
theorem PS3_next {i : Nat} {k : Str} (h : (everyF (Str.ofString "/"))[i]? = some k) : PS3 (i + 1) = PS3 i ++ (everyF (Str.ofString ".")).map (m1F (k, i)) := by
  unfold PS3
  have e : (everyF (Str.ofString "/")).zipIdx[i]? = some (k, i) := by rw [List.getElem?_zipIdx, h]; simp
  rw [List.take_add_one, e, List.flatMap_append, ← List.append_assoc]
  simp
theorem PS3_len (i : Nat) : (PS3 i).length ≤ 48 := by
  unfold PS3
  rw [List.length_append, List.length_flatMap]
  have h1 := PS2_len 6
  have h2 : ∀ l : List (Str × Nat), (l.map fun p => ((everyF (Str.ofString ".")).map (m1F p)).length).sum = l.length * 6 := by
    intro l
    induction l with
    | nil => rfl
    | cons a l ih => rw [List.map_cons, List.sum_cons, ih, List.length_map, everyF_len, List.length_cons]; omega
  rw [h2, List.length_take, List.length_zipIdx, everyF_len]
  omega
theorem inplace_list {prog : Program} {w : World} {A : Around} {E : Value → Shared → Prop} {s : Shared} {h₀ : Heap} {L D b : Addr} {m : Str → Option Value} {its its2 : Array Value} {l : List Value} {n n2 : Nat} {news news' : List (Addr × Obj)} {Q : Value → Shared → Prop} (F : Fr h₀ L s.heap m) (N : News h₀ L s.heap news) (hb : (b, listOf its2 n2) ∈ news) (e : its.toList ++ its2.toList = l) (hne : its2.toList.length ≠ 0)
    (U : Upd D (listOf its n) (listOf l.toArray (n + 1)) news news') (hd : ¬(!its.isEmpty && Builtin.List.listTooLong (its.size + its2.size)) = true) (hz : its.toList.length ≤ sizeLine) (hz2 : its.size + its2.size ≤ sizeLine + 1)
    (h : ∀ h', Fr h₀ L h' m → News h₀ L h' news' → Q (.ref D) { s with heap := h' }) : wpAny (model prog w) A (inplaceOp .Add (.ref D) (.ref b)) Q E s := by
  obtain ⟨pre, post, rfl, rfl, a, c⟩ := U.split
  have z := N (D, listOf its n) (List.mem_append.mpr (.inr (.head _)))
  have hta : s.TypeIs (.ref D) "list" := ⟨_, z.1, rfl⟩
  have htb : s.TypeIs (.ref b) "list" := ⟨_, (N _ hb).1, rfl⟩
  unfold inplaceOp
  refine wpAny_holding ?_
  have hfi : fillsInplaceSlot (.type "list") "add" (Operator.Add == .Add) = pure false := by
    unfold fillsInplaceSlot
    show (typeLookup (.type "list") (dunderI "add") >>= fun fi => pure (fi.isSome && !isSeqSlot fi)) = pure false
    rw [PySem.F.slot_list_iadd.lookup, pure_bind, show ((some (Value.builtin "list.__iadd__")).isSome && !isSeqSlot (some (.builtin "list.__iadd__"))) = false from by decide +kernel]
  refine wpAny_bind (wpAny_typeOf hta (wpAny_bind (wpAny_of_eq hfi ?_)))
  show wpAny _ A (if false = true then _ else _) Q E s
  rw [if_neg Bool.false_ne_true]
  refine wpAny_bind (wpAny_binaryOp1_none (nm := "add") hta htb noFill_list_add ?_)
  refine wpAny_bind (wpAny_of_eq (PySem.seqSlot_of PySem.F.slot_list_iadd.lookup (by decide +kernel)) ?_)
  refine wpAny_bind (wpAny_rule ?_)
  refine call_meets PySem.F.slot_list_iadd hta PySem.F.entry_list_iadd (PySem.F.args_list_iadd_2 _ _) (PySem.AutoSeq1.list___iadd___list_list_0 D its n b its2 n2 hd (by simpa using hz) hz2) ⟨z.1, (N _ hb).1, h _ (F.change (Heap.SameBut.update ..) z.2.1 z.2.2) (kl_turn _ N a c ?_ ?_)⟩
  · subst e
    apply Array.toList_inj.mp
    simp
  · subst e
    simp at hne ⊢
    exact hne
end Mine
end

section
open PySem PySem.W PyProof.Rows PySem.Calls PyProof.V PySem.Spec
set_option Elab.async false
set_option maxRecDepth 100000
set_option maxHeartbeats 8000000
namespace Mine
open PyProof.Rows.LCg (lst)
theorem given_fin : ∀ i < 6, ∀ j < 6, (fun g : Str => (NormGood g ∧ normOut g = (everyF (Str.ofString "/")).getD i (Str.ofString ""))) ((WR.getD j (Str.ofString "", Str.ofString "")).1 ++ (everyF (Str.ofString "/")).getD i (Str.ofString "") ++ (WR.getD j (Str.ofString "", Str.ofString "")).2) := by
  unfold NormGood NormOk
  decide +kernel
theorem fmod6n (k : Int) : (k.fmod 6).toNat < 6 := by have := fmod6 k; omega
theorem given_good (n : Int) : NormGood (givenF n) := (given_fin _ (fmod6n _) _ (fmod6n _)).1
theorem given_out (n : Int) : normOut (givenF n) = pickS (everyF (Str.ofString "/")) n := (given_fin _ (fmod6n _) _ (fmod6n _)).2
noncomputable def MSF (ns : List Int) : List Str := (someF (everyF (Str.ofString ".")) 0 ns).map tailF
noncomputable def DSF (ns : List Int) : List Str := someF (everyF (Str.ofString "/")) 1 ns
theorem msf_ne {ns : List Int} (h : ns[0]? = some 4) : MSF ns ≠ [] := by
  have h4 : (4 : Int) ∈ ns := List.mem_of_getElem? h
  have h5 : (4 : Int) ∈ ns.filter fun n => n.fmod 2 == 0 := List.mem_filter.mpr ⟨h4, by decide⟩
  have h6 : tailF (pickS (everyF (Str.ofString ".")) 4) ∈ MSF ns := List.mem_map.mpr ⟨_, List.mem_map.mpr ⟨_, h5, rfl⟩, rfl⟩
  intro e
  rw [e] at h6
  exact absurd h6 List.not_mem_nil
theorem dsf_out (ns : List Int) : ((ns.filter fun n => n.fmod 2 == 1).map givenF).map normOut = DSF ns := by
  unfold DSF someF
  rw [List.map_map]
  exact List.map_congr_left fun n _ => given_out n
theorem news_giv {h₀ h : Heap} {L : Addr} {a b c d e P M c4 c3 c2 c1 : Addr × Obj} (N : News h₀ L h [e, a, b, c, d, P, M, c4, c3, c2, c1]) : News h₀ L h (b :: a :: [e, P, M, c, d, c4, c3, c2, c1]) := fun p hp => N p (by
  simp only [List.mem_cons, List.not_mem_nil, or_false] at hp ⊢
  rcases hp with h | h | h | h | h | h | h | h | h | h | h <;> simp [h])
noncomputable def PathOk (p : Str) : Prop := p.length ≤ 1000 ∧ (baseF p).length ≤ 1000 ∧ Txt.rfind (baseF p) (Str.ofString "/") = -1 ∧ 0 < Txt.rfind (baseF p) (Str.ofString ".") ∧ Txt.rfind (baseF p) (Str.ofString ".") ≤ 1000 ∧ Txt.slice (baseF p) (some (Txt.rfind (baseF p) (Str.ofString "/") + 1)) (some (Txt.rfind (baseF p) (Str.ofString "/") + 1 + 1)) ≠ Str.ofString "."
theorem PathOk.a1 {p : Str} (h : PathOk p) : p.length ≤ 1000 := h.1
theorem PathOk.a2 {p : Str} (h : PathOk p) : (baseF p).length ≤ 1000 := h.2.1
theorem PathOk.a3 {p : Str} (h : PathOk p) : Txt.rfind (baseF p) (Str.ofString "/") = -1 := h.2.2.1
theorem PathOk.a4 {p : Str} (h : PathOk p) : 0 < Txt.rfind (baseF p) (Str.ofString ".") := h.2.2.2.1
theorem PathOk.a5 {p : Str} (h : PathOk p) : Txt.rfind (baseF p) (Str.ofString ".") ≤ 1000 := h.2.2.2.2.1
theorem PathOk.a6 {p : Str} (h : PathOk p) : Txt.slice (baseF p) (some (Txt.rfind (baseF p) (Str.ofString "/") + 1)) (some (Txt.rfind (baseF p) (Str.ofString "/") + 1 + 1)) ≠ Str.ofString "." := h.2.2.2.2.2
noncomputable def modF (p : Str) : Str := Txt.slice (baseF p) none (some (Txt.rfind (baseF p) (Str.ofString ".")))
noncomputable def PSA : List Str := PS3 6
theorem news_rot {h₀ h : Heap} {L : Addr} {e a b c d f : Addr × Obj} {r : List (Addr × Obj)} (N : News h₀ L h (e :: a :: b :: c :: d :: f :: r)) : News h₀ L h (a :: b :: c :: d :: f :: e :: r) := fun p hp => N p (by
  simp only [List.mem_cons] at hp ⊢
  rcases hp with h | h | h | h | h | h | h <;> simp [h])

theorem paths_ok : ∀ p ∈ PSA, PathOk p := by
  unfold PathOk
  decide +kernel
theorem PSA_len : PSA.length = 48 := rfl
end Mine
end

section
open PySem PySem.W PyProof.Rows PySem.Calls PyProof.V PySem.Spec
set_option Elab.async false
set_option maxRecDepth 100000
set_option maxHeartbeats 8000000
namespace Mine
open PyProof.Rows.LCg (lst)
noncomputable def ansB (ms ds : List Str) (p : Str) : Bool := decide (modF p ∈ ms) || ms.any (fun k => Txt.startswith (modF p) (k ++ Str.ofString ".")) || ds.any (fun d => Txt.startswith p (d ++ Str.ofString "/"))
noncomputable def ansF (ms ds : List Str) (p : Str) : Int := if ansB ms ds p = true then 1 else 0
noncomputable def ansT (ms ds : List Str) (p : Str) : Str := Str.ofString (toString (ansF ms ds p))
noncomputable def memoF (ms ds : List Str) (i : Nat) : List (Str × Int) := (PSA.take i).foldl (fun c p => kdpPut c (modF p) (ansF ms ds p)) [(Str.ofString "<string>", 1)]
theorem memo_next {ms ds : List Str} {i : Nat} {p : Str} (h : PSA[i]? = some p) : memoF ms ds (i + 1) = kdpPut (memoF ms ds i) (modF p) (ansF ms ds p) := by
  unfold memoF
  rw [List.take_add_one, h, List.foldl_append]; rfl
noncomputable def setG (led : List (Addr × Obj)) (o : Obj) : List (Addr × Obj) := match led with | (G, _) :: r => (G, o) :: r | l => l
noncomputable def keyG (led : List (Addr × Obj)) : List Addr := match led with | (G, _) :: _ => [G] | _ => []
theorem news_unrot {h₀ h : Heap} {L : Addr} {e a b c d f : Addr × Obj} {r : List (Addr × Obj)} (N : News h₀ L h (a :: b :: c :: d :: f :: e :: r)) : News h₀ L h (e :: a :: b :: c :: d :: f :: r) := fun p hp => N p (by
  simp only [List.mem_cons] at hp ⊢
  rcases hp with h | h | h | h | h | h | h <;> simp [h])
theorem ans_one {ms ds : List Str} {p : Str} (h : modF p ∈ ms ∨ (∃ k, k ∈ ms ∧ Txt.startswith (modF p) (k ++ Str.ofString ".") = true) ∨ ∃ d, d ∈ ds ∧ Txt.startswith p (d ++ Str.ofString "/") = true) : ansF ms ds p = 1 := by
  unfold ansF ansB
  refine if_pos ?_
  simp only [Bool.or_eq_true, decide_eq_true_eq, List.any_eq_true]
  rcases h with h | h | h
  · exact .inl (.inl h)
  · exact .inl (.inr h)
  · exact .inr h
theorem ans_zero {ms ds : List Str} {p : Str} (h1 : modF p ∉ ms) (h2 : ∀ k, k ∈ ms → ¬ Txt.startswith (modF p) (k ++ Str.ofString ".") = true) (h3 : ∀ d, d ∈ ds → ¬ Txt.startswith p (d ++ Str.ofString "/") = true) : ansF ms ds p = 0 := by
  unfold ansF ansB
  refine if_neg ?_
  simp only [Bool.or_eq_true, decide_eq_true_eq, List.any_eq_true]
  rintro ((h | ⟨k, hk, h⟩) | ⟨d, hd, h⟩)
  · exact h1 h
  · exact h2 k hk h
  · exact h3 d hd h

theorem names_nodup : (Str.ofString "<string>" :: PSA.map modF).Nodup := by decide +kernel
theorem put_new {c : List (Str × Int)} {k : Str} (v : Int) (h : k ∉ c.map (·.1)) : kdpPut c k v = c ++ [(k, v)] := by
  unfold kdpPut
  refine if_neg ?_
  intro e
  obtain ⟨p, hp, hk⟩ := List.any_eq_true.mp e
  exact h (List.mem_map.mpr ⟨p, hp, of_decide_eq_true hk⟩)
theorem fold_put {α : Type} (f : α → Str) (g : α → Int) : ∀ (l : List α) (c : List (Str × Int)), (c.map (·.1) ++ l.map f).Nodup → l.foldl (fun c p => kdpPut c (f p) (g p)) c = c ++ l.map fun p => (f p, g p)
  | [], c, _ => by simp
  | a :: l, c, h => by
    have ha : f a ∉ c.map (·.1) := fun hm => by
      rw [List.map_cons] at h
      exact (List.nodup_append.mp h).2.2 _ hm _ (List.mem_cons_self ..) rfl
    rw [List.foldl_cons, put_new _ ha, fold_put f g l, List.map_cons, List.append_assoc]
    · rfl
    · rw [List.map_append, List.append_assoc]
      exact h
theorem memo_eq (ms ds : List Str) (i : Nat) : memoF ms ds i = (Str.ofString "<string>", 1) :: (PSA.take i).map fun p => (modF p, ansF ms ds p) := by
  unfold memoF
  rw [fold_put modF (ansF ms ds)]
  · rfl
  · refine List.Nodup.sublist (l₂ := Str.ofString "<string>" :: PSA.map modF) ?_ names_nodup
    exact List.Sublist.cons_cons _ ((List.take_sublist i PSA).map modF)
theorem memo_new {ms ds : List Str} {i : Nat} {p : Str} (h : PSA[i]? = some p) : kdpHas (memoF ms ds i) (modF p) = false := by
  rw [memo_eq]
  have hn := names_nodup
  have hi : i < PSA.length := (List.getElem?_eq_some_iff.mp h).1
  have hp : PSA[i] = p := (List.getElem?_eq_some_iff.mp h).2
  have hsub : (Str.ofString "<string>" :: ((PSA.take i).map modF ++ [modF p])).Nodup := by
    refine List.Nodup.sublist ?_ hn
    refine List.Sublist.cons_cons _ ?_
    have e : (PSA.take i).map modF ++ [modF p] = (PSA.take (i + 1)).map modF := by rw [List.take_add_one, h, List.map_append]; rfl
    rw [e]
    exact (List.take_sublist _ PSA).map modF
  have hnot : modF p ∉ Str.ofString "<string>" :: (PSA.take i).map modF := by
    rw [← List.cons_append] at hsub
    intro hm
    exact (List.nodup_append.mp hsub).2.2 _ hm _ (List.mem_singleton.mpr rfl) rfl
  unfold kdpHas
  rw [Bool.eq_false_iff]
  intro e
  obtain ⟨q, hq, hk⟩ := List.any_eq_true.mp e
  have hk : q.1 = modF p := of_decide_eq_true hk
  refine hnot ?_
  rw [← hk]
  rcases List.mem_cons.mp hq with rfl | hq
  · exact List.mem_cons_self ..
  · obtain ⟨r, hr, rfl⟩ := List.mem_map.mp hq
    exact List.mem_cons_of_mem _ (List.mem_map.mpr ⟨r, hr, rfl⟩)
theorem memo_len (ms ds : List Str) (i : Nat) : (memoF ms ds i).length ≤ 1000 := by
  rw [memo_eq, List.length_cons, List.length_map, List.length_take, PSA_len]
  omega
theorem modF_len {p : Str} (h : p ∈ PSA) : (modF p).length ≤ 1000 := (by decide +kernel : ∀ p ∈ PSA, (modF p).length ≤ 1000) p h
theorem pick_mem (ks : List Str) (hk : ks.length = 6) (n : Int) : pickS ks n ∈ ks := by
  unfold pickS
  rw [List.getD_eq_getElem?_getD, List.getElem?_eq_getElem (by rw [hk]; exact fmod6n _)]
  exact List.getElem_mem _
theorem someF_sub {ks : List Str} (hk : ks.length = 6) (b : Int) (ns : List Int) : ∀ x ∈ someF ks b ns, x ∈ ks := by
  intro x hx
  obtain ⟨n, _, rfl⟩ := List.mem_map.mp hx
  exact pick_mem ks hk n
theorem MSF_len (ns : List Int) : ∀ k ∈ MSF ns, k.length ≤ 1000 := by
  intro k hk
  obtain ⟨e, he, rfl⟩ := List.mem_map.mp hk
  exact (by decide +kernel : ∀ e ∈ everyF (Str.ofString "."), (tailF e).length ≤ 1000) e (someF_sub rfl _ _ e he)
theorem DSF_len (ns : List Int) : ∀ k ∈ DSF ns, k.length ≤ 1000 := by
  intro k hk
  exact (by decide +kernel : ∀ e ∈ everyF (Str.ofString "/"), e.length ≤ 1000) k (someF_sub rfl _ _ k hk)
end Mine
end

section
open PySem PySem.W PyProof.Rows PySem.Calls PyProof.V PySem.Spec
set_option Elab.async false
set_option maxRecDepth 100000
set_option maxHeartbeats 8000000
namespace Mine
open PyProof.Rows.LCg (lst)
structure Kept (P : Prop) : Prop where
  out : P
theorem strs_rev : ∀ {vs : List Value} {ks : List Str}, StrsAre vs ks → StrsAre vs.reverse ks.reverse
  | _, _, .nil => .nil
  | _, _, .cons z u r => by
    rw [List.reverse_cons, List.reverse_cons]
    exact strs_app (strs_rev r) (.cons z u .nil)
theorem strs_drop : ∀ {vs : List Value} {ks : List Str} (n : Nat), StrsAre vs ks → StrsAre (vs.drop n) (ks.drop n)
  | _, _, 0, h => h
  | _, _, _ + 1, .nil => .nil
  | _, _, n + 1, .cons _ _ r => strs_drop n r
theorem strs_take : ∀ {vs : List Value} {ks : List Str} (n : Nat), StrsAre vs ks → StrsAre (vs.take n) (ks.take n)
  | _, _, 0, _ => .nil
  | _, _, _ + 1, .nil => .nil
  | _, _, n + 1, .cons z u r => .cons z u (strs_take n r)
section
variable {prog : Program} {w : World} {A : Around} {E : Value → Shared → Prop} {s : Shared} {h₀ : Heap} {L l : Addr} {m : Str → Option Value} {news : List (Addr × Obj)} {value slice : PySem.Expr} {vs : List Value} {n : Nat} {ns : List Str} {vk vl vu : Value} {lo hi : Option Int} {ops : List Value} {Q : Value → Shared → Prop}
theorem rev_strs (F : Fr h₀ L s.heap m) (N : News h₀ L s.heap news) (hm : (l, listOf vs.toArray n) ∈ news) (pk : IsPart vk (some (-1))) (hi : StrsAre vs ns)
    (h : ∀ D ws h', Fr h₀ L h' m → News h₀ L h' ((D, listOf (List.toArray ws) 0) :: news) → (∀ p ∈ news, p.1 < D) → StrsAre ws ns.reverse → Q (.ref D) { s with heap := h' })
    (hs : subscripted slice false (.ref l) (.ref s.heap.objs.size) = operate ops (getItem (.ref l) (.ref s.heap.objs.size))) (ht : ∀ r, letTemporaryGo value (.ref l) r = pure ()) (hz : ns.length ≤ 1000) :
    wpAny (model prog w) A (subscriptTail value slice (.ref l) (.ref s.heap.objs.size)) Q E { s with heap := s.heap.push { cls := .type "slice", data := .fields #[.none, .none, vk] } } :=
  krv_lit (its := vs.toArray) (zs := vs.reverse) F N (News.isList N hm) pk rfl (fun D h' F' N' l1 => h D vs.reverse h' F' N' l1 (strs_rev hi)) hs ht (by rw [List.size_toArray, hi.length, sizeLine_eq]; omega)
noncomputable def partL {α : Type} (l : List α) (lo hi : Option Int) : List α := (l.drop (kms_lo lo l.length)).take (kms_hi hi l.length - kms_lo lo l.length)
theorem part_strs (F : Fr h₀ L s.heap m) (N : News h₀ L s.heap news) (hm : (l, listOf vs.toArray n) ∈ news) (pl : IsPart vl lo) (pu : IsPart vu hi) (hv : StrsAre vs ns)
    (h : ∀ D ws h', Fr h₀ L h' m → News h₀ L h' ((D, listOf (List.toArray ws) 0) :: news) → (∀ p ∈ news, p.1 < D) → StrsAre ws (partL ns lo hi) → Q (.ref D) { s with heap := h' })
    (hs : subscripted slice false (.ref l) (.ref s.heap.objs.size) = operate [.ref s.heap.objs.size, .ref l] (getItem (.ref l) (.ref s.heap.objs.size))) (ht : ∀ r, letTemporaryGo value (.ref l) r = pure ()) (hz : ns.length ≤ 1000) :
    wpAny (model prog w) A (subscriptTail value slice (.ref l) (.ref s.heap.objs.size)) Q E { s with heap := s.heap.push { cls := .type "slice", data := .fields #[vl, vu, .none] } } :=
  kms_slice_lit (its := vs.toArray) (zs := kms_pick vs lo hi) F N (News.isList N hm) pl pu rfl (fun D h' F' N' l1 => h D _ h' F' N' l1 (by
    have e : vs.length = ns.length := hv.length
    unfold kms_pick partL
    rw [e]
    exact strs_take _ (strs_drop _ hv))) hs ht (by rw [List.size_toArray, hv.length, sizeLine_eq]; omega)
end
theorem news_rot2 {h₀ h : Heap} {L : Addr} {e e2 a b c d f : Addr × Obj} {r : List (Addr × Obj)} (N : News h₀ L h (e :: e2 :: a :: b :: c :: d :: f :: r)) : News h₀ L h (a :: b :: c :: d :: f :: e :: e2 :: r) := fun p hp => N p (by
  simp only [List.mem_cons] at hp ⊢
  rcases hp with h | h | h | h | h | h | h | h <;> simp [h])
noncomputable def agnT (c : List (Str × Int)) (n : Str) : Str := Str.ofString (toString (kdpLook c n 0))
noncomputable abbrev MODS : List Str := everyF (Str.ofString ".")
noncomputable abbrev PLACES : List Str := everyF (Str.ofString "/")
noncomputable def maxT (a o : Str) : Str := if a = Str.ofString "1" ∨ o = Str.ofString "1" then Str.ofString "1" else Str.ofString "0"
structure PlainLaw (ns : List Int) (A D R : List Str) : Prop where
  la : A.length = 6
  ld : D.length = 6
  ha : heldF (Str.ofString ".") MODS (leftF MODS A) = leftF MODS A
  hd : heldF (Str.ofString "/") PLACES (leftF PLACES D) = leftF PLACES D
  ca : ((leftF MODS A).length : Int) + countIn (.str (Str.ofString "0")) (A.map PyData.str) = MODS.length
  cd : ((leftF PLACES D).length : Int) + countIn (.str (Str.ofString "0")) (D.map PyData.str) = PLACES.length
  hr : R = D.flatMap fun o => A.map fun a => maxT a o
  sa : headsF (Str.ofString ".") (leftF MODS A) = shortF (Str.ofString ".") MODS (someF MODS 0 ns)
  sd : headsF (Str.ofString "/") (leftF PLACES D) = shortF (Str.ofString "/") PLACES (someF PLACES 1 ns)
  va : ∀ x ∈ A, x = Str.ofString "0" ∨ x = Str.ofString "1"
  vd : ∀ x ∈ D, x = Str.ofString "0" ∨ x = Str.ofString "1"

theorem memo_has {ms ds : List Str} : ∀ n ∈ PSA.map modF, kdpHas (memoF ms ds PSA.length) n = true := by
  intro n hn
  obtain ⟨p, hp, rfl⟩ := List.mem_map.mp hn
  rw [memo_eq, List.take_of_length_le (Nat.le_refl _)]
  exact List.any_eq_true.mpr ⟨(modF p, ansF ms ds p), List.mem_cons_of_mem _ (List.mem_map.mpr ⟨p, hp, rfl⟩), decide_eq_true rfl⟩
theorem find_key {α : Type} (f : α → Str) (g : α → Int) : ∀ (l : List α) (p : α), (l.map f).Nodup → p ∈ l → (l.map fun p => (f p, g p)).find? (fun q => decide (q.1 = f p)) = some (f p, g p)
  | a :: l, p, hn, hp => by
    rw [List.map_cons, List.find?_cons]
    by_cases c : f a = f p
    · have e : a = p := by
        rcases List.mem_cons.mp hp with h | h
        · exact h.symm
        · rw [List.map_cons] at hn
          exact absurd (c ▸ List.mem_map.mpr ⟨p, h, rfl⟩) (List.nodup_cons.mp hn).1
      subst e
      simp
    · rw [show decide ((f a, g a).1 = f p) = false from decide_eq_false c]
      rw [List.map_cons] at hn
      refine find_key f g l p (List.nodup_cons.mp hn).2 ?_
      rcases List.mem_cons.mp hp with h | h
      · exact absurd (h ▸ rfl) c
      · exact h
theorem look_eq (ms ds : List Str) {p : Str} (hp : p ∈ PSA) : kdpLook (memoF ms ds PSA.length) (modF p) 0 = ansF ms ds p := by
  rw [memo_eq, List.take_of_length_le (Nat.le_refl _)]
  unfold kdpLook
  have hn := names_nodup
  have h1 : ¬ (Str.ofString "<string>" = modF p) := fun e => (List.nodup_cons.mp hn).1 (e ▸ List.mem_map.mpr ⟨p, hp, rfl⟩)
  rw [List.find?_cons, show decide (((Str.ofString "<string>", (1 : Int)) : Str × Int).1 = modF p) = false from decide_eq_false h1]
  rw [find_key modF (ansF ms ds) PSA p (List.nodup_cons.mp hn).2 hp]
  rfl
theorem again_eq (ms ds : List Str) : ((PSA.map modF).reverse.map (agnT (memoF ms ds PSA.length))).reverse = PSA.map (ansT ms ds) := by
  rw [← List.map_reverse, List.reverse_reverse, List.map_map]
  refine List.map_congr_left fun p hp => ?_
  show agnT _ (modF p) = _
  unfold agnT ansT
  rw [look_eq ms ds hp]
theorem memo_01 {ms ds : List Str} : ∀ n ∈ PSA.map modF, kdpLook (memoF ms ds PSA.length) n 0 = 0 ∨ kdpLook (memoF ms ds PSA.length) n 0 = 1 := by
  intro n hn
  obtain ⟨p, hp, rfl⟩ := List.mem_map.mp hn
  rw [look_eq ms ds hp]
  unfold ansF
  split
  · exact .inr rfl
  · exact .inl rfl
theorem txt_one : Str.ofString (toString (1 : Int)) = Str.ofString "1" := by decide +kernel
theorem txt_zero : Str.ofString (toString (0 : Int)) = Str.ofString "0" := by decide +kernel
noncomputable def tx (b : Bool) : Str := if b = true then Str.ofString "1" else Str.ofString "0"
theorem ansT_tx (ms ds : List Str) (p : Str) : ansT ms ds p = tx (ansB ms ds p) := by
  unfold ansT ansF tx
  by_cases c : ansB ms ds p = true
  · rw [if_pos c, if_pos c, txt_one]
  · rw [if_neg c, if_neg c, txt_zero]
theorem ans_ok (ms ds : List Str) : OkStrs (PSA.map (ansT ms ds)) := by
  intro k hk
  obtain ⟨p, _, rfl⟩ := List.mem_map.mp hk
  rw [ansT_tx]
  unfold tx
  split <;> decide +kernel
noncomputable def selA (ks : List Str) (bs : List Bool) (c : Str → Bool) : Bool := (ks.zip bs).any fun x => x.2 && c x.1
theorem selA_map (ks : List Str) (f : Str → Bool) (c : Str → Bool) : selA ks (ks.map f) c = ks.any fun e => f e && c e := by
  unfold selA
  induction ks with
  | nil => rfl
  | cons a l ih => rw [List.map_cons, List.zip_cons_cons, List.any_cons, List.any_cons, ih]
theorem any_same {ks : List Str} {f c d : Str → Bool} (h : ∀ e ∈ ks, c e = d e) : (ks.any fun e => f e && c e) = ks.any fun e => f e && d e := by
  induction ks with
  | nil => rfl
  | cons a l ih => rw [List.any_cons, List.any_cons, h a (.head _), ih fun e he => h e (.tail _ he)]
theorem any_of_sub {ks ls : List Str} (hs : ∀ x ∈ ls, x ∈ ks) (c : Str → Bool) : ls.any c = ks.any fun e => decide (e ∈ ls) && c e := by
  rw [Bool.eq_iff_iff, List.any_eq_true, List.any_eq_true]
  constructor
  · rintro ⟨x, hx, hc⟩
    exact ⟨x, hs x hx, by rw [decide_eq_true hx, hc]; rfl⟩
  · rintro ⟨x, _, hc⟩
    rw [Bool.and_eq_true, decide_eq_true_eq] at hc
    exact ⟨x, hc.1, hc.2⟩
noncomputable def cM (n : Str) (e : Str) : Bool := decide (tailF e = n) || Txt.startswith n (tailF e ++ Str.ofString ".")
noncomputable def cP (p : Str) (d : Str) : Bool := Txt.startswith p (d ++ Str.ofString "/")
noncomputable def bitsM (ns : List Int) : List Bool := MODS.map fun e => decide (e ∈ someF MODS 0 ns)
noncomputable def bitsP (ns : List Int) : List Bool := PLACES.map fun e => decide (e ∈ someF PLACES 1 ns)
theorem ansB_bits (ns : List Int) (p : Str) : ansB (MSF ns) (DSF ns) p = (selA MODS (bitsM ns) (cM (modF p)) || selA PLACES (bitsP ns) (cP p)) := by
  unfold bitsM bitsP
  rw [selA_map, selA_map, ← any_of_sub (someF_sub rfl 0 ns), ← any_of_sub (someF_sub rfl 1 ns)]
  unfold ansB MSF DSF
  have e1 : (decide (modF p ∈ (someF MODS 0 ns).map tailF) || ((someF MODS 0 ns).map tailF).any fun k => Txt.startswith (modF p) (k ++ Str.ofString ".")) = (someF MODS 0 ns).any (cM (modF p)) := by
    generalize someF MODS 0 ns = ls
    induction ls with
    | nil => rfl
    | cons a l ih =>
      rw [List.map_cons, List.any_cons, List.any_cons, ← ih]
      have e2 : decide (modF p ∈ tailF a :: l.map tailF) = (decide (tailF a = modF p) || decide (modF p ∈ l.map tailF)) := by
        rw [Bool.eq_iff_iff, decide_eq_true_eq, Bool.or_eq_true, decide_eq_true_eq, decide_eq_true_eq, List.mem_cons, eq_comm]
      rw [e2]
      unfold cM
      cases decide (tailF a = modF p) <;> cases decide (modF p ∈ l.map tailF) <;> cases Txt.startswith (modF p) (tailF a ++ Str.ofString ".") <;> simp
  rw [e1]
  rfl
noncomputable def ZP : List (Str × Nat) := PLACES.zipIdx
theorem same_one : ∀ e' ∈ MODS, (∀ e ∈ MODS, cM (modF (path1F e')) e = cM (tailF e') e) ∧ ∀ d ∈ PLACES, cP (path1F e') d = false := by decide +kernel
theorem same_two : ∀ pr ∈ ZP, (∀ e ∈ MODS, cM (modF (q1F pr)) e = false) ∧ ∀ d ∈ PLACES, cP (q1F pr) d = cP (pr.1 ++ Str.ofString "/") d := by decide +kernel
theorem same_mix : ∀ pr ∈ ZP, ∀ e' ∈ MODS, (∀ e ∈ MODS, cM (modF (m1F pr e')) e = cM (tailF e') e) ∧ ∀ d ∈ PLACES, cP (m1F pr e') d = cP (pr.1 ++ Str.ofString "/") d := by decide +kernel
theorem selA_same {ks : List Str} {bs : List Bool} {c d : Str → Bool} (h : ∀ e ∈ ks, c e = d e) : selA ks bs c = selA ks bs d := by
  unfold selA
  induction ks generalizing bs with
  | nil => rfl
  | cons a l ih =>
    cases bs with
    | nil => rfl
    | cons b r => rw [List.zip_cons_cons, List.any_cons, List.any_cons, h a (.head _), ih fun e he => h e (.tail _ he)]
theorem selA_none {ks : List Str} {bs : List Bool} {c : Str → Bool} (h : ∀ e ∈ ks, c e = false) : selA ks bs c = false := by
  unfold selA
  induction ks generalizing bs with
  | nil => rfl
  | cons a l ih =>
    cases bs with
    | nil => rfl
    | cons b r => rw [List.zip_cons_cons, List.any_cons, h a (.head _), Bool.and_false, Bool.false_or, ih fun e he => h e (.tail _ he)]
noncomputable def aBit (bs : List Bool) (e' : Str) : Bool := selA MODS bs (cM (tailF e'))
noncomputable def dBit (bs : List Bool) (d' : Str) : Bool := selA PLACES bs (cP (d' ++ Str.ofString "/"))
theorem PSA_parts : PSA = MODS.map path1F ++ (ZP.map q1F ++ ZP.flatMap fun pr => MODS.map (m1F pr)) := rfl
theorem answers_eq (ns : List Int) : PSA.map (ansT (MSF ns) (DSF ns)) = (MODS.map fun e => tx (aBit (bitsM ns) e)) ++ ((ZP.map fun pr => tx (dBit (bitsP ns) pr.1)) ++ ZP.flatMap fun pr => MODS.map fun e => tx (aBit (bitsM ns) e || dBit (bitsP ns) pr.1)) := by
  rw [PSA_parts, List.map_append, List.map_append, List.map_map, List.map_map, List.map_flatMap]
  congr 1
  · refine List.map_congr_left fun e he => ?_
    show ansT _ _ (path1F e) = _
    rw [ansT_tx, ansB_bits, selA_same (same_one e he).1, selA_none (same_one e he).2, Bool.or_false]
    rfl
  · congr 1
    · refine List.map_congr_left fun pr hp => ?_
      show ansT _ _ (q1F pr) = _
      rw [ansT_tx, ansB_bits, selA_none (same_two pr hp).1, selA_same (same_two pr hp).2, Bool.false_or]
      rfl
    · rw [List.flatMap_def, List.flatMap_def]
      congr 1
      refine List.map_congr_left fun pr hp => ?_
      rw [List.map_map]
      refine List.map_congr_left fun e he => ?_
      show ansT _ _ (m1F pr e) = _
      rw [ansT_tx, ansB_bits, selA_same (same_mix pr hp e he).1, selA_same (same_mix pr hp e he).2]
      rfl
noncomputable def shB (mark : Str) (ks : List Str) (bs : List Bool) : List Str := ks.filter fun e => selA ks bs (fun x => decide (x = e)) && !selA ks bs (fun x => decide (x = upF mark e))
theorem in_bits {ks ls : List Str} (hs : ∀ x ∈ ls, x ∈ ks) (k : Str) : decide (k ∈ ls) = selA ks (ks.map fun e => decide (e ∈ ls)) (fun x => decide (x = k)) := by
  rw [selA_map, ← any_of_sub hs, Bool.eq_iff_iff, decide_eq_true_eq, List.any_eq_true]
  constructor
  · intro h
    exact ⟨k, h, decide_eq_true rfl⟩
  · rintro ⟨x, hx, e⟩
    rw [decide_eq_true_eq] at e
    exact e ▸ hx
theorem short_bits {ks ls : List Str} (mark : Str) (hs : ∀ x ∈ ls, x ∈ ks) : shortF mark ks ls = shB mark ks (ks.map fun e => decide (e ∈ ls)) := by
  unfold shortF shB
  refine List.filter_congr fun e _ => ?_
  rw [in_bits hs e, in_bits hs (upF mark e)]
noncomputable def aList (bs : List Bool) : List Str := MODS.map fun e => tx (aBit bs e)
noncomputable def dList (bs : List Bool) : List Str := PLACES.map fun d => tx (dBit bs d)
theorem fin_a : ∀ b0 b1 b2 b3 b4 b5 : Bool, (fun A B : List Str => heldF (Str.ofString ".") MODS (leftF MODS A) = leftF MODS A ∧ ((leftF MODS A).length : Int) + countIn (.str (Str.ofString "0")) (A.map PyData.str) = MODS.length ∧ headsF (Str.ofString ".") (leftF MODS A) = B) (aList [b0, b1, b2, b3, b4, b5]) (shB (Str.ofString ".") MODS [b0, b1, b2, b3, b4, b5]) := by decide +kernel
theorem fin_d : ∀ b0 b1 b2 b3 b4 b5 : Bool, (fun A B : List Str => heldF (Str.ofString "/") PLACES (leftF PLACES A) = leftF PLACES A ∧ ((leftF PLACES A).length : Int) + countIn (.str (Str.ofString "0")) (A.map PyData.str) = PLACES.length ∧ headsF (Str.ofString "/") (leftF PLACES A) = B) (dList [b0, b1, b2, b3, b4, b5]) (shB (Str.ofString "/") PLACES [b0, b1, b2, b3, b4, b5]) := by decide +kernel
theorem max_tx (a b : Bool) : maxT (tx a) (tx b) = tx (a || b) := by revert a b; decide +kernel
theorem part_a {X Y Z : List Str} (hx : X.length = 6) (hy : Y.length = 6) (hz : Z.length = 36) : partL (X ++ (Y ++ Z)) none (some 6) = X := by
  have hl : (X ++ (Y ++ Z)).length = 48 := by rw [List.length_append, List.length_append, hx, hy, hz]
  unfold partL
  rw [hl]
  show ((X ++ (Y ++ Z)).drop 0).take 6 = X
  rw [List.drop_zero]
  exact List.take_left' hx
theorem part_b {X Y Z : List Str} (hx : X.length = 6) (hy : Y.length = 6) (hz : Z.length = 36) : partL (X ++ (Y ++ Z)) (some 6) (some 12) = Y := by
  have hl : (X ++ (Y ++ Z)).length = 48 := by rw [List.length_append, List.length_append, hx, hy, hz]
  unfold partL
  rw [hl]
  show ((X ++ (Y ++ Z)).drop 6).take 6 = Y
  rw [List.drop_left' hx]
  exact List.take_left' hy
theorem part_c {X Y Z : List Str} (hx : X.length = 6) (hy : Y.length = 6) (hz : Z.length = 36) : partL (X ++ (Y ++ Z)) (some 12) none = Z := by
  have hl : (X ++ (Y ++ Z)).length = 48 := by rw [List.length_append, List.length_append, hx, hy, hz]
  unfold partL
  rw [hl]
  show ((X ++ (Y ++ Z)).drop 12).take 36 = Z
  rw [← List.append_assoc, List.drop_left' (by rw [List.length_append, hx, hy])]
  exact List.take_of_length_le (Nat.le_of_eq hz)
theorem mix_len (A D : List Bool) : (ZP.flatMap fun pr => MODS.map fun e => tx (aBit A e || dBit D pr.1)).length = 36 := by
  rw [List.length_flatMap]
  rfl
theorem mix_eq (A D : List Bool) : (ZP.flatMap fun pr => MODS.map fun e => tx (aBit A e || dBit D pr.1)) = (dList D).flatMap fun o => (aList A).map fun a => maxT a o := by
  have e1 : dList D = ZP.map fun pr => tx (dBit D pr.1) := rfl
  rw [e1, List.flatMap_map]
  rw [List.flatMap_def, List.flatMap_def]
  congr 1
  refine List.map_congr_left fun pr _ => ?_
  unfold aList
  rw [List.map_map]
  refine List.map_congr_left fun e _ => ?_
  exact (max_tx _ _).symm
theorem tx_01 : ∀ b : Bool, tx b = Str.ofString "0" ∨ tx b = Str.ofString "1"
  | false => .inl rfl
  | true => .inr rfl
theorem plain_law (ns : List Int) : PlainLaw ns (partL (PSA.map (ansT (MSF ns) (DSF ns))) none (some 6)) (partL (PSA.map (ansT (MSF ns) (DSF ns))) (some 6) (some 12)) (partL (PSA.map (ansT (MSF ns) (DSF ns))) (some 12) none) := by
  rw [answers_eq]
  have hx : (MODS.map fun e => tx (aBit (bitsM ns) e)).length = 6 := rfl
  have hy : (ZP.map fun pr => tx (dBit (bitsP ns) pr.1)).length = 6 := rfl
  have hz := mix_len (bitsM ns) (bitsP ns)
  rw [part_a hx hy hz, part_b hx hy hz, part_c hx hy hz]
  have e1 : (MODS.map fun e => tx (aBit (bitsM ns) e)) = aList (bitsM ns) := rfl
  have e2 : (ZP.map fun pr => tx (dBit (bitsP ns) pr.1)) = dList (bitsP ns) := rfl
  rw [e1, e2, mix_eq]
  have fa := fin_a (decide (MODS[0] ∈ someF MODS 0 ns)) (decide (MODS[1] ∈ someF MODS 0 ns)) (decide (MODS[2] ∈ someF MODS 0 ns)) (decide (MODS[3] ∈ someF MODS 0 ns)) (decide (MODS[4] ∈ someF MODS 0 ns)) (decide (MODS[5] ∈ someF MODS 0 ns))
  have fd := fin_d (decide (PLACES[0] ∈ someF PLACES 1 ns)) (decide (PLACES[1] ∈ someF PLACES 1 ns)) (decide (PLACES[2] ∈ someF PLACES 1 ns)) (decide (PLACES[3] ∈ someF PLACES 1 ns)) (decide (PLACES[4] ∈ someF PLACES 1 ns)) (decide (PLACES[5] ∈ someF PLACES 1 ns))
  have fa : (fun A B : List Str => heldF (Str.ofString ".") MODS (leftF MODS A) = leftF MODS A ∧ ((leftF MODS A).length : Int) + countIn (.str (Str.ofString "0")) (A.map PyData.str) = MODS.length ∧ headsF (Str.ofString ".") (leftF MODS A) = B) (aList (bitsM ns)) (shB (Str.ofString ".") MODS (bitsM ns)) := fa
  have fd : (fun A B : List Str => heldF (Str.ofString "/") PLACES (leftF PLACES A) = leftF PLACES A ∧ ((leftF PLACES A).length : Int) + countIn (.str (Str.ofString "0")) (A.map PyData.str) = PLACES.length ∧ headsF (Str.ofString "/") (leftF PLACES A) = B) (dList (bitsP ns)) (shB (Str.ofString "/") PLACES (bitsP ns)) := fd
  exact {
    la := rfl
    ld := rfl
    ha := fa.1
    hd := fd.1
    ca := fa.2.1
    cd := fd.2.1
    hr := rfl
    sa := by rw [fa.2.2, short_bits _ (someF_sub rfl 0 ns)]; rfl
    sd := by rw [fd.2.2, short_bits _ (someF_sub rfl 1 ns)]; rfl
    va := fun x hx => by obtain ⟨e, _, rfl⟩ := List.mem_map.mp hx; exact tx_01 _
    vd := fun x hx => by obtain ⟨e, _, rfl⟩ := List.mem_map.mp hx; exact tx_01 _ }
end Mine
end

section
open PySem PySem.W PyProof.Rows PySem.Calls PyProof.V PySem.Spec
set_option Elab.async false
set_option maxRecDepth 100000
set_option maxHeartbeats 8000000
namespace Mine
open PyProof.Rows.LCg (lst)
theorem mods_ok : ∀ e ∈ MODS, e.length ≤ 1000 ∧ 0 ≤ Txt.rfind e (Str.ofString ".") := by decide +kernel
theorem places_ok : ∀ e ∈ PLACES, e.length ≤ 1000 ∧ 0 ≤ Txt.rfind e (Str.ofString "/") := by decide +kernel
theorem mods_okS : OkStrs MODS := by unfold OkStrs; decide +kernel
theorem places_okS : OkStrs PLACES := by unfold OkStrs; decide +kernel
theorem mx_len (A : List Str) : ∀ l : List Str, (l.flatMap fun o => A.map fun a => maxT a o).length = l.length * A.length
  | [] => by simp
  | o :: l => by rw [List.flatMap_cons, List.length_append, List.length_map, mx_len A l, List.length_cons]; rw [Nat.succ_mul]; omega
theorem mx_take {A D : List Str} {i : Nat} {o : Str} (h : D[i]? = some o) : (D.take (i + 1)).flatMap (fun o => A.map fun a => maxT a o) = (D.take i).flatMap (fun o => A.map fun a => maxT a o) ++ A.map fun a => maxT a o := by
  rw [List.take_add_one, h, List.flatMap_append]; simp
theorem mx_size {A D : List Str} {i j : Nat} {o : Str} (hA : A.length = 6) (hD : D.length = 6) : ((D.take i).flatMap (fun o => A.map fun a => maxT a o) ++ (A.take j).map fun a => maxT a o).length ≤ 42 := by
  rw [List.length_append, mx_len, List.length_map, List.length_take, List.length_take, hA, hD]
  omega
theorem two_at {a b : Value} {i : Nat} {v : Value} (h : #[a, b][i]? = some v) : v = if i = 0 then a else b := by
  rcases i with _ | _ | i
  · exact (Option.some.inj h).symm
  · exact (Option.some.inj h).symm
  · exact absurd h (by simp)
theorem cmp_two {prog : Program} {w : World} {A : Around} {a b : Str} {t u : Tok} :
    CmpOf prog w A .Gt (fun i v => #[Value.str a t, Value.str b u][i]? = some v) (fun i j => decide ((if j = 0 then a else b).cps.toList < (if i = 0 then a else b).cps.toList)) := fun i j vi vj s Q E hi hj h => by
  have key : ∀ (k : Nat), (if k = 0 then Value.str a t else Value.str b u) = Value.str (if k = 0 then a else b) (if k = 0 then t else u) := fun k => by split <;> rfl
  rw [two_at hi, two_at hj, key i, key j]
  exact richCompare_gives (op := .Gt) (typeIs_str s _ _) (typeIs_str s _ _) F.slot_str_gt F.entry_str_gt (F.args_str_gt_2 _ _) (gives_str_gt _ _ _ _) (fun x => nomatch x) h
theorem max_strs {prog : Program} {w : World} {A : Around} {E : Value → Shared → Prop} {s : Shared} {Q : Value → Shared → Prop} {a b : Str} {t u : Tok} (hh : A.handled = none)
    (h : ∀ h' tk, (∀ c o, s.heap.get? c = some o → h'.get? c = some o) → Q (if a.cps.toList < b.cps.toList then .str b u else .str a t) { s with heap := h', toks := tk }) :
    wpAny (model prog w) A (call (.builtin "max") [.str a t, .str b u]) Q E s := by
  have hT : (s.heap.push { cls := .type "tuple", data := .seq #[.str a t, .str b u] }).IsTuple s.heap.objs.size #[.str a t, .str b u] := ⟨_, Heap.get?_push_size _ rfl, rfl, 0, rfl⟩
  refine call_max_two (wpAny_pyIter_tuple hT ?_)
  have hsz : (s.heap.push { cls := .type "tuple", data := .seq #[.str a t, .str b u] }).objs.size = s.heap.objs.size + 1 := Heap.size_push ..
  refine ⟨_, [_, s.heap.objs.size], [_], _, _, _, _, rfl, Walks.tuple (A := A.in1) hh _ s.heap.objs.size (by rw [hsz]; exact Nat.ne_of_lt (Nat.lt_succ_self _)) #[.str a t, .str b u],
    ⟨⟨_, Heap.get?_push_size _ rfl, rfl, rfl⟩, hT.push _⟩, fun c hc => ?_, by simp, cmp_two, fun v h' tk hP hk => ?_⟩
  · show c < ((s.heap.push _).push _).objs.size
    rw [Heap.size_push, hsz]
    rcases List.mem_cons.mp hc with rfl | hc
    · rw [hsz]; exact Nat.lt_succ_self _
    · rw [List.mem_singleton.mp hc]
      exact Nat.lt_succ_of_lt (Nat.lt_succ_self _)
  · have hold : ∀ c o, s.heap.get? c = some o → h'.get? c = some o := fun c o e => by
      refine hk c o (fun hm => ?_) (Heap.get?_push_of_some _ (Heap.get?_push_of_some _ e))
      rw [hsz] at hm
      have hlt := Heap.lt_size e
      rw [List.mem_singleton.mp hm] at hlt
      exact Nat.lt_irrefl _ (Nat.lt_of_succ_lt hlt)
    have hv : v = if a.cps.toList < b.cps.toList then Value.str b u else Value.str a t := by
      rw [two_at hP]
      have e : argBest (fun i j => decide ((if j = 0 then a else b).cps.toList < (if i = 0 then a else b).cps.toList)) (#[Value.str a t, Value.str b u].size - 1) = if a.cps.toList < b.cps.toList then 1 else 0 := by
        show (if decide (a.cps.toList < b.cps.toList) = true then 1 else 0) = _
        by_cases c : a.cps.toList < b.cps.toList
        · rw [if_pos (decide_eq_true c), if_pos c]
        · rw [if_neg (by rw [decide_eq_false c]; decide), if_neg c]
      rw [e]
      by_cases c : a.cps.toList < b.cps.toList
      · rw [if_pos c, if_pos c]; rfl
      · rw [if_neg c, if_neg c]; rfl
    rw [hv]; exact h h' tk hold
theorem max_led {prog : Program} {w : World} {A : Around} {E : Value → Shared → Prop} {s : Shared} {Q : Value → Shared → Prop} {a b : Str} {t u : Tok} {h₀ : Heap} {L : Addr} {m : Str → Option Value} {news : List (Addr × Obj)} (hh : A.handled = none)
    (va : a = Str.ofString "0" ∨ a = Str.ofString "1") (vb : b = Str.ofString "0" ∨ b = Str.ofString "1") (F : Fr h₀ L s.heap m) (N : News h₀ L s.heap news)
    (h : ∀ h' tk v, Fr h₀ L h' m → News h₀ L h' news → Q (.str (maxT a b) v) { s with heap := h', toks := tk }) :
    wpAny (model prog w) A (call (.builtin "max") [.str a t, .str b u]) Q E s := by
  refine max_strs hh fun h' tk hk => ?_
  have F' := F.grownK hk
  have N' := N.grown hk
  have c00 : ¬ (Str.ofString "0").cps.toList < (Str.ofString "0").cps.toList := by decide
  have c01 : (Str.ofString "0").cps.toList < (Str.ofString "1").cps.toList := by decide
  have c10 : ¬ (Str.ofString "1").cps.toList < (Str.ofString "0").cps.toList := by decide
  have c11 : ¬ (Str.ofString "1").cps.toList < (Str.ofString "1").cps.toList := by decide
  have m00 : maxT (Str.ofString "0") (Str.ofString "0") = Str.ofString "0" := by decide
  have m01 : maxT (Str.ofString "0") (Str.ofString "1") = Str.ofString "1" := by decide
  have m10 : maxT (Str.ofString "1") (Str.ofString "0") = Str.ofString "1" := by decide
  have m11 : maxT (Str.ofString "1") (Str.ofString "1") = Str.ofString "1" := by decide
  rcases va with rfl | rfl <;> rcases vb with rfl | rfl
  · rw [if_neg c00]; have := h h' tk t F' N'; rwa [m00] at this
  · rw [if_pos c01]; have := h h' tk u F' N'; rwa [m01] at this
  · rw [if_neg c10]; have := h h' tk t F' N'; rwa [m10] at this
  · rw [if_neg c11]; have := h h' tk t F' N'; rwa [m11] at this
end Mine
end

section
namespace Mine
structure Goal9 (P : Prop) : Prop where
  out : P
end Mine
open PySem PySem.W PyProof.Rows PySem.Calls PyProof.V PySem.Spec
set_option Elab.async false
set_option maxRecDepth 100000
set_option maxHeartbeats 100000000
namespace Mine
noncomputable def partA : (P : Prop) ×' (Goal9 P → PySem.Challenge.rw_sn0121_01.Holds) := ⟨_, fun hG => hdr.2 (by
  k_with_none
  k_with "own omega" => with_reducible (first | exact Nat.zero_le _ | exact q_le (by assumption) (by decide) | exact q_up (by assumption) (by decide) | exact q_2 (by assumption) (by decide) | exact q_3 (by assumption) (by decide) | exact q_0 (by assumption) | exact q_int (by assumption) (by decide) | exact q_lt (by assumption) (by decide) | fail)
  k_with "own ne" => ((refine neN ?_; (try dsimp only); first | exact Nat.ne_of_gt (by with_reducible (first | assumption | exact And.left (by assumption) | exact And.left (And.right (by assumption)) | exact And.left (And.right (And.right (by assumption))) | exact And.left (And.right (And.right (And.right (by assumption)))) | exact And.left (And.right (And.right (And.right (And.right (by assumption))))) | exact And.left (And.right (And.right (And.right (And.right (And.right (by assumption)))))) | exact And.left (And.right (And.right (And.right (And.right (And.right (And.right (by assumption))))))) | exact And.left (And.right (And.right (And.right (And.right (And.right (And.right (And.right (by assumption)))))))) | exact And.left (And.right (And.right (And.right (And.right (And.right (And.right (And.right (And.right (by assumption))))))))) | exact And.left (And.right (And.right (And.right (And.right (And.right (And.right (And.right (And.right (And.right (by assumption)))))))))) | exact And.left (And.right (And.right (And.right (And.right (And.right (And.right (And.right (And.right (And.right (And.right (by assumption))))))))))) | exact And.left (And.right (And.right (And.right (And.right (And.right (And.right (And.right (And.right (And.right (And.right (And.right (by assumption)))))))))))) | exact And.left (And.right (And.right (And.right (And.right (And.right (And.right (And.right (And.right (And.right (And.right (And.right (And.right (by assumption))))))))))))) | exact And.left (And.right (And.right (And.right (And.right (And.right (And.right (And.right (And.right (And.right (And.right (And.right (And.right (And.right (by assumption)))))))))))))) | exact And.left (And.right (And.right (And.right (And.right (And.right (And.right (And.right (And.right (And.right (And.right (And.right (And.right (And.right (And.right (by assumption))))))))))))))) | exact And.left (And.right (And.right (And.right (And.right (And.right (And.right (And.right (And.right (And.right (And.right (And.right (And.right (And.right (And.right (And.right (by assumption)))))))))))))))) | exact And.left (And.right (And.right (And.right (And.right (And.right (And.right (And.right (And.right (And.right (And.right (And.right (And.right (And.right (And.right (And.right (And.right (by assumption))))))))))))))))) | exact And.left (And.right (And.right (And.right (And.right (And.right (And.right (And.right (And.right (And.right (And.right (And.right (And.right (And.right (And.right (And.right (And.right (And.right (by assumption)))))))))))))))))) | exact And.left (And.right (And.right (And.right (And.right (And.right (And.right (And.right (And.right (And.right (And.right (And.right (And.right (And.right (And.right (And.right (And.right (And.right (And.right (by assumption))))))))))))))))))) | exact And.left (And.right (And.right (And.right (And.right (And.right (And.right (And.right (And.right (And.right (And.right (And.right (And.right (And.right (And.right (And.right (And.right (And.right (And.right (And.right (by assumption)))))))))))))))))))) | exact And.left (And.right (And.right (And.right (And.right (And.right (And.right (And.right (And.right (And.right (And.right (And.right (And.right (And.right (And.right (And.right (And.right (And.right (And.right (And.right (And.right (by assumption))))))))))))))))))))) | exact And.left (And.right (And.right (And.right (And.right (And.right (And.right (And.right (And.right (And.right (And.right (And.right (And.right (And.right (And.right (And.right (And.right (And.right (And.right (And.right (And.right (And.right (by assumption)))))))))))))))))))))) | exact And.left (And.right (And.right (And.right (And.right (And.right (And.right (And.right (And.right (And.right (And.right (And.right (And.right (And.right (And.right (And.right (And.right (And.right (And.right (And.right (And.right (And.right (And.right (by assumption))))))))))))))))))))))) | exact And.left (And.right (And.right (And.right (And.right (And.right (And.right (And.right (And.right (And.right (And.right (And.right (And.right (And.right (And.right (And.right (And.right (And.right (And.right (And.right (And.right (And.right (And.right (And.right (by assumption)))))))))))))))))))))))) | fail "no order")) | exact Nat.ne_of_lt (by with_reducible (first | assumption | exact And.left (by assumption) | exact And.left (And.right (by assumption)) | exact And.left (And.right (And.right (by assumption))) | exact And.left (And.right (And.right (And.right (by assumption)))) | exact And.left (And.right (And.right (And.right (And.right (by assumption))))) | exact And.left (And.right (And.right (And.right (And.right (And.right (by assumption)))))) | exact And.left (And.right (And.right (And.right (And.right (And.right (And.right (by assumption))))))) | exact And.left (And.right (And.right (And.right (And.right (And.right (And.right (And.right (by assumption)))))))) | exact And.left (And.right (And.right (And.right (And.right (And.right (And.right (And.right (And.right (by assumption))))))))) | exact And.left (And.right (And.right (And.right (And.right (And.right (And.right (And.right (And.right (And.right (by assumption)))))))))) | exact And.left (And.right (And.right (And.right (And.right (And.right (And.right (And.right (And.right (And.right (And.right (by assumption))))))))))) | exact And.left (And.right (And.right (And.right (And.right (And.right (And.right (And.right (And.right (And.right (And.right (And.right (by assumption)))))))))))) | exact And.left (And.right (And.right (And.right (And.right (And.right (And.right (And.right (And.right (And.right (And.right (And.right (And.right (by assumption))))))))))))) | exact And.left (And.right (And.right (And.right (And.right (And.right (And.right (And.right (And.right (And.right (And.right (And.right (And.right (And.right (by assumption)))))))))))))) | exact And.left (And.right (And.right (And.right (And.right (And.right (And.right (And.right (And.right (And.right (And.right (And.right (And.right (And.right (And.right (by assumption))))))))))))))) | exact And.left (And.right (And.right (And.right (And.right (And.right (And.right (And.right (And.right (And.right (And.right (And.right (And.right (And.right (And.right (And.right (by assumption)))))))))))))))) | exact And.left (And.right (And.right (And.right (And.right (And.right (And.right (And.right (And.right (And.right (And.right (And.right (And.right (And.right (And.right (And.right (And.right (by assumption))))))))))))))))) | exact And.left (And.right (And.right (And.right (And.right (And.right (And.right (And.right (And.right (And.right (And.right (And.right (And.right (And.right (And.right (And.right (And.right (And.right (by assumption)))))))))))))))))) | exact And.left (And.right (And.right (And.right (And.right (And.right (And.right (And.right (And.right (And.right (And.right (And.right (And.right (And.right (And.right (And.right (And.right (And.right (And.right (by assumption))))))))))))))))))) | exact And.left (And.right (And.right (And.right (And.right (And.right (And.right (And.right (And.right (And.right (And.right (And.right (And.right (And.right (And.right (And.right (And.right (And.right (And.right (And.right (by assumption)))))))))))))))))))) | exact And.left (And.right (And.right (And.right (And.right (And.right (And.right (And.right (And.right (And.right (And.right (And.right (And.right (And.right (And.right (And.right (And.right (And.right (And.right (And.right (And.right (by assumption))))))))))))))))))))) | exact And.left (And.right (And.right (And.right (And.right (And.right (And.right (And.right (And.right (And.right (And.right (And.right (And.right (And.right (And.right (And.right (And.right (And.right (And.right (And.right (And.right (And.right (by assumption)))))))))))))))))))))) | exact And.left (And.right (And.right (And.right (And.right (And.right (And.right (And.right (And.right (And.right (And.right (And.right (And.right (And.right (And.right (And.right (And.right (And.right (And.right (And.right (And.right (And.right (And.right (by assumption))))))))))))))))))))))) | exact And.left (And.right (And.right (And.right (And.right (And.right (And.right (And.right (And.right (And.right (And.right (And.right (And.right (And.right (And.right (And.right (And.right (And.right (And.right (And.right (And.right (And.right (And.right (And.right (by assumption)))))))))))))))))))))))) | fail "no order")) | fail "k_ne"))
  k_with "exec For Tuple Call cons nil" => (k_here; k_dflt (refine For_turns (by k_asm) ?_))
  k_with "setItem ref int" => (k_here; k_dflt (refine' ksa_set ?k1 ?k2 ?k3 ?k4 ?k5 ?k6 ?k7 ?_; (case k1 => k_asm); (case k2 => k_asm); (case k3 => k_upd); (case k4 => with_reducible assumption); (case k5 => assumption); (case k6 => assumption); (case k7 => assumption); k_whole); intro h'kk F'kk N'kk hi'kk hl'kk hs'kk; (try k_sweep))
  k_with "getItem ref int" => (k_here; k_dflt (refine' ksa_get ?k1 ?k2 ?k3 ?k4 ?k5 ?k6 ?_; (case k1 => k_asm); (case k2 => k_mem); (case k3 => with_reducible assumption); (case k4 => assumption); (case k5 => assumption); (case k6 => assumption); k_whole); intro _)
  k_with "call ref" => (k_dflt (refine' spec_every _ _ _ _ (by decide) _ _ _ _ _ _ _ _ _ _ _ _ _ _ _ _ _ ?k1 ?k2 ?k3 ?k4 ?k5 ?k6 ?k7 ?k8 ?_; (case k1 => k_asm); (case k2 => k_asm); (case k3 => k_asm); (case k4 => k_asm); (case k5 => k_asm); (case k6 => exact rfl); (case k7 => ktr_room); (case k8 => ktr_units)); intro D9kk vs9kk n9kk h9kk tk9kk hS9kk F9kk N9kk l9kk; (try k_lt l9kk); (try dsimp only); (try k_fold))
  k_with "exec For Name Name cons nil" => (k_here; (rename Fr _ _ _ _ => lF'kk); k_dflt (refine' For_invVF lF'kk ?k1 ?k2 ?_; (case k1 => exact rfl); (case k2 => exact rfl)))
  delta hdr
  dsimp only
  k_go0
  (all_goals try k_fold)
  iterate 30 walk1
  iterate 11 walk1
  rename Fr _ _ _ _ => F9
  rename News _ _ _ _ => N9
  rename (IntsAre _ ([4] ++ _)) => hI9
  rename (Heap.IsList _ _ _) => hL9
  have hI4 : ∀ l : List Int, ([4] ++ l)[0]? = some 4 := fun _ => rfl
  refine iter_sums (Str.ofString "number") F9 N9 (by rfl) (hL9.at fun o e => F9.keep _ o e) (by assumption) (by obtain ⟨o, e, _⟩ := id hL9; rw [e]; exact Option.some_ne_none _) ?_ hI9 (hI4 _) (by assumption) ?_ ?_
  · intro e; obtain ⟨o, e', _⟩ := id hL9; exact Nat.lt_irrefl _ (e ▸ Heap.lt_size e')
  · intro i k tk0 T t vsD ns n oS ov a h tk own hk hi hown hS hID hlen h4 hT F N
    have hm0 : 0 ≤ (i : Int).fmod 9 := Int.fmod_nonneg_of_pos _ (by decide)
    have hm9 : (i : Int).fmod 9 < 9 := Int.fmod_lt_of_pos _ (by decide)
    have hmi : (i : Int).fmod 9 = ((i % 9 : Nat) : Int) := by rw [Int.fmod_eq_emod_of_nonneg _ (by decide)]; rfl
    have hx0 : 0 ≤ 1 + (i : Int).fmod 9 := by omega
    have hx1 : 1 + (i : Int).fmod 9 < (ns.length : Int) := by
      rename (_ ≤ ite _ _ _ → _) => he3
      rename (List.length (List.flatten _) = _) => he1
      rw [hlen, List.length_append, List.length_singleton, he1]
      have hml := Nat.mod_le i 9
      revert he3
      split <;> (intro he3; have he4 := he3 (by omega); omega)
    have hx2 : 1 + (i : Int).fmod 9 < 2 ^ 63 := by omega
    iterate 19 walk1
    walk1
    walk1
    walk1
    walk1
    clear hx0 hx1 hx2
    k_steps
    exact InvEndN.intro (by k_asm) (by k_asm) ⟨_, _, _, _, _, rfl, by assumption, by assumption, by rw [List.length_set]; exact hlen, by rw [List.getElem?_set_ne (by omega)]; exact h4, fun z hz => by simp [hz]⟩ rfl (fun p hp => List.mem_append_left own hp) (fun p hp => List.mem_append_right [_, _, _, _, _] hp)
  · intro vsD ns n oS ov a h tk hS hID hlen h4 F N
    (try k_fold)
    iterate 11 walk1
    iterate 122 walk1
    walk1
    rename_i z1 z2 z3 z4 z5 z6 z7 z8 z9 z10 z11 z12 z13 z14 z15 z16 z17 z18 z19 z20 z21 z22 z23 z24 z25 z26 z27 z28 z29 z30 z31 z32 z33 z34 z35 z36 z37 z38 z39 z40 z41 z42 z43 z44 z45 z46 z47 z48 z49 z50 z51 z52 z53 z54 z55 z56 z57 z58 z59 z60 z61 z62 z63 z64 z65 z66 z67 z68 z69 z70 z71 z72 z73 z74 z75 z76 z77 z78 z79 z80 z81 z82 z83 z84 z85 z86 z87 z88 z89 z90 z91 z92 z93 z94 z95 z96 z97 z98 z99 z100 z101 z102 z103 z104 z105 z106 z107 z108 z109 z110 z111 z112 z113 z114 z115 z116 z117 z118 z119 z120 z121 z122 z123 z124 z125 z126 z127 z128 z129 z130 z131 z132 z133 z134 z135 z136 z137 z138 z139 z140 z141 z142 z143 z144 z145
    revert z1 z2 z3 z4 z5 z6 z7 z8 z9 z10 z11 z12 z13 z14 z15 z16 z17 z18 z19 z20 z21 z22 z23 z24 z25 z26 z27 z28 z29 z30 z31 z32 z33 z34 z35 z36 z37 z38 hL9 z39 z40 z41 z42 z43 z44 z45 z46 z47 z48 z49 z50 z51 z52 z53 z54 z55 z56 z57 z58 qk ek z59 z60 z61 z62 z63 z64 z65 z66 z67 z68 z69 z70 z71 z72 z73 z74 z75 z76 z77 z78 hI9 z79 z80 F9 N9 z81 hI4 vsD ns n oS ov a h z82 hS hID hlen h4 F N z83 z84 z85 z86 z87 z88 z89 D9kk vs9kk n9kk h9kk tk9kk hS9kk l9kk z90 z91 z92 z93 z94 z95 z96 z97 z98 z99 z100 z101 z102 z103 z104 z105 z106 z107 z108 z109 z110 z111 z112 z113 z114 z115 z116 z117 z118 z119 z120 z121 z122 z123 z124 z125 z126 z127 z128 z129 z130 z131 z132 z133 z134 z135 z136 z137 z138 z139 z140 z141 z142 z143 z144 lF'kk z145 tk
    exact hG.out)⟩
end Mine
end

section
open PySem PySem.W PyProof.Rows PySem.Calls PyProof.V PySem.Spec
set_option Elab.async false
set_option maxRecDepth 100000
set_option maxHeartbeats 100000000
namespace Mine
noncomputable def partB : (P : Prop) ×' (Goal9 P → partA.1) := ⟨_, fun hG => by
  k_with_none
  k_with "own omega" => with_reducible (first | exact Nat.zero_le _ | exact q_le (by assumption) (by decide) | exact q_up (by assumption) (by decide) | exact q_2 (by assumption) (by decide) | exact q_3 (by assumption) (by decide) | exact q_0 (by assumption) | exact q_int (by assumption) (by decide) | exact q_lt (by assumption) (by decide) | fail)
  k_with "own ne" => ((refine neN ?_; (try dsimp only); first | exact Nat.ne_of_gt (by with_reducible (first | assumption | exact And.left (by assumption) | exact And.left (And.right (by assumption)) | exact And.left (And.right (And.right (by assumption))) | exact And.left (And.right (And.right (And.right (by assumption)))) | exact And.left (And.right (And.right (And.right (And.right (by assumption))))) | exact And.left (And.right (And.right (And.right (And.right (And.right (by assumption)))))) | exact And.left (And.right (And.right (And.right (And.right (And.right (And.right (by assumption))))))) | exact And.left (And.right (And.right (And.right (And.right (And.right (And.right (And.right (by assumption)))))))) | exact And.left (And.right (And.right (And.right (And.right (And.right (And.right (And.right (And.right (by assumption))))))))) | exact And.left (And.right (And.right (And.right (And.right (And.right (And.right (And.right (And.right (And.right (by assumption)))))))))) | exact And.left (And.right (And.right (And.right (And.right (And.right (And.right (And.right (And.right (And.right (And.right (by assumption))))))))))) | exact And.left (And.right (And.right (And.right (And.right (And.right (And.right (And.right (And.right (And.right (And.right (And.right (by assumption)))))))))))) | exact And.left (And.right (And.right (And.right (And.right (And.right (And.right (And.right (And.right (And.right (And.right (And.right (And.right (by assumption))))))))))))) | exact And.left (And.right (And.right (And.right (And.right (And.right (And.right (And.right (And.right (And.right (And.right (And.right (And.right (And.right (by assumption)))))))))))))) | exact And.left (And.right (And.right (And.right (And.right (And.right (And.right (And.right (And.right (And.right (And.right (And.right (And.right (And.right (And.right (by assumption))))))))))))))) | exact And.left (And.right (And.right (And.right (And.right (And.right (And.right (And.right (And.right (And.right (And.right (And.right (And.right (And.right (And.right (And.right (by assumption)))))))))))))))) | exact And.left (And.right (And.right (And.right (And.right (And.right (And.right (And.right (And.right (And.right (And.right (And.right (And.right (And.right (And.right (And.right (And.right (by assumption))))))))))))))))) | exact And.left (And.right (And.right (And.right (And.right (And.right (And.right (And.right (And.right (And.right (And.right (And.right (And.right (And.right (And.right (And.right (And.right (And.right (by assumption)))))))))))))))))) | exact And.left (And.right (And.right (And.right (And.right (And.right (And.right (And.right (And.right (And.right (And.right (And.right (And.right (And.right (And.right (And.right (And.right (And.right (And.right (by assumption))))))))))))))))))) | exact And.left (And.right (And.right (And.right (And.right (And.right (And.right (And.right (And.right (And.right (And.right (And.right (And.right (And.right (And.right (And.right (And.right (And.right (And.right (And.right (by assumption)))))))))))))))))))) | exact And.left (And.right (And.right (And.right (And.right (And.right (And.right (And.right (And.right (And.right (And.right (And.right (And.right (And.right (And.right (And.right (And.right (And.right (And.right (And.right (And.right (by assumption))))))))))))))))))))) | exact And.left (And.right (And.right (And.right (And.right (And.right (And.right (And.right (And.right (And.right (And.right (And.right (And.right (And.right (And.right (And.right (And.right (And.right (And.right (And.right (And.right (And.right (by assumption)))))))))))))))))))))) | exact And.left (And.right (And.right (And.right (And.right (And.right (And.right (And.right (And.right (And.right (And.right (And.right (And.right (And.right (And.right (And.right (And.right (And.right (And.right (And.right (And.right (And.right (And.right (by assumption))))))))))))))))))))))) | exact And.left (And.right (And.right (And.right (And.right (And.right (And.right (And.right (And.right (And.right (And.right (And.right (And.right (And.right (And.right (And.right (And.right (And.right (And.right (And.right (And.right (And.right (And.right (And.right (by assumption)))))))))))))))))))))))) | fail "no order")) | exact Nat.ne_of_lt (by with_reducible (first | assumption | exact And.left (by assumption) | exact And.left (And.right (by assumption)) | exact And.left (And.right (And.right (by assumption))) | exact And.left (And.right (And.right (And.right (by assumption)))) | exact And.left (And.right (And.right (And.right (And.right (by assumption))))) | exact And.left (And.right (And.right (And.right (And.right (And.right (by assumption)))))) | exact And.left (And.right (And.right (And.right (And.right (And.right (And.right (by assumption))))))) | exact And.left (And.right (And.right (And.right (And.right (And.right (And.right (And.right (by assumption)))))))) | exact And.left (And.right (And.right (And.right (And.right (And.right (And.right (And.right (And.right (by assumption))))))))) | exact And.left (And.right (And.right (And.right (And.right (And.right (And.right (And.right (And.right (And.right (by assumption)))))))))) | exact And.left (And.right (And.right (And.right (And.right (And.right (And.right (And.right (And.right (And.right (And.right (by assumption))))))))))) | exact And.left (And.right (And.right (And.right (And.right (And.right (And.right (And.right (And.right (And.right (And.right (And.right (by assumption)))))))))))) | exact And.left (And.right (And.right (And.right (And.right (And.right (And.right (And.right (And.right (And.right (And.right (And.right (And.right (by assumption))))))))))))) | exact And.left (And.right (And.right (And.right (And.right (And.right (And.right (And.right (And.right (And.right (And.right (And.right (And.right (And.right (by assumption)))))))))))))) | exact And.left (And.right (And.right (And.right (And.right (And.right (And.right (And.right (And.right (And.right (And.right (And.right (And.right (And.right (And.right (by assumption))))))))))))))) | exact And.left (And.right (And.right (And.right (And.right (And.right (And.right (And.right (And.right (And.right (And.right (And.right (And.right (And.right (And.right (And.right (by assumption)))))))))))))))) | exact And.left (And.right (And.right (And.right (And.right (And.right (And.right (And.right (And.right (And.right (And.right (And.right (And.right (And.right (And.right (And.right (And.right (by assumption))))))))))))))))) | exact And.left (And.right (And.right (And.right (And.right (And.right (And.right (And.right (And.right (And.right (And.right (And.right (And.right (And.right (And.right (And.right (And.right (And.right (by assumption)))))))))))))))))) | exact And.left (And.right (And.right (And.right (And.right (And.right (And.right (And.right (And.right (And.right (And.right (And.right (And.right (And.right (And.right (And.right (And.right (And.right (And.right (by assumption))))))))))))))))))) | exact And.left (And.right (And.right (And.right (And.right (And.right (And.right (And.right (And.right (And.right (And.right (And.right (And.right (And.right (And.right (And.right (And.right (And.right (And.right (And.right (by assumption)))))))))))))))))))) | exact And.left (And.right (And.right (And.right (And.right (And.right (And.right (And.right (And.right (And.right (And.right (And.right (And.right (And.right (And.right (And.right (And.right (And.right (And.right (And.right (And.right (by assumption))))))))))))))))))))) | exact And.left (And.right (And.right (And.right (And.right (And.right (And.right (And.right (And.right (And.right (And.right (And.right (And.right (And.right (And.right (And.right (And.right (And.right (And.right (And.right (And.right (And.right (by assumption)))))))))))))))))))))) | exact And.left (And.right (And.right (And.right (And.right (And.right (And.right (And.right (And.right (And.right (And.right (And.right (And.right (And.right (And.right (And.right (And.right (And.right (And.right (And.right (And.right (And.right (And.right (by assumption))))))))))))))))))))))) | exact And.left (And.right (And.right (And.right (And.right (And.right (And.right (And.right (And.right (And.right (And.right (And.right (And.right (And.right (And.right (And.right (And.right (And.right (And.right (And.right (And.right (And.right (And.right (And.right (by assumption)))))))))))))))))))))))) | fail "no order")) | fail "k_ne"))
  k_with "call builtin:list.append" => (k_dflt (refine' append_K ?k1 ?k2 ?k3 ?_ ?z; (case k1 => k_asm); (case k2 => k_asm); (case k3 => k_upd); (case z => (rw [List.size_toArray, sizeLine_eq]; omega)); k_whole); intro h'kk F'kk N'kk; (try k_sweep))
  k_with "subscriptTail" => (k_here; k_dflt (refine' text_tail ?k1 ?k2 ?k3 ?k4 ?k5 ?k6 ?k8 ?_ ?k7; (case k1 => k_asm); (case k2 => k_mem); (case k3 => with_reducible assumption); (case k4 => assumption); (case k5 => (show _ < (6 : Int)); assumption); (case k6 => omega); (case k8 => decide); (case k7 => with_unfolding_all rfl); k_whole); intro X9kk t9kk e9kk l9kk)
  k_with "getItem ref int" => (k_here; k_dflt (refine' text_get ?k1 ?k2 ?k3 ?k4 ?k5 ?k6 ?k8 ?_; (case k1 => k_asm); (case k2 => k_mem); (case k3 => with_reducible assumption); (case k4 => assumption); (case k5 => (show _ < (6 : Int)); assumption); (case k6 => omega); (case k8 => decide); k_whole); intro X9kk t9kk e9kk l9kk)
  k_with "subscriptTail" => (k_here; k_dflt (refine' pair_tail ?k1 ?k2 ?kz ?k4 ?k5 ?kp ?_ ?k7; (case k1 => k_asm); (case k2 => k_mem); (case kz => rfl); (case k4 => assumption); (case k5 => assumption); (case kp => (intro jkk hjkk; rcases jkk with _ | _ | _ | _ | _ | _ | jkk; exact ⟨_, _, _, _, _, rfl, by k_mem, rfl, by decide, by decide⟩; exact ⟨_, _, _, _, _, rfl, by k_mem, rfl, by decide, by decide⟩; exact ⟨_, _, _, _, _, rfl, by k_mem, rfl, by decide, by decide⟩; exact ⟨_, _, _, _, _, rfl, by k_mem, rfl, by decide, by decide⟩; exact ⟨_, _, _, _, _, rfl, by k_mem, rfl, by decide, by decide⟩; exact ⟨_, _, _, _, _, rfl, by k_mem, rfl, by decide, by decide⟩; exact absurd hjkk (by omega))); (case k7 => with_unfolding_all rfl); k_whole); intro p9kk x9kk y9kk t9kk v9kk hT9kk e9kk l9kk l8kk)
  k_with "eval Name" => (k_here; k_dflt (refine' nameX_L ?F ?v ?_ ?a ?b; (case a => rfl); (case b => rfl); (case F => k_asm); (case v => first | exact rfl | exact (id (by assumption))); k_whole))
  intro w9
  revert w9
  w_top off
  intros
  rename Fr _ _ _ _ => F9
  rename News _ _ _ _ => N9
  rename (IntsAre _ _) => hID
  rename (_[0]? = some 4) => h4
  rename List Int => ns
  have hns : ns.length ≤ 10 := by
    rename (_ ≤ ite _ _ _ → _) => he3
    rename (List.length (List.flatten _) = _) => he1
    rename (ns.length = _) => hlen
    rw [hlen, List.length_append, List.length_singleton, he1]
    revert he3
    split <;> (intro he3; have he4 := he3 (by omega); omega)
  obtain ⟨m0, hm0⟩ : ∃ m, m = frMap F9 := ⟨_, rfl⟩
  have g1 := (congrFun hm0 (Str.ofString "mods")).trans (show frMap F9 (Str.ofString "mods") = some _ from rfl)
  have g2 := (congrFun hm0 (Str.ofString "places")).trans (show frMap F9 (Str.ofString "places") = some _ from rfl)
  have g3 := (congrFun hm0 (Str.ofString "writings")).trans (show frMap F9 (Str.ofString "writings") = some _ from rfl)
  have g4 := (congrFun hm0 (Str.ofString "some_mods")).trans (show frMap F9 (Str.ofString "some_mods") = some _ from rfl)
  have g5 := (congrFun hm0 (Str.ofString "some_places")).trans (show frMap F9 (Str.ofString "some_places") = some _ from rfl)
  have g6 := (congrFun hm0 (Str.ofString "given_mods")).trans (show frMap F9 (Str.ofString "given_mods") = some _ from rfl)
  have g7 := (congrFun hm0 (Str.ofString "given_places")).trans (show frMap F9 (Str.ofString "given_places") = some _ from rfl)
  have F8 := fr_to F9 hm0
  clear hm0 F9
  rename Fr _ _ _ m0 => F9
  obtain ⟨R, N8, na, nb, nc, nd, mw, mw1, mw2, mw3, mw4, mw5, mw6, mP, mM, mdr, mc4, mc3, mc2, mc1⟩ := box4 N9 (by k_all) (by k_all) (by k_all) (by k_all)
  dsimp only at na nb nc nd
  k_with "own mem" => (first | (with_reducible assumption) | exact List.mem_append_left _ (by with_reducible assumption) | assumption | fail)
  k_with "own all" => (with_reducible assumption)
  clear N9
  rename News _ _ _ _ => N9
  refine iter_list (JB ns (ledAll N9) (frMap F9)) (key4 (ledAll N9))
    (by rfl) (News.isList N9 (by k_mem)) ?_ F9 N9 ?_ ⟨[], [], [], [], _, _, _, _, rfl, .nil, .nil, .nil, .nil, fun _ _ => rfl⟩ ?_ ?_
  · exact (N9 (_, listOf (List.toArray _) _) (by k_mem)).2.1
  · intro b hb
    simp only [key4, ledAll, List.mem_cons, List.not_mem_nil, or_false] at hb
    rcases hb with h | h | h | h <;> (subst h; exact ⟨by k_ne, Heap.lt_size (N9 (_, _) (by k_mem)).1⟩)
  · rintro i v m₁ news₁ h tk own hv - hown ⟨v0, v1, v2, v3, n0, n1, n2, n3, rfl, h3, h1, h2, h0, hmm⟩ F N
    obtain ⟨k, tk0, rfl, hk⟩ := IntsAre.at hID i v hv
    rw [fr_five hmm] at F
    simp only [upd4, key4, ledAll, frMap, List.cons_append] at F N hown
    have qa := off_app na (OwnOff.ne hown (by k_memK))
    have qb := off_app nb (OwnOff.ne hown (by k_memK))
    have qc := off_app nc (OwnOff.ne hown (by k_memK))
    have qd := off_app nd (OwnOff.ne hown (by k_memK))
    have hil : i < ns.length := (List.getElem?_eq_some_iff.mp hk).1
    have hl3 : v3.length ≤ 1000 := by rw [h3.length]; refine Nat.le_trans (someF_len _ _ _) ?_; rw [List.length_take]; omega
    have hl1 : v1.length ≤ 1000 := by rw [h1.length, List.length_map]; refine Nat.le_trans (someF_len _ _ _) ?_; rw [List.length_take]; omega
    have hl2 : v2.length ≤ 1000 := by rw [h2.length]; refine Nat.le_trans (someF_len _ _ _) ?_; rw [List.length_take]; omega
    have hl0 : v0.length ≤ 1000 := by rw [h0.length, List.length_map]; refine Nat.le_trans (List.length_filter_le _ _) ?_; rw [List.length_take]; omega
    have hp0 := (fmod6 (k.fdiv 2)).1
    have hp6 := (fmod6 (k.fdiv 2)).2
    have hw0 := (fmod6 ((k.fdiv 2).fdiv 6)).1
    have hw6 := (fmod6 ((k.fdiv 2).fdiv 6)).2
    clear hmm
    (try k_fold)
    repeat walk1
    · rename News _ _ _ _ => N8
      replace N8 := news_drop2 N8
      walk1
      repeat walk1
      rename (k.fmod 2 = 0) => hc0
      rename (List.getD _ _ _ = _) => ea
      subst ea
      rename (List.getD _ _ _ = _) => ea
      subst ea
      rename News _ _ _ _ => N8
      simp only [List.push_toArray] at N8
      refine InvEndN.intro (by k_asm) N8 ⟨v0, v1 ++ [Value.str _ _], v2, v3 ++ [Value.str _ _], n0, n1 + 1, n2, n3 + 1, rfl, ?_, ?_, ?_, ?_, fun z hz => ?_⟩ rfl (fun q hq => List.mem_append_left own hq) (fun q hq => List.mem_append_right (_ :: _ :: _ :: _ :: R) hq)
      · rw [someF_yes hk hc0]; exact kct_snoc h3
      · rw [someF_yes hk hc0, List.map_append]; exact kct_snoc h1
      · rw [someF_zero hk _ hc0]; exact h2
      · rw [givF_zero hk hc0]; exact h0
      · simp only [List.mem_cons, not_or] at hz
        obtain ⟨z1, z2, z3, z4, z5, _⟩ := hz
        simp only [z1, z2, z3, z4, z5, if_false, frMap]
    · repeat walk1
      rename News _ _ _ _ => N8
      replace N8 := news_drop2 N8
      walk1
      repeat walk1
      rename (¬ k.fmod 2 = 0) => hc0
      rename (List.getD (everyF (Str.ofString "/")) _ _ = _) => ea
      subst ea
      rename (List.getD (everyF (Str.ofString "/")) _ _ = _) => ea
      subst ea
      rename (List.getD WR _ _ = _) => ew
      rename News _ _ _ _ => N8
      simp only [List.push_toArray] at N8
      have hc1 : k.fmod 2 = 1 := (fmod2 k).resolve_left hc0
      refine InvEndN.intro (by k_asm) N8 ⟨v0 ++ [Value.str _ _], v1, v2 ++ [Value.str _ _], v3, n0 + 1, n1, n2 + 1, n3, rfl, by rw [someF_no hk hc0]; exact h3, by rw [someF_no hk hc0]; exact h1, by rw [someF_yes hk hc1]; exact kct_snoc h2, by rw [givF_yes hk hc1]; exact snoc_eq h0 (by unfold givenF wrF; rw [ew]; rfl), fun z hz => ?_⟩ rfl (fun q hq => List.mem_append_left own hq) (fun q hq => List.mem_append_right (_ :: _ :: _ :: _ :: R) hq)
      simp only [List.mem_cons, not_or] at hz
      obtain ⟨z1, z2, z3, z4, z5, _⟩ := hz
      simp only [z1, z2, z3, z4, z5, if_false, frMap]
  · rintro m₁ news₁ h tk ⟨v0, v1, v2, v3, n0, n1, n2, n3, rfl, h3, h1, h2, h0, hmm⟩ F N
    rw [List.take_of_length_le (by rw [hID.length]; exact Nat.le_refl _)] at h0 h1 h2 h3
    simp only [upd4, ledAll] at N
    replace g1 := (hmm (Str.ofString "mods") (by decide)).trans g1
    replace g2 := (hmm (Str.ofString "places") (by decide)).trans g2
    replace g4 := (hmm (Str.ofString "some_mods") (by decide)).trans g4
    replace g5 := (hmm (Str.ofString "some_places") (by decide)).trans g5
    replace g6 := (hmm (Str.ofString "given_mods") (by decide)).trans g6
    replace g7 := (hmm (Str.ofString "given_places") (by decide)).trans g7
    clear g3
    clear hmm
    clear F9 N9 na nb nc nd mw mw1 mw2 mw3 mw4 mw5 mw6 mdr
    replace N := box_out N mP mM mc4 mc3 mc2 mc1
    clear mP mM mc4 mc3 mc2 mc1
    (try k_fold)
    rename_i z1 z2 z3 z4 z5 z6 z7 z8 z9 z10 z11 z12 z13 z14 z15 z16 z17 z18 z19 z20 z21 z22 z23 z24 z25 z26 z27 z28 z29 z30 z31 z32 z33 z34 z35 z36 z37 z38 z39 z40 z41 z42 z43 z44 z45 z46 z47 z48 z49 z50 z51 z52 z53 z54 z55 z56 z57 z58 z59 z60 z61 z62 z63 z64 z65 z66 z67 z68 z69 z70 z71 z72 z73 z74 z75 z76 z77 z78 z79 z80 z81 z82 z83 z84 z85 z86 z87 z88 z89 z90 z91 z92 z93 z94 z95 z96 z97 z98 z99 z100 z101 z102 z103 z104 z105 z106 z107 z108 z109 z110 z111 z112 z113 z114 z115 z116 z117 z118 z119 z120 z121 z122 z123 z124 z125 z126 z127 z128 z129 z130 z131 z132 z133 z134 z135 z136 z137 z138 z139 z140 z141 z142 z143 z144 z145 z146 z147 z148 z149 z150 z151 z152 z153 z154 z155 z156 z157 z158 z159 z160 z161 z162 z163 z164 z165 z166 z167 z168 z169
    revert z1 z2 z3 z4 z5 z6 z7 z8 z9 z10 z11 z12 z13 z14 z15 z16 z17 z18 z19 z20 z21 z22 z23 z24 z25 z26 z27 z28 z29 z30 z31 z32 z33 z34 z35 z36 z37 z38 z39 z40 z41 z42 z43 z44 z45 z46 z47 z48 z49 z50 z51 z52 z53 z54 z55 z56 z57 z58 z59 z60 z61 z62 z63 z64 z65 z66 z67 z68 z69 z70 z71 z72 z73 z74 z75 z76 z77 z78 z79 z80 z81 z82 z83 z84 z85 z86 z87 z88 z89 ns z90 z91 z92 z93 z94 z95 z96 hID z97 h4 z98 z99 z100 z101 z102 z103 z104 z105 z106 z107 z108 z109 z110 z111 z112 z113 z114 z115 z116 z117 z118 z119 z120 z121 z122 z123 z124 z125 z126 z127 z128 z129 z130 z131 z132 z133 z134 z135 z136 z137 z138 z139 z140 z141 z142 z143 z144 z145 z146 z147 z148 z149 z150 z151 z152 z153 z154 z155 z156 z157 z158 z159 z160 z161 z162 z163 z164 z165 z166 z167 z168 z169 hns m0 R m₁ h tk v0 v1 v2 v3 n0 n1 n2 n3 h3 h1 h2 h0 F g1 g2 g4 g5 g6 g7 N
    exact hG.out⟩
end Mine
end

section
open PySem PySem.W PyProof.Rows PySem.Calls PyProof.V PySem.Spec
set_option Elab.async false
set_option maxRecDepth 100000
set_option maxHeartbeats 100000000
namespace Mine
noncomputable def partC : (P : Prop) ×' (Goal9 P → partB.1) := ⟨_, fun hG => by
  k_with_none
  k_with "own omega" => with_reducible (first | exact Nat.zero_le _ | exact q_le (by assumption) (by decide) | exact q_up (by assumption) (by decide) | exact q_2 (by assumption) (by decide) | exact q_3 (by assumption) (by decide) | exact q_0 (by assumption) | exact q_int (by assumption) (by decide) | exact q_lt (by assumption) (by decide) | fail)
  k_with "own ne" => ((refine neN ?_; (try dsimp only); first | exact Nat.ne_of_gt (by with_reducible (first | assumption | exact And.left (by assumption) | exact And.left (And.right (by assumption)) | exact And.left (And.right (And.right (by assumption))) | exact And.left (And.right (And.right (And.right (by assumption)))) | exact And.left (And.right (And.right (And.right (And.right (by assumption))))) | exact And.left (And.right (And.right (And.right (And.right (And.right (by assumption)))))) | exact And.left (And.right (And.right (And.right (And.right (And.right (And.right (by assumption))))))) | exact And.left (And.right (And.right (And.right (And.right (And.right (And.right (And.right (by assumption)))))))) | exact And.left (And.right (And.right (And.right (And.right (And.right (And.right (And.right (And.right (by assumption))))))))) | exact And.left (And.right (And.right (And.right (And.right (And.right (And.right (And.right (And.right (And.right (by assumption)))))))))) | exact And.left (And.right (And.right (And.right (And.right (And.right (And.right (And.right (And.right (And.right (And.right (by assumption))))))))))) | exact And.left (And.right (And.right (And.right (And.right (And.right (And.right (And.right (And.right (And.right (And.right (And.right (by assumption)))))))))))) | exact And.left (And.right (And.right (And.right (And.right (And.right (And.right (And.right (And.right (And.right (And.right (And.right (And.right (by assumption))))))))))))) | exact And.left (And.right (And.right (And.right (And.right (And.right (And.right (And.right (And.right (And.right (And.right (And.right (And.right (And.right (by assumption)))))))))))))) | exact And.left (And.right (And.right (And.right (And.right (And.right (And.right (And.right (And.right (And.right (And.right (And.right (And.right (And.right (And.right (by assumption))))))))))))))) | exact And.left (And.right (And.right (And.right (And.right (And.right (And.right (And.right (And.right (And.right (And.right (And.right (And.right (And.right (And.right (And.right (by assumption)))))))))))))))) | exact And.left (And.right (And.right (And.right (And.right (And.right (And.right (And.right (And.right (And.right (And.right (And.right (And.right (And.right (And.right (And.right (And.right (by assumption))))))))))))))))) | exact And.left (And.right (And.right (And.right (And.right (And.right (And.right (And.right (And.right (And.right (And.right (And.right (And.right (And.right (And.right (And.right (And.right (And.right (by assumption)))))))))))))))))) | exact And.left (And.right (And.right (And.right (And.right (And.right (And.right (And.right (And.right (And.right (And.right (And.right (And.right (And.right (And.right (And.right (And.right (And.right (And.right (by assumption))))))))))))))))))) | exact And.left (And.right (And.right (And.right (And.right (And.right (And.right (And.right (And.right (And.right (And.right (And.right (And.right (And.right (And.right (And.right (And.right (And.right (And.right (And.right (by assumption)))))))))))))))))))) | exact And.left (And.right (And.right (And.right (And.right (And.right (And.right (And.right (And.right (And.right (And.right (And.right (And.right (And.right (And.right (And.right (And.right (And.right (And.right (And.right (And.right (by assumption))))))))))))))))))))) | exact And.left (And.right (And.right (And.right (And.right (And.right (And.right (And.right (And.right (And.right (And.right (And.right (And.right (And.right (And.right (And.right (And.right (And.right (And.right (And.right (And.right (And.right (by assumption)))))))))))))))))))))) | exact And.left (And.right (And.right (And.right (And.right (And.right (And.right (And.right (And.right (And.right (And.right (And.right (And.right (And.right (And.right (And.right (And.right (And.right (And.right (And.right (And.right (And.right (And.right (by assumption))))))))))))))))))))))) | exact And.left (And.right (And.right (And.right (And.right (And.right (And.right (And.right (And.right (And.right (And.right (And.right (And.right (And.right (And.right (And.right (And.right (And.right (And.right (And.right (And.right (And.right (And.right (And.right (by assumption)))))))))))))))))))))))) | fail "no order")) | exact Nat.ne_of_lt (by with_reducible (first | assumption | exact And.left (by assumption) | exact And.left (And.right (by assumption)) | exact And.left (And.right (And.right (by assumption))) | exact And.left (And.right (And.right (And.right (by assumption)))) | exact And.left (And.right (And.right (And.right (And.right (by assumption))))) | exact And.left (And.right (And.right (And.right (And.right (And.right (by assumption)))))) | exact And.left (And.right (And.right (And.right (And.right (And.right (And.right (by assumption))))))) | exact And.left (And.right (And.right (And.right (And.right (And.right (And.right (And.right (by assumption)))))))) | exact And.left (And.right (And.right (And.right (And.right (And.right (And.right (And.right (And.right (by assumption))))))))) | exact And.left (And.right (And.right (And.right (And.right (And.right (And.right (And.right (And.right (And.right (by assumption)))))))))) | exact And.left (And.right (And.right (And.right (And.right (And.right (And.right (And.right (And.right (And.right (And.right (by assumption))))))))))) | exact And.left (And.right (And.right (And.right (And.right (And.right (And.right (And.right (And.right (And.right (And.right (And.right (by assumption)))))))))))) | exact And.left (And.right (And.right (And.right (And.right (And.right (And.right (And.right (And.right (And.right (And.right (And.right (And.right (by assumption))))))))))))) | exact And.left (And.right (And.right (And.right (And.right (And.right (And.right (And.right (And.right (And.right (And.right (And.right (And.right (And.right (by assumption)))))))))))))) | exact And.left (And.right (And.right (And.right (And.right (And.right (And.right (And.right (And.right (And.right (And.right (And.right (And.right (And.right (And.right (by assumption))))))))))))))) | exact And.left (And.right (And.right (And.right (And.right (And.right (And.right (And.right (And.right (And.right (And.right (And.right (And.right (And.right (And.right (And.right (by assumption)))))))))))))))) | exact And.left (And.right (And.right (And.right (And.right (And.right (And.right (And.right (And.right (And.right (And.right (And.right (And.right (And.right (And.right (And.right (And.right (by assumption))))))))))))))))) | exact And.left (And.right (And.right (And.right (And.right (And.right (And.right (And.right (And.right (And.right (And.right (And.right (And.right (And.right (And.right (And.right (And.right (And.right (by assumption)))))))))))))))))) | exact And.left (And.right (And.right (And.right (And.right (And.right (And.right (And.right (And.right (And.right (And.right (And.right (And.right (And.right (And.right (And.right (And.right (And.right (And.right (by assumption))))))))))))))))))) | exact And.left (And.right (And.right (And.right (And.right (And.right (And.right (And.right (And.right (And.right (And.right (And.right (And.right (And.right (And.right (And.right (And.right (And.right (And.right (And.right (by assumption)))))))))))))))))))) | exact And.left (And.right (And.right (And.right (And.right (And.right (And.right (And.right (And.right (And.right (And.right (And.right (And.right (And.right (And.right (And.right (And.right (And.right (And.right (And.right (And.right (by assumption))))))))))))))))))))) | exact And.left (And.right (And.right (And.right (And.right (And.right (And.right (And.right (And.right (And.right (And.right (And.right (And.right (And.right (And.right (And.right (And.right (And.right (And.right (And.right (And.right (And.right (by assumption)))))))))))))))))))))) | exact And.left (And.right (And.right (And.right (And.right (And.right (And.right (And.right (And.right (And.right (And.right (And.right (And.right (And.right (And.right (And.right (And.right (And.right (And.right (And.right (And.right (And.right (And.right (by assumption))))))))))))))))))))))) | exact And.left (And.right (And.right (And.right (And.right (And.right (And.right (And.right (And.right (And.right (And.right (And.right (And.right (And.right (And.right (And.right (And.right (And.right (And.right (And.right (And.right (And.right (And.right (And.right (by assumption)))))))))))))))))))))))) | fail "no order")) | fail "k_ne"))
  k_with "eval Name" => (k_here; k_dflt (refine' nameX_L ?F ?v ?_ ?a ?b; (case a => rfl); (case b => rfl); (case F => k_asm); (case v => first | exact rfl | exact (id (by assumption))); k_whole))
  k_with "call builtin:list.append" => (k_dflt (refine' append_K ?k1 ?k2 ?k3 ?_ ?z; (case k1 => k_asm); (case k2 => k_asm); (case k3 => k_upd); (case z => (rw [List.size_toArray, sizeLine_eq]; omega)); k_whole); intro h'kk F'kk N'kk; (try k_sweep))
  k_with "exec For Tuple Call cons nil" => (k_here; k_dflt (refine For_turns (by k_asm) ?_))
  k_with "exec Assign cons ListComp" => (k_here; k_dflt (refine Assign_ListComp_G (by k_asm) (by rfl) (by with_unfolding_all rfl) (by with_unfolding_all rfl) (by decide) (by rfl) (by decide) (by rfl) (by rfl) ?_ (by intro _; rfl)))
  intro w9
  revert w9
  w_top off
  intros
  rename Shared => s1
  rename News _ _ _ _ => N9
  rename (StrsAre _ (everyF (Str.ofString "."))) => hM
  rename (StrsAre _ (everyF (Str.ofString "/"))) => hP
  walk1
  walk1
  walk1
  rename Fr _ _ _ _ => F9
  rename News _ _ _ _ => N9
  refine gat_list (fun d => d = s1.drawn) (fun i zs nw => nw = ledAll N9 ∧ StrsAre zs (((everyF (Str.ofString ".")).take i).map path1F)) [] (by rfl) (by rfl) (by rfl) (News.isList N9 (by k_mem)) (N9 (_, listOf (List.toArray _) _) (by k_mem)).2.1 (by rw [hM.length, everyF_len, sizeLine_eq]; omega) F9 N9 (fun b hb => nomatch hb) rfl ⟨rfl, .nil⟩ ?_ ?_
  · rintro i v ys nw hv - ⟨hnw, hy⟩
    subst hnw
    obtain ⟨k, tk, hk, rfl⟩ := strs_item hM i v hv
    have hkl : k.length ≤ 1000 := (by decide : ∀ e ∈ everyF (Str.ofString "."), e.length ≤ 1000) k (List.mem_of_getElem? hk)
    intro s₁ X C oC m₂ E' hm hk9 ho hc hX hC F N
    simp only [ledAll, List.cons_append] at N
    refine wpAny_tests_nil ?_
    simp only [if_true]
    k_steps
    exact GEnd.same (by k_asm) (by k_asm) _ (by assumption) (fun p hp => .tail _ (List.mem_append_right (ledAll N9) hp)) (fun p hp => .tail _ (List.mem_append_left X hp)) rfl ⟨rfl, by rw [map_take hk]; exact snoc_eq hy rfl⟩
  · intro h dr ys nw hd9 ha9 hj9
    obtain ⟨hnw, hy⟩ := hj9
    subst hnw
    have hd9 : dr = s1.drawn := hd9
    subst hd9
    rw [hM.length, everyF_len, List.take_of_length_le (by rw [everyF_len]; exact Nat.le_refl _)] at hy
    unfold FinGA
    intro D hh tk FD ND offD
    simp only [ledAll] at ND offD
    (try k_lt offD)
    clear ha9 N9 F9
    try k_fold
    repeat walk1
    rename Fr _ _ _ _ => F9
    rename News _ _ _ _ => N9
    refine iter_enum (JP PS2 (ledAll N9) (frMap F9)) (key3 (ledAll N9)) (by rfl) (News.isList N9 (by k_mem)) (N9 (_, listOf (List.toArray _) _) (by k_mem)).2.1 F9 N9 ?_ ?_ ?_ ?_
    · intro b hb
      simp only [key3, ledAll, List.mem_cons, List.not_mem_nil, or_false] at hb
      rcases hb with h | h | h <;> (subst h; exact ⟨by k_ne, Heap.lt_size (N9 (_, _) (by k_mem)).1⟩)
    · exact ⟨ys, _, _, _, _, _, rfl, by assumption, by assumption, hy, rfl⟩
    · rintro i v T t m₁ news₁ h tk own hv - hown ⟨ps, n, o2, o1, ov2, ov1, rfl, ho2, ho1, hps, rfl⟩ hT F N
      obtain ⟨k, tk0, hk, rfl⟩ := strs_item hP i v hv
      simp only [upd3, key3, ledAll, frMap, List.cons_append] at F N hown
      have hkl : k.length ≤ 1000 := (by decide : ∀ e ∈ everyF (Str.ofString "/"), e.length ≤ 1000) k (List.mem_of_getElem? hk)
      have hi6 : i < 6 := (List.getElem?_eq_some_iff.mp hk).1
      have hpl : ps.length ≤ 12 := by rw [hps.length]; exact PS2_len i
      repeat walk1
      rename News _ _ _ _ => N8
      simp only [List.push_toArray] at N8
      refine InvEndN.intro (nx := upd3 (ledAll N9) (listOf (List.toArray (ps ++ [Value.str _ _])) (n + 1)) _ _) (by k_asm) N8 ?hj ?ha (fun q hq => List.mem_append_left own hq) (fun q hq => List.mem_append_right [_, _, _, _, _, _, _, _, _, _, _] hq)
      case ha => exact rfl
      case hj => exact ⟨_, _, _, _, _, _, rfl, by assumption, by assumption, by rw [PS2_next hk]; exact snoc_eq hps rfl, rfl⟩
    · rintro m₁ news₁ h3 tk3 ⟨ps, n, o2, o1, ov2, ov1, rfl, ho2, ho1, hps, rfl⟩ F N
      rw [hP.length, everyF_len] at hps
      simp only [upd3, ledAll, frMap] at F N
      clear N9 F9
      (try k_fold)
      repeat walk1
      rename_i z1 z2 z3 z4 z5 z6 z7 z8 z9 z10 z11 z12 z13 z14 z15 z16 z17 z18 z19 z20 z21 z22 z23 z24 z25 z26 z27 z28 z29 z30 z31 z32 z33 z34 z35 z36 z37 z38 z39 z40 z41 z42 z43 z44 z45 z46 z47 z48 z49 z50 z51 z52 z53 z54 z55 z56 z57 z58 z59 z60 z61 z62 z63 z64 z65 z66 z67 z68 z69 z70 z71 z72 z73 z74 z75 z76 z77 z78 z79 z80 z81 z82 z83 z84 z85 z86 z87 z88 z89 z90 z91 z92 z93 z94 z95 z96 z97 z98 z99 z100 z101 z102 z103 z104 z105 z106 z107 z108 z109 z110 z111 z112 z113 z114 z115 z116 z117 z118 z119 z120 z121 z122 z123 z124 z125 z126 z127 z128 z129 z130 z131 z132 z133 z134 z135 z136 z137 z138 z139 z140 z141 z142 z143 z144 z145 z146 z147 z148 z149 z150 z151 z152 z153 z154 z155 z156 z157 z158 z159 z160 z161 z162 z163 z164 z165 z166 z167 z168 z169 z170 z171 z172 z173 z174 z175 z176 z177 z178 z179 z180 z181 z182 z183 z184 z185 z186 z187 z188 z189 z190 z191 z192 z193
      revert z1 z2 s1 z3 z4 z5 z6 z7 z8 z9 z10 z11 z12 z13 z14 z15 z16 z17 z18 z19 z20 z21 z22 z23 z24 z25 z26 z27 z28 z29 z30 z31 z32 z33 z34 z35 z36 z37 z38 z39 z40 z41 z42 z43 z44 z45 z46 z47 z48 z49 z50 z51 z52 z53 z54 z55 z56 z57 z58 z59 z60 z61 z62 z63 z64 z65 z66 z67 z68 z69 z70 z71 z72 z73 z74 z75 z76 z77 z78 z79 z80 z81 z82 z83 z84 z85 z86 z87 z88 z89 z90 z91 z92 z93 z94 z95 z96 z97 z98 z99 z100 z101 z102 z103 z104 z105 z106 hM z107 z108 z109 z110 z111 z112 hP z113 z114 z115 z116 z117 z118 z119 z120 z121 z122 z123 z124 z125 z126 z127 z128 z129 z130 z131 z132 z133 z134 z135 z136 z137 z138 z139 z140 z141 z142 z143 z144 z145 z146 z147 z148 z149 z150 z151 z152 z153 z154 z155 z156 z157 z158 z159 z160 z161 z162 z163 z164 z165 z166 z167 z168 z169 z170 z171 z172 z173 z174 z175 z176 z177 z178 z179 z180 z181 z182 z183 z184 z185 z186 z187 z188 z189 z190 z191 z192 z193 h ys hy hd9 D hh tk offD h3 tk3 ps n o2 o1 ov2 ov1 ho2 ho1 hps F N
      exact hG.out⟩
end Mine
end

section
open PySem PySem.W PyProof.Rows PySem.Calls PyProof.V PySem.Spec
set_option Elab.async false
set_option maxRecDepth 100000
set_option maxHeartbeats 100000000
namespace Mine
noncomputable def partD : (P : Prop) ×' (Goal9 P → partC.1) := ⟨_, fun hG => by
  k_with_none
  k_with "own omega" => with_reducible (first | exact Nat.zero_le _ | exact q_le (by assumption) (by decide) | exact q_up (by assumption) (by decide) | exact q_2 (by assumption) (by decide) | exact q_3 (by assumption) (by decide) | exact q_0 (by assumption) | exact q_int (by assumption) (by decide) | exact q_lt (by assumption) (by decide) | fail)
  k_with "own ne" => ((refine neN ?_; (try dsimp only); first | exact Nat.ne_of_gt (by with_reducible (first | assumption | exact And.left (by assumption) | exact And.left (And.right (by assumption)) | exact And.left (And.right (And.right (by assumption))) | exact And.left (And.right (And.right (And.right (by assumption)))) | exact And.left (And.right (And.right (And.right (And.right (by assumption))))) | exact And.left (And.right (And.right (And.right (And.right (And.right (by assumption)))))) | exact And.left (And.right (And.right (And.right (And.right (And.right (And.right (by assumption))))))) | exact And.left (And.right (And.right (And.right (And.right (And.right (And.right (And.right (by assumption)))))))) | exact And.left (And.right (And.right (And.right (And.right (And.right (And.right (And.right (And.right (by assumption))))))))) | exact And.left (And.right (And.right (And.right (And.right (And.right (And.right (And.right (And.right (And.right (by assumption)))))))))) | exact And.left (And.right (And.right (And.right (And.right (And.right (And.right (And.right (And.right (And.right (And.right (by assumption))))))))))) | exact And.left (And.right (And.right (And.right (And.right (And.right (And.right (And.right (And.right (And.right (And.right (And.right (by assumption)))))))))))) | exact And.left (And.right (And.right (And.right (And.right (And.right (And.right (And.right (And.right (And.right (And.right (And.right (And.right (by assumption))))))))))))) | exact And.left (And.right (And.right (And.right (And.right (And.right (And.right (And.right (And.right (And.right (And.right (And.right (And.right (And.right (by assumption)))))))))))))) | exact And.left (And.right (And.right (And.right (And.right (And.right (And.right (And.right (And.right (And.right (And.right (And.right (And.right (And.right (And.right (by assumption))))))))))))))) | exact And.left (And.right (And.right (And.right (And.right (And.right (And.right (And.right (And.right (And.right (And.right (And.right (And.right (And.right (And.right (And.right (by assumption)))))))))))))))) | exact And.left (And.right (And.right (And.right (And.right (And.right (And.right (And.right (And.right (And.right (And.right (And.right (And.right (And.right (And.right (And.right (And.right (by assumption))))))))))))))))) | exact And.left (And.right (And.right (And.right (And.right (And.right (And.right (And.right (And.right (And.right (And.right (And.right (And.right (And.right (And.right (And.right (And.right (And.right (by assumption)))))))))))))))))) | exact And.left (And.right (And.right (And.right (And.right (And.right (And.right (And.right (And.right (And.right (And.right (And.right (And.right (And.right (And.right (And.right (And.right (And.right (And.right (by assumption))))))))))))))))))) | exact And.left (And.right (And.right (And.right (And.right (And.right (And.right (And.right (And.right (And.right (And.right (And.right (And.right (And.right (And.right (And.right (And.right (And.right (And.right (And.right (by assumption)))))))))))))))))))) | exact And.left (And.right (And.right (And.right (And.right (And.right (And.right (And.right (And.right (And.right (And.right (And.right (And.right (And.right (And.right (And.right (And.right (And.right (And.right (And.right (And.right (by assumption))))))))))))))))))))) | exact And.left (And.right (And.right (And.right (And.right (And.right (And.right (And.right (And.right (And.right (And.right (And.right (And.right (And.right (And.right (And.right (And.right (And.right (And.right (And.right (And.right (And.right (by assumption)))))))))))))))))))))) | exact And.left (And.right (And.right (And.right (And.right (And.right (And.right (And.right (And.right (And.right (And.right (And.right (And.right (And.right (And.right (And.right (And.right (And.right (And.right (And.right (And.right (And.right (And.right (by assumption))))))))))))))))))))))) | exact And.left (And.right (And.right (And.right (And.right (And.right (And.right (And.right (And.right (And.right (And.right (And.right (And.right (And.right (And.right (And.right (And.right (And.right (And.right (And.right (And.right (And.right (And.right (And.right (by assumption)))))))))))))))))))))))) | fail "no order")) | exact Nat.ne_of_lt (by with_reducible (first | assumption | exact And.left (by assumption) | exact And.left (And.right (by assumption)) | exact And.left (And.right (And.right (by assumption))) | exact And.left (And.right (And.right (And.right (by assumption)))) | exact And.left (And.right (And.right (And.right (And.right (by assumption))))) | exact And.left (And.right (And.right (And.right (And.right (And.right (by assumption)))))) | exact And.left (And.right (And.right (And.right (And.right (And.right (And.right (by assumption))))))) | exact And.left (And.right (And.right (And.right (And.right (And.right (And.right (And.right (by assumption)))))))) | exact And.left (And.right (And.right (And.right (And.right (And.right (And.right (And.right (And.right (by assumption))))))))) | exact And.left (And.right (And.right (And.right (And.right (And.right (And.right (And.right (And.right (And.right (by assumption)))))))))) | exact And.left (And.right (And.right (And.right (And.right (And.right (And.right (And.right (And.right (And.right (And.right (by assumption))))))))))) | exact And.left (And.right (And.right (And.right (And.right (And.right (And.right (And.right (And.right (And.right (And.right (And.right (by assumption)))))))))))) | exact And.left (And.right (And.right (And.right (And.right (And.right (And.right (And.right (And.right (And.right (And.right (And.right (And.right (by assumption))))))))))))) | exact And.left (And.right (And.right (And.right (And.right (And.right (And.right (And.right (And.right (And.right (And.right (And.right (And.right (And.right (by assumption)))))))))))))) | exact And.left (And.right (And.right (And.right (And.right (And.right (And.right (And.right (And.right (And.right (And.right (And.right (And.right (And.right (And.right (by assumption))))))))))))))) | exact And.left (And.right (And.right (And.right (And.right (And.right (And.right (And.right (And.right (And.right (And.right (And.right (And.right (And.right (And.right (And.right (by assumption)))))))))))))))) | exact And.left (And.right (And.right (And.right (And.right (And.right (And.right (And.right (And.right (And.right (And.right (And.right (And.right (And.right (And.right (And.right (And.right (by assumption))))))))))))))))) | exact And.left (And.right (And.right (And.right (And.right (And.right (And.right (And.right (And.right (And.right (And.right (And.right (And.right (And.right (And.right (And.right (And.right (And.right (by assumption)))))))))))))))))) | exact And.left (And.right (And.right (And.right (And.right (And.right (And.right (And.right (And.right (And.right (And.right (And.right (And.right (And.right (And.right (And.right (And.right (And.right (And.right (by assumption))))))))))))))))))) | exact And.left (And.right (And.right (And.right (And.right (And.right (And.right (And.right (And.right (And.right (And.right (And.right (And.right (And.right (And.right (And.right (And.right (And.right (And.right (And.right (by assumption)))))))))))))))))))) | exact And.left (And.right (And.right (And.right (And.right (And.right (And.right (And.right (And.right (And.right (And.right (And.right (And.right (And.right (And.right (And.right (And.right (And.right (And.right (And.right (And.right (by assumption))))))))))))))))))))) | exact And.left (And.right (And.right (And.right (And.right (And.right (And.right (And.right (And.right (And.right (And.right (And.right (And.right (And.right (And.right (And.right (And.right (And.right (And.right (And.right (And.right (And.right (by assumption)))))))))))))))))))))) | exact And.left (And.right (And.right (And.right (And.right (And.right (And.right (And.right (And.right (And.right (And.right (And.right (And.right (And.right (And.right (And.right (And.right (And.right (And.right (And.right (And.right (And.right (And.right (by assumption))))))))))))))))))))))) | exact And.left (And.right (And.right (And.right (And.right (And.right (And.right (And.right (And.right (And.right (And.right (And.right (And.right (And.right (And.right (And.right (And.right (And.right (And.right (And.right (And.right (And.right (And.right (And.right (by assumption)))))))))))))))))))))))) | fail "no order")) | fail "k_ne"))
  k_with "eval Name" => (k_here; k_dflt (refine' nameX_L ?F ?v ?_ ?a ?b; (case a => rfl); (case b => rfl); (case F => k_asm); (case v => first | exact rfl | exact (id (by assumption))); k_whole))
  k_with "eval ListComp" => (k_here; k_dflt (refine ListComp_G (by k_asm) (by with_unfolding_all rfl) (by decide) (by rfl) (by decide) ?_ (by intro _; rfl)))
  intro w9
  revert w9
  w_top off
  intros
  rename Shared => s1
  rename (StrsAre _ (PS2 6)) => hps
  rename List Value => ps
  rename (StrsAre _ (everyF (Str.ofString "."))) => hM
  rename (StrsAre _ (everyF (Str.ofString "/"))) => hP
  rename Fr _ _ _ _ => F9
  rename News _ _ _ _ => N9
  refine iter_enum (JP PS3 (ledAll N9) (frMap F9)) (key3 (ledAll N9)) (by rfl) (News.isList N9 (by k_mem)) (N9 (_, listOf (List.toArray _) _) (by k_mem)).2.1 F9 N9 ?_ ?_ ?_ ?_
  · intro b hb
    simp only [key3, ledAll, List.mem_cons, List.not_mem_nil, or_false] at hb
    rcases hb with h | h | h <;> (subst h; exact ⟨by k_ne, Heap.lt_size (N9 (_, _) (by k_mem)).1⟩)
  · exact ⟨ps, _, _, _, _, _, rfl, by assumption, by assumption, hps, rfl⟩
  · rintro i v T t m₁ news₁ h tk own hv - hown ⟨ps, n, o2, o1, ov2, ov1, rfl, ho2, ho1, hps, rfl⟩ hT F N
    obtain ⟨k, tk0, hk, rfl⟩ := strs_item hP i v hv
    simp only [upd3, key3, ledAll, frMap, List.cons_append, List.nil_append] at F N hown
    have hkl : k.length ≤ 1000 := (by decide : ∀ e ∈ everyF (Str.ofString "/"), e.length ≤ 1000) k (List.mem_of_getElem? hk)
    have hi6 : i < 6 := (List.getElem?_eq_some_iff.mp hk).1
    have hpl : ps.length ≤ 48 := by rw [hps.length]; exact PS3_len i
    repeat walk1
    rename Fr _ _ _ _ => F8
    rename News _ _ _ _ => N8
    refine gat_list (fun d => d = s1.drawn) (fun j zs nw => nw = ledAll N8 ∧ StrsAre zs (((everyF (Str.ofString ".")).take j).map (m1F (k, i)))) [] (by rfl) (by rfl) (by rfl) (News.isList N8 (by k_mem)) (N8 (_, listOf (List.toArray _) _) (by k_mem)).2.1 (by rw [hM.length, everyF_len, sizeLine_eq]; omega) F8 N8 (fun b hb => nomatch hb) rfl ⟨rfl, .nil⟩ ?_ ?_
    · rintro j v ys nw hv - ⟨hnw, hy⟩
      subst hnw
      obtain ⟨e, te, he, rfl⟩ := strs_item hM j v hv
      have hel : e.length ≤ 1000 := (by decide : ∀ e ∈ everyF (Str.ofString "."), e.length ≤ 1000) e (List.mem_of_getElem? he)
      intro s₁ X C oC m₂ E' hm hk9 ho hc hX hC F N
      simp only [ledAll, List.cons_append] at N
      refine wpAny_tests_nil ?_
      simp only [if_true]
      k_steps
      exact GEnd.same (by k_asm) (by k_asm) _ (by assumption) (fun p hp => .tail _ (List.mem_append_right (ledAll N8) hp)) (fun p hp => .tail _ (List.mem_append_left X hp)) rfl ⟨rfl, by rw [map_take he]; exact snoc_eq hy rfl⟩
    · intro h dr ys nw hd9 ha9 hj9
      obtain ⟨hnw, hy⟩ := hj9
      subst hnw
      have hd9 : dr = s1.drawn := hd9
      subst hd9
      rw [hM.length, everyF_len, List.take_of_length_le (by rw [everyF_len]; exact Nat.le_refl _)] at hy
      unfold FinGE
      intro D hh tk FD ND offD
      simp only [ledAll] at ND offD
      (try k_lt offD)
      clear ha9 N8 F8
      try k_fold
      repeat walk1
      have hyl : ys.length = 6 := by rw [hy.length, List.length_map, everyF_len]
      k_dflt (refine' inplace_list (its := ps.toArray) (its2 := ys.toArray) (l := ps ++ ys) ?k1 ?k2 ?k3 ?k4 ?k5 ?k6 ?k7 ?k8 ?k9 ?_; (case k1 => k_asm); (case k2 => k_asm); (case k3 => k_mem); (case k4 => rfl); (case k5 => (show ys.length ≠ 0; omega)); (case k6 => k_upd); (case k8 => (show ps.length ≤ _; rw [sizeLine_eq]; omega)); (case k9 => (rw [List.size_toArray, List.size_toArray, sizeLine_eq]; omega)))
      · rw [List.size_toArray, List.size_toArray]
        simp only [Builtin.List.listTooLong, Bool.and_eq_true, decide_eq_true_eq, not_and]
        intro _
        rw [sizeLine_eq]
        omega
      intro h' F' N'
      (try k_sweep)
      repeat walk1
      rename News _ _ _ _ => N8
      refine InvEndN.intro (nx := upd3 (ledAll N9) (listOf (List.toArray (ps ++ ys)) (n + 1)) _ _) (by k_asm) N8 ?hj ?ha (fun q hq => .tail _ (List.mem_append_left own hq)) (fun q hq => .tail _ (List.mem_append_right [_, _, _, _, _, _, _, _, _, _, _] hq))
      case ha => exact rfl
      case hj => exact ⟨_, _, _, _, _, _, rfl, by assumption, by assumption, by rw [PS3_next hk]; exact strs_app hps hy, by funext z; simp only [frMap]; by_cases hz : z = Str.ofString "paths" <;> simp only [hz, if_true, if_false]⟩
  · rintro m₁ news₁ h3 tk3 ⟨ps, n, o2, o1, ov2, ov1, rfl, ho2, ho1, hps, rfl⟩ F N
    rw [hP.length, everyF_len] at hps
    simp only [upd3, ledAll, frMap] at F N
    clear N9 F9
    (try k_fold)
    iterate 3 walk1
    rename_i z1 z2 z3 z4 z5 z6 z7 z8 z9 z10 z11 z12 z13 z14 z15 z16 z17 z18 z19 z20 z21 z22 z23 z24 z25 z26 z27 z28 z29 z30 z31 z32 z33 z34 z35 z36 z37 z38 z39 z40 z41 z42 z43 z44 z45 z46 z47 z48 z49 z50 z51 z52 z53 z54 z55 z56 z57 z58 z59 z60 z61 z62 z63 z64 z65 z66 z67 z68 z69 z70 z71 z72 z73 z74 z75 z76 z77 z78 z79 z80 z81 z82 z83 z84 z85 z86 z87 z88 z89 z90 z91 z92 z93 z94 z95 z96 z97 z98 z99 z100 z101 z102 z103 z104 z105 z106 z107 z108 z109 z110 z111 z112 z113 z114 z115 z116 z117 z118 z119 z120 z121 z122 z123 z124 z125 z126 z127 z128 z129 z130 z131 z132 z133 z134 z135 z136 z137 z138 z139 z140 z141 z142 z143 z144 z145 z146 z147 z148 z149 z150 z151 z152 z153 z154 z155 z156 z157 z158 z159 z160 z161 z162 z163 z164 z165 z166 z167 z168 z169 z170 z171 z172 z173 z174 z175 z176 z177 z178 z179 z180 z181 z182 z183 z184 z185 z186 z187 z188 z189 z190 z191 z192 z193 z194 z195 z196 z197 z198 z199 z200 z201 z202 z203 z204 z205 z206 z207 z208 z209 z210 z211 z212
    revert z1 z2 s1 z3 z4 z5 z6 z7 z8 z9 z10 z11 z12 z13 z14 z15 z16 z17 z18 z19 z20 z21 z22 z23 z24 z25 z26 z27 z28 z29 z30 z31 z32 z33 z34 z35 z36 z37 z38 z39 z40 z41 z42 z43 z44 z45 z46 z47 z48 z49 z50 z51 z52 z53 z54 z55 z56 z57 z58 z59 z60 z61 z62 z63 z64 z65 z66 z67 z68 z69 z70 z71 z72 z73 z74 z75 z76 z77 z78 z79 z80 z81 z82 z83 z84 z85 z86 z87 z88 z89 z90 z91 z92 z93 z94 z95 z96 z97 z98 z99 z100 z101 z102 z103 z104 z105 z106 hM z107 z108 z109 z110 z111 z112 hP z113 z114 z115 z116 z117 z118 z119 z120 z121 z122 z123 z124 z125 z126 z127 z128 z129 z130 z131 z132 z133 z134 z135 z136 z137 z138 z139 z140 z141 z142 z143 z144 z145 z146 z147 z148 z149 z150 z151 z152 z153 z154 z155 z156 z157 z158 z159 z160 z161 z162 z163 z164 z165 z166 z167 z168 z169 z170 z171 z172 z173 z174 z175 z176 z177 z178 z179 z180 z181 z182 z183 z184 z185 z186 z187 z188 z189 z190 z191 z192 z193 z194 z195 z196 z197 z198 z199 z200 z201 z202 z203 z204 z205 z206 z207 z208 z209 z210 z211 z212 h3 tk3 ps n o2 o1 ov2 ov1 ho2 ho1 hps F N
    exact hG.out⟩
end Mine
end

section
open PySem PySem.W PyProof.Rows PySem.Calls PyProof.V PySem.Spec
set_option Elab.async false
set_option maxRecDepth 100000
set_option maxHeartbeats 100000000
namespace Mine
noncomputable def partE : (P : Prop) ×' (Goal9 P → partD.1) := ⟨_, fun hG => by
  k_with_none
  k_with "own omega" => with_reducible (first | exact Nat.zero_le _ | exact q_le (by assumption) (by decide) | exact q_up (by assumption) (by decide) | exact q_2 (by assumption) (by decide) | exact q_3 (by assumption) (by decide) | exact q_0 (by assumption) | exact q_int (by assumption) (by decide) | exact q_lt (by assumption) (by decide) | fail)
  k_with "own ne" => ((refine neN ?_; (try dsimp only); first | exact Nat.ne_of_gt (by with_reducible (first | assumption | exact And.left (by assumption) | exact And.left (And.right (by assumption)) | exact And.left (And.right (And.right (by assumption))) | exact And.left (And.right (And.right (And.right (by assumption)))) | exact And.left (And.right (And.right (And.right (And.right (by assumption))))) | exact And.left (And.right (And.right (And.right (And.right (And.right (by assumption)))))) | exact And.left (And.right (And.right (And.right (And.right (And.right (And.right (by assumption))))))) | exact And.left (And.right (And.right (And.right (And.right (And.right (And.right (And.right (by assumption)))))))) | exact And.left (And.right (And.right (And.right (And.right (And.right (And.right (And.right (And.right (by assumption))))))))) | exact And.left (And.right (And.right (And.right (And.right (And.right (And.right (And.right (And.right (And.right (by assumption)))))))))) | exact And.left (And.right (And.right (And.right (And.right (And.right (And.right (And.right (And.right (And.right (And.right (by assumption))))))))))) | exact And.left (And.right (And.right (And.right (And.right (And.right (And.right (And.right (And.right (And.right (And.right (And.right (by assumption)))))))))))) | exact And.left (And.right (And.right (And.right (And.right (And.right (And.right (And.right (And.right (And.right (And.right (And.right (And.right (by assumption))))))))))))) | exact And.left (And.right (And.right (And.right (And.right (And.right (And.right (And.right (And.right (And.right (And.right (And.right (And.right (And.right (by assumption)))))))))))))) | exact And.left (And.right (And.right (And.right (And.right (And.right (And.right (And.right (And.right (And.right (And.right (And.right (And.right (And.right (And.right (by assumption))))))))))))))) | exact And.left (And.right (And.right (And.right (And.right (And.right (And.right (And.right (And.right (And.right (And.right (And.right (And.right (And.right (And.right (And.right (by assumption)))))))))))))))) | exact And.left (And.right (And.right (And.right (And.right (And.right (And.right (And.right (And.right (And.right (And.right (And.right (And.right (And.right (And.right (And.right (And.right (by assumption))))))))))))))))) | exact And.left (And.right (And.right (And.right (And.right (And.right (And.right (And.right (And.right (And.right (And.right (And.right (And.right (And.right (And.right (And.right (And.right (And.right (by assumption)))))))))))))))))) | exact And.left (And.right (And.right (And.right (And.right (And.right (And.right (And.right (And.right (And.right (And.right (And.right (And.right (And.right (And.right (And.right (And.right (And.right (And.right (by assumption))))))))))))))))))) | exact And.left (And.right (And.right (And.right (And.right (And.right (And.right (And.right (And.right (And.right (And.right (And.right (And.right (And.right (And.right (And.right (And.right (And.right (And.right (And.right (by assumption)))))))))))))))))))) | exact And.left (And.right (And.right (And.right (And.right (And.right (And.right (And.right (And.right (And.right (And.right (And.right (And.right (And.right (And.right (And.right (And.right (And.right (And.right (And.right (And.right (by assumption))))))))))))))))))))) | exact And.left (And.right (And.right (And.right (And.right (And.right (And.right (And.right (And.right (And.right (And.right (And.right (And.right (And.right (And.right (And.right (And.right (And.right (And.right (And.right (And.right (And.right (by assumption)))))))))))))))))))))) | exact And.left (And.right (And.right (And.right (And.right (And.right (And.right (And.right (And.right (And.right (And.right (And.right (And.right (And.right (And.right (And.right (And.right (And.right (And.right (And.right (And.right (And.right (And.right (by assumption))))))))))))))))))))))) | exact And.left (And.right (And.right (And.right (And.right (And.right (And.right (And.right (And.right (And.right (And.right (And.right (And.right (And.right (And.right (And.right (And.right (And.right (And.right (And.right (And.right (And.right (And.right (And.right (by assumption)))))))))))))))))))))))) | fail "no order")) | exact Nat.ne_of_lt (by with_reducible (first | assumption | exact And.left (by assumption) | exact And.left (And.right (by assumption)) | exact And.left (And.right (And.right (by assumption))) | exact And.left (And.right (And.right (And.right (by assumption)))) | exact And.left (And.right (And.right (And.right (And.right (by assumption))))) | exact And.left (And.right (And.right (And.right (And.right (And.right (by assumption)))))) | exact And.left (And.right (And.right (And.right (And.right (And.right (And.right (by assumption))))))) | exact And.left (And.right (And.right (And.right (And.right (And.right (And.right (And.right (by assumption)))))))) | exact And.left (And.right (And.right (And.right (And.right (And.right (And.right (And.right (And.right (by assumption))))))))) | exact And.left (And.right (And.right (And.right (And.right (And.right (And.right (And.right (And.right (And.right (by assumption)))))))))) | exact And.left (And.right (And.right (And.right (And.right (And.right (And.right (And.right (And.right (And.right (And.right (by assumption))))))))))) | exact And.left (And.right (And.right (And.right (And.right (And.right (And.right (And.right (And.right (And.right (And.right (And.right (by assumption)))))))))))) | exact And.left (And.right (And.right (And.right (And.right (And.right (And.right (And.right (And.right (And.right (And.right (And.right (And.right (by assumption))))))))))))) | exact And.left (And.right (And.right (And.right (And.right (And.right (And.right (And.right (And.right (And.right (And.right (And.right (And.right (And.right (by assumption)))))))))))))) | exact And.left (And.right (And.right (And.right (And.right (And.right (And.right (And.right (And.right (And.right (And.right (And.right (And.right (And.right (And.right (by assumption))))))))))))))) | exact And.left (And.right (And.right (And.right (And.right (And.right (And.right (And.right (And.right (And.right (And.right (And.right (And.right (And.right (And.right (And.right (by assumption)))))))))))))))) | exact And.left (And.right (And.right (And.right (And.right (And.right (And.right (And.right (And.right (And.right (And.right (And.right (And.right (And.right (And.right (And.right (And.right (by assumption))))))))))))))))) | exact And.left (And.right (And.right (And.right (And.right (And.right (And.right (And.right (And.right (And.right (And.right (And.right (And.right (And.right (And.right (And.right (And.right (And.right (by assumption)))))))))))))))))) | exact And.left (And.right (And.right (And.right (And.right (And.right (And.right (And.right (And.right (And.right (And.right (And.right (And.right (And.right (And.right (And.right (And.right (And.right (And.right (by assumption))))))))))))))))))) | exact And.left (And.right (And.right (And.right (And.right (And.right (And.right (And.right (And.right (And.right (And.right (And.right (And.right (And.right (And.right (And.right (And.right (And.right (And.right (And.right (by assumption)))))))))))))))))))) | exact And.left (And.right (And.right (And.right (And.right (And.right (And.right (And.right (And.right (And.right (And.right (And.right (And.right (And.right (And.right (And.right (And.right (And.right (And.right (And.right (And.right (by assumption))))))))))))))))))))) | exact And.left (And.right (And.right (And.right (And.right (And.right (And.right (And.right (And.right (And.right (And.right (And.right (And.right (And.right (And.right (And.right (And.right (And.right (And.right (And.right (And.right (And.right (by assumption)))))))))))))))))))))) | exact And.left (And.right (And.right (And.right (And.right (And.right (And.right (And.right (And.right (And.right (And.right (And.right (And.right (And.right (And.right (And.right (And.right (And.right (And.right (And.right (And.right (And.right (And.right (by assumption))))))))))))))))))))))) | exact And.left (And.right (And.right (And.right (And.right (And.right (And.right (And.right (And.right (And.right (And.right (And.right (And.right (And.right (And.right (And.right (And.right (And.right (And.right (And.right (And.right (And.right (And.right (And.right (by assumption)))))))))))))))))))))))) | fail "no order")) | fail "k_ne"))
  k_with "eval Name" => (k_here; k_dflt (refine' nameX_L ?F ?v ?_ ?a ?b; (case a => rfl); (case b => rfl); (case F => k_asm); (case v => first | exact rfl | exact (id (by assumption))); k_whole))
  k_with "call ref" => (k_dflt (refine' spec_modname _ _ _ _ (PathOk.a1 (by assumption)) _ (PathOk.a2 (by assumption)) (PathOk.a3 (by assumption)) (PathOk.a4 (by assumption)) (PathOk.a5 (by assumption)) (PathOk.a6 (by assumption)) rfl _ _ _ _ _ _ _ _ _ _ _ _ _ _ _ _ _ ?k1 ?k2 ?k3 ?k4 ?k5 ?k6 ?k7 ?k8 ?_; (case k1 => k_asm); (case k2 => k_asm); (case k3 => k_asm); (case k4 => k_asm); (case k5 => k_asm); (case k6 => exact rfl); (case k7 => ktr_room); (case k8 => ktr_units)); intro t9kk h9kk tk9kk F9kk N9kk; (try dsimp only); (try k_fold))
  k_with "exec Assign cons ListComp" => (k_here; k_dflt (refine Assign_ListComp_G (by k_asm) (by rfl) (by with_unfolding_all rfl) (by with_unfolding_all rfl) (by decide) (by rfl) (by decide) (by rfl) (by rfl) ?_ (by intro _; rfl)))
  intro w9
  revert w9
  w_top off
  k_fill
  intros
  rename Shared => s1
  rename (List.length _ ≤ 10) => hns
  rename (_[0]? = some 4) => h4
  rename List Int => ns
  have e4 := msf_ne h4
  rename News _ _ _ _ => N9
  replace N9 := news_giv N9
  rename (StrsAre _ (List.map tailF _)) => hGM
  rename (StrsAre _ (List.map givenF _)) => hGP
  iterate 8 walk1
  k_dflt (refine' spec_ignore2 _ [_, _, _, _, _, _, _, _, _] hGM hGP e4 ?kml ?kdl ?kgood _ _ _ _ _ _ _ _ _ _ _ _ _ _ _ _ _ ?k1 ?k2 ?k3 ?k4 ?k5 ?k6 ?k7 ?k8 ?_; (case k1 => k_asm); (case k2 => k_asm); (case k3 => k_asm); (case k4 => k_asm); (case k5 => k_asm); (case k6 => exact rfl); (case k7 => ktr_room); (case k8 => ktr_units))
  case kml => rw [List.length_map]; exact Nat.le_trans (someF_len _ _ _) (by omega)
  case kdl => rw [List.length_map]; exact Nat.le_trans (List.length_filter_le _ _) (by omega)
  case kgood => intro d hd; obtain ⟨n, _, rfl⟩ := List.mem_map.mp hd; exact given_good n
  intro G oG M oM Dd dvs nd dS self t1 t2 t3 sl kvs nm h' tk' hoG hkvs hoM hnm hdvs hGs ⟨o1, o2, o3, o4, o5, o6, o7, o8, o9, o10⟩ lG lM lD ldS lself F' N'
  k_lt lG
  k_lt lM
  k_lt lD
  k_lt ldS
  k_lt lself
  rw [dsf_out] at hdvs
  rename News _ _ _ _ => N8
  simp only [selfLed] at N8
  (try dsimp only)
  (try k_fold)
  repeat walk1
  rename (StrsAre _ (PS3 6)) => hps
  have hps : StrsAre _ PSA := hps
  rename Fr _ _ _ _ => F9
  rename News _ _ _ _ => N9
  refine gat_list (fun d => d = s1.drawn) (fun i zs nw => nw = ledAll N9 ∧ StrsAre zs ((PSA.take i).map modF)) [] (by rfl) (by rfl) (by rfl) (News.isList N9 (by k_mem)) (N9 (_, listOf (List.toArray _) _) (by k_mem)).2.1 (by rw [hps.length, PSA_len, sizeLine_eq]; omega) F9 N9 (fun b hb => nomatch hb) rfl ⟨rfl, .nil⟩ ?_ ?_
  · rintro i v ys nw hv - ⟨hnw, hy⟩
    subst hnw
    obtain ⟨k, tk, hk, rfl⟩ := strs_item hps i v hv
    have hkl := paths_ok k (List.mem_of_getElem? hk)
    intro s₁ X C oC m₂ E' hm hk9 ho hc hX hC F N
    simp only [ledAll, List.cons_append] at N
    refine wpAny_tests_nil ?_
    simp only [if_true]
    k_steps
    exact GEnd.same (by k_asm) (by k_asm) _ (by assumption) (fun p hp => .tail _ (List.mem_append_right (ledAll N9) hp)) (fun p hp => .tail _ (List.mem_append_left X hp)) rfl ⟨rfl, by rw [map_take hk]; exact snoc_eq hy rfl⟩
  · intro h dr ys nw hd9 ha9 hj9
    obtain ⟨hnw, hy⟩ := hj9
    subst hnw
    have hd9 : dr = s1.drawn := hd9
    subst hd9
    rw [hps.length, List.take_of_length_le (Nat.le_refl _)] at hy
    unfold FinGA
    intro D hh tk FD ND offD
    simp only [ledAll] at ND offD
    (try k_lt offD)
    clear ha9 N9 F9
    try k_fold
    repeat walk1
    rename News _ _ _ _ => N8
    replace N8 := news_rot N8
    rename_i z1 z2 z3 z4 z5 z6 z7 z8 z9 z10 z11 z12 z13 z14 z15 z16 z17 z18 z19 z20 z21 z22 z23 z24 z25 z26 z27 z28 z29 z30 z31 z32 z33 z34 z35 z36 z37 z38 z39 z40 z41 z42 z43 z44 z45 z46 z47 z48 z49 z50 z51 z52 z53 z54 z55 z56 z57 z58 z59 z60 z61 z62 z63 z64 z65 z66 z67 z68 z69 z70 z71 z72 z73 z74 z75 z76 z77 z78 z79 z80 z81 z82 z83 z84 z85 z86 z87 z88 z89 z90 z91 z92 z93 z94 z95 z96 z97 z98 z99 z100 z101 z102 z103 z104 z105 z106 z107 z108 z109 z110 z111 z112 z113 z114 z115 z116 z117 z118 z119 z120 z121 z122 z123 z124 z125 z126 z127 z128 z129 z130 z131 z132 z133 z134 z135 z136 z137 z138 z139 z140 z141 z142 z143 z144 z145 z146 z147 z148 z149 z150 z151 z152 z153 z154 z155 z156 z157 z158 z159 z160 z161 z162 z163 z164 z165 z166 z167 z168 z169 z170 z171 z172 z173 z174 z175 z176 z177 z178 z179 z180 z181 z182 z183 z184 z185 z186 z187 z188 z189 z190 z191 z192 z193 z194 z195 z196 z197 z198 z199 z200 z201 z202 z203 z204 z205 z206 z207 z208 z209 z210 z211 z212 z213 z214 z215 z216 z217 z218 z219 z220 z221 z222 z223 z224 z225
    revert z1 z2 s1 z3 z4 z5 z6 z7 z8 z9 z10 z11 z12 z13 z14 z15 z16 z17 z18 z19 z20 z21 z22 z23 z24 z25 z26 z27 z28 z29 z30 z31 z32 z33 z34 z35 z36 z37 z38 z39 z40 z41 z42 z43 z44 z45 z46 z47 z48 z49 z50 z51 z52 z53 z54 z55 z56 z57 z58 z59 z60 z61 z62 z63 z64 z65 z66 z67 z68 z69 z70 z71 z72 z73 z74 z75 z76 z77 z78 z79 z80 z81 z82 z83 z84 z85 z86 z87 z88 ns z89 z90 z91 z92 z93 z94 z95 z96 z97 h4 z98 z99 z100 z101 z102 z103 z104 z105 z106 z107 z108 z109 z110 z111 z112 z113 z114 z115 z116 z117 z118 z119 z120 z121 z122 z123 z124 z125 z126 z127 z128 z129 z130 z131 z132 z133 z134 z135 z136 z137 z138 z139 z140 z141 z142 z143 z144 z145 z146 z147 z148 z149 z150 z151 z152 z153 z154 z155 z156 z157 z158 z159 z160 z161 z162 z163 z164 z165 z166 z167 z168 z169 hns z170 z171 z172 z173 z174 z175 z176 z177 z178 z179 z180 z181 z182 z183 hGM z184 hGP z185 z186 z187 z188 z189 z190 z191 z192 z193 z194 z195 z196 z197 z198 z199 z200 z201 z202 z203 z204 z205 z206 z207 z208 z209 z210 z211 z212 z213 z214 z215 z216 z217 z218 z219 z220 z221 e4 N9 G oG M oM Dd dvs nd dS self t1 t2 t3 sl kvs nm h' tk' hoG hkvs hoM hnm hdvs hGs o1 o2 o3 o4 o5 o6 o7 o8 o9 o10 lG lM lD ldS lself z222 z223 z224 z225 hps h ys hy hd9 D hh tk FD offD N8
    exact hG.out⟩
end Mine
end

section
open PySem PySem.W PyProof.Rows PySem.Calls PyProof.V PySem.Spec
set_option Elab.async false
set_option maxRecDepth 100000
set_option maxHeartbeats 100000000
namespace Mine
noncomputable def partF : (P : Prop) ×' (Goal9 P → partE.1) := ⟨_, fun hG => by
  k_with_none
  k_with "own omega" => with_reducible (first | exact Nat.zero_le _ | exact q_le (by assumption) (by decide) | exact q_up (by assumption) (by decide) | exact q_2 (by assumption) (by decide) | exact q_3 (by assumption) (by decide) | exact q_0 (by assumption) | exact q_int (by assumption) (by decide) | exact q_lt (by assumption) (by decide) | fail)
  k_with "own ne" => ((refine neN ?_; (try dsimp only); first | exact Nat.ne_of_gt (by with_reducible (first | assumption | exact And.left (by assumption) | exact And.left (And.right (by assumption)) | exact And.left (And.right (And.right (by assumption))) | exact And.left (And.right (And.right (And.right (by assumption)))) | exact And.left (And.right (And.right (And.right (And.right (by assumption))))) | exact And.left (And.right (And.right (And.right (And.right (And.right (by assumption)))))) | exact And.left (And.right (And.right (And.right (And.right (And.right (And.right (by assumption))))))) | exact And.left (And.right (And.right (And.right (And.right (And.right (And.right (And.right (by assumption)))))))) | exact And.left (And.right (And.right (And.right (And.right (And.right (And.right (And.right (And.right (by assumption))))))))) | exact And.left (And.right (And.right (And.right (And.right (And.right (And.right (And.right (And.right (And.right (by assumption)))))))))) | exact And.left (And.right (And.right (And.right (And.right (And.right (And.right (And.right (And.right (And.right (And.right (by assumption))))))))))) | exact And.left (And.right (And.right (And.right (And.right (And.right (And.right (And.right (And.right (And.right (And.right (And.right (by assumption)))))))))))) | exact And.left (And.right (And.right (And.right (And.right (And.right (And.right (And.right (And.right (And.right (And.right (And.right (And.right (by assumption))))))))))))) | exact And.left (And.right (And.right (And.right (And.right (And.right (And.right (And.right (And.right (And.right (And.right (And.right (And.right (And.right (by assumption)))))))))))))) | exact And.left (And.right (And.right (And.right (And.right (And.right (And.right (And.right (And.right (And.right (And.right (And.right (And.right (And.right (And.right (by assumption))))))))))))))) | exact And.left (And.right (And.right (And.right (And.right (And.right (And.right (And.right (And.right (And.right (And.right (And.right (And.right (And.right (And.right (And.right (by assumption)))))))))))))))) | exact And.left (And.right (And.right (And.right (And.right (And.right (And.right (And.right (And.right (And.right (And.right (And.right (And.right (And.right (And.right (And.right (And.right (by assumption))))))))))))))))) | exact And.left (And.right (And.right (And.right (And.right (And.right (And.right (And.right (And.right (And.right (And.right (And.right (And.right (And.right (And.right (And.right (And.right (And.right (by assumption)))))))))))))))))) | exact And.left (And.right (And.right (And.right (And.right (And.right (And.right (And.right (And.right (And.right (And.right (And.right (And.right (And.right (And.right (And.right (And.right (And.right (And.right (by assumption))))))))))))))))))) | exact And.left (And.right (And.right (And.right (And.right (And.right (And.right (And.right (And.right (And.right (And.right (And.right (And.right (And.right (And.right (And.right (And.right (And.right (And.right (And.right (by assumption)))))))))))))))))))) | exact And.left (And.right (And.right (And.right (And.right (And.right (And.right (And.right (And.right (And.right (And.right (And.right (And.right (And.right (And.right (And.right (And.right (And.right (And.right (And.right (And.right (by assumption))))))))))))))))))))) | exact And.left (And.right (And.right (And.right (And.right (And.right (And.right (And.right (And.right (And.right (And.right (And.right (And.right (And.right (And.right (And.right (And.right (And.right (And.right (And.right (And.right (And.right (by assumption)))))))))))))))))))))) | exact And.left (And.right (And.right (And.right (And.right (And.right (And.right (And.right (And.right (And.right (And.right (And.right (And.right (And.right (And.right (And.right (And.right (And.right (And.right (And.right (And.right (And.right (And.right (by assumption))))))))))))))))))))))) | exact And.left (And.right (And.right (And.right (And.right (And.right (And.right (And.right (And.right (And.right (And.right (And.right (And.right (And.right (And.right (And.right (And.right (And.right (And.right (And.right (And.right (And.right (And.right (And.right (by assumption)))))))))))))))))))))))) | fail "no order")) | exact Nat.ne_of_lt (by with_reducible (first | assumption | exact And.left (by assumption) | exact And.left (And.right (by assumption)) | exact And.left (And.right (And.right (by assumption))) | exact And.left (And.right (And.right (And.right (by assumption)))) | exact And.left (And.right (And.right (And.right (And.right (by assumption))))) | exact And.left (And.right (And.right (And.right (And.right (And.right (by assumption)))))) | exact And.left (And.right (And.right (And.right (And.right (And.right (And.right (by assumption))))))) | exact And.left (And.right (And.right (And.right (And.right (And.right (And.right (And.right (by assumption)))))))) | exact And.left (And.right (And.right (And.right (And.right (And.right (And.right (And.right (And.right (by assumption))))))))) | exact And.left (And.right (And.right (And.right (And.right (And.right (And.right (And.right (And.right (And.right (by assumption)))))))))) | exact And.left (And.right (And.right (And.right (And.right (And.right (And.right (And.right (And.right (And.right (And.right (by assumption))))))))))) | exact And.left (And.right (And.right (And.right (And.right (And.right (And.right (And.right (And.right (And.right (And.right (And.right (by assumption)))))))))))) | exact And.left (And.right (And.right (And.right (And.right (And.right (And.right (And.right (And.right (And.right (And.right (And.right (And.right (by assumption))))))))))))) | exact And.left (And.right (And.right (And.right (And.right (And.right (And.right (And.right (And.right (And.right (And.right (And.right (And.right (And.right (by assumption)))))))))))))) | exact And.left (And.right (And.right (And.right (And.right (And.right (And.right (And.right (And.right (And.right (And.right (And.right (And.right (And.right (And.right (by assumption))))))))))))))) | exact And.left (And.right (And.right (And.right (And.right (And.right (And.right (And.right (And.right (And.right (And.right (And.right (And.right (And.right (And.right (And.right (by assumption)))))))))))))))) | exact And.left (And.right (And.right (And.right (And.right (And.right (And.right (And.right (And.right (And.right (And.right (And.right (And.right (And.right (And.right (And.right (And.right (by assumption))))))))))))))))) | exact And.left (And.right (And.right (And.right (And.right (And.right (And.right (And.right (And.right (And.right (And.right (And.right (And.right (And.right (And.right (And.right (And.right (And.right (by assumption)))))))))))))))))) | exact And.left (And.right (And.right (And.right (And.right (And.right (And.right (And.right (And.right (And.right (And.right (And.right (And.right (And.right (And.right (And.right (And.right (And.right (And.right (by assumption))))))))))))))))))) | exact And.left (And.right (And.right (And.right (And.right (And.right (And.right (And.right (And.right (And.right (And.right (And.right (And.right (And.right (And.right (And.right (And.right (And.right (And.right (And.right (by assumption)))))))))))))))))))) | exact And.left (And.right (And.right (And.right (And.right (And.right (And.right (And.right (And.right (And.right (And.right (And.right (And.right (And.right (And.right (And.right (And.right (And.right (And.right (And.right (And.right (by assumption))))))))))))))))))))) | exact And.left (And.right (And.right (And.right (And.right (And.right (And.right (And.right (And.right (And.right (And.right (And.right (And.right (And.right (And.right (And.right (And.right (And.right (And.right (And.right (And.right (And.right (by assumption)))))))))))))))))))))) | exact And.left (And.right (And.right (And.right (And.right (And.right (And.right (And.right (And.right (And.right (And.right (And.right (And.right (And.right (And.right (And.right (And.right (And.right (And.right (And.right (And.right (And.right (And.right (by assumption))))))))))))))))))))))) | exact And.left (And.right (And.right (And.right (And.right (And.right (And.right (And.right (And.right (And.right (And.right (And.right (And.right (And.right (And.right (And.right (And.right (And.right (And.right (And.right (And.right (And.right (And.right (And.right (by assumption)))))))))))))))))))))))) | fail "no order")) | fail "k_ne"))
  k_with "eval Name" => (k_here; k_dflt (refine' nameX_L ?F ?v ?_ ?a ?b; (case a => rfl); (case b => rfl); (case F => k_asm); (case v => first | exact rfl | exact (id (by assumption))); k_whole))
  intro w9
  revert w9
  w_top off
  k_fill
  intros
  rename Shared => s1
  rename (List.length _ ≤ 10) => hns
  rename List Int => ns
  rename (StrsAre _ PSA) => hps
  rename (StrsAre _ (List.map modF PSA)) => hcl
  rename (Obj.IsDictOf _ _ _) => hoG
  rename (FlatPairs _ _ _) => hkvs
  rename (StrsAre _ (DSF ns)) => hdvs
  rename (StrSet _ _ _ _ _) => hoM
  rename ((_ == sysModules) = false) => hGs
  rename (_ ≤ List.length (List.map tailF _)) => hnm
  rename Fr _ _ _ _ => F9
  rename News _ _ _ _ => N9
  refine gat_zip (fun _ => True) (fun i zs nw => ∃ oG' kvs', nw = setG (ledAll N9) oG' ∧ Obj.IsDictOf (PySem.strKind PySem.Challenge.rw_sn0121_01.row.prog _) oG' kvs' ∧ PyProof.V.FlatPairs PyData.str kvs' (kdpD (memoF (MSF ns) (DSF ns) i)) ∧ StrsAre zs ((PSA.take i).map (ansT (MSF ns) (DSF ns)))) (keyG (ledAll N9)) (by rfl) (by rfl) (by rfl) (by rfl) (by decide) (News.isList N9 (by k_mem)) (News.isList N9 (by k_mem)) (N9 (_, listOf (List.toArray _) _) (by k_mem)).2.1 (N9 (_, listOf (List.toArray _) _) (by k_mem)).2.1 (by rw [hps.length, PSA_len, sizeLine_eq]; omega) F9 N9 ?_ trivial ⟨_, _, rfl, hoG, hkvs, .nil⟩ ?_ ?_
  · intro b hb
    simp only [keyG, ledAll, List.mem_cons, List.not_mem_nil, or_false] at hb
    subst hb
    exact ⟨by k_ne, by k_ne, Heap.lt_size (N9 (_, _) (by k_mem)).1⟩
  · rintro i v u ys nw hv hu hadr ⟨oG', kvs', rfl, hoG', hkvs', hy⟩
    obtain ⟨p, tp, hp, rfl⟩ := strs_item hps i v hv
    obtain ⟨q, tq, hq, rfl⟩ := strs_item hcl i u hu
    have hqe : q = modF p := by rw [List.getElem?_map, hp] at hq; exact (Option.some.inj hq).symm
    subst hqe
    have hpm : p ∈ PSA := List.mem_of_getElem? hp
    have hpok := paths_ok p hpm
    have hpl := hpok.a1
    have hql := modF_len hpm
    have hnew : kdpHas (memoF (MSF ns) (DSF ns) i) (modF p) = false := memo_new hp
    intro s₁ X C oC m₂ E' ⟨hm1, hm2⟩ hk9 ho hc hX hC F N
    simp only [setG, keyG, ledAll, List.cons_append] at N ho hc
    refine wpAny_tests_nil ?_
    simp only [if_true]
    replace N := news_rot N
    iterate 15 walk1
    rename Fr _ _ _ _ => F8
    rename News _ _ _ _ => N8
    k_dflt (refine' names_new _ hoG' hkvs' (memo_len _ _ _) hoM ?knm hdvs hGs ?koff p _ (modF p) _ hnew hql hpl (MSF_len ns) (DSF_len ns) _ _ _ _ _ _ _ _ _ _ _ _ _ _ _ _ _ ?k1 ?k2 ?k3 ?k4 ?k5 ?k6 ?k7 ?k8 ?r1 ?r0; (case k1 => k_asm); (case k2 => k_asm); (case k3 => k_asm); (case k4 => k_asm); (case k5 => k_asm); (case k6 => exact rfl); (case k7 => ktr_room); (case k8 => ktr_units))
    case knm => exact Nat.le_trans hnm (by rw [List.length_map]; exact Nat.le_trans (someF_len _ _ _) (by omega))
    case koff =>
      have hGC : ¬ @Eq Nat C _ := fun e => hc _ (.head _) e.symm
      dsimp only at hGC
      k_all
    case r1 =>
      intro hans t9 h9 tk9 d9 oG9 kvs9 hoG9 hkvs9 F7 N7
      have hans : ansF (MSF ns) (DSF ns) p = 1 := ans_one hans
      simp only [selfLed] at N7
      replace N7 := news_unrot N7
      clear N8 F8
      (try dsimp only)
      (try k_fold)
      repeat walk1
      exact ⟨_, _, _, _, setG (ledAll N9) oG9, rfl, trivial, (by k_asm), N7, fun q hq => .tail _ (List.mem_append_right (setG (ledAll N9) oG9) hq), fun q hq => .tail _ (List.mem_append_left X hq), rfl, ⟨oG9, kvs9, rfl, hoG9, by rw [memo_next hp, hans]; exact hkvs9, by rw [map_take hp]; exact snoc_eq hy (by unfold ansT; rw [hans])⟩⟩
    case r0 =>
      intro hans1 hans2 hans3 t9 h9 tk9 d9 oG9 kvs9 hoG9 hkvs9 F7 N7
      have hans : ansF (MSF ns) (DSF ns) p = 0 := ans_zero hans1 hans2 hans3
      simp only [selfLed] at N7
      replace N7 := news_unrot N7
      clear N8 F8
      (try dsimp only)
      (try k_fold)
      repeat walk1
      exact ⟨_, _, _, _, setG (ledAll N9) oG9, rfl, trivial, (by k_asm), N7, fun q hq => .tail _ (List.mem_append_right (setG (ledAll N9) oG9) hq), fun q hq => .tail _ (List.mem_append_left X hq), rfl, ⟨oG9, kvs9, rfl, hoG9, by rw [memo_next hp, hans]; exact hkvs9, by rw [map_take hp]; exact snoc_eq hy (by unfold ansT; rw [hans])⟩⟩
  · rintro h dr ys nw - ha9 ⟨oG', kvs', rfl, hoG', hkvs', hy⟩
    rw [hps.length, hcl.length, List.length_map, Nat.min_self] at hkvs' hy
    rw [List.take_of_length_le (Nat.le_refl _)] at hy
    unfold FinGA
    intro D hh tk FD ND offD
    simp only [setG, ledAll] at ND offD
    (try k_lt offD)
    clear ha9 N9 F9 hoG hkvs
    try k_fold
    rename_i z1 z2 z3 z4 z5 z6 z7 z8 z9 z10 z11 z12 z13 z14 z15 z16 z17 z18 z19 z20 z21 z22 z23 z24 z25 z26 z27 z28 z29 z30 z31 z32 z33 z34 z35 z36 z37 z38 z39 z40 z41 z42 z43 z44 z45 z46 z47 z48 z49 z50 z51 z52 z53 z54 z55 z56 z57 z58 z59 z60 z61 z62 z63 z64 z65 z66 z67 z68 z69 z70 z71 z72 z73 z74 z75 z76 z77 z78 z79 z80 z81 z82 z83 z84 z85 z86 z87 z88 z89 z90 z91 z92 z93 z94 z95 z96 z97 z98 z99 z100 z101 z102 z103 z104 z105 z106 z107 z108 z109 z110 z111 z112 z113 z114 z115 z116 z117 z118 z119 z120 z121 z122 z123 z124 z125 z126 z127 z128 z129 z130 z131 z132 z133 z134 z135 z136 z137 z138 z139 z140 z141 z142 z143 z144 z145 z146 z147 z148 z149 z150 z151 z152 z153 z154 z155 z156 z157 z158 z159 z160 z161 z162 z163 z164 z165 z166 z167 z168 z169 z170 z171 z172 z173 z174 z175 z176 z177 z178 z179 z180 z181 z182 z183 z184 z185 z186 z187 z188 z189 z190 z191 z192 z193 z194 z195 z196 z197 z198 z199 z200 z201 z202 z203 z204 z205 z206 z207 z208 z209 z210 z211 z212 z213 z214 z215 z216 z217 z218 z219 z220 z221 z222 z223 z224 z225 z226 z227 z228 z229 z230 z231 z232 z233 z234 z235 z236 z237 z238 z239 z240 z241 z242 z243 z244 z245 z246 z247 z248 z249 z250 z251 z252 z253 z254 z255 z256 z257 z258 z259 z260 z261 z262 z263 z264 z265 z266 z267 z268 z269
    revert z1 z2 s1 z3 z4 z5 z6 z7 z8 z9 z10 z11 z12 z13 z14 z15 z16 z17 z18 z19 z20 z21 z22 z23 z24 z25 z26 z27 z28 z29 z30 z31 z32 z33 z34 z35 z36 z37 z38 z39 z40 z41 z42 z43 z44 z45 z46 z47 z48 z49 z50 z51 z52 z53 z54 z55 z56 z57 z58 z59 z60 z61 z62 z63 z64 z65 z66 z67 z68 z69 z70 z71 z72 z73 z74 z75 z76 z77 z78 z79 z80 z81 z82 z83 z84 z85 z86 z87 z88 ns z89 z90 z91 z92 z93 z94 z95 z96 z97 z98 z99 z100 z101 z102 z103 z104 z105 z106 z107 z108 z109 z110 z111 z112 z113 z114 z115 z116 z117 z118 z119 z120 z121 z122 z123 z124 z125 z126 z127 z128 z129 z130 z131 z132 z133 z134 z135 z136 z137 z138 z139 z140 z141 z142 z143 z144 z145 z146 z147 z148 z149 z150 z151 z152 z153 z154 z155 z156 z157 z158 z159 z160 z161 z162 z163 z164 z165 z166 z167 z168 z169 z170 hns z171 z172 z173 z174 z175 z176 z177 z178 z179 z180 z181 z182 z183 z184 z185 z186 z187 z188 z189 z190 z191 z192 z193 z194 z195 z196 z197 z198 z199 z200 z201 z202 z203 z204 z205 z206 z207 z208 z209 z210 z211 z212 z213 z214 z215 z216 z217 z218 z219 z220 z221 z222 z223 z224 z225 z226 z227 z228 z229 z230 z231 z232 z233 z234 z235 z236 z237 z238 z239 z240 z241 z242 z243 hoM hnm hdvs hGs z244 z245 z246 z247 z248 z249 z250 z251 z252 z253 z254 z255 z256 z257 z258 z259 z260 z261 z262 hps z263 z264 hcl z265 z266 z267 z268 z269 h dr ys oG' kvs' hoG' hkvs' hy D hh tk FD ND offD
    exact hG.out⟩
end Mine
end

section
open PySem PySem.W PyProof.Rows PySem.Calls PyProof.V PySem.Spec
set_option Elab.async false
set_option maxRecDepth 100000
set_option maxHeartbeats 100000000
namespace Mine
noncomputable def partG : (P : Prop) ×' (Goal9 P → partF.1) := ⟨_, fun hG => by
  k_with_none
  k_with "own omega" => with_reducible (first | exact Nat.zero_le _ | exact q_le (by assumption) (by decide) | exact q_up (by assumption) (by decide) | exact q_2 (by assumption) (by decide) | exact q_3 (by assumption) (by decide) | exact q_0 (by assumption) | exact q_int (by assumption) (by decide) | exact q_lt (by assumption) (by decide) | fail)
  k_with "own ne" => ((refine neN ?_; (try dsimp only); first | exact Nat.ne_of_gt (by with_reducible (first | assumption | exact And.left (by assumption) | exact And.left (And.right (by assumption)) | exact And.left (And.right (And.right (by assumption))) | exact And.left (And.right (And.right (And.right (by assumption)))) | exact And.left (And.right (And.right (And.right (And.right (by assumption))))) | exact And.left (And.right (And.right (And.right (And.right (And.right (by assumption)))))) | exact And.left (And.right (And.right (And.right (And.right (And.right (And.right (by assumption))))))) | exact And.left (And.right (And.right (And.right (And.right (And.right (And.right (And.right (by assumption)))))))) | exact And.left (And.right (And.right (And.right (And.right (And.right (And.right (And.right (And.right (by assumption))))))))) | exact And.left (And.right (And.right (And.right (And.right (And.right (And.right (And.right (And.right (And.right (by assumption)))))))))) | exact And.left (And.right (And.right (And.right (And.right (And.right (And.right (And.right (And.right (And.right (And.right (by assumption))))))))))) | exact And.left (And.right (And.right (And.right (And.right (And.right (And.right (And.right (And.right (And.right (And.right (And.right (by assumption)))))))))))) | exact And.left (And.right (And.right (And.right (And.right (And.right (And.right (And.right (And.right (And.right (And.right (And.right (And.right (by assumption))))))))))))) | exact And.left (And.right (And.right (And.right (And.right (And.right (And.right (And.right (And.right (And.right (And.right (And.right (And.right (And.right (by assumption)))))))))))))) | exact And.left (And.right (And.right (And.right (And.right (And.right (And.right (And.right (And.right (And.right (And.right (And.right (And.right (And.right (And.right (by assumption))))))))))))))) | exact And.left (And.right (And.right (And.right (And.right (And.right (And.right (And.right (And.right (And.right (And.right (And.right (And.right (And.right (And.right (And.right (by assumption)))))))))))))))) | exact And.left (And.right (And.right (And.right (And.right (And.right (And.right (And.right (And.right (And.right (And.right (And.right (And.right (And.right (And.right (And.right (And.right (by assumption))))))))))))))))) | exact And.left (And.right (And.right (And.right (And.right (And.right (And.right (And.right (And.right (And.right (And.right (And.right (And.right (And.right (And.right (And.right (And.right (And.right (by assumption)))))))))))))))))) | exact And.left (And.right (And.right (And.right (And.right (And.right (And.right (And.right (And.right (And.right (And.right (And.right (And.right (And.right (And.right (And.right (And.right (And.right (And.right (by assumption))))))))))))))))))) | exact And.left (And.right (And.right (And.right (And.right (And.right (And.right (And.right (And.right (And.right (And.right (And.right (And.right (And.right (And.right (And.right (And.right (And.right (And.right (And.right (by assumption)))))))))))))))))))) | exact And.left (And.right (And.right (And.right (And.right (And.right (And.right (And.right (And.right (And.right (And.right (And.right (And.right (And.right (And.right (And.right (And.right (And.right (And.right (And.right (And.right (by assumption))))))))))))))))))))) | exact And.left (And.right (And.right (And.right (And.right (And.right (And.right (And.right (And.right (And.right (And.right (And.right (And.right (And.right (And.right (And.right (And.right (And.right (And.right (And.right (And.right (And.right (by assumption)))))))))))))))))))))) | exact And.left (And.right (And.right (And.right (And.right (And.right (And.right (And.right (And.right (And.right (And.right (And.right (And.right (And.right (And.right (And.right (And.right (And.right (And.right (And.right (And.right (And.right (And.right (by assumption))))))))))))))))))))))) | exact And.left (And.right (And.right (And.right (And.right (And.right (And.right (And.right (And.right (And.right (And.right (And.right (And.right (And.right (And.right (And.right (And.right (And.right (And.right (And.right (And.right (And.right (And.right (And.right (by assumption)))))))))))))))))))))))) | fail "no order")) | exact Nat.ne_of_lt (by with_reducible (first | assumption | exact And.left (by assumption) | exact And.left (And.right (by assumption)) | exact And.left (And.right (And.right (by assumption))) | exact And.left (And.right (And.right (And.right (by assumption)))) | exact And.left (And.right (And.right (And.right (And.right (by assumption))))) | exact And.left (And.right (And.right (And.right (And.right (And.right (by assumption)))))) | exact And.left (And.right (And.right (And.right (And.right (And.right (And.right (by assumption))))))) | exact And.left (And.right (And.right (And.right (And.right (And.right (And.right (And.right (by assumption)))))))) | exact And.left (And.right (And.right (And.right (And.right (And.right (And.right (And.right (And.right (by assumption))))))))) | exact And.left (And.right (And.right (And.right (And.right (And.right (And.right (And.right (And.right (And.right (by assumption)))))))))) | exact And.left (And.right (And.right (And.right (And.right (And.right (And.right (And.right (And.right (And.right (And.right (by assumption))))))))))) | exact And.left (And.right (And.right (And.right (And.right (And.right (And.right (And.right (And.right (And.right (And.right (And.right (by assumption)))))))))))) | exact And.left (And.right (And.right (And.right (And.right (And.right (And.right (And.right (And.right (And.right (And.right (And.right (And.right (by assumption))))))))))))) | exact And.left (And.right (And.right (And.right (And.right (And.right (And.right (And.right (And.right (And.right (And.right (And.right (And.right (And.right (by assumption)))))))))))))) | exact And.left (And.right (And.right (And.right (And.right (And.right (And.right (And.right (And.right (And.right (And.right (And.right (And.right (And.right (And.right (by assumption))))))))))))))) | exact And.left (And.right (And.right (And.right (And.right (And.right (And.right (And.right (And.right (And.right (And.right (And.right (And.right (And.right (And.right (And.right (by assumption)))))))))))))))) | exact And.left (And.right (And.right (And.right (And.right (And.right (And.right (And.right (And.right (And.right (And.right (And.right (And.right (And.right (And.right (And.right (And.right (by assumption))))))))))))))))) | exact And.left (And.right (And.right (And.right (And.right (And.right (And.right (And.right (And.right (And.right (And.right (And.right (And.right (And.right (And.right (And.right (And.right (And.right (by assumption)))))))))))))))))) | exact And.left (And.right (And.right (And.right (And.right (And.right (And.right (And.right (And.right (And.right (And.right (And.right (And.right (And.right (And.right (And.right (And.right (And.right (And.right (by assumption))))))))))))))))))) | exact And.left (And.right (And.right (And.right (And.right (And.right (And.right (And.right (And.right (And.right (And.right (And.right (And.right (And.right (And.right (And.right (And.right (And.right (And.right (And.right (by assumption)))))))))))))))))))) | exact And.left (And.right (And.right (And.right (And.right (And.right (And.right (And.right (And.right (And.right (And.right (And.right (And.right (And.right (And.right (And.right (And.right (And.right (And.right (And.right (And.right (by assumption))))))))))))))))))))) | exact And.left (And.right (And.right (And.right (And.right (And.right (And.right (And.right (And.right (And.right (And.right (And.right (And.right (And.right (And.right (And.right (And.right (And.right (And.right (And.right (And.right (And.right (by assumption)))))))))))))))))))))) | exact And.left (And.right (And.right (And.right (And.right (And.right (And.right (And.right (And.right (And.right (And.right (And.right (And.right (And.right (And.right (And.right (And.right (And.right (And.right (And.right (And.right (And.right (And.right (by assumption))))))))))))))))))))))) | exact And.left (And.right (And.right (And.right (And.right (And.right (And.right (And.right (And.right (And.right (And.right (And.right (And.right (And.right (And.right (And.right (And.right (And.right (And.right (And.right (And.right (And.right (And.right (And.right (by assumption)))))))))))))))))))))))) | fail "no order")) | fail "k_ne"))
  k_with "eval Name" => (k_here; k_dflt (refine' nameX_L ?F ?v ?_ ?a ?b; (case a => rfl); (case b => rfl); (case F => k_asm); (case v => first | exact rfl | exact (id (by assumption))); k_whole))
  k_with "subscriptTail Name Slice ref ref" => (k_here; (with_reducible show wpAny _ _ (subscriptTail _ (PySem.Expr.Slice _ _ none _) (Value.ref _) (Value.ref _)) _ _ _); k_dflt (refine' part_strs ?Fq9 ?Nq9 ?mq9 ?pq9 ?qq9 ?iq9 ?_ ?sq9 ?tq9 ?zq9; (case Fq9 => k_asm); (case Nq9 => k_asm); (case mq9 => k_mem); (case pq9 => kmk_part); (case qq9 => kmk_part); (case iq9 => assumption); (case sq9 => with_unfolding_all rfl); (case tq9 => kmk_pure); (case zq9 => ((try simp only [List.length_reverse, List.length_map]); omega))); intro D'kk ws'kk h'kk F'kk N'kk l1kk hW'kk; (try k_lt l1kk); (try k_sweep))
  k_with "subscriptTail Name Slice ref ref" => (k_here; (with_reducible show wpAny _ _ (subscriptTail _ (PySem.Expr.Slice none none (some _) _) (Value.ref _) (Value.ref _)) _ _ _); k_dflt (refine' rev_strs ?Fq9 ?Nq9 ?mq9 ?kq9 ?iq9 ?_ ?sq9 ?tq9 ?zq9; (case Fq9 => k_asm); (case Nq9 => k_asm); (case mq9 => k_mem); (case kq9 => exact IsPart.int _ _); (case iq9 => assumption); (case sq9 => with_unfolding_all rfl); (case tq9 => kmk_pure); (case zq9 => ((try simp only [List.length_reverse, List.length_map]); omega))); intro D'kk ws'kk h'kk F'kk N'kk l1kk hW'kk; (try k_lt l1kk); (try k_sweep))
  k_with "exec Assign cons ListComp" => (k_here; k_dflt (refine Assign_ListComp_G (by k_asm) (by rfl) (by with_unfolding_all rfl) (by with_unfolding_all rfl) (by decide) (by rfl) (by decide) (by rfl) (by rfl) ?_ (by intro _; rfl)))
  intro w9
  revert w9
  w_top off
  k_fill
  intros
  rename List Int => ns
  rename (StrsAre _ (List.map modF PSA)) => hcl
  rename (FlatPairs _ _ _) => hkvs
  rename (StrsAre _ (List.map (ansT (MSF ns) (DSF ns)) PSA)) => hfi
  obtain ⟨ML, hMLe⟩ : ∃ l, l = PSA.map modF := ⟨_, rfl⟩
  obtain ⟨AL, hALe⟩ : ∃ l, l = PSA.map (ansT (MSF ns) (DSF ns)) := ⟨_, rfl⟩
  obtain ⟨c8, hc8⟩ : ∃ c, c = memoF (MSF ns) (DSF ns) PSA.length := ⟨_, rfl⟩
  have hz1 : AL.length = 48 := by rw [hALe, List.length_map, PSA_len]
  have hz2 : ML.length = 48 := by rw [hMLe, List.length_map, PSA_len]
  have hhas : Kept (∀ n ∈ ML, kdpHas c8 n = true) := ⟨by rw [hMLe, hc8]; exact memo_has⟩
  have h01 : Kept (∀ n ∈ ML, kdpLook c8 n 0 = 0 ∨ kdpLook c8 n 0 = 1) := ⟨by rw [hMLe, hc8]; exact memo_01⟩
  have hPL : PlainLaw ns (partL AL none (some 6)) (partL AL (some 6) (some 12)) (partL AL (some 12) none) := by rw [hALe]; exact plain_law ns
  have hokA : OkStrs AL := by rw [hALe]; exact ans_ok _ _
  have hagn : Kept ((ML.reverse.map (agnT c8)).reverse = AL) := ⟨by rw [hMLe, hc8, hALe]; exact again_eq _ _⟩
  rw [← hMLe] at hcl
  rw [← hALe] at hfi
  rw [← hc8] at hkvs
  clear hMLe hALe hc8
  repeat walk1
  rename (StrsAre _ (List.reverse _)) => hrv
  rename (Obj.IsDictOf _ _ _) => hoG
  rename ((_ == sysModules) = false) => hGs
  rename Drawn => dr
  rename Fr _ _ _ _ => F9
  rename News _ _ _ _ => N9
  replace N9 := news_rot2 N9
  refine gat_list (fun d => d = dr) (fun i zs nw => nw = ledAll N9 ∧ StrsAre zs ((ML.reverse.take i).map (agnT c8))) [] (by rfl) (by rfl) (by rfl) (News.isList N9 (by k_mem)) (N9 (_, listOf (List.toArray _) _) (by k_mem)).2.1 (by rw [hrv.length, List.length_reverse, hz2, sizeLine_eq]; omega) F9 N9 (fun b hb => nomatch hb) rfl ⟨rfl, .nil⟩ ?_ ?_
  · rintro i v ys nw hv - ⟨hnw, hy⟩
    subst hnw
    obtain ⟨q, tq, hq, rfl⟩ := strs_item hrv i v hv
    have hqm : q ∈ ML := List.mem_reverse.mp (List.mem_of_getElem? hq)
    intro s₁ X C oC m₂ E' hm hk9 ho hc hX hC F N
    simp only [ledAll, List.cons_append] at N
    replace N := news_rot N
    refine wpAny_tests_nil ?_
    simp only [if_true]
    iterate 15 walk1
    k_dflt (refine' names_cached _ hoG hkvs hGs .none q _ (hhas.out q hqm) _ _ _ _ _ _ _ _ _ _ _ _ _ _ _ _ _ ?k1 ?k2 ?k3 ?k4 ?k5 ?k6 trivial ?k7 ?k8 ?_; (case k1 => k_asm); (case k2 => k_asm); (case k3 => k_asm); (case k4 => k_asm); (case k5 => k_asm); (case k6 => exact rfl); (case k7 => ktr_room); (case k8 => ktr_units))
    intro t9 h9 tk9 F7 N7
    simp only [selfLed] at N7
    replace N7 := news_unrot N7
    rcases h01.out q hqm with h0 | h0
    · rw [h0]
      (try dsimp only)
      (try k_fold)
      repeat walk1
      exact GEnd.same (by k_asm) N7 _ (by assumption) (fun p hp => .tail _ (List.mem_append_right (ledAll N9) hp)) (fun p hp => .tail _ (List.mem_append_left X hp)) rfl ⟨rfl, by rw [map_take hq]; exact snoc_eq hy (by unfold agnT; rw [h0])⟩
    · rw [h0]
      (try dsimp only)
      (try k_fold)
      repeat walk1
      exact GEnd.same (by k_asm) N7 _ (by assumption) (fun p hp => .tail _ (List.mem_append_right (ledAll N9) hp)) (fun p hp => .tail _ (List.mem_append_left X hp)) rfl ⟨rfl, by rw [map_take hq]; exact snoc_eq hy (by unfold agnT; rw [h0])⟩
  · intro h dr2 ys nw hd9 ha9 hj9
    obtain ⟨hnw, hy⟩ := hj9
    subst hnw
    have hd9 : dr2 = dr := hd9
    subst hd9
    rw [hrv.length, List.take_of_length_le (Nat.le_refl _)] at hy
    unfold FinGA
    intro D hh tk FD ND offD
    simp only [ledAll] at ND offD
    (try k_lt offD)
    clear ha9 N9 F9
    try k_fold
    rename_i z1 z2 z3 z4 z5 z6 z7 z8 z9 z10 z11 z12 z13 z14 z15 z16 z17 z18 z19 z20 z21 z22 z23 z24 z25 z26 z27 z28 z29 z30 z31 z32 z33 z34 z35 z36 z37 z38 z39 z40 z41 z42 z43 z44 z45 z46 z47 z48 z49 z50 z51 z52 z53 z54 z55 z56 z57 z58 z59 z60 z61 z62 z63 z64 z65 z66 z67 z68 z69 z70 z71 z72 z73 z74 z75 z76 z77 z78 z79 z80 z81 z82 z83 z84 z85 z86 z87 z88 z89 z90 z91 z92 z93 z94 z95 z96 z97 z98 z99 z100 z101 z102 z103 z104 z105 z106 z107 z108 z109 z110 z111 z112 z113 z114 z115 z116 z117 z118 z119 z120 z121 z122 z123 z124 z125 z126 z127 z128 z129 z130 z131 z132 z133 z134 z135 z136 z137 z138 z139 z140 z141 z142 z143 z144 z145 z146 z147 z148 z149 z150 z151 z152 z153 z154 z155 z156 z157 z158 z159 z160 z161 z162 z163 z164 z165 z166 z167 z168 z169 z170 z171 z172 z173 z174 z175 z176 z177 z178 z179 z180 z181 z182 z183 z184 z185 z186 z187 z188 z189 z190 z191 z192 z193 z194 z195 z196 z197 z198 z199 z200 z201 z202 z203 z204 z205 z206 z207 z208 z209 z210 z211 z212 z213 z214 z215 z216 z217 z218 z219 z220 z221 z222 z223 z224 z225 z226 z227 z228 z229 z230 z231 z232 z233 z234 z235 z236 z237 z238 z239 z240 z241 z242 z243 z244 z245 z246 z247 z248 z249 z250 z251 z252 z253 z254 z255 z256 z257 z258 z259 z260 z261 z262 z263 z264 z265 z266 z267 z268 z269 z270 z271 z272 z273 z274 z275 z276 z277 z278 z279 z280 z281 z282 z283
    revert z1 z2 z3 z4 z5 z6 z7 z8 z9 z10 z11 z12 z13 z14 z15 z16 z17 z18 z19 z20 z21 z22 z23 z24 z25 z26 z27 z28 z29 z30 z31 z32 z33 z34 z35 z36 z37 z38 z39 z40 z41 z42 z43 z44 z45 z46 z47 z48 z49 z50 z51 z52 z53 z54 z55 z56 z57 z58 z59 z60 z61 z62 z63 z64 z65 z66 z67 z68 z69 z70 z71 z72 z73 z74 z75 z76 z77 z78 z79 z80 z81 z82 z83 z84 z85 z86 z87 z88 z89 ns z90 z91 z92 z93 z94 z95 z96 z97 z98 z99 z100 z101 z102 z103 z104 z105 z106 z107 z108 z109 z110 z111 z112 z113 z114 z115 z116 z117 z118 z119 z120 z121 z122 z123 z124 z125 z126 z127 z128 z129 z130 z131 z132 z133 z134 z135 z136 z137 z138 z139 z140 z141 z142 z143 z144 z145 z146 z147 z148 z149 z150 z151 z152 z153 z154 z155 z156 z157 z158 z159 z160 z161 z162 z163 z164 z165 z166 z167 z168 z169 z170 z171 z172 z173 z174 z175 z176 z177 z178 z179 z180 z181 z182 z183 z184 z185 z186 z187 z188 z189 z190 z191 z192 z193 z194 z195 z196 z197 z198 z199 z200 z201 z202 z203 z204 z205 z206 z207 z208 z209 z210 z211 z212 z213 z214 z215 z216 z217 z218 z219 z220 z221 z222 z223 z224 z225 z226 z227 z228 z229 z230 z231 z232 z233 z234 z235 z236 z237 z238 z239 z240 z241 z242 z243 z244 z245 z246 z247 z248 hGs z249 z250 z251 z252 z253 z254 z255 z256 z257 z258 z259 z260 z261 z262 z263 z264 z265 z266 z267 z268 z269 z270 z271 z272 z273 z274 z275 z276 z277 z278 z279 hoG z280 z281 z282 z283 ML hcl AL hfi c8 hkvs hz1 hz2 hhas h01 hPL hokA hagn D'kk ws'kk h'kk hrv l1kk h dr2 ys hy hd9 D hh tk FD ND offD
    exact hG.out⟩
end Mine
end

section
open PySem PySem.W PyProof.Rows PySem.Calls PyProof.V PySem.Spec
set_option Elab.async false
set_option maxRecDepth 100000
set_option maxHeartbeats 100000000
namespace Mine
theorem partH : partG.1 := by
  k_with_none
  k_with "own omega" => with_reducible (first | exact Nat.zero_le _ | exact q_le (by assumption) (by decide) | exact q_up (by assumption) (by decide) | exact q_2 (by assumption) (by decide) | exact q_3 (by assumption) (by decide) | exact q_0 (by assumption) | exact q_int (by assumption) (by decide) | exact q_lt (by assumption) (by decide) | fail)
  k_with "own ne" => ((refine neN ?_; (try dsimp only); first | exact Nat.ne_of_gt (by with_reducible (first | assumption | exact And.left (by assumption) | exact And.left (And.right (by assumption)) | exact And.left (And.right (And.right (by assumption))) | exact And.left (And.right (And.right (And.right (by assumption)))) | exact And.left (And.right (And.right (And.right (And.right (by assumption))))) | exact And.left (And.right (And.right (And.right (And.right (And.right (by assumption)))))) | exact And.left (And.right (And.right (And.right (And.right (And.right (And.right (by assumption))))))) | exact And.left (And.right (And.right (And.right (And.right (And.right (And.right (And.right (by assumption)))))))) | exact And.left (And.right (And.right (And.right (And.right (And.right (And.right (And.right (And.right (by assumption))))))))) | exact And.left (And.right (And.right (And.right (And.right (And.right (And.right (And.right (And.right (And.right (by assumption)))))))))) | exact And.left (And.right (And.right (And.right (And.right (And.right (And.right (And.right (And.right (And.right (And.right (by assumption))))))))))) | exact And.left (And.right (And.right (And.right (And.right (And.right (And.right (And.right (And.right (And.right (And.right (And.right (by assumption)))))))))))) | exact And.left (And.right (And.right (And.right (And.right (And.right (And.right (And.right (And.right (And.right (And.right (And.right (And.right (by assumption))))))))))))) | exact And.left (And.right (And.right (And.right (And.right (And.right (And.right (And.right (And.right (And.right (And.right (And.right (And.right (And.right (by assumption)))))))))))))) | exact And.left (And.right (And.right (And.right (And.right (And.right (And.right (And.right (And.right (And.right (And.right (And.right (And.right (And.right (And.right (by assumption))))))))))))))) | exact And.left (And.right (And.right (And.right (And.right (And.right (And.right (And.right (And.right (And.right (And.right (And.right (And.right (And.right (And.right (And.right (by assumption)))))))))))))))) | exact And.left (And.right (And.right (And.right (And.right (And.right (And.right (And.right (And.right (And.right (And.right (And.right (And.right (And.right (And.right (And.right (And.right (by assumption))))))))))))))))) | exact And.left (And.right (And.right (And.right (And.right (And.right (And.right (And.right (And.right (And.right (And.right (And.right (And.right (And.right (And.right (And.right (And.right (And.right (by assumption)))))))))))))))))) | exact And.left (And.right (And.right (And.right (And.right (And.right (And.right (And.right (And.right (And.right (And.right (And.right (And.right (And.right (And.right (And.right (And.right (And.right (And.right (by assumption))))))))))))))))))) | exact And.left (And.right (And.right (And.right (And.right (And.right (And.right (And.right (And.right (And.right (And.right (And.right (And.right (And.right (And.right (And.right (And.right (And.right (And.right (And.right (by assumption)))))))))))))))))))) | exact And.left (And.right (And.right (And.right (And.right (And.right (And.right (And.right (And.right (And.right (And.right (And.right (And.right (And.right (And.right (And.right (And.right (And.right (And.right (And.right (And.right (by assumption))))))))))))))))))))) | exact And.left (And.right (And.right (And.right (And.right (And.right (And.right (And.right (And.right (And.right (And.right (And.right (And.right (And.right (And.right (And.right (And.right (And.right (And.right (And.right (And.right (And.right (by assumption)))))))))))))))))))))) | exact And.left (And.right (And.right (And.right (And.right (And.right (And.right (And.right (And.right (And.right (And.right (And.right (And.right (And.right (And.right (And.right (And.right (And.right (And.right (And.right (And.right (And.right (And.right (by assumption))))))))))))))))))))))) | exact And.left (And.right (And.right (And.right (And.right (And.right (And.right (And.right (And.right (And.right (And.right (And.right (And.right (And.right (And.right (And.right (And.right (And.right (And.right (And.right (And.right (And.right (And.right (And.right (by assumption)))))))))))))))))))))))) | fail "no order")) | exact Nat.ne_of_lt (by with_reducible (first | assumption | exact And.left (by assumption) | exact And.left (And.right (by assumption)) | exact And.left (And.right (And.right (by assumption))) | exact And.left (And.right (And.right (And.right (by assumption)))) | exact And.left (And.right (And.right (And.right (And.right (by assumption))))) | exact And.left (And.right (And.right (And.right (And.right (And.right (by assumption)))))) | exact And.left (And.right (And.right (And.right (And.right (And.right (And.right (by assumption))))))) | exact And.left (And.right (And.right (And.right (And.right (And.right (And.right (And.right (by assumption)))))))) | exact And.left (And.right (And.right (And.right (And.right (And.right (And.right (And.right (And.right (by assumption))))))))) | exact And.left (And.right (And.right (And.right (And.right (And.right (And.right (And.right (And.right (And.right (by assumption)))))))))) | exact And.left (And.right (And.right (And.right (And.right (And.right (And.right (And.right (And.right (And.right (And.right (by assumption))))))))))) | exact And.left (And.right (And.right (And.right (And.right (And.right (And.right (And.right (And.right (And.right (And.right (And.right (by assumption)))))))))))) | exact And.left (And.right (And.right (And.right (And.right (And.right (And.right (And.right (And.right (And.right (And.right (And.right (And.right (by assumption))))))))))))) | exact And.left (And.right (And.right (And.right (And.right (And.right (And.right (And.right (And.right (And.right (And.right (And.right (And.right (And.right (by assumption)))))))))))))) | exact And.left (And.right (And.right (And.right (And.right (And.right (And.right (And.right (And.right (And.right (And.right (And.right (And.right (And.right (And.right (by assumption))))))))))))))) | exact And.left (And.right (And.right (And.right (And.right (And.right (And.right (And.right (And.right (And.right (And.right (And.right (And.right (And.right (And.right (And.right (by assumption)))))))))))))))) | exact And.left (And.right (And.right (And.right (And.right (And.right (And.right (And.right (And.right (And.right (And.right (And.right (And.right (And.right (And.right (And.right (And.right (by assumption))))))))))))))))) | exact And.left (And.right (And.right (And.right (And.right (And.right (And.right (And.right (And.right (And.right (And.right (And.right (And.right (And.right (And.right (And.right (And.right (And.right (by assumption)))))))))))))))))) | exact And.left (And.right (And.right (And.right (And.right (And.right (And.right (And.right (And.right (And.right (And.right (And.right (And.right (And.right (And.right (And.right (And.right (And.right (And.right (by assumption))))))))))))))))))) | exact And.left (And.right (And.right (And.right (And.right (And.right (And.right (And.right (And.right (And.right (And.right (And.right (And.right (And.right (And.right (And.right (And.right (And.right (And.right (And.right (by assumption)))))))))))))))))))) | exact And.left (And.right (And.right (And.right (And.right (And.right (And.right (And.right (And.right (And.right (And.right (And.right (And.right (And.right (And.right (And.right (And.right (And.right (And.right (And.right (And.right (by assumption))))))))))))))))))))) | exact And.left (And.right (And.right (And.right (And.right (And.right (And.right (And.right (And.right (And.right (And.right (And.right (And.right (And.right (And.right (And.right (And.right (And.right (And.right (And.right (And.right (And.right (by assumption)))))))))))))))))))))) | exact And.left (And.right (And.right (And.right (And.right (And.right (And.right (And.right (And.right (And.right (And.right (And.right (And.right (And.right (And.right (And.right (And.right (And.right (And.right (And.right (And.right (And.right (And.right (by assumption))))))))))))))))))))))) | exact And.left (And.right (And.right (And.right (And.right (And.right (And.right (And.right (And.right (And.right (And.right (And.right (And.right (And.right (And.right (And.right (And.right (And.right (And.right (And.right (And.right (And.right (And.right (And.right (by assumption)))))))))))))))))))))))) | fail "no order")) | fail "k_ne"))
  k_with "eval Name" => (k_here; k_dflt (refine' nameX_L ?F ?v ?_ ?a ?b; (case a => rfl); (case b => rfl); (case F => k_asm); (case v => first | exact rfl | exact (id (by assumption))); k_whole))
  k_with "call builtin:max" => (k_here; k_dflt (refine' max_led ?hh ?va ?vb ?F ?N ?_; (case hh => with_unfolding_all rfl); (case va => assumption); (case vb => assumption); (case F => k_asm); (case N => k_asm)); intro h'kk tk'kk v'kk F'kk N'kk; (try k_sweep))
  k_with "eval ListComp Call cons" => (k_here; k_dflt (refine ListComp_N (by k_asm) (by with_unfolding_all rfl) (by decide) (by rfl) (by decide) (by rfl) ?_ (by intro _ _; rfl) (by intro _; rfl)))
  k_with "compareOp Eq ref ref" => (k_dflt (refine eq_strs_same (News.isList (by k_asm) (by k_mem)) (News.isList (by k_asm) (by k_mem)) (by assumption) (by assumption) (by assumption) (by ktr_units) ?_))
  k_with "subscriptTail Name Slice ref ref" => (k_here; (with_reducible show wpAny _ _ (subscriptTail _ (PySem.Expr.Slice _ _ none _) (Value.ref _) (Value.ref _)) _ _ _); k_dflt (refine' part_strs ?Fq9 ?Nq9 ?mq9 ?pq9 ?qq9 ?iq9 ?_ ?sq9 ?tq9 ?zq9; (case Fq9 => k_asm); (case Nq9 => k_asm); (case mq9 => k_mem); (case pq9 => kmk_part); (case qq9 => kmk_part); (case iq9 => assumption); (case sq9 => with_unfolding_all rfl); (case tq9 => kmk_pure); (case zq9 => ((try simp only [List.length_reverse, List.length_map]); omega))); intro D'kk ws'kk h'kk F'kk N'kk l1kk hW'kk; (try k_lt l1kk); (try k_sweep))
  k_with "subscriptTail Name Slice ref ref" => (k_here; (with_reducible show wpAny _ _ (subscriptTail _ (PySem.Expr.Slice none none (some _) _) (Value.ref _) (Value.ref _)) _ _ _); k_dflt (refine' rev_strs ?Fq9 ?Nq9 ?mq9 ?kq9 ?iq9 ?_ ?sq9 ?tq9 ?zq9; (case Fq9 => k_asm); (case Nq9 => k_asm); (case mq9 => k_mem); (case kq9 => exact IsPart.int _ _); (case iq9 => assumption); (case sq9 => with_unfolding_all rfl); (case tq9 => kmk_pure); (case zq9 => ((try simp only [List.length_reverse, List.length_map]); omega))); intro D'kk ws'kk h'kk F'kk N'kk l1kk hW'kk; (try k_lt l1kk); (try k_sweep))
  intro w9
  revert w9
  w_top off
  k_fill
  intros
  rename (_ ≤ 10) => hns
  rename List Int => ns
  rename (PlainLaw _ _ _ _) => hPL
  rename (StrsAre _ (DSF _)) => hdv9
  clear hdv9
  rename List Str => AL
  rename (StrsAre _ (everyF (Str.ofString "."))) => hM
  rename (StrsAre _ (everyF (Str.ofString "/"))) => hP
  iterate 46 walk1
  rename (StrsAre _ (partL _ none _)) => hAC
  rename (StrsAre _ (partL _ (some 6) (some 12))) => hDN
  k_dflt (refine' spec_read _ _ (Str.ofString ".") _ hM hAC ?m1 ?m2 (by decide) mods_ok ?q1 ?q2 mods_okS ?q3 hPL.ha hPL.ca _ _ _ _ _ _ _ _ _ _ _ _ _ _ _ _ _ ?k1 ?k2 ?k3 ?k4 ?k5 ?k6 ?k7 ?k8 ?_; (case k1 => k_asm); (case k2 => k_asm); (case k3 => k_asm); (case k4 => k_asm); (case k5 => k_asm); (case k6 => exact rfl); (case k7 => ktr_room); (case k8 => ktr_units); (case m1 => k_mem); (case m2 => k_mem); (case q1 => exact Nat.le_of_lt (by decide)); (case q2 => (rw [hPL.la]; decide)); (case q3 => exact hPL.la))
  intro T9 H9 vs9 n9 nt9 h9 tk9 hSa F9 N9 l9 l8
  rw [hPL.sa] at hSa
  (try k_lt l9)
  (try dsimp only)
  (try k_fold)
  iterate 22 walk1
  k_dflt (refine' spec_read _ _ (Str.ofString "/") _ hP hDN ?m1 ?m2 (by decide) places_ok ?q1 ?q2 places_okS ?q3 hPL.hd hPL.cd _ _ _ _ _ _ _ _ _ _ _ _ _ _ _ _ _ ?k1 ?k2 ?k3 ?k4 ?k5 ?k6 ?k7 ?k8 ?_; (case k1 => k_asm); (case k2 => k_asm); (case k3 => k_asm); (case k4 => k_asm); (case k5 => k_asm); (case k6 => exact rfl); (case k7 => ktr_room); (case k8 => ktr_units); (case m1 => k_mem); (case m2 => k_mem); (case q1 => exact Nat.le_of_lt (by decide)); (case q2 => (rw [hPL.ld]; decide)); (case q3 => exact hPL.ld))
  intro T9 H9 vs9 n9 nt9 h9 tk9 hSd F9 N9 l9 l8
  rw [hPL.sd] at hSd
  (try k_lt l9)
  (try dsimp only)
  (try k_fold)
  iterate 32 walk1
  rename (OkStrs _) => hokA
  rename (Kept (_ = _)) => hagn
  rename (StrsAre _ (List.reverse (List.map _ _))) => hr9
  rw [hagn.out] at hr9
  iterate 13 walk1
  walk1
  walk1
  rename Fr _ _ _ _ => F8
  rename News _ _ _ _ => N8
  refine nat_list (fun i ys2 => StrsAre ys2 (((partL AL (some 6) (some 12)).take i).flatMap fun o => (partL AL none (some 6)).map fun a => maxT a o)) (by rfl) (News.isList N8 (by k_mem)) (N8 (_, listOf (List.toArray _) _) (by k_mem)).2.1 F8 N8 .nil ?_ ?_
  · rintro i v ys2 hv hj s₁ own C D₂ oC m₂ E' hmx hnews hown hCD hCL hDL hC₀ hD₀ hoC F₁ N₁
    obtain ⟨o, to, ho, rfl⟩ := strs_item hDN i v hv
    have N₀ := N₁
    simp only [List.cons_append] at N₁
    walk1
    rename Fr _ _ _ _ => F7
    have hva := hPL.va
    have hvd := hPL.vd
    have hla := hPL.la
    have hld := hPL.ld
    refine in_seq (D := D₂) (ys₀ := ys2) (oC := oC) (own := own) (fun j ys3 => StrsAre ys3 (((partL AL (some 6) (some 12)).take i).flatMap (fun o => (partL AL none (some 6)).map fun a => maxT a o) ++ ((partL AL none (some 6)).take j).map fun a => maxT a o)) (by rfl) (by rfl) (by rfl) (.inl (News.isList N₀ (by k_mem))) (N₀ (_, listOf (List.toArray _) _) (by k_mem)).2.1 (hnews (_, listOf (List.toArray _) _) (by k_mem)).1 (hnews (_, listOf (List.toArray _) _) (by k_mem)).2 hoC F7 N₀ ⟨_, _, rfl⟩ hnews hown hCD hCL hDL hC₀ hD₀ ?_ ?_ ?_ ?_
    · intro j ys3 hj hj3
      rw [hj3.length, sizeLine_eq]
      exact Nat.le_trans (mx_size hla hld) (by omega)
    · simpa using hj
    · intro ys3 hj3
      rw [mx_take ho]
      have hte : ∀ n, n = (partL AL none (some 6)).length → (partL AL none (some 6)).take n = partL AL none (some 6) := fun n e => List.take_of_length_le (Nat.le_of_eq e.symm)
      rw [hte _ hAC.length] at hj3
      exact hj3
    · intro j u ys3 s₅ X oC' m' E2 hu hdr hmy hmo hjj hCX hoC' hoffC F₅ N₅
      obtain ⟨a, ta, ha, rfl⟩ := strs_item hAC j u hu
      have hva := hva a (List.mem_of_getElem? ha)
      have hvd := hvd o (List.mem_of_getElem? ho)
      have hmx' : m' (Str.ofString "other") = some (.str o to) := by rw [hmo _ (by decide)]; exact hmx
      clear hmx hmo
      simp only [List.cons_append] at N₅
      repeat walk1
      exact GEnd.same (by k_asm) (by k_asm) _ (by assumption) (fun p hp => .tail _ (List.mem_append_right _ hp)) (fun p hp => .tail _ (List.mem_append_left X hp)) rfl ⟨by rw [map_take (f := fun a => maxT a o) ha, ← List.append_assoc]; exact snoc_eq hjj rfl, rfl⟩
  · intro h ys2 hj2
    rw [hDN.length, List.take_of_length_le (Nat.le_refl _), ← hPL.hr] at hj2
    have hokR : OkStrs (partL AL (some 12) none) := fun k hk => hokA k (List.mem_of_mem_drop (List.mem_of_mem_take hk))
    unfold FinGE
    intro D2 hh2 tk2 FD2 ND2 offD2
    (try k_lt offD2)
    clear F8 N8
    (try k_fold)
    rename (StrsAre _ (someF (everyF (Str.ofString ".")) 0 _)) => hSM
    rename (StrsAre _ (someF (everyF (Str.ofString "/")) 1 _)) => hSP
    have hokM : OkStrs (shortF (Str.ofString ".") MODS (someF MODS 0 ns)) := fun k hk => mods_okS k (List.mem_filter.mp hk).1
    have hokP : OkStrs (shortF (Str.ofString "/") PLACES (someF PLACES 1 ns)) := fun k hk => places_okS k (List.mem_filter.mp hk).1
    iterate 17 walk1
    k_dflt (refine' spec_short _ _ (Str.ofString ".") _ hM hSM ?m1 ?m2 (by decide) mods_ok ?q1 _ _ _ _ _ _ _ _ _ _ _ _ _ _ _ _ _ ?k1 ?k2 ?k3 ?k4 ?k5 ?k6 ?k7 ?k8 ?_; (case k1 => k_asm); (case k2 => k_asm); (case k3 => k_asm); (case k4 => k_asm); (case k5 => k_asm); (case k6 => exact rfl); (case k7 => ktr_room); (case k8 => ktr_units); (case m1 => k_mem); (case m2 => k_mem); (case q1 => exact Nat.le_of_lt (by decide)))
    intro D9 vs9 n9 h9 tk9 hS9 F9 N9 l9
    (try k_lt l9)
    (try dsimp only)
    (try k_fold)
    iterate 17 walk1
    k_dflt (refine' spec_short _ _ (Str.ofString "/") _ hP hSP ?m1 ?m2 (by decide) places_ok ?q1 _ _ _ _ _ _ _ _ _ _ _ _ _ _ _ _ _ ?k1 ?k2 ?k3 ?k4 ?k5 ?k6 ?k7 ?k8 ?_; (case k1 => k_asm); (case k2 => k_asm); (case k3 => k_asm); (case k4 => k_asm); (case k5 => k_asm); (case k6 => exact rfl); (case k7 => ktr_room); (case k8 => ktr_units); (case m1 => k_mem); (case m2 => k_mem); (case q1 => exact Nat.le_of_lt (by decide)))
    intro D9 vs9 n9 h9 tk9 hS9 F9 N9 l9
    (try k_lt l9)
    (try dsimp only)
    (try k_fold)
    iterate 1 walk1
    k_steps
end Mine
end

end
theorem Mine.law_walk : PySem.Challenge.rw_sn0121_01.Holds := Mine.partA.2 ⟨Mine.partB.2 ⟨Mine.partC.2 ⟨Mine.partD.2 ⟨Mine.partE.2 ⟨Mine.partF.2 ⟨Mine.partG.2 ⟨Mine.partH⟩⟩⟩⟩⟩⟩⟩

theorem PySem.Challenge.cw_sn0121_01_holds : PySem.Challenge.rw_sn0121_01.Holds :=
  Mine.law_walk
