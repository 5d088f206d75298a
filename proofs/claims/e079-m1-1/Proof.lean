import JvmDerived
import JvmDerived.Pilot.@@N@@Statement
import JvmDerived.Pilot.@@N@@Code
set_option linter.unusedVariables false
set_option linter.unusedSimpArgs false
namespace Jvm.Pilot.@@N@@
open Jvm Jvm.ClassFile Sem Op Lib Jvm.Free Jvm.Stand Jvm.LawKit Jvm.RoadKit Bundle Jvm.Pilot.@@N@@.Jvm.D
theorem own_lt32 {c k : Int32} {n : Int} (hk : k.toInt = n) : c < k ↔ c.toInt < n := by rw [Int32.lt_iff_toInt_lt, hk]
theorem own_gt32 {c k : Int32} {n : Int} (hk : k.toInt = n) : k < c ↔ n < c.toInt := by rw [Int32.lt_iff_toInt_lt, hk]
theorem own_eq32 {c k : Int32} {n : Int} (hk : k.toInt = n) : c = k ↔ c.toInt = n := by rw [← hk, Int32.toInt_inj]
/-- the int[] at a in heap h has N places, and each holds an int -/
def own_IA (Z : State) (h : Heap) (a : Addr) (N : Int32) (cl : Cell) : Prop := Arr Z h a cl .int ∧ cl.slots.size = N.toNatClampNeg ∧ ∀ j : Nat, j < cl.slots.size → ∃ w : Int32, cl.slots[j]? = some (.int w)
theorem own_IA_new {Z : State} {h : Heap} {a : Addr} {N : Int32} {cA : ClassId} (A : Arr Z h a (newA cA .int N) .int) : own_IA Z h a N (newA cA .int N) := by
  refine ⟨A, sz_new cA .int N, fun j hj => ⟨0, ?_⟩⟩
  rw [sz_new] at hj
  show (Array.replicate N.toNatClampNeg (defaultValue .int))[j]? = _
  rw [Array.getElem?_replicate, if_pos hj]; rfl
theorem own_IA_set {Z : State} {h h' : Heap} {a : Addr} {N x : Int32} {cl : Cell} {i : Nat} (A : own_IA Z h a N cl) (W : Wr h h' a i (.int x)) : own_IA Z h' a N (cl.setSlot i (.int x)) := by
  refine ⟨A.1.same W, by rw [sz_set]; exact A.2.1, fun j hj => ?_⟩
  rw [sz_set] at hj
  show ∃ w : Int32, (cl.slots.setIfInBounds i (.int x))[j]? = some (.int w)
  rw [Array.getElem?_setIfInBounds]
  by_cases q : i = j
  · subst q; rw [if_pos rfl, if_pos hj]; exact ⟨x, rfl⟩
  · rw [if_neg q]; exact A.2.2 j hj
theorem own_IA_at {Z : State} {h : Heap} {a : Addr} {N j : Int32} {cl : Cell} (A : own_IA Z h a N cl) (q : ¬ j < 0 ∧ j < N) : ¬ (j < 0 ∨ cl.slots.size ≤ j.toNatClampNeg) ∧ ∃ w : Int32, cl.slots[j.toNatClampNeg]? = some (.int w) := by
  have hin := inb_of A.2.1 q
  exact ⟨hin, A.2.2 _ (Nat.lt_of_not_le fun r => hin (Or.inr r))⟩
theorem own_pdI : parseMethodDescriptor "(I)Z" = some ⟨[.int], some .boolean⟩ := by decide +kernel
theorem own_n10 : ¬ (1 : Int32) = 0 := by decide
theorem d2_0 : decode prog_88_method_4_code 0 = .ok (.iload_n 0, 1) := by decide +kernel
theorem d2_1 : decode prog_88_method_4_code 1 = .ok (.bipush 97, 2) := by decide +kernel
theorem d2_3 : decode prog_88_method_4_code 3 = .ok (.if_icmp .lt 9, 3) := by decide +kernel
theorem d2_6 : decode prog_88_method_4_code 6 = .ok (.iload_n 0, 1) := by decide +kernel
theorem d2_7 : decode prog_88_method_4_code 7 = .ok (.bipush 122, 2) := by decide +kernel
theorem d2_9 : decode prog_88_method_4_code 9 = .ok (.if_icmp .le 182, 3) := by decide +kernel
theorem d2_12 : decode prog_88_method_4_code 12 = .ok (.iload_n 0, 1) := by decide +kernel
theorem d2_13 : decode prog_88_method_4_code 13 = .ok (.bipush 65, 2) := by decide +kernel
theorem d2_15 : decode prog_88_method_4_code 15 = .ok (.if_icmp .lt 9, 3) := by decide +kernel
theorem d2_18 : decode prog_88_method_4_code 18 = .ok (.iload_n 0, 1) := by decide +kernel
theorem d2_19 : decode prog_88_method_4_code 19 = .ok (.bipush 90, 2) := by decide +kernel
theorem d2_21 : decode prog_88_method_4_code 21 = .ok (.if_icmp .le 170, 3) := by decide +kernel
theorem d2_24 : decode prog_88_method_4_code 24 = .ok (.iload_n 0, 1) := by decide +kernel
theorem d2_25 : decode prog_88_method_4_code 25 = .ok (.bipush 95, 2) := by decide +kernel
theorem d2_27 : decode prog_88_method_4_code 27 = .ok (.if_icmp .eq 164, 3) := by decide +kernel
theorem d2_30 : decode prog_88_method_4_code 30 = .ok (.iload_n 0, 1) := by decide +kernel
theorem d2_31 : decode prog_88_method_4_code 31 = .ok (.sipush 192, 3) := by decide +kernel
theorem d2_34 : decode prog_88_method_4_code 34 = .ok (.if_icmp .lt 10, 3) := by decide +kernel
theorem d2_37 : decode prog_88_method_4_code 37 = .ok (.iload_n 0, 1) := by decide +kernel
theorem d2_38 : decode prog_88_method_4_code 38 = .ok (.sipush 214, 3) := by decide +kernel
theorem d2_41 : decode prog_88_method_4_code 41 = .ok (.if_icmp .le 150, 3) := by decide +kernel
theorem d2_44 : decode prog_88_method_4_code 44 = .ok (.iload_n 0, 1) := by decide +kernel
theorem d2_45 : decode prog_88_method_4_code 45 = .ok (.sipush 216, 3) := by decide +kernel
theorem d2_48 : decode prog_88_method_4_code 48 = .ok (.if_icmp .lt 10, 3) := by decide +kernel
theorem d2_51 : decode prog_88_method_4_code 51 = .ok (.iload_n 0, 1) := by decide +kernel
theorem d2_52 : decode prog_88_method_4_code 52 = .ok (.sipush 246, 3) := by decide +kernel
theorem d2_55 : decode prog_88_method_4_code 55 = .ok (.if_icmp .le 136, 3) := by decide +kernel
theorem d2_58 : decode prog_88_method_4_code 58 = .ok (.iload_n 0, 1) := by decide +kernel
theorem d2_59 : decode prog_88_method_4_code 59 = .ok (.sipush 248, 3) := by decide +kernel
theorem d2_62 : decode prog_88_method_4_code 62 = .ok (.if_icmp .lt 10, 3) := by decide +kernel
theorem d2_65 : decode prog_88_method_4_code 65 = .ok (.iload_n 0, 1) := by decide +kernel
theorem d2_66 : decode prog_88_method_4_code 66 = .ok (.sipush 767, 3) := by decide +kernel
theorem d2_69 : decode prog_88_method_4_code 69 = .ok (.if_icmp .le 122, 3) := by decide +kernel
theorem d2_72 : decode prog_88_method_4_code 72 = .ok (.iload_n 0, 1) := by decide +kernel
theorem d2_73 : decode prog_88_method_4_code 73 = .ok (.sipush 880, 3) := by decide +kernel
theorem d2_76 : decode prog_88_method_4_code 76 = .ok (.if_icmp .lt 10, 3) := by decide +kernel
theorem d2_79 : decode prog_88_method_4_code 79 = .ok (.iload_n 0, 1) := by decide +kernel
theorem d2_80 : decode prog_88_method_4_code 80 = .ok (.sipush 893, 3) := by decide +kernel
theorem d2_83 : decode prog_88_method_4_code 83 = .ok (.if_icmp .le 108, 3) := by decide +kernel
theorem d2_86 : decode prog_88_method_4_code 86 = .ok (.iload_n 0, 1) := by decide +kernel
theorem d2_87 : decode prog_88_method_4_code 87 = .ok (.sipush 895, 3) := by decide +kernel
theorem d2_90 : decode prog_88_method_4_code 90 = .ok (.if_icmp .lt 10, 3) := by decide +kernel
theorem d2_93 : decode prog_88_method_4_code 93 = .ok (.iload_n 0, 1) := by decide +kernel
theorem d2_94 : decode prog_88_method_4_code 94 = .ok (.sipush 8191, 3) := by decide +kernel
theorem d2_97 : decode prog_88_method_4_code 97 = .ok (.if_icmp .le 94, 3) := by decide +kernel
theorem d2_100 : decode prog_88_method_4_code 100 = .ok (.iload_n 0, 1) := by decide +kernel
theorem d2_101 : decode prog_88_method_4_code 101 = .ok (.sipush 8204, 3) := by decide +kernel
theorem d2_104 : decode prog_88_method_4_code 104 = .ok (.if_icmp .lt 10, 3) := by decide +kernel
theorem d2_107 : decode prog_88_method_4_code 107 = .ok (.iload_n 0, 1) := by decide +kernel
theorem d2_108 : decode prog_88_method_4_code 108 = .ok (.sipush 8205, 3) := by decide +kernel
theorem d2_111 : decode prog_88_method_4_code 111 = .ok (.if_icmp .le 80, 3) := by decide +kernel
theorem d2_114 : decode prog_88_method_4_code 114 = .ok (.iload_n 0, 1) := by decide +kernel
theorem d2_115 : decode prog_88_method_4_code 115 = .ok (.sipush 8304, 3) := by decide +kernel
theorem d2_118 : decode prog_88_method_4_code 118 = .ok (.if_icmp .lt 10, 3) := by decide +kernel
theorem d2_121 : decode prog_88_method_4_code 121 = .ok (.iload_n 0, 1) := by decide +kernel
theorem d2_122 : decode prog_88_method_4_code 122 = .ok (.sipush 8591, 3) := by decide +kernel
theorem d2_125 : decode prog_88_method_4_code 125 = .ok (.if_icmp .le 66, 3) := by decide +kernel
theorem d2_128 : decode prog_88_method_4_code 128 = .ok (.iload_n 0, 1) := by decide +kernel
theorem d2_129 : decode prog_88_method_4_code 129 = .ok (.sipush 11264, 3) := by decide +kernel
theorem d2_132 : decode prog_88_method_4_code 132 = .ok (.if_icmp .lt 10, 3) := by decide +kernel
theorem d2_135 : decode prog_88_method_4_code 135 = .ok (.iload_n 0, 1) := by decide +kernel
theorem d2_136 : decode prog_88_method_4_code 136 = .ok (.sipush 12271, 3) := by decide +kernel
theorem d2_139 : decode prog_88_method_4_code 139 = .ok (.if_icmp .le 52, 3) := by decide +kernel
theorem d2_142 : decode prog_88_method_4_code 142 = .ok (.iload_n 0, 1) := by decide +kernel
theorem d2_143 : decode prog_88_method_4_code 143 = .ok (.sipush 12289, 3) := by decide +kernel
theorem d2_146 : decode prog_88_method_4_code 146 = .ok (.if_icmp .lt 9, 3) := by decide +kernel
theorem d2_149 : decode prog_88_method_4_code 149 = .ok (.iload_n 0, 1) := by decide +kernel
theorem d2_150 : decode prog_88_method_4_code 150 = .ok (.ldc 7, 2) := by decide +kernel
theorem d2_152 : decode prog_88_method_4_code 152 = .ok (.if_icmp .le 39, 3) := by decide +kernel
theorem d2_155 : decode prog_88_method_4_code 155 = .ok (.iload_n 0, 1) := by decide +kernel
theorem d2_156 : decode prog_88_method_4_code 156 = .ok (.ldc 33, 2) := by decide +kernel
theorem d2_158 : decode prog_88_method_4_code 158 = .ok (.if_icmp .lt 9, 3) := by decide +kernel
theorem d2_161 : decode prog_88_method_4_code 161 = .ok (.iload_n 0, 1) := by decide +kernel
theorem d2_162 : decode prog_88_method_4_code 162 = .ok (.ldc 34, 2) := by decide +kernel
theorem d2_164 : decode prog_88_method_4_code 164 = .ok (.if_icmp .le 27, 3) := by decide +kernel
theorem d2_167 : decode prog_88_method_4_code 167 = .ok (.iload_n 0, 1) := by decide +kernel
theorem d2_168 : decode prog_88_method_4_code 168 = .ok (.ldc 35, 2) := by decide +kernel
theorem d2_170 : decode prog_88_method_4_code 170 = .ok (.if_icmp .lt 9, 3) := by decide +kernel
theorem d2_173 : decode prog_88_method_4_code 173 = .ok (.iload_n 0, 1) := by decide +kernel
theorem d2_174 : decode prog_88_method_4_code 174 = .ok (.ldc 9, 2) := by decide +kernel
theorem d2_176 : decode prog_88_method_4_code 176 = .ok (.if_icmp .le 15, 3) := by decide +kernel
theorem d2_179 : decode prog_88_method_4_code 179 = .ok (.iload_n 0, 1) := by decide +kernel
theorem d2_180 : decode prog_88_method_4_code 180 = .ok (.ldc 10, 2) := by decide +kernel
theorem d2_182 : decode prog_88_method_4_code 182 = .ok (.if_icmp .lt 13, 3) := by decide +kernel
theorem d2_185 : decode prog_88_method_4_code 185 = .ok (.iload_n 0, 1) := by decide +kernel
theorem d2_186 : decode prog_88_method_4_code 186 = .ok (.ldc 36, 2) := by decide +kernel
theorem d2_188 : decode prog_88_method_4_code 188 = .ok (.if_icmp .gt 7, 3) := by decide +kernel
theorem d2_191 : decode prog_88_method_4_code 191 = .ok (.iconst 1, 1) := by decide +kernel
theorem d2_192 : decode prog_88_method_4_code 192 = .ok (.goto 4, 3) := by decide +kernel
theorem d2_195 : decode prog_88_method_4_code 195 = .ok (.iconst 0, 1) := by decide +kernel
theorem d2_196 : decode prog_88_method_4_code 196 = .ok (.ireturn, 1) := by decide +kernel
def own_f2_195 (z : Int) : Int32 := 0
def own_f2_191 (z : Int) : Int32 := 1
def own_f2_185 (z : Int) : Int32 := if 983039 < z then own_f2_195 z else own_f2_191 z
def own_f2_179 (z : Int) : Int32 := if z < 65536 then own_f2_195 z else own_f2_185 z
def own_f2_173 (z : Int) : Int32 := if 65533 < z then own_f2_179 z else own_f2_191 z
def own_f2_167 (z : Int) : Int32 := if z < 65008 then own_f2_179 z else own_f2_173 z
def own_f2_161 (z : Int) : Int32 := if 64975 < z then own_f2_167 z else own_f2_191 z
def own_f2_155 (z : Int) : Int32 := if z < 63744 then own_f2_167 z else own_f2_161 z
def own_f2_149 (z : Int) : Int32 := if 55295 < z then own_f2_155 z else own_f2_191 z
def own_f2_142 (z : Int) : Int32 := if z < 12289 then own_f2_155 z else own_f2_149 z
def own_f2_135 (z : Int) : Int32 := if 12271 < z then own_f2_142 z else own_f2_191 z
def own_f2_128 (z : Int) : Int32 := if z < 11264 then own_f2_142 z else own_f2_135 z
def own_f2_121 (z : Int) : Int32 := if 8591 < z then own_f2_128 z else own_f2_191 z
def own_f2_114 (z : Int) : Int32 := if z < 8304 then own_f2_128 z else own_f2_121 z
def own_f2_107 (z : Int) : Int32 := if 8205 < z then own_f2_114 z else own_f2_191 z
def own_f2_100 (z : Int) : Int32 := if z < 8204 then own_f2_114 z else own_f2_107 z
def own_f2_93 (z : Int) : Int32 := if 8191 < z then own_f2_100 z else own_f2_191 z
def own_f2_86 (z : Int) : Int32 := if z < 895 then own_f2_100 z else own_f2_93 z
def own_f2_79 (z : Int) : Int32 := if 893 < z then own_f2_86 z else own_f2_191 z
def own_f2_72 (z : Int) : Int32 := if z < 880 then own_f2_86 z else own_f2_79 z
def own_f2_65 (z : Int) : Int32 := if 767 < z then own_f2_72 z else own_f2_191 z
def own_f2_58 (z : Int) : Int32 := if z < 248 then own_f2_72 z else own_f2_65 z
def own_f2_51 (z : Int) : Int32 := if 246 < z then own_f2_58 z else own_f2_191 z
def own_f2_44 (z : Int) : Int32 := if z < 216 then own_f2_58 z else own_f2_51 z
def own_f2_37 (z : Int) : Int32 := if 214 < z then own_f2_44 z else own_f2_191 z
def own_f2_30 (z : Int) : Int32 := if z < 192 then own_f2_44 z else own_f2_37 z
def own_f2_24 (z : Int) : Int32 := if z = 95 then own_f2_191 z else own_f2_30 z
def own_f2_18 (z : Int) : Int32 := if 90 < z then own_f2_24 z else own_f2_191 z
def own_f2_12 (z : Int) : Int32 := if z < 65 then own_f2_24 z else own_f2_18 z
def own_f2_6 (z : Int) : Int32 := if 122 < z then own_f2_12 z else own_f2_191 z
def own_f2_0 (z : Int) : Int32 := if z < 97 then own_f2_12 z else own_f2_6 z
theorem own_o2_195 (z : Int) : (own_f2_195 z = 1 ∧ False) ∨ (own_f2_195 z = 0 ∧ ¬ False) := Or.inr ⟨rfl, id⟩
theorem own_m2_179 (z : Int) : own_f2_179 z = if (¬ z < 65536 ∧ ¬ 983039 < z) then 1 else own_f2_195 z := by
  by_cases h : (¬ z < 65536 ∧ ¬ 983039 < z)
  · obtain ⟨h0, h1⟩ := id h
    rw [if_pos h, own_f2_179, if_neg h0, own_f2_185, if_neg h1]; rfl
  · rw [if_neg h]
    by_cases h0 : z < 65536
    · rw [own_f2_179, if_pos h0]
    · rw [own_f2_179, if_neg h0, own_f2_185, if_pos (Decidable.not_not.mp (fun q => h ⟨h0, q⟩))]
theorem own_o2_179 (z : Int) : (own_f2_179 z = 1 ∧ (¬ z < 65536 ∧ ¬ 983039 < z)) ∨ (own_f2_179 z = 0 ∧ ¬ (¬ z < 65536 ∧ ¬ 983039 < z)) := by
  rw [own_m2_179]
  by_cases h : (¬ z < 65536 ∧ ¬ 983039 < z)
  · rw [if_pos h]; exact Or.inl ⟨rfl, h⟩
  · rw [if_neg h]; exact Or.inr ⟨rfl, h⟩
theorem own_m2_167 (z : Int) : own_f2_167 z = if (¬ z < 65008 ∧ ¬ 65533 < z) then 1 else own_f2_179 z := by
  by_cases h : (¬ z < 65008 ∧ ¬ 65533 < z)
  · obtain ⟨h0, h1⟩ := id h
    rw [if_pos h, own_f2_167, if_neg h0, own_f2_173, if_neg h1]; rfl
  · rw [if_neg h]
    by_cases h0 : z < 65008
    · rw [own_f2_167, if_pos h0]
    · rw [own_f2_167, if_neg h0, own_f2_173, if_pos (Decidable.not_not.mp (fun q => h ⟨h0, q⟩))]
theorem own_o2_167 (z : Int) : (own_f2_167 z = 1 ∧ ((¬ z < 65008 ∧ ¬ 65533 < z) ∨ (¬ z < 65536 ∧ ¬ 983039 < z))) ∨ (own_f2_167 z = 0 ∧ ¬ ((¬ z < 65008 ∧ ¬ 65533 < z) ∨ (¬ z < 65536 ∧ ¬ 983039 < z))) := by
  rw [own_m2_167]
  by_cases h : (¬ z < 65008 ∧ ¬ 65533 < z)
  · rw [if_pos h]; exact Or.inl ⟨rfl, Or.inl h⟩
  · rw [if_neg h]
    rcases own_o2_179 z with ⟨a, b⟩ | ⟨a, b⟩
    · exact Or.inl ⟨a, Or.inr b⟩
    · exact Or.inr ⟨a, fun q => q.elim h b⟩
theorem own_m2_155 (z : Int) : own_f2_155 z = if (¬ z < 63744 ∧ ¬ 64975 < z) then 1 else own_f2_167 z := by
  by_cases h : (¬ z < 63744 ∧ ¬ 64975 < z)
  · obtain ⟨h0, h1⟩ := id h
    rw [if_pos h, own_f2_155, if_neg h0, own_f2_161, if_neg h1]; rfl
  · rw [if_neg h]
    by_cases h0 : z < 63744
    · rw [own_f2_155, if_pos h0]
    · rw [own_f2_155, if_neg h0, own_f2_161, if_pos (Decidable.not_not.mp (fun q => h ⟨h0, q⟩))]
theorem own_o2_155 (z : Int) : (own_f2_155 z = 1 ∧ ((¬ z < 63744 ∧ ¬ 64975 < z) ∨ ((¬ z < 65008 ∧ ¬ 65533 < z) ∨ (¬ z < 65536 ∧ ¬ 983039 < z)))) ∨ (own_f2_155 z = 0 ∧ ¬ ((¬ z < 63744 ∧ ¬ 64975 < z) ∨ ((¬ z < 65008 ∧ ¬ 65533 < z) ∨ (¬ z < 65536 ∧ ¬ 983039 < z)))) := by
  rw [own_m2_155]
  by_cases h : (¬ z < 63744 ∧ ¬ 64975 < z)
  · rw [if_pos h]; exact Or.inl ⟨rfl, Or.inl h⟩
  · rw [if_neg h]
    rcases own_o2_167 z with ⟨a, b⟩ | ⟨a, b⟩
    · exact Or.inl ⟨a, Or.inr b⟩
    · exact Or.inr ⟨a, fun q => q.elim h b⟩
theorem own_m2_142 (z : Int) : own_f2_142 z = if (¬ z < 12289 ∧ ¬ 55295 < z) then 1 else own_f2_155 z := by
  by_cases h : (¬ z < 12289 ∧ ¬ 55295 < z)
  · obtain ⟨h0, h1⟩ := id h
    rw [if_pos h, own_f2_142, if_neg h0, own_f2_149, if_neg h1]; rfl
  · rw [if_neg h]
    by_cases h0 : z < 12289
    · rw [own_f2_142, if_pos h0]
    · rw [own_f2_142, if_neg h0, own_f2_149, if_pos (Decidable.not_not.mp (fun q => h ⟨h0, q⟩))]
theorem own_o2_142 (z : Int) : (own_f2_142 z = 1 ∧ ((¬ z < 12289 ∧ ¬ 55295 < z) ∨ ((¬ z < 63744 ∧ ¬ 64975 < z) ∨ ((¬ z < 65008 ∧ ¬ 65533 < z) ∨ (¬ z < 65536 ∧ ¬ 983039 < z))))) ∨ (own_f2_142 z = 0 ∧ ¬ ((¬ z < 12289 ∧ ¬ 55295 < z) ∨ ((¬ z < 63744 ∧ ¬ 64975 < z) ∨ ((¬ z < 65008 ∧ ¬ 65533 < z) ∨ (¬ z < 65536 ∧ ¬ 983039 < z))))) := by
  rw [own_m2_142]
  by_cases h : (¬ z < 12289 ∧ ¬ 55295 < z)
  · rw [if_pos h]; exact Or.inl ⟨rfl, Or.inl h⟩
  · rw [if_neg h]
    rcases own_o2_155 z with ⟨a, b⟩ | ⟨a, b⟩
    · exact Or.inl ⟨a, Or.inr b⟩
    · exact Or.inr ⟨a, fun q => q.elim h b⟩
theorem own_m2_128 (z : Int) : own_f2_128 z = if (¬ z < 11264 ∧ ¬ 12271 < z) then 1 else own_f2_142 z := by
  by_cases h : (¬ z < 11264 ∧ ¬ 12271 < z)
  · obtain ⟨h0, h1⟩ := id h
    rw [if_pos h, own_f2_128, if_neg h0, own_f2_135, if_neg h1]; rfl
  · rw [if_neg h]
    by_cases h0 : z < 11264
    · rw [own_f2_128, if_pos h0]
    · rw [own_f2_128, if_neg h0, own_f2_135, if_pos (Decidable.not_not.mp (fun q => h ⟨h0, q⟩))]
theorem own_o2_128 (z : Int) : (own_f2_128 z = 1 ∧ ((¬ z < 11264 ∧ ¬ 12271 < z) ∨ ((¬ z < 12289 ∧ ¬ 55295 < z) ∨ ((¬ z < 63744 ∧ ¬ 64975 < z) ∨ ((¬ z < 65008 ∧ ¬ 65533 < z) ∨ (¬ z < 65536 ∧ ¬ 983039 < z)))))) ∨ (own_f2_128 z = 0 ∧ ¬ ((¬ z < 11264 ∧ ¬ 12271 < z) ∨ ((¬ z < 12289 ∧ ¬ 55295 < z) ∨ ((¬ z < 63744 ∧ ¬ 64975 < z) ∨ ((¬ z < 65008 ∧ ¬ 65533 < z) ∨ (¬ z < 65536 ∧ ¬ 983039 < z)))))) := by
  rw [own_m2_128]
  by_cases h : (¬ z < 11264 ∧ ¬ 12271 < z)
  · rw [if_pos h]; exact Or.inl ⟨rfl, Or.inl h⟩
  · rw [if_neg h]
    rcases own_o2_142 z with ⟨a, b⟩ | ⟨a, b⟩
    · exact Or.inl ⟨a, Or.inr b⟩
    · exact Or.inr ⟨a, fun q => q.elim h b⟩
theorem own_m2_114 (z : Int) : own_f2_114 z = if (¬ z < 8304 ∧ ¬ 8591 < z) then 1 else own_f2_128 z := by
  by_cases h : (¬ z < 8304 ∧ ¬ 8591 < z)
  · obtain ⟨h0, h1⟩ := id h
    rw [if_pos h, own_f2_114, if_neg h0, own_f2_121, if_neg h1]; rfl
  · rw [if_neg h]
    by_cases h0 : z < 8304
    · rw [own_f2_114, if_pos h0]
    · rw [own_f2_114, if_neg h0, own_f2_121, if_pos (Decidable.not_not.mp (fun q => h ⟨h0, q⟩))]
theorem own_o2_114 (z : Int) : (own_f2_114 z = 1 ∧ ((¬ z < 8304 ∧ ¬ 8591 < z) ∨ ((¬ z < 11264 ∧ ¬ 12271 < z) ∨ ((¬ z < 12289 ∧ ¬ 55295 < z) ∨ ((¬ z < 63744 ∧ ¬ 64975 < z) ∨ ((¬ z < 65008 ∧ ¬ 65533 < z) ∨ (¬ z < 65536 ∧ ¬ 983039 < z))))))) ∨ (own_f2_114 z = 0 ∧ ¬ ((¬ z < 8304 ∧ ¬ 8591 < z) ∨ ((¬ z < 11264 ∧ ¬ 12271 < z) ∨ ((¬ z < 12289 ∧ ¬ 55295 < z) ∨ ((¬ z < 63744 ∧ ¬ 64975 < z) ∨ ((¬ z < 65008 ∧ ¬ 65533 < z) ∨ (¬ z < 65536 ∧ ¬ 983039 < z))))))) := by
  rw [own_m2_114]
  by_cases h : (¬ z < 8304 ∧ ¬ 8591 < z)
  · rw [if_pos h]; exact Or.inl ⟨rfl, Or.inl h⟩
  · rw [if_neg h]
    rcases own_o2_128 z with ⟨a, b⟩ | ⟨a, b⟩
    · exact Or.inl ⟨a, Or.inr b⟩
    · exact Or.inr ⟨a, fun q => q.elim h b⟩
theorem own_m2_100 (z : Int) : own_f2_100 z = if (¬ z < 8204 ∧ ¬ 8205 < z) then 1 else own_f2_114 z := by
  by_cases h : (¬ z < 8204 ∧ ¬ 8205 < z)
  · obtain ⟨h0, h1⟩ := id h
    rw [if_pos h, own_f2_100, if_neg h0, own_f2_107, if_neg h1]; rfl
  · rw [if_neg h]
    by_cases h0 : z < 8204
    · rw [own_f2_100, if_pos h0]
    · rw [own_f2_100, if_neg h0, own_f2_107, if_pos (Decidable.not_not.mp (fun q => h ⟨h0, q⟩))]
theorem own_o2_100 (z : Int) : (own_f2_100 z = 1 ∧ ((¬ z < 8204 ∧ ¬ 8205 < z) ∨ ((¬ z < 8304 ∧ ¬ 8591 < z) ∨ ((¬ z < 11264 ∧ ¬ 12271 < z) ∨ ((¬ z < 12289 ∧ ¬ 55295 < z) ∨ ((¬ z < 63744 ∧ ¬ 64975 < z) ∨ ((¬ z < 65008 ∧ ¬ 65533 < z) ∨ (¬ z < 65536 ∧ ¬ 983039 < z)))))))) ∨ (own_f2_100 z = 0 ∧ ¬ ((¬ z < 8204 ∧ ¬ 8205 < z) ∨ ((¬ z < 8304 ∧ ¬ 8591 < z) ∨ ((¬ z < 11264 ∧ ¬ 12271 < z) ∨ ((¬ z < 12289 ∧ ¬ 55295 < z) ∨ ((¬ z < 63744 ∧ ¬ 64975 < z) ∨ ((¬ z < 65008 ∧ ¬ 65533 < z) ∨ (¬ z < 65536 ∧ ¬ 983039 < z)))))))) := by
  rw [own_m2_100]
  by_cases h : (¬ z < 8204 ∧ ¬ 8205 < z)
  · rw [if_pos h]; exact Or.inl ⟨rfl, Or.inl h⟩
  · rw [if_neg h]
    rcases own_o2_114 z with ⟨a, b⟩ | ⟨a, b⟩
    · exact Or.inl ⟨a, Or.inr b⟩
    · exact Or.inr ⟨a, fun q => q.elim h b⟩
theorem own_m2_86 (z : Int) : own_f2_86 z = if (¬ z < 895 ∧ ¬ 8191 < z) then 1 else own_f2_100 z := by
  by_cases h : (¬ z < 895 ∧ ¬ 8191 < z)
  · obtain ⟨h0, h1⟩ := id h
    rw [if_pos h, own_f2_86, if_neg h0, own_f2_93, if_neg h1]; rfl
  · rw [if_neg h]
    by_cases h0 : z < 895
    · rw [own_f2_86, if_pos h0]
    · rw [own_f2_86, if_neg h0, own_f2_93, if_pos (Decidable.not_not.mp (fun q => h ⟨h0, q⟩))]
theorem own_o2_86 (z : Int) : (own_f2_86 z = 1 ∧ ((¬ z < 895 ∧ ¬ 8191 < z) ∨ ((¬ z < 8204 ∧ ¬ 8205 < z) ∨ ((¬ z < 8304 ∧ ¬ 8591 < z) ∨ ((¬ z < 11264 ∧ ¬ 12271 < z) ∨ ((¬ z < 12289 ∧ ¬ 55295 < z) ∨ ((¬ z < 63744 ∧ ¬ 64975 < z) ∨ ((¬ z < 65008 ∧ ¬ 65533 < z) ∨ (¬ z < 65536 ∧ ¬ 983039 < z))))))))) ∨ (own_f2_86 z = 0 ∧ ¬ ((¬ z < 895 ∧ ¬ 8191 < z) ∨ ((¬ z < 8204 ∧ ¬ 8205 < z) ∨ ((¬ z < 8304 ∧ ¬ 8591 < z) ∨ ((¬ z < 11264 ∧ ¬ 12271 < z) ∨ ((¬ z < 12289 ∧ ¬ 55295 < z) ∨ ((¬ z < 63744 ∧ ¬ 64975 < z) ∨ ((¬ z < 65008 ∧ ¬ 65533 < z) ∨ (¬ z < 65536 ∧ ¬ 983039 < z))))))))) := by
  rw [own_m2_86]
  by_cases h : (¬ z < 895 ∧ ¬ 8191 < z)
  · rw [if_pos h]; exact Or.inl ⟨rfl, Or.inl h⟩
  · rw [if_neg h]
    rcases own_o2_100 z with ⟨a, b⟩ | ⟨a, b⟩
    · exact Or.inl ⟨a, Or.inr b⟩
    · exact Or.inr ⟨a, fun q => q.elim h b⟩
theorem own_m2_72 (z : Int) : own_f2_72 z = if (¬ z < 880 ∧ ¬ 893 < z) then 1 else own_f2_86 z := by
  by_cases h : (¬ z < 880 ∧ ¬ 893 < z)
  · obtain ⟨h0, h1⟩ := id h
    rw [if_pos h, own_f2_72, if_neg h0, own_f2_79, if_neg h1]; rfl
  · rw [if_neg h]
    by_cases h0 : z < 880
    · rw [own_f2_72, if_pos h0]
    · rw [own_f2_72, if_neg h0, own_f2_79, if_pos (Decidable.not_not.mp (fun q => h ⟨h0, q⟩))]
theorem own_o2_72 (z : Int) : (own_f2_72 z = 1 ∧ ((¬ z < 880 ∧ ¬ 893 < z) ∨ ((¬ z < 895 ∧ ¬ 8191 < z) ∨ ((¬ z < 8204 ∧ ¬ 8205 < z) ∨ ((¬ z < 8304 ∧ ¬ 8591 < z) ∨ ((¬ z < 11264 ∧ ¬ 12271 < z) ∨ ((¬ z < 12289 ∧ ¬ 55295 < z) ∨ ((¬ z < 63744 ∧ ¬ 64975 < z) ∨ ((¬ z < 65008 ∧ ¬ 65533 < z) ∨ (¬ z < 65536 ∧ ¬ 983039 < z)))))))))) ∨ (own_f2_72 z = 0 ∧ ¬ ((¬ z < 880 ∧ ¬ 893 < z) ∨ ((¬ z < 895 ∧ ¬ 8191 < z) ∨ ((¬ z < 8204 ∧ ¬ 8205 < z) ∨ ((¬ z < 8304 ∧ ¬ 8591 < z) ∨ ((¬ z < 11264 ∧ ¬ 12271 < z) ∨ ((¬ z < 12289 ∧ ¬ 55295 < z) ∨ ((¬ z < 63744 ∧ ¬ 64975 < z) ∨ ((¬ z < 65008 ∧ ¬ 65533 < z) ∨ (¬ z < 65536 ∧ ¬ 983039 < z)))))))))) := by
  rw [own_m2_72]
  by_cases h : (¬ z < 880 ∧ ¬ 893 < z)
  · rw [if_pos h]; exact Or.inl ⟨rfl, Or.inl h⟩
  · rw [if_neg h]
    rcases own_o2_86 z with ⟨a, b⟩ | ⟨a, b⟩
    · exact Or.inl ⟨a, Or.inr b⟩
    · exact Or.inr ⟨a, fun q => q.elim h b⟩
theorem own_m2_58 (z : Int) : own_f2_58 z = if (¬ z < 248 ∧ ¬ 767 < z) then 1 else own_f2_72 z := by
  by_cases h : (¬ z < 248 ∧ ¬ 767 < z)
  · obtain ⟨h0, h1⟩ := id h
    rw [if_pos h, own_f2_58, if_neg h0, own_f2_65, if_neg h1]; rfl
  · rw [if_neg h]
    by_cases h0 : z < 248
    · rw [own_f2_58, if_pos h0]
    · rw [own_f2_58, if_neg h0, own_f2_65, if_pos (Decidable.not_not.mp (fun q => h ⟨h0, q⟩))]
theorem own_o2_58 (z : Int) : (own_f2_58 z = 1 ∧ ((¬ z < 248 ∧ ¬ 767 < z) ∨ ((¬ z < 880 ∧ ¬ 893 < z) ∨ ((¬ z < 895 ∧ ¬ 8191 < z) ∨ ((¬ z < 8204 ∧ ¬ 8205 < z) ∨ ((¬ z < 8304 ∧ ¬ 8591 < z) ∨ ((¬ z < 11264 ∧ ¬ 12271 < z) ∨ ((¬ z < 12289 ∧ ¬ 55295 < z) ∨ ((¬ z < 63744 ∧ ¬ 64975 < z) ∨ ((¬ z < 65008 ∧ ¬ 65533 < z) ∨ (¬ z < 65536 ∧ ¬ 983039 < z))))))))))) ∨ (own_f2_58 z = 0 ∧ ¬ ((¬ z < 248 ∧ ¬ 767 < z) ∨ ((¬ z < 880 ∧ ¬ 893 < z) ∨ ((¬ z < 895 ∧ ¬ 8191 < z) ∨ ((¬ z < 8204 ∧ ¬ 8205 < z) ∨ ((¬ z < 8304 ∧ ¬ 8591 < z) ∨ ((¬ z < 11264 ∧ ¬ 12271 < z) ∨ ((¬ z < 12289 ∧ ¬ 55295 < z) ∨ ((¬ z < 63744 ∧ ¬ 64975 < z) ∨ ((¬ z < 65008 ∧ ¬ 65533 < z) ∨ (¬ z < 65536 ∧ ¬ 983039 < z))))))))))) := by
  rw [own_m2_58]
  by_cases h : (¬ z < 248 ∧ ¬ 767 < z)
  · rw [if_pos h]; exact Or.inl ⟨rfl, Or.inl h⟩
  · rw [if_neg h]
    rcases own_o2_72 z with ⟨a, b⟩ | ⟨a, b⟩
    · exact Or.inl ⟨a, Or.inr b⟩
    · exact Or.inr ⟨a, fun q => q.elim h b⟩
theorem own_m2_44 (z : Int) : own_f2_44 z = if (¬ z < 216 ∧ ¬ 246 < z) then 1 else own_f2_58 z := by
  by_cases h : (¬ z < 216 ∧ ¬ 246 < z)
  · obtain ⟨h0, h1⟩ := id h
    rw [if_pos h, own_f2_44, if_neg h0, own_f2_51, if_neg h1]; rfl
  · rw [if_neg h]
    by_cases h0 : z < 216
    · rw [own_f2_44, if_pos h0]
    · rw [own_f2_44, if_neg h0, own_f2_51, if_pos (Decidable.not_not.mp (fun q => h ⟨h0, q⟩))]
theorem own_o2_44 (z : Int) : (own_f2_44 z = 1 ∧ ((¬ z < 216 ∧ ¬ 246 < z) ∨ ((¬ z < 248 ∧ ¬ 767 < z) ∨ ((¬ z < 880 ∧ ¬ 893 < z) ∨ ((¬ z < 895 ∧ ¬ 8191 < z) ∨ ((¬ z < 8204 ∧ ¬ 8205 < z) ∨ ((¬ z < 8304 ∧ ¬ 8591 < z) ∨ ((¬ z < 11264 ∧ ¬ 12271 < z) ∨ ((¬ z < 12289 ∧ ¬ 55295 < z) ∨ ((¬ z < 63744 ∧ ¬ 64975 < z) ∨ ((¬ z < 65008 ∧ ¬ 65533 < z) ∨ (¬ z < 65536 ∧ ¬ 983039 < z)))))))))))) ∨ (own_f2_44 z = 0 ∧ ¬ ((¬ z < 216 ∧ ¬ 246 < z) ∨ ((¬ z < 248 ∧ ¬ 767 < z) ∨ ((¬ z < 880 ∧ ¬ 893 < z) ∨ ((¬ z < 895 ∧ ¬ 8191 < z) ∨ ((¬ z < 8204 ∧ ¬ 8205 < z) ∨ ((¬ z < 8304 ∧ ¬ 8591 < z) ∨ ((¬ z < 11264 ∧ ¬ 12271 < z) ∨ ((¬ z < 12289 ∧ ¬ 55295 < z) ∨ ((¬ z < 63744 ∧ ¬ 64975 < z) ∨ ((¬ z < 65008 ∧ ¬ 65533 < z) ∨ (¬ z < 65536 ∧ ¬ 983039 < z)))))))))))) := by
  rw [own_m2_44]
  by_cases h : (¬ z < 216 ∧ ¬ 246 < z)
  · rw [if_pos h]; exact Or.inl ⟨rfl, Or.inl h⟩
  · rw [if_neg h]
    rcases own_o2_58 z with ⟨a, b⟩ | ⟨a, b⟩
    · exact Or.inl ⟨a, Or.inr b⟩
    · exact Or.inr ⟨a, fun q => q.elim h b⟩
theorem own_m2_30 (z : Int) : own_f2_30 z = if (¬ z < 192 ∧ ¬ 214 < z) then 1 else own_f2_44 z := by
  by_cases h : (¬ z < 192 ∧ ¬ 214 < z)
  · obtain ⟨h0, h1⟩ := id h
    rw [if_pos h, own_f2_30, if_neg h0, own_f2_37, if_neg h1]; rfl
  · rw [if_neg h]
    by_cases h0 : z < 192
    · rw [own_f2_30, if_pos h0]
    · rw [own_f2_30, if_neg h0, own_f2_37, if_pos (Decidable.not_not.mp (fun q => h ⟨h0, q⟩))]
theorem own_o2_30 (z : Int) : (own_f2_30 z = 1 ∧ ((¬ z < 192 ∧ ¬ 214 < z) ∨ ((¬ z < 216 ∧ ¬ 246 < z) ∨ ((¬ z < 248 ∧ ¬ 767 < z) ∨ ((¬ z < 880 ∧ ¬ 893 < z) ∨ ((¬ z < 895 ∧ ¬ 8191 < z) ∨ ((¬ z < 8204 ∧ ¬ 8205 < z) ∨ ((¬ z < 8304 ∧ ¬ 8591 < z) ∨ ((¬ z < 11264 ∧ ¬ 12271 < z) ∨ ((¬ z < 12289 ∧ ¬ 55295 < z) ∨ ((¬ z < 63744 ∧ ¬ 64975 < z) ∨ ((¬ z < 65008 ∧ ¬ 65533 < z) ∨ (¬ z < 65536 ∧ ¬ 983039 < z))))))))))))) ∨ (own_f2_30 z = 0 ∧ ¬ ((¬ z < 192 ∧ ¬ 214 < z) ∨ ((¬ z < 216 ∧ ¬ 246 < z) ∨ ((¬ z < 248 ∧ ¬ 767 < z) ∨ ((¬ z < 880 ∧ ¬ 893 < z) ∨ ((¬ z < 895 ∧ ¬ 8191 < z) ∨ ((¬ z < 8204 ∧ ¬ 8205 < z) ∨ ((¬ z < 8304 ∧ ¬ 8591 < z) ∨ ((¬ z < 11264 ∧ ¬ 12271 < z) ∨ ((¬ z < 12289 ∧ ¬ 55295 < z) ∨ ((¬ z < 63744 ∧ ¬ 64975 < z) ∨ ((¬ z < 65008 ∧ ¬ 65533 < z) ∨ (¬ z < 65536 ∧ ¬ 983039 < z))))))))))))) := by
  rw [own_m2_30]
  by_cases h : (¬ z < 192 ∧ ¬ 214 < z)
  · rw [if_pos h]; exact Or.inl ⟨rfl, Or.inl h⟩
  · rw [if_neg h]
    rcases own_o2_44 z with ⟨a, b⟩ | ⟨a, b⟩
    · exact Or.inl ⟨a, Or.inr b⟩
    · exact Or.inr ⟨a, fun q => q.elim h b⟩
theorem own_m2_24 (z : Int) : own_f2_24 z = if (z = 95) then 1 else own_f2_30 z := by
  by_cases h : (z = 95)
  · rw [if_pos h, own_f2_24, if_pos h]; rfl
  · rw [if_neg h, own_f2_24, if_neg h]
theorem own_o2_24 (z : Int) : (own_f2_24 z = 1 ∧ ((z = 95) ∨ ((¬ z < 192 ∧ ¬ 214 < z) ∨ ((¬ z < 216 ∧ ¬ 246 < z) ∨ ((¬ z < 248 ∧ ¬ 767 < z) ∨ ((¬ z < 880 ∧ ¬ 893 < z) ∨ ((¬ z < 895 ∧ ¬ 8191 < z) ∨ ((¬ z < 8204 ∧ ¬ 8205 < z) ∨ ((¬ z < 8304 ∧ ¬ 8591 < z) ∨ ((¬ z < 11264 ∧ ¬ 12271 < z) ∨ ((¬ z < 12289 ∧ ¬ 55295 < z) ∨ ((¬ z < 63744 ∧ ¬ 64975 < z) ∨ ((¬ z < 65008 ∧ ¬ 65533 < z) ∨ (¬ z < 65536 ∧ ¬ 983039 < z)))))))))))))) ∨ (own_f2_24 z = 0 ∧ ¬ ((z = 95) ∨ ((¬ z < 192 ∧ ¬ 214 < z) ∨ ((¬ z < 216 ∧ ¬ 246 < z) ∨ ((¬ z < 248 ∧ ¬ 767 < z) ∨ ((¬ z < 880 ∧ ¬ 893 < z) ∨ ((¬ z < 895 ∧ ¬ 8191 < z) ∨ ((¬ z < 8204 ∧ ¬ 8205 < z) ∨ ((¬ z < 8304 ∧ ¬ 8591 < z) ∨ ((¬ z < 11264 ∧ ¬ 12271 < z) ∨ ((¬ z < 12289 ∧ ¬ 55295 < z) ∨ ((¬ z < 63744 ∧ ¬ 64975 < z) ∨ ((¬ z < 65008 ∧ ¬ 65533 < z) ∨ (¬ z < 65536 ∧ ¬ 983039 < z)))))))))))))) := by
  rw [own_m2_24]
  by_cases h : (z = 95)
  · rw [if_pos h]; exact Or.inl ⟨rfl, Or.inl h⟩
  · rw [if_neg h]
    rcases own_o2_30 z with ⟨a, b⟩ | ⟨a, b⟩
    · exact Or.inl ⟨a, Or.inr b⟩
    · exact Or.inr ⟨a, fun q => q.elim h b⟩
theorem own_m2_12 (z : Int) : own_f2_12 z = if (¬ z < 65 ∧ ¬ 90 < z) then 1 else own_f2_24 z := by
  by_cases h : (¬ z < 65 ∧ ¬ 90 < z)
  · obtain ⟨h0, h1⟩ := id h
    rw [if_pos h, own_f2_12, if_neg h0, own_f2_18, if_neg h1]; rfl
  · rw [if_neg h]
    by_cases h0 : z < 65
    · rw [own_f2_12, if_pos h0]
    · rw [own_f2_12, if_neg h0, own_f2_18, if_pos (Decidable.not_not.mp (fun q => h ⟨h0, q⟩))]
theorem own_o2_12 (z : Int) : (own_f2_12 z = 1 ∧ ((¬ z < 65 ∧ ¬ 90 < z) ∨ ((z = 95) ∨ ((¬ z < 192 ∧ ¬ 214 < z) ∨ ((¬ z < 216 ∧ ¬ 246 < z) ∨ ((¬ z < 248 ∧ ¬ 767 < z) ∨ ((¬ z < 880 ∧ ¬ 893 < z) ∨ ((¬ z < 895 ∧ ¬ 8191 < z) ∨ ((¬ z < 8204 ∧ ¬ 8205 < z) ∨ ((¬ z < 8304 ∧ ¬ 8591 < z) ∨ ((¬ z < 11264 ∧ ¬ 12271 < z) ∨ ((¬ z < 12289 ∧ ¬ 55295 < z) ∨ ((¬ z < 63744 ∧ ¬ 64975 < z) ∨ ((¬ z < 65008 ∧ ¬ 65533 < z) ∨ (¬ z < 65536 ∧ ¬ 983039 < z))))))))))))))) ∨ (own_f2_12 z = 0 ∧ ¬ ((¬ z < 65 ∧ ¬ 90 < z) ∨ ((z = 95) ∨ ((¬ z < 192 ∧ ¬ 214 < z) ∨ ((¬ z < 216 ∧ ¬ 246 < z) ∨ ((¬ z < 248 ∧ ¬ 767 < z) ∨ ((¬ z < 880 ∧ ¬ 893 < z) ∨ ((¬ z < 895 ∧ ¬ 8191 < z) ∨ ((¬ z < 8204 ∧ ¬ 8205 < z) ∨ ((¬ z < 8304 ∧ ¬ 8591 < z) ∨ ((¬ z < 11264 ∧ ¬ 12271 < z) ∨ ((¬ z < 12289 ∧ ¬ 55295 < z) ∨ ((¬ z < 63744 ∧ ¬ 64975 < z) ∨ ((¬ z < 65008 ∧ ¬ 65533 < z) ∨ (¬ z < 65536 ∧ ¬ 983039 < z))))))))))))))) := by
  rw [own_m2_12]
  by_cases h : (¬ z < 65 ∧ ¬ 90 < z)
  · rw [if_pos h]; exact Or.inl ⟨rfl, Or.inl h⟩
  · rw [if_neg h]
    rcases own_o2_24 z with ⟨a, b⟩ | ⟨a, b⟩
    · exact Or.inl ⟨a, Or.inr b⟩
    · exact Or.inr ⟨a, fun q => q.elim h b⟩
theorem own_m2_0 (z : Int) : own_f2_0 z = if (¬ z < 97 ∧ ¬ 122 < z) then 1 else own_f2_12 z := by
  by_cases h : (¬ z < 97 ∧ ¬ 122 < z)
  · obtain ⟨h0, h1⟩ := id h
    rw [if_pos h, own_f2_0, if_neg h0, own_f2_6, if_neg h1]; rfl
  · rw [if_neg h]
    by_cases h0 : z < 97
    · rw [own_f2_0, if_pos h0]
    · rw [own_f2_0, if_neg h0, own_f2_6, if_pos (Decidable.not_not.mp (fun q => h ⟨h0, q⟩))]
theorem own_o2_0 (z : Int) : (own_f2_0 z = 1 ∧ ((¬ z < 97 ∧ ¬ 122 < z) ∨ ((¬ z < 65 ∧ ¬ 90 < z) ∨ ((z = 95) ∨ ((¬ z < 192 ∧ ¬ 214 < z) ∨ ((¬ z < 216 ∧ ¬ 246 < z) ∨ ((¬ z < 248 ∧ ¬ 767 < z) ∨ ((¬ z < 880 ∧ ¬ 893 < z) ∨ ((¬ z < 895 ∧ ¬ 8191 < z) ∨ ((¬ z < 8204 ∧ ¬ 8205 < z) ∨ ((¬ z < 8304 ∧ ¬ 8591 < z) ∨ ((¬ z < 11264 ∧ ¬ 12271 < z) ∨ ((¬ z < 12289 ∧ ¬ 55295 < z) ∨ ((¬ z < 63744 ∧ ¬ 64975 < z) ∨ ((¬ z < 65008 ∧ ¬ 65533 < z) ∨ (¬ z < 65536 ∧ ¬ 983039 < z)))))))))))))))) ∨ (own_f2_0 z = 0 ∧ ¬ ((¬ z < 97 ∧ ¬ 122 < z) ∨ ((¬ z < 65 ∧ ¬ 90 < z) ∨ ((z = 95) ∨ ((¬ z < 192 ∧ ¬ 214 < z) ∨ ((¬ z < 216 ∧ ¬ 246 < z) ∨ ((¬ z < 248 ∧ ¬ 767 < z) ∨ ((¬ z < 880 ∧ ¬ 893 < z) ∨ ((¬ z < 895 ∧ ¬ 8191 < z) ∨ ((¬ z < 8204 ∧ ¬ 8205 < z) ∨ ((¬ z < 8304 ∧ ¬ 8591 < z) ∨ ((¬ z < 11264 ∧ ¬ 12271 < z) ∨ ((¬ z < 12289 ∧ ¬ 55295 < z) ∨ ((¬ z < 63744 ∧ ¬ 64975 < z) ∨ ((¬ z < 65008 ∧ ¬ 65533 < z) ∨ (¬ z < 65536 ∧ ¬ 983039 < z)))))))))))))))) := by
  rw [own_m2_0]
  by_cases h : (¬ z < 97 ∧ ¬ 122 < z)
  · rw [if_pos h]; exact Or.inl ⟨rfl, Or.inl h⟩
  · rw [if_neg h]
    rcases own_o2_12 z with ⟨a, b⟩ | ⟨a, b⟩
    · exact Or.inl ⟨a, Or.inr b⟩
    · exact Or.inr ⟨a, fun q => q.elim h b⟩
set_option maxRecDepth 65536 in
set_option maxHeartbeats 40000000 in
theorem own_b2_195 {p : Program} {l : Launch} {e : Env} {R : Room} {s : State} {m : MethodId} {args : Array Value} {below : List Frame} {meth : Method} {c : Code} {T : State} {locs : List Loc} {cells slots : Nat} {Z : State} {a0 : Array Value}
    (X : Stand p l e R s m args below meth c T locs cells slots) (hx : p.tables.exec = Jvm.exec) (hZ : Z.Warmed39 s.vm) (hw : ∀ d ∈ tables_1, d.before a0 Z = true) (hby : c.code = prog_88_method_4_code) (hown : s.vm.findClass "com/example/hale_xslt/halexslt/xdm/XmlNames" = some m.cls) (hret : meth.sig.returnType = some .boolean) (z v : Int32) (hv : own_f2_195 z.toInt = v) {fs : List Frame}
    (hr : ∀ (f : JFrame) (acts : List Action), f.method = m → f.locked = none → f.entered = [] → (doReturn e (T.setTop f) acts (some (.int v))).1 = T.setFrames fs) :
    Steps p.tables e below (T.setTop (mkF m 195 #[.val (.int z)] [])) (T.setFrames fs) := by
  obtain rfl : v = (0 : Int32) := hv.symm
  refine XT.iconstV X.here hx rfl (0 : Int32) (hb hby d2_195) (by decide) ?_
  show Steps p.tables e below (T.setTop (mkF m 196 #[.val (.int z)] [(.int (0 : Int32))])) _
  exact retN X hx (t := .boolean) hret (by simp) (hb hby d2_196) hr
set_option maxRecDepth 65536 in
set_option maxHeartbeats 40000000 in
theorem own_b2_191 {p : Program} {l : Launch} {e : Env} {R : Room} {s : State} {m : MethodId} {args : Array Value} {below : List Frame} {meth : Method} {c : Code} {T : State} {locs : List Loc} {cells slots : Nat} {Z : State} {a0 : Array Value}
    (X : Stand p l e R s m args below meth c T locs cells slots) (hx : p.tables.exec = Jvm.exec) (hZ : Z.Warmed39 s.vm) (hw : ∀ d ∈ tables_1, d.before a0 Z = true) (hby : c.code = prog_88_method_4_code) (hown : s.vm.findClass "com/example/hale_xslt/halexslt/xdm/XmlNames" = some m.cls) (hret : meth.sig.returnType = some .boolean) (z v : Int32) (hv : own_f2_191 z.toInt = v) {fs : List Frame}
    (hr : ∀ (f : JFrame) (acts : List Action), f.method = m → f.locked = none → f.entered = [] → (doReturn e (T.setTop f) acts (some (.int v))).1 = T.setFrames fs) :
    Steps p.tables e below (T.setTop (mkF m 191 #[.val (.int z)] [])) (T.setFrames fs) := by
  obtain rfl : v = (1 : Int32) := hv.symm
  refine XT.iconstV X.here hx rfl (1 : Int32) (hb hby d2_191) (by decide) ?_
  show Steps p.tables e below (T.setTop (mkF m 192 #[.val (.int z)] [(.int (1 : Int32))])) _
  refine XS.goto X.here hx rfl (pc0 := 192) (pc' := 196) rfl (hb hby d2_192) (by decide) (by decide) ?_
  show Steps p.tables e below (T.setTop (mkF m 196 #[.val (.int z)] [(.int (1 : Int32))])) _
  exact retN X hx (t := .boolean) hret (by simp) (hb hby d2_196) hr
set_option maxRecDepth 65536 in
set_option maxHeartbeats 40000000 in
theorem own_b2_185 {p : Program} {l : Launch} {e : Env} {R : Room} {s : State} {m : MethodId} {args : Array Value} {below : List Frame} {meth : Method} {c : Code} {T : State} {locs : List Loc} {cells slots : Nat} {Z : State} {a0 : Array Value}
    (X : Stand p l e R s m args below meth c T locs cells slots) (hx : p.tables.exec = Jvm.exec) (hZ : Z.Warmed39 s.vm) (hw : ∀ d ∈ tables_1, d.before a0 Z = true) (hby : c.code = prog_88_method_4_code) (hown : s.vm.findClass "com/example/hale_xslt/halexslt/xdm/XmlNames" = some m.cls) (hret : meth.sig.returnType = some .boolean) (z v : Int32) (hv : own_f2_185 z.toInt = v) {fs : List Frame}
    (hr : ∀ (f : JFrame) (acts : List Action), f.method = m → f.locked = none → f.entered = [] → (doReturn e (T.setTop f) acts (some (.int v))).1 = T.setFrames fs) :
    Steps p.tables e below (T.setTop (mkF m 185 #[.val (.int z)] [])) (T.setFrames fs) := by
  refine XS.iloadN X.here hx rfl (hb hby d2_185) rfl ?_
  show Steps p.tables e below (T.setTop (mkF m 186 #[.val (.int z)] [(.int z)])) _
  refine X.ldcI hx hown (v := (983039 : Int32)) (mvT hZ (hw _ (List.mem_of_getElem? (i := 28) rfl))) rfl (hb hby d2_186) ?_
  show Steps p.tables e below (T.setTop (mkF m 188 #[.val (.int z)] [(.int (983039 : Int32)), (.int z)])) _
  by_cases h : 983039 < z.toInt
  · have h' : (983039 : Int32) < z := (own_gt32 (k := (983039 : Int32)) (n := 983039) (by decide)).mpr h
    refine XS.icmpYes X.here hx rfl (pc0 := 188) (pc' := 195) rfl (hb hby d2_188) rfl (tlt h').2.2.1 (by decide) (by decide) ?_
    exact own_b2_195 X hx hZ hw hby hown hret z v (by rw [own_f2_185, if_pos h] at hv; exact hv) hr
  · have h' : ¬ (983039 : Int32) < z := fun q => h ((own_gt32 (k := (983039 : Int32)) (n := 983039) (by decide)).mp q)
    refine XS.icmpNo X.here hx rfl (hb hby d2_188) rfl (flt h').2.2.1 ?_
    exact own_b2_191 X hx hZ hw hby hown hret z v (by rw [own_f2_185, if_neg h] at hv; exact hv) hr
set_option maxRecDepth 65536 in
set_option maxHeartbeats 40000000 in
theorem own_b2_179 {p : Program} {l : Launch} {e : Env} {R : Room} {s : State} {m : MethodId} {args : Array Value} {below : List Frame} {meth : Method} {c : Code} {T : State} {locs : List Loc} {cells slots : Nat} {Z : State} {a0 : Array Value}
    (X : Stand p l e R s m args below meth c T locs cells slots) (hx : p.tables.exec = Jvm.exec) (hZ : Z.Warmed39 s.vm) (hw : ∀ d ∈ tables_1, d.before a0 Z = true) (hby : c.code = prog_88_method_4_code) (hown : s.vm.findClass "com/example/hale_xslt/halexslt/xdm/XmlNames" = some m.cls) (hret : meth.sig.returnType = some .boolean) (z v : Int32) (hv : own_f2_179 z.toInt = v) {fs : List Frame}
    (hr : ∀ (f : JFrame) (acts : List Action), f.method = m → f.locked = none → f.entered = [] → (doReturn e (T.setTop f) acts (some (.int v))).1 = T.setFrames fs) :
    Steps p.tables e below (T.setTop (mkF m 179 #[.val (.int z)] [])) (T.setFrames fs) := by
  refine XS.iloadN X.here hx rfl (hb hby d2_179) rfl ?_
  show Steps p.tables e below (T.setTop (mkF m 180 #[.val (.int z)] [(.int z)])) _
  refine X.ldcI hx hown (v := (65536 : Int32)) (mvT hZ (hw _ (List.mem_of_getElem? (i := 20) rfl))) rfl (hb hby d2_180) ?_
  show Steps p.tables e below (T.setTop (mkF m 182 #[.val (.int z)] [(.int (65536 : Int32)), (.int z)])) _
  by_cases h : z.toInt < 65536
  · have h' : z < (65536 : Int32) := (own_lt32 (k := (65536 : Int32)) (n := 65536) (by decide)).mpr h
    refine XS.icmpYes X.here hx rfl (pc0 := 182) (pc' := 195) rfl (hb hby d2_182) rfl (tlt h').1 (by decide) (by decide) ?_
    exact own_b2_195 X hx hZ hw hby hown hret z v (by rw [own_f2_179, if_pos h] at hv; exact hv) hr
  · have h' : ¬ z < (65536 : Int32) := fun q => h ((own_lt32 (k := (65536 : Int32)) (n := 65536) (by decide)).mp q)
    refine XS.icmpNo X.here hx rfl (hb hby d2_182) rfl (flt h').1 ?_
    exact own_b2_185 X hx hZ hw hby hown hret z v (by rw [own_f2_179, if_neg h] at hv; exact hv) hr
set_option maxRecDepth 65536 in
set_option maxHeartbeats 40000000 in
theorem own_b2_173 {p : Program} {l : Launch} {e : Env} {R : Room} {s : State} {m : MethodId} {args : Array Value} {below : List Frame} {meth : Method} {c : Code} {T : State} {locs : List Loc} {cells slots : Nat} {Z : State} {a0 : Array Value}
    (X : Stand p l e R s m args below meth c T locs cells slots) (hx : p.tables.exec = Jvm.exec) (hZ : Z.Warmed39 s.vm) (hw : ∀ d ∈ tables_1, d.before a0 Z = true) (hby : c.code = prog_88_method_4_code) (hown : s.vm.findClass "com/example/hale_xslt/halexslt/xdm/XmlNames" = some m.cls) (hret : meth.sig.returnType = some .boolean) (z v : Int32) (hv : own_f2_173 z.toInt = v) {fs : List Frame}
    (hr : ∀ (f : JFrame) (acts : List Action), f.method = m → f.locked = none → f.entered = [] → (doReturn e (T.setTop f) acts (some (.int v))).1 = T.setFrames fs) :
    Steps p.tables e below (T.setTop (mkF m 173 #[.val (.int z)] [])) (T.setFrames fs) := by
  refine XS.iloadN X.here hx rfl (hb hby d2_173) rfl ?_
  show Steps p.tables e below (T.setTop (mkF m 174 #[.val (.int z)] [(.int z)])) _
  refine X.ldcI hx hown (v := (65533 : Int32)) (mvT hZ (hw _ (List.mem_of_getElem? (i := 27) rfl))) rfl (hb hby d2_174) ?_
  show Steps p.tables e below (T.setTop (mkF m 176 #[.val (.int z)] [(.int (65533 : Int32)), (.int z)])) _
  by_cases h : 65533 < z.toInt
  · have h' : (65533 : Int32) < z := (own_gt32 (k := (65533 : Int32)) (n := 65533) (by decide)).mpr h
    refine XS.icmpNo X.here hx rfl (hb hby d2_176) rfl (tlt h').2.2.2 ?_
    exact own_b2_179 X hx hZ hw hby hown hret z v (by rw [own_f2_173, if_pos h] at hv; exact hv) hr
  · have h' : ¬ (65533 : Int32) < z := fun q => h ((own_gt32 (k := (65533 : Int32)) (n := 65533) (by decide)).mp q)
    refine XS.icmpYes X.here hx rfl (pc0 := 176) (pc' := 191) rfl (hb hby d2_176) rfl (flt h').2.2.2 (by decide) (by decide) ?_
    exact own_b2_191 X hx hZ hw hby hown hret z v (by rw [own_f2_173, if_neg h] at hv; exact hv) hr
set_option maxRecDepth 65536 in
set_option maxHeartbeats 40000000 in
theorem own_b2_167 {p : Program} {l : Launch} {e : Env} {R : Room} {s : State} {m : MethodId} {args : Array Value} {below : List Frame} {meth : Method} {c : Code} {T : State} {locs : List Loc} {cells slots : Nat} {Z : State} {a0 : Array Value}
    (X : Stand p l e R s m args below meth c T locs cells slots) (hx : p.tables.exec = Jvm.exec) (hZ : Z.Warmed39 s.vm) (hw : ∀ d ∈ tables_1, d.before a0 Z = true) (hby : c.code = prog_88_method_4_code) (hown : s.vm.findClass "com/example/hale_xslt/halexslt/xdm/XmlNames" = some m.cls) (hret : meth.sig.returnType = some .boolean) (z v : Int32) (hv : own_f2_167 z.toInt = v) {fs : List Frame}
    (hr : ∀ (f : JFrame) (acts : List Action), f.method = m → f.locked = none → f.entered = [] → (doReturn e (T.setTop f) acts (some (.int v))).1 = T.setFrames fs) :
    Steps p.tables e below (T.setTop (mkF m 167 #[.val (.int z)] [])) (T.setFrames fs) := by
  refine XS.iloadN X.here hx rfl (hb hby d2_167) rfl ?_
  show Steps p.tables e below (T.setTop (mkF m 168 #[.val (.int z)] [(.int z)])) _
  refine X.ldcI hx hown (v := (65008 : Int32)) (mvT hZ (hw _ (List.mem_of_getElem? (i := 19) rfl))) rfl (hb hby d2_168) ?_
  show Steps p.tables e below (T.setTop (mkF m 170 #[.val (.int z)] [(.int (65008 : Int32)), (.int z)])) _
  by_cases h : z.toInt < 65008
  · have h' : z < (65008 : Int32) := (own_lt32 (k := (65008 : Int32)) (n := 65008) (by decide)).mpr h
    refine XS.icmpYes X.here hx rfl (pc0 := 170) (pc' := 179) rfl (hb hby d2_170) rfl (tlt h').1 (by decide) (by decide) ?_
    exact own_b2_179 X hx hZ hw hby hown hret z v (by rw [own_f2_167, if_pos h] at hv; exact hv) hr
  · have h' : ¬ z < (65008 : Int32) := fun q => h ((own_lt32 (k := (65008 : Int32)) (n := 65008) (by decide)).mp q)
    refine XS.icmpNo X.here hx rfl (hb hby d2_170) rfl (flt h').1 ?_
    exact own_b2_173 X hx hZ hw hby hown hret z v (by rw [own_f2_167, if_neg h] at hv; exact hv) hr
set_option maxRecDepth 65536 in
set_option maxHeartbeats 40000000 in
theorem own_b2_161 {p : Program} {l : Launch} {e : Env} {R : Room} {s : State} {m : MethodId} {args : Array Value} {below : List Frame} {meth : Method} {c : Code} {T : State} {locs : List Loc} {cells slots : Nat} {Z : State} {a0 : Array Value}
    (X : Stand p l e R s m args below meth c T locs cells slots) (hx : p.tables.exec = Jvm.exec) (hZ : Z.Warmed39 s.vm) (hw : ∀ d ∈ tables_1, d.before a0 Z = true) (hby : c.code = prog_88_method_4_code) (hown : s.vm.findClass "com/example/hale_xslt/halexslt/xdm/XmlNames" = some m.cls) (hret : meth.sig.returnType = some .boolean) (z v : Int32) (hv : own_f2_161 z.toInt = v) {fs : List Frame}
    (hr : ∀ (f : JFrame) (acts : List Action), f.method = m → f.locked = none → f.entered = [] → (doReturn e (T.setTop f) acts (some (.int v))).1 = T.setFrames fs) :
    Steps p.tables e below (T.setTop (mkF m 161 #[.val (.int z)] [])) (T.setFrames fs) := by
  refine XS.iloadN X.here hx rfl (hb hby d2_161) rfl ?_
  show Steps p.tables e below (T.setTop (mkF m 162 #[.val (.int z)] [(.int z)])) _
  refine X.ldcI hx hown (v := (64975 : Int32)) (mvT hZ (hw _ (List.mem_of_getElem? (i := 26) rfl))) rfl (hb hby d2_162) ?_
  show Steps p.tables e below (T.setTop (mkF m 164 #[.val (.int z)] [(.int (64975 : Int32)), (.int z)])) _
  by_cases h : 64975 < z.toInt
  · have h' : (64975 : Int32) < z := (own_gt32 (k := (64975 : Int32)) (n := 64975) (by decide)).mpr h
    refine XS.icmpNo X.here hx rfl (hb hby d2_164) rfl (tlt h').2.2.2 ?_
    exact own_b2_167 X hx hZ hw hby hown hret z v (by rw [own_f2_161, if_pos h] at hv; exact hv) hr
  · have h' : ¬ (64975 : Int32) < z := fun q => h ((own_gt32 (k := (64975 : Int32)) (n := 64975) (by decide)).mp q)
    refine XS.icmpYes X.here hx rfl (pc0 := 164) (pc' := 191) rfl (hb hby d2_164) rfl (flt h').2.2.2 (by decide) (by decide) ?_
    exact own_b2_191 X hx hZ hw hby hown hret z v (by rw [own_f2_161, if_neg h] at hv; exact hv) hr
set_option maxRecDepth 65536 in
set_option maxHeartbeats 40000000 in
theorem own_b2_155 {p : Program} {l : Launch} {e : Env} {R : Room} {s : State} {m : MethodId} {args : Array Value} {below : List Frame} {meth : Method} {c : Code} {T : State} {locs : List Loc} {cells slots : Nat} {Z : State} {a0 : Array Value}
    (X : Stand p l e R s m args below meth c T locs cells slots) (hx : p.tables.exec = Jvm.exec) (hZ : Z.Warmed39 s.vm) (hw : ∀ d ∈ tables_1, d.before a0 Z = true) (hby : c.code = prog_88_method_4_code) (hown : s.vm.findClass "com/example/hale_xslt/halexslt/xdm/XmlNames" = some m.cls) (hret : meth.sig.returnType = some .boolean) (z v : Int32) (hv : own_f2_155 z.toInt = v) {fs : List Frame}
    (hr : ∀ (f : JFrame) (acts : List Action), f.method = m → f.locked = none → f.entered = [] → (doReturn e (T.setTop f) acts (some (.int v))).1 = T.setFrames fs) :
    Steps p.tables e below (T.setTop (mkF m 155 #[.val (.int z)] [])) (T.setFrames fs) := by
  refine XS.iloadN X.here hx rfl (hb hby d2_155) rfl ?_
  show Steps p.tables e below (T.setTop (mkF m 156 #[.val (.int z)] [(.int z)])) _
  refine X.ldcI hx hown (v := (63744 : Int32)) (mvT hZ (hw _ (List.mem_of_getElem? (i := 18) rfl))) rfl (hb hby d2_156) ?_
  show Steps p.tables e below (T.setTop (mkF m 158 #[.val (.int z)] [(.int (63744 : Int32)), (.int z)])) _
  by_cases h : z.toInt < 63744
  · have h' : z < (63744 : Int32) := (own_lt32 (k := (63744 : Int32)) (n := 63744) (by decide)).mpr h
    refine XS.icmpYes X.here hx rfl (pc0 := 158) (pc' := 167) rfl (hb hby d2_158) rfl (tlt h').1 (by decide) (by decide) ?_
    exact own_b2_167 X hx hZ hw hby hown hret z v (by rw [own_f2_155, if_pos h] at hv; exact hv) hr
  · have h' : ¬ z < (63744 : Int32) := fun q => h ((own_lt32 (k := (63744 : Int32)) (n := 63744) (by decide)).mp q)
    refine XS.icmpNo X.here hx rfl (hb hby d2_158) rfl (flt h').1 ?_
    exact own_b2_161 X hx hZ hw hby hown hret z v (by rw [own_f2_155, if_neg h] at hv; exact hv) hr
set_option maxRecDepth 65536 in
set_option maxHeartbeats 40000000 in
theorem own_b2_149 {p : Program} {l : Launch} {e : Env} {R : Room} {s : State} {m : MethodId} {args : Array Value} {below : List Frame} {meth : Method} {c : Code} {T : State} {locs : List Loc} {cells slots : Nat} {Z : State} {a0 : Array Value}
    (X : Stand p l e R s m args below meth c T locs cells slots) (hx : p.tables.exec = Jvm.exec) (hZ : Z.Warmed39 s.vm) (hw : ∀ d ∈ tables_1, d.before a0 Z = true) (hby : c.code = prog_88_method_4_code) (hown : s.vm.findClass "com/example/hale_xslt/halexslt/xdm/XmlNames" = some m.cls) (hret : meth.sig.returnType = some .boolean) (z v : Int32) (hv : own_f2_149 z.toInt = v) {fs : List Frame}
    (hr : ∀ (f : JFrame) (acts : List Action), f.method = m → f.locked = none → f.entered = [] → (doReturn e (T.setTop f) acts (some (.int v))).1 = T.setFrames fs) :
    Steps p.tables e below (T.setTop (mkF m 149 #[.val (.int z)] [])) (T.setFrames fs) := by
  refine XS.iloadN X.here hx rfl (hb hby d2_149) rfl ?_
  show Steps p.tables e below (T.setTop (mkF m 150 #[.val (.int z)] [(.int z)])) _
  refine X.ldcI hx hown (v := (55295 : Int32)) (mvT hZ (hw _ (List.mem_of_getElem? (i := 25) rfl))) rfl (hb hby d2_150) ?_
  show Steps p.tables e below (T.setTop (mkF m 152 #[.val (.int z)] [(.int (55295 : Int32)), (.int z)])) _
  by_cases h : 55295 < z.toInt
  · have h' : (55295 : Int32) < z := (own_gt32 (k := (55295 : Int32)) (n := 55295) (by decide)).mpr h
    refine XS.icmpNo X.here hx rfl (hb hby d2_152) rfl (tlt h').2.2.2 ?_
    exact own_b2_155 X hx hZ hw hby hown hret z v (by rw [own_f2_149, if_pos h] at hv; exact hv) hr
  · have h' : ¬ (55295 : Int32) < z := fun q => h ((own_gt32 (k := (55295 : Int32)) (n := 55295) (by decide)).mp q)
    refine XS.icmpYes X.here hx rfl (pc0 := 152) (pc' := 191) rfl (hb hby d2_152) rfl (flt h').2.2.2 (by decide) (by decide) ?_
    exact own_b2_191 X hx hZ hw hby hown hret z v (by rw [own_f2_149, if_neg h] at hv; exact hv) hr
set_option maxRecDepth 65536 in
set_option maxHeartbeats 40000000 in
theorem own_b2_142 {p : Program} {l : Launch} {e : Env} {R : Room} {s : State} {m : MethodId} {args : Array Value} {below : List Frame} {meth : Method} {c : Code} {T : State} {locs : List Loc} {cells slots : Nat} {Z : State} {a0 : Array Value}
    (X : Stand p l e R s m args below meth c T locs cells slots) (hx : p.tables.exec = Jvm.exec) (hZ : Z.Warmed39 s.vm) (hw : ∀ d ∈ tables_1, d.before a0 Z = true) (hby : c.code = prog_88_method_4_code) (hown : s.vm.findClass "com/example/hale_xslt/halexslt/xdm/XmlNames" = some m.cls) (hret : meth.sig.returnType = some .boolean) (z v : Int32) (hv : own_f2_142 z.toInt = v) {fs : List Frame}
    (hr : ∀ (f : JFrame) (acts : List Action), f.method = m → f.locked = none → f.entered = [] → (doReturn e (T.setTop f) acts (some (.int v))).1 = T.setFrames fs) :
    Steps p.tables e below (T.setTop (mkF m 142 #[.val (.int z)] [])) (T.setFrames fs) := by
  refine XS.iloadN X.here hx rfl (hb hby d2_142) rfl ?_
  show Steps p.tables e below (T.setTop (mkF m 143 #[.val (.int z)] [(.int z)])) _
  refine XT.sipushV X.here hx rfl (12289 : Int32) (hb hby d2_143) (by decide) ?_
  show Steps p.tables e below (T.setTop (mkF m 146 #[.val (.int z)] [(.int (12289 : Int32)), (.int z)])) _
  by_cases h : z.toInt < 12289
  · have h' : z < (12289 : Int32) := (own_lt32 (k := (12289 : Int32)) (n := 12289) (by decide)).mpr h
    refine XS.icmpYes X.here hx rfl (pc0 := 146) (pc' := 155) rfl (hb hby d2_146) rfl (tlt h').1 (by decide) (by decide) ?_
    exact own_b2_155 X hx hZ hw hby hown hret z v (by rw [own_f2_142, if_pos h] at hv; exact hv) hr
  · have h' : ¬ z < (12289 : Int32) := fun q => h ((own_lt32 (k := (12289 : Int32)) (n := 12289) (by decide)).mp q)
    refine XS.icmpNo X.here hx rfl (hb hby d2_146) rfl (flt h').1 ?_
    exact own_b2_149 X hx hZ hw hby hown hret z v (by rw [own_f2_142, if_neg h] at hv; exact hv) hr
set_option maxRecDepth 65536 in
set_option maxHeartbeats 40000000 in
theorem own_b2_135 {p : Program} {l : Launch} {e : Env} {R : Room} {s : State} {m : MethodId} {args : Array Value} {below : List Frame} {meth : Method} {c : Code} {T : State} {locs : List Loc} {cells slots : Nat} {Z : State} {a0 : Array Value}
    (X : Stand p l e R s m args below meth c T locs cells slots) (hx : p.tables.exec = Jvm.exec) (hZ : Z.Warmed39 s.vm) (hw : ∀ d ∈ tables_1, d.before a0 Z = true) (hby : c.code = prog_88_method_4_code) (hown : s.vm.findClass "com/example/hale_xslt/halexslt/xdm/XmlNames" = some m.cls) (hret : meth.sig.returnType = some .boolean) (z v : Int32) (hv : own_f2_135 z.toInt = v) {fs : List Frame}
    (hr : ∀ (f : JFrame) (acts : List Action), f.method = m → f.locked = none → f.entered = [] → (doReturn e (T.setTop f) acts (some (.int v))).1 = T.setFrames fs) :
    Steps p.tables e below (T.setTop (mkF m 135 #[.val (.int z)] [])) (T.setFrames fs) := by
  refine XS.iloadN X.here hx rfl (hb hby d2_135) rfl ?_
  show Steps p.tables e below (T.setTop (mkF m 136 #[.val (.int z)] [(.int z)])) _
  refine XT.sipushV X.here hx rfl (12271 : Int32) (hb hby d2_136) (by decide) ?_
  show Steps p.tables e below (T.setTop (mkF m 139 #[.val (.int z)] [(.int (12271 : Int32)), (.int z)])) _
  by_cases h : 12271 < z.toInt
  · have h' : (12271 : Int32) < z := (own_gt32 (k := (12271 : Int32)) (n := 12271) (by decide)).mpr h
    refine XS.icmpNo X.here hx rfl (hb hby d2_139) rfl (tlt h').2.2.2 ?_
    exact own_b2_142 X hx hZ hw hby hown hret z v (by rw [own_f2_135, if_pos h] at hv; exact hv) hr
  · have h' : ¬ (12271 : Int32) < z := fun q => h ((own_gt32 (k := (12271 : Int32)) (n := 12271) (by decide)).mp q)
    refine XS.icmpYes X.here hx rfl (pc0 := 139) (pc' := 191) rfl (hb hby d2_139) rfl (flt h').2.2.2 (by decide) (by decide) ?_
    exact own_b2_191 X hx hZ hw hby hown hret z v (by rw [own_f2_135, if_neg h] at hv; exact hv) hr
set_option maxRecDepth 65536 in
set_option maxHeartbeats 40000000 in
theorem own_b2_128 {p : Program} {l : Launch} {e : Env} {R : Room} {s : State} {m : MethodId} {args : Array Value} {below : List Frame} {meth : Method} {c : Code} {T : State} {locs : List Loc} {cells slots : Nat} {Z : State} {a0 : Array Value}
    (X : Stand p l e R s m args below meth c T locs cells slots) (hx : p.tables.exec = Jvm.exec) (hZ : Z.Warmed39 s.vm) (hw : ∀ d ∈ tables_1, d.before a0 Z = true) (hby : c.code = prog_88_method_4_code) (hown : s.vm.findClass "com/example/hale_xslt/halexslt/xdm/XmlNames" = some m.cls) (hret : meth.sig.returnType = some .boolean) (z v : Int32) (hv : own_f2_128 z.toInt = v) {fs : List Frame}
    (hr : ∀ (f : JFrame) (acts : List Action), f.method = m → f.locked = none → f.entered = [] → (doReturn e (T.setTop f) acts (some (.int v))).1 = T.setFrames fs) :
    Steps p.tables e below (T.setTop (mkF m 128 #[.val (.int z)] [])) (T.setFrames fs) := by
  refine XS.iloadN X.here hx rfl (hb hby d2_128) rfl ?_
  show Steps p.tables e below (T.setTop (mkF m 129 #[.val (.int z)] [(.int z)])) _
  refine XT.sipushV X.here hx rfl (11264 : Int32) (hb hby d2_129) (by decide) ?_
  show Steps p.tables e below (T.setTop (mkF m 132 #[.val (.int z)] [(.int (11264 : Int32)), (.int z)])) _
  by_cases h : z.toInt < 11264
  · have h' : z < (11264 : Int32) := (own_lt32 (k := (11264 : Int32)) (n := 11264) (by decide)).mpr h
    refine XS.icmpYes X.here hx rfl (pc0 := 132) (pc' := 142) rfl (hb hby d2_132) rfl (tlt h').1 (by decide) (by decide) ?_
    exact own_b2_142 X hx hZ hw hby hown hret z v (by rw [own_f2_128, if_pos h] at hv; exact hv) hr
  · have h' : ¬ z < (11264 : Int32) := fun q => h ((own_lt32 (k := (11264 : Int32)) (n := 11264) (by decide)).mp q)
    refine XS.icmpNo X.here hx rfl (hb hby d2_132) rfl (flt h').1 ?_
    exact own_b2_135 X hx hZ hw hby hown hret z v (by rw [own_f2_128, if_neg h] at hv; exact hv) hr
set_option maxRecDepth 65536 in
set_option maxHeartbeats 40000000 in
theorem own_b2_121 {p : Program} {l : Launch} {e : Env} {R : Room} {s : State} {m : MethodId} {args : Array Value} {below : List Frame} {meth : Method} {c : Code} {T : State} {locs : List Loc} {cells slots : Nat} {Z : State} {a0 : Array Value}
    (X : Stand p l e R s m args below meth c T locs cells slots) (hx : p.tables.exec = Jvm.exec) (hZ : Z.Warmed39 s.vm) (hw : ∀ d ∈ tables_1, d.before a0 Z = true) (hby : c.code = prog_88_method_4_code) (hown : s.vm.findClass "com/example/hale_xslt/halexslt/xdm/XmlNames" = some m.cls) (hret : meth.sig.returnType = some .boolean) (z v : Int32) (hv : own_f2_121 z.toInt = v) {fs : List Frame}
    (hr : ∀ (f : JFrame) (acts : List Action), f.method = m → f.locked = none → f.entered = [] → (doReturn e (T.setTop f) acts (some (.int v))).1 = T.setFrames fs) :
    Steps p.tables e below (T.setTop (mkF m 121 #[.val (.int z)] [])) (T.setFrames fs) := by
  refine XS.iloadN X.here hx rfl (hb hby d2_121) rfl ?_
  show Steps p.tables e below (T.setTop (mkF m 122 #[.val (.int z)] [(.int z)])) _
  refine XT.sipushV X.here hx rfl (8591 : Int32) (hb hby d2_122) (by decide) ?_
  show Steps p.tables e below (T.setTop (mkF m 125 #[.val (.int z)] [(.int (8591 : Int32)), (.int z)])) _
  by_cases h : 8591 < z.toInt
  · have h' : (8591 : Int32) < z := (own_gt32 (k := (8591 : Int32)) (n := 8591) (by decide)).mpr h
    refine XS.icmpNo X.here hx rfl (hb hby d2_125) rfl (tlt h').2.2.2 ?_
    exact own_b2_128 X hx hZ hw hby hown hret z v (by rw [own_f2_121, if_pos h] at hv; exact hv) hr
  · have h' : ¬ (8591 : Int32) < z := fun q => h ((own_gt32 (k := (8591 : Int32)) (n := 8591) (by decide)).mp q)
    refine XS.icmpYes X.here hx rfl (pc0 := 125) (pc' := 191) rfl (hb hby d2_125) rfl (flt h').2.2.2 (by decide) (by decide) ?_
    exact own_b2_191 X hx hZ hw hby hown hret z v (by rw [own_f2_121, if_neg h] at hv; exact hv) hr
set_option maxRecDepth 65536 in
set_option maxHeartbeats 40000000 in
theorem own_b2_114 {p : Program} {l : Launch} {e : Env} {R : Room} {s : State} {m : MethodId} {args : Array Value} {below : List Frame} {meth : Method} {c : Code} {T : State} {locs : List Loc} {cells slots : Nat} {Z : State} {a0 : Array Value}
    (X : Stand p l e R s m args below meth c T locs cells slots) (hx : p.tables.exec = Jvm.exec) (hZ : Z.Warmed39 s.vm) (hw : ∀ d ∈ tables_1, d.before a0 Z = true) (hby : c.code = prog_88_method_4_code) (hown : s.vm.findClass "com/example/hale_xslt/halexslt/xdm/XmlNames" = some m.cls) (hret : meth.sig.returnType = some .boolean) (z v : Int32) (hv : own_f2_114 z.toInt = v) {fs : List Frame}
    (hr : ∀ (f : JFrame) (acts : List Action), f.method = m → f.locked = none → f.entered = [] → (doReturn e (T.setTop f) acts (some (.int v))).1 = T.setFrames fs) :
    Steps p.tables e below (T.setTop (mkF m 114 #[.val (.int z)] [])) (T.setFrames fs) := by
  refine XS.iloadN X.here hx rfl (hb hby d2_114) rfl ?_
  show Steps p.tables e below (T.setTop (mkF m 115 #[.val (.int z)] [(.int z)])) _
  refine XT.sipushV X.here hx rfl (8304 : Int32) (hb hby d2_115) (by decide) ?_
  show Steps p.tables e below (T.setTop (mkF m 118 #[.val (.int z)] [(.int (8304 : Int32)), (.int z)])) _
  by_cases h : z.toInt < 8304
  · have h' : z < (8304 : Int32) := (own_lt32 (k := (8304 : Int32)) (n := 8304) (by decide)).mpr h
    refine XS.icmpYes X.here hx rfl (pc0 := 118) (pc' := 128) rfl (hb hby d2_118) rfl (tlt h').1 (by decide) (by decide) ?_
    exact own_b2_128 X hx hZ hw hby hown hret z v (by rw [own_f2_114, if_pos h] at hv; exact hv) hr
  · have h' : ¬ z < (8304 : Int32) := fun q => h ((own_lt32 (k := (8304 : Int32)) (n := 8304) (by decide)).mp q)
    refine XS.icmpNo X.here hx rfl (hb hby d2_118) rfl (flt h').1 ?_
    exact own_b2_121 X hx hZ hw hby hown hret z v (by rw [own_f2_114, if_neg h] at hv; exact hv) hr
set_option maxRecDepth 65536 in
set_option maxHeartbeats 40000000 in
theorem own_b2_107 {p : Program} {l : Launch} {e : Env} {R : Room} {s : State} {m : MethodId} {args : Array Value} {below : List Frame} {meth : Method} {c : Code} {T : State} {locs : List Loc} {cells slots : Nat} {Z : State} {a0 : Array Value}
    (X : Stand p l e R s m args below meth c T locs cells slots) (hx : p.tables.exec = Jvm.exec) (hZ : Z.Warmed39 s.vm) (hw : ∀ d ∈ tables_1, d.before a0 Z = true) (hby : c.code = prog_88_method_4_code) (hown : s.vm.findClass "com/example/hale_xslt/halexslt/xdm/XmlNames" = some m.cls) (hret : meth.sig.returnType = some .boolean) (z v : Int32) (hv : own_f2_107 z.toInt = v) {fs : List Frame}
    (hr : ∀ (f : JFrame) (acts : List Action), f.method = m → f.locked = none → f.entered = [] → (doReturn e (T.setTop f) acts (some (.int v))).1 = T.setFrames fs) :
    Steps p.tables e below (T.setTop (mkF m 107 #[.val (.int z)] [])) (T.setFrames fs) := by
  refine XS.iloadN X.here hx rfl (hb hby d2_107) rfl ?_
  show Steps p.tables e below (T.setTop (mkF m 108 #[.val (.int z)] [(.int z)])) _
  refine XT.sipushV X.here hx rfl (8205 : Int32) (hb hby d2_108) (by decide) ?_
  show Steps p.tables e below (T.setTop (mkF m 111 #[.val (.int z)] [(.int (8205 : Int32)), (.int z)])) _
  by_cases h : 8205 < z.toInt
  · have h' : (8205 : Int32) < z := (own_gt32 (k := (8205 : Int32)) (n := 8205) (by decide)).mpr h
    refine XS.icmpNo X.here hx rfl (hb hby d2_111) rfl (tlt h').2.2.2 ?_
    exact own_b2_114 X hx hZ hw hby hown hret z v (by rw [own_f2_107, if_pos h] at hv; exact hv) hr
  · have h' : ¬ (8205 : Int32) < z := fun q => h ((own_gt32 (k := (8205 : Int32)) (n := 8205) (by decide)).mp q)
    refine XS.icmpYes X.here hx rfl (pc0 := 111) (pc' := 191) rfl (hb hby d2_111) rfl (flt h').2.2.2 (by decide) (by decide) ?_
    exact own_b2_191 X hx hZ hw hby hown hret z v (by rw [own_f2_107, if_neg h] at hv; exact hv) hr
set_option maxRecDepth 65536 in
set_option maxHeartbeats 40000000 in
theorem own_b2_100 {p : Program} {l : Launch} {e : Env} {R : Room} {s : State} {m : MethodId} {args : Array Value} {below : List Frame} {meth : Method} {c : Code} {T : State} {locs : List Loc} {cells slots : Nat} {Z : State} {a0 : Array Value}
    (X : Stand p l e R s m args below meth c T locs cells slots) (hx : p.tables.exec = Jvm.exec) (hZ : Z.Warmed39 s.vm) (hw : ∀ d ∈ tables_1, d.before a0 Z = true) (hby : c.code = prog_88_method_4_code) (hown : s.vm.findClass "com/example/hale_xslt/halexslt/xdm/XmlNames" = some m.cls) (hret : meth.sig.returnType = some .boolean) (z v : Int32) (hv : own_f2_100 z.toInt = v) {fs : List Frame}
    (hr : ∀ (f : JFrame) (acts : List Action), f.method = m → f.locked = none → f.entered = [] → (doReturn e (T.setTop f) acts (some (.int v))).1 = T.setFrames fs) :
    Steps p.tables e below (T.setTop (mkF m 100 #[.val (.int z)] [])) (T.setFrames fs) := by
  refine XS.iloadN X.here hx rfl (hb hby d2_100) rfl ?_
  show Steps p.tables e below (T.setTop (mkF m 101 #[.val (.int z)] [(.int z)])) _
  refine XT.sipushV X.here hx rfl (8204 : Int32) (hb hby d2_101) (by decide) ?_
  show Steps p.tables e below (T.setTop (mkF m 104 #[.val (.int z)] [(.int (8204 : Int32)), (.int z)])) _
  by_cases h : z.toInt < 8204
  · have h' : z < (8204 : Int32) := (own_lt32 (k := (8204 : Int32)) (n := 8204) (by decide)).mpr h
    refine XS.icmpYes X.here hx rfl (pc0 := 104) (pc' := 114) rfl (hb hby d2_104) rfl (tlt h').1 (by decide) (by decide) ?_
    exact own_b2_114 X hx hZ hw hby hown hret z v (by rw [own_f2_100, if_pos h] at hv; exact hv) hr
  · have h' : ¬ z < (8204 : Int32) := fun q => h ((own_lt32 (k := (8204 : Int32)) (n := 8204) (by decide)).mp q)
    refine XS.icmpNo X.here hx rfl (hb hby d2_104) rfl (flt h').1 ?_
    exact own_b2_107 X hx hZ hw hby hown hret z v (by rw [own_f2_100, if_neg h] at hv; exact hv) hr
set_option maxRecDepth 65536 in
set_option maxHeartbeats 40000000 in
theorem own_b2_93 {p : Program} {l : Launch} {e : Env} {R : Room} {s : State} {m : MethodId} {args : Array Value} {below : List Frame} {meth : Method} {c : Code} {T : State} {locs : List Loc} {cells slots : Nat} {Z : State} {a0 : Array Value}
    (X : Stand p l e R s m args below meth c T locs cells slots) (hx : p.tables.exec = Jvm.exec) (hZ : Z.Warmed39 s.vm) (hw : ∀ d ∈ tables_1, d.before a0 Z = true) (hby : c.code = prog_88_method_4_code) (hown : s.vm.findClass "com/example/hale_xslt/halexslt/xdm/XmlNames" = some m.cls) (hret : meth.sig.returnType = some .boolean) (z v : Int32) (hv : own_f2_93 z.toInt = v) {fs : List Frame}
    (hr : ∀ (f : JFrame) (acts : List Action), f.method = m → f.locked = none → f.entered = [] → (doReturn e (T.setTop f) acts (some (.int v))).1 = T.setFrames fs) :
    Steps p.tables e below (T.setTop (mkF m 93 #[.val (.int z)] [])) (T.setFrames fs) := by
  refine XS.iloadN X.here hx rfl (hb hby d2_93) rfl ?_
  show Steps p.tables e below (T.setTop (mkF m 94 #[.val (.int z)] [(.int z)])) _
  refine XT.sipushV X.here hx rfl (8191 : Int32) (hb hby d2_94) (by decide) ?_
  show Steps p.tables e below (T.setTop (mkF m 97 #[.val (.int z)] [(.int (8191 : Int32)), (.int z)])) _
  by_cases h : 8191 < z.toInt
  · have h' : (8191 : Int32) < z := (own_gt32 (k := (8191 : Int32)) (n := 8191) (by decide)).mpr h
    refine XS.icmpNo X.here hx rfl (hb hby d2_97) rfl (tlt h').2.2.2 ?_
    exact own_b2_100 X hx hZ hw hby hown hret z v (by rw [own_f2_93, if_pos h] at hv; exact hv) hr
  · have h' : ¬ (8191 : Int32) < z := fun q => h ((own_gt32 (k := (8191 : Int32)) (n := 8191) (by decide)).mp q)
    refine XS.icmpYes X.here hx rfl (pc0 := 97) (pc' := 191) rfl (hb hby d2_97) rfl (flt h').2.2.2 (by decide) (by decide) ?_
    exact own_b2_191 X hx hZ hw hby hown hret z v (by rw [own_f2_93, if_neg h] at hv; exact hv) hr
set_option maxRecDepth 65536 in
set_option maxHeartbeats 40000000 in
theorem own_b2_86 {p : Program} {l : Launch} {e : Env} {R : Room} {s : State} {m : MethodId} {args : Array Value} {below : List Frame} {meth : Method} {c : Code} {T : State} {locs : List Loc} {cells slots : Nat} {Z : State} {a0 : Array Value}
    (X : Stand p l e R s m args below meth c T locs cells slots) (hx : p.tables.exec = Jvm.exec) (hZ : Z.Warmed39 s.vm) (hw : ∀ d ∈ tables_1, d.before a0 Z = true) (hby : c.code = prog_88_method_4_code) (hown : s.vm.findClass "com/example/hale_xslt/halexslt/xdm/XmlNames" = some m.cls) (hret : meth.sig.returnType = some .boolean) (z v : Int32) (hv : own_f2_86 z.toInt = v) {fs : List Frame}
    (hr : ∀ (f : JFrame) (acts : List Action), f.method = m → f.locked = none → f.entered = [] → (doReturn e (T.setTop f) acts (some (.int v))).1 = T.setFrames fs) :
    Steps p.tables e below (T.setTop (mkF m 86 #[.val (.int z)] [])) (T.setFrames fs) := by
  refine XS.iloadN X.here hx rfl (hb hby d2_86) rfl ?_
  show Steps p.tables e below (T.setTop (mkF m 87 #[.val (.int z)] [(.int z)])) _
  refine XT.sipushV X.here hx rfl (895 : Int32) (hb hby d2_87) (by decide) ?_
  show Steps p.tables e below (T.setTop (mkF m 90 #[.val (.int z)] [(.int (895 : Int32)), (.int z)])) _
  by_cases h : z.toInt < 895
  · have h' : z < (895 : Int32) := (own_lt32 (k := (895 : Int32)) (n := 895) (by decide)).mpr h
    refine XS.icmpYes X.here hx rfl (pc0 := 90) (pc' := 100) rfl (hb hby d2_90) rfl (tlt h').1 (by decide) (by decide) ?_
    exact own_b2_100 X hx hZ hw hby hown hret z v (by rw [own_f2_86, if_pos h] at hv; exact hv) hr
  · have h' : ¬ z < (895 : Int32) := fun q => h ((own_lt32 (k := (895 : Int32)) (n := 895) (by decide)).mp q)
    refine XS.icmpNo X.here hx rfl (hb hby d2_90) rfl (flt h').1 ?_
    exact own_b2_93 X hx hZ hw hby hown hret z v (by rw [own_f2_86, if_neg h] at hv; exact hv) hr
set_option maxRecDepth 65536 in
set_option maxHeartbeats 40000000 in
theorem own_b2_79 {p : Program} {l : Launch} {e : Env} {R : Room} {s : State} {m : MethodId} {args : Array Value} {below : List Frame} {meth : Method} {c : Code} {T : State} {locs : List Loc} {cells slots : Nat} {Z : State} {a0 : Array Value}
    (X : Stand p l e R s m args below meth c T locs cells slots) (hx : p.tables.exec = Jvm.exec) (hZ : Z.Warmed39 s.vm) (hw : ∀ d ∈ tables_1, d.before a0 Z = true) (hby : c.code = prog_88_method_4_code) (hown : s.vm.findClass "com/example/hale_xslt/halexslt/xdm/XmlNames" = some m.cls) (hret : meth.sig.returnType = some .boolean) (z v : Int32) (hv : own_f2_79 z.toInt = v) {fs : List Frame}
    (hr : ∀ (f : JFrame) (acts : List Action), f.method = m → f.locked = none → f.entered = [] → (doReturn e (T.setTop f) acts (some (.int v))).1 = T.setFrames fs) :
    Steps p.tables e below (T.setTop (mkF m 79 #[.val (.int z)] [])) (T.setFrames fs) := by
  refine XS.iloadN X.here hx rfl (hb hby d2_79) rfl ?_
  show Steps p.tables e below (T.setTop (mkF m 80 #[.val (.int z)] [(.int z)])) _
  refine XT.sipushV X.here hx rfl (893 : Int32) (hb hby d2_80) (by decide) ?_
  show Steps p.tables e below (T.setTop (mkF m 83 #[.val (.int z)] [(.int (893 : Int32)), (.int z)])) _
  by_cases h : 893 < z.toInt
  · have h' : (893 : Int32) < z := (own_gt32 (k := (893 : Int32)) (n := 893) (by decide)).mpr h
    refine XS.icmpNo X.here hx rfl (hb hby d2_83) rfl (tlt h').2.2.2 ?_
    exact own_b2_86 X hx hZ hw hby hown hret z v (by rw [own_f2_79, if_pos h] at hv; exact hv) hr
  · have h' : ¬ (893 : Int32) < z := fun q => h ((own_gt32 (k := (893 : Int32)) (n := 893) (by decide)).mp q)
    refine XS.icmpYes X.here hx rfl (pc0 := 83) (pc' := 191) rfl (hb hby d2_83) rfl (flt h').2.2.2 (by decide) (by decide) ?_
    exact own_b2_191 X hx hZ hw hby hown hret z v (by rw [own_f2_79, if_neg h] at hv; exact hv) hr
set_option maxRecDepth 65536 in
set_option maxHeartbeats 40000000 in
theorem own_b2_72 {p : Program} {l : Launch} {e : Env} {R : Room} {s : State} {m : MethodId} {args : Array Value} {below : List Frame} {meth : Method} {c : Code} {T : State} {locs : List Loc} {cells slots : Nat} {Z : State} {a0 : Array Value}
    (X : Stand p l e R s m args below meth c T locs cells slots) (hx : p.tables.exec = Jvm.exec) (hZ : Z.Warmed39 s.vm) (hw : ∀ d ∈ tables_1, d.before a0 Z = true) (hby : c.code = prog_88_method_4_code) (hown : s.vm.findClass "com/example/hale_xslt/halexslt/xdm/XmlNames" = some m.cls) (hret : meth.sig.returnType = some .boolean) (z v : Int32) (hv : own_f2_72 z.toInt = v) {fs : List Frame}
    (hr : ∀ (f : JFrame) (acts : List Action), f.method = m → f.locked = none → f.entered = [] → (doReturn e (T.setTop f) acts (some (.int v))).1 = T.setFrames fs) :
    Steps p.tables e below (T.setTop (mkF m 72 #[.val (.int z)] [])) (T.setFrames fs) := by
  refine XS.iloadN X.here hx rfl (hb hby d2_72) rfl ?_
  show Steps p.tables e below (T.setTop (mkF m 73 #[.val (.int z)] [(.int z)])) _
  refine XT.sipushV X.here hx rfl (880 : Int32) (hb hby d2_73) (by decide) ?_
  show Steps p.tables e below (T.setTop (mkF m 76 #[.val (.int z)] [(.int (880 : Int32)), (.int z)])) _
  by_cases h : z.toInt < 880
  · have h' : z < (880 : Int32) := (own_lt32 (k := (880 : Int32)) (n := 880) (by decide)).mpr h
    refine XS.icmpYes X.here hx rfl (pc0 := 76) (pc' := 86) rfl (hb hby d2_76) rfl (tlt h').1 (by decide) (by decide) ?_
    exact own_b2_86 X hx hZ hw hby hown hret z v (by rw [own_f2_72, if_pos h] at hv; exact hv) hr
  · have h' : ¬ z < (880 : Int32) := fun q => h ((own_lt32 (k := (880 : Int32)) (n := 880) (by decide)).mp q)
    refine XS.icmpNo X.here hx rfl (hb hby d2_76) rfl (flt h').1 ?_
    exact own_b2_79 X hx hZ hw hby hown hret z v (by rw [own_f2_72, if_neg h] at hv; exact hv) hr
set_option maxRecDepth 65536 in
set_option maxHeartbeats 40000000 in
theorem own_b2_65 {p : Program} {l : Launch} {e : Env} {R : Room} {s : State} {m : MethodId} {args : Array Value} {below : List Frame} {meth : Method} {c : Code} {T : State} {locs : List Loc} {cells slots : Nat} {Z : State} {a0 : Array Value}
    (X : Stand p l e R s m args below meth c T locs cells slots) (hx : p.tables.exec = Jvm.exec) (hZ : Z.Warmed39 s.vm) (hw : ∀ d ∈ tables_1, d.before a0 Z = true) (hby : c.code = prog_88_method_4_code) (hown : s.vm.findClass "com/example/hale_xslt/halexslt/xdm/XmlNames" = some m.cls) (hret : meth.sig.returnType = some .boolean) (z v : Int32) (hv : own_f2_65 z.toInt = v) {fs : List Frame}
    (hr : ∀ (f : JFrame) (acts : List Action), f.method = m → f.locked = none → f.entered = [] → (doReturn e (T.setTop f) acts (some (.int v))).1 = T.setFrames fs) :
    Steps p.tables e below (T.setTop (mkF m 65 #[.val (.int z)] [])) (T.setFrames fs) := by
  refine XS.iloadN X.here hx rfl (hb hby d2_65) rfl ?_
  show Steps p.tables e below (T.setTop (mkF m 66 #[.val (.int z)] [(.int z)])) _
  refine XT.sipushV X.here hx rfl (767 : Int32) (hb hby d2_66) (by decide) ?_
  show Steps p.tables e below (T.setTop (mkF m 69 #[.val (.int z)] [(.int (767 : Int32)), (.int z)])) _
  by_cases h : 767 < z.toInt
  · have h' : (767 : Int32) < z := (own_gt32 (k := (767 : Int32)) (n := 767) (by decide)).mpr h
    refine XS.icmpNo X.here hx rfl (hb hby d2_69) rfl (tlt h').2.2.2 ?_
    exact own_b2_72 X hx hZ hw hby hown hret z v (by rw [own_f2_65, if_pos h] at hv; exact hv) hr
  · have h' : ¬ (767 : Int32) < z := fun q => h ((own_gt32 (k := (767 : Int32)) (n := 767) (by decide)).mp q)
    refine XS.icmpYes X.here hx rfl (pc0 := 69) (pc' := 191) rfl (hb hby d2_69) rfl (flt h').2.2.2 (by decide) (by decide) ?_
    exact own_b2_191 X hx hZ hw hby hown hret z v (by rw [own_f2_65, if_neg h] at hv; exact hv) hr
set_option maxRecDepth 65536 in
set_option maxHeartbeats 40000000 in
theorem own_b2_58 {p : Program} {l : Launch} {e : Env} {R : Room} {s : State} {m : MethodId} {args : Array Value} {below : List Frame} {meth : Method} {c : Code} {T : State} {locs : List Loc} {cells slots : Nat} {Z : State} {a0 : Array Value}
    (X : Stand p l e R s m args below meth c T locs cells slots) (hx : p.tables.exec = Jvm.exec) (hZ : Z.Warmed39 s.vm) (hw : ∀ d ∈ tables_1, d.before a0 Z = true) (hby : c.code = prog_88_method_4_code) (hown : s.vm.findClass "com/example/hale_xslt/halexslt/xdm/XmlNames" = some m.cls) (hret : meth.sig.returnType = some .boolean) (z v : Int32) (hv : own_f2_58 z.toInt = v) {fs : List Frame}
    (hr : ∀ (f : JFrame) (acts : List Action), f.method = m → f.locked = none → f.entered = [] → (doReturn e (T.setTop f) acts (some (.int v))).1 = T.setFrames fs) :
    Steps p.tables e below (T.setTop (mkF m 58 #[.val (.int z)] [])) (T.setFrames fs) := by
  refine XS.iloadN X.here hx rfl (hb hby d2_58) rfl ?_
  show Steps p.tables e below (T.setTop (mkF m 59 #[.val (.int z)] [(.int z)])) _
  refine XT.sipushV X.here hx rfl (248 : Int32) (hb hby d2_59) (by decide) ?_
  show Steps p.tables e below (T.setTop (mkF m 62 #[.val (.int z)] [(.int (248 : Int32)), (.int z)])) _
  by_cases h : z.toInt < 248
  · have h' : z < (248 : Int32) := (own_lt32 (k := (248 : Int32)) (n := 248) (by decide)).mpr h
    refine XS.icmpYes X.here hx rfl (pc0 := 62) (pc' := 72) rfl (hb hby d2_62) rfl (tlt h').1 (by decide) (by decide) ?_
    exact own_b2_72 X hx hZ hw hby hown hret z v (by rw [own_f2_58, if_pos h] at hv; exact hv) hr
  · have h' : ¬ z < (248 : Int32) := fun q => h ((own_lt32 (k := (248 : Int32)) (n := 248) (by decide)).mp q)
    refine XS.icmpNo X.here hx rfl (hb hby d2_62) rfl (flt h').1 ?_
    exact own_b2_65 X hx hZ hw hby hown hret z v (by rw [own_f2_58, if_neg h] at hv; exact hv) hr
set_option maxRecDepth 65536 in
set_option maxHeartbeats 40000000 in
theorem own_b2_51 {p : Program} {l : Launch} {e : Env} {R : Room} {s : State} {m : MethodId} {args : Array Value} {below : List Frame} {meth : Method} {c : Code} {T : State} {locs : List Loc} {cells slots : Nat} {Z : State} {a0 : Array Value}
    (X : Stand p l e R s m args below meth c T locs cells slots) (hx : p.tables.exec = Jvm.exec) (hZ : Z.Warmed39 s.vm) (hw : ∀ d ∈ tables_1, d.before a0 Z = true) (hby : c.code = prog_88_method_4_code) (hown : s.vm.findClass "com/example/hale_xslt/halexslt/xdm/XmlNames" = some m.cls) (hret : meth.sig.returnType = some .boolean) (z v : Int32) (hv : own_f2_51 z.toInt = v) {fs : List Frame}
    (hr : ∀ (f : JFrame) (acts : List Action), f.method = m → f.locked = none → f.entered = [] → (doReturn e (T.setTop f) acts (some (.int v))).1 = T.setFrames fs) :
    Steps p.tables e below (T.setTop (mkF m 51 #[.val (.int z)] [])) (T.setFrames fs) := by
  refine XS.iloadN X.here hx rfl (hb hby d2_51) rfl ?_
  show Steps p.tables e below (T.setTop (mkF m 52 #[.val (.int z)] [(.int z)])) _
  refine XT.sipushV X.here hx rfl (246 : Int32) (hb hby d2_52) (by decide) ?_
  show Steps p.tables e below (T.setTop (mkF m 55 #[.val (.int z)] [(.int (246 : Int32)), (.int z)])) _
  by_cases h : 246 < z.toInt
  · have h' : (246 : Int32) < z := (own_gt32 (k := (246 : Int32)) (n := 246) (by decide)).mpr h
    refine XS.icmpNo X.here hx rfl (hb hby d2_55) rfl (tlt h').2.2.2 ?_
    exact own_b2_58 X hx hZ hw hby hown hret z v (by rw [own_f2_51, if_pos h] at hv; exact hv) hr
  · have h' : ¬ (246 : Int32) < z := fun q => h ((own_gt32 (k := (246 : Int32)) (n := 246) (by decide)).mp q)
    refine XS.icmpYes X.here hx rfl (pc0 := 55) (pc' := 191) rfl (hb hby d2_55) rfl (flt h').2.2.2 (by decide) (by decide) ?_
    exact own_b2_191 X hx hZ hw hby hown hret z v (by rw [own_f2_51, if_neg h] at hv; exact hv) hr
set_option maxRecDepth 65536 in
set_option maxHeartbeats 40000000 in
theorem own_b2_44 {p : Program} {l : Launch} {e : Env} {R : Room} {s : State} {m : MethodId} {args : Array Value} {below : List Frame} {meth : Method} {c : Code} {T : State} {locs : List Loc} {cells slots : Nat} {Z : State} {a0 : Array Value}
    (X : Stand p l e R s m args below meth c T locs cells slots) (hx : p.tables.exec = Jvm.exec) (hZ : Z.Warmed39 s.vm) (hw : ∀ d ∈ tables_1, d.before a0 Z = true) (hby : c.code = prog_88_method_4_code) (hown : s.vm.findClass "com/example/hale_xslt/halexslt/xdm/XmlNames" = some m.cls) (hret : meth.sig.returnType = some .boolean) (z v : Int32) (hv : own_f2_44 z.toInt = v) {fs : List Frame}
    (hr : ∀ (f : JFrame) (acts : List Action), f.method = m → f.locked = none → f.entered = [] → (doReturn e (T.setTop f) acts (some (.int v))).1 = T.setFrames fs) :
    Steps p.tables e below (T.setTop (mkF m 44 #[.val (.int z)] [])) (T.setFrames fs) := by
  refine XS.iloadN X.here hx rfl (hb hby d2_44) rfl ?_
  show Steps p.tables e below (T.setTop (mkF m 45 #[.val (.int z)] [(.int z)])) _
  refine XT.sipushV X.here hx rfl (216 : Int32) (hb hby d2_45) (by decide) ?_
  show Steps p.tables e below (T.setTop (mkF m 48 #[.val (.int z)] [(.int (216 : Int32)), (.int z)])) _
  by_cases h : z.toInt < 216
  · have h' : z < (216 : Int32) := (own_lt32 (k := (216 : Int32)) (n := 216) (by decide)).mpr h
    refine XS.icmpYes X.here hx rfl (pc0 := 48) (pc' := 58) rfl (hb hby d2_48) rfl (tlt h').1 (by decide) (by decide) ?_
    exact own_b2_58 X hx hZ hw hby hown hret z v (by rw [own_f2_44, if_pos h] at hv; exact hv) hr
  · have h' : ¬ z < (216 : Int32) := fun q => h ((own_lt32 (k := (216 : Int32)) (n := 216) (by decide)).mp q)
    refine XS.icmpNo X.here hx rfl (hb hby d2_48) rfl (flt h').1 ?_
    exact own_b2_51 X hx hZ hw hby hown hret z v (by rw [own_f2_44, if_neg h] at hv; exact hv) hr
set_option maxRecDepth 65536 in
set_option maxHeartbeats 40000000 in
theorem own_b2_37 {p : Program} {l : Launch} {e : Env} {R : Room} {s : State} {m : MethodId} {args : Array Value} {below : List Frame} {meth : Method} {c : Code} {T : State} {locs : List Loc} {cells slots : Nat} {Z : State} {a0 : Array Value}
    (X : Stand p l e R s m args below meth c T locs cells slots) (hx : p.tables.exec = Jvm.exec) (hZ : Z.Warmed39 s.vm) (hw : ∀ d ∈ tables_1, d.before a0 Z = true) (hby : c.code = prog_88_method_4_code) (hown : s.vm.findClass "com/example/hale_xslt/halexslt/xdm/XmlNames" = some m.cls) (hret : meth.sig.returnType = some .boolean) (z v : Int32) (hv : own_f2_37 z.toInt = v) {fs : List Frame}
    (hr : ∀ (f : JFrame) (acts : List Action), f.method = m → f.locked = none → f.entered = [] → (doReturn e (T.setTop f) acts (some (.int v))).1 = T.setFrames fs) :
    Steps p.tables e below (T.setTop (mkF m 37 #[.val (.int z)] [])) (T.setFrames fs) := by
  refine XS.iloadN X.here hx rfl (hb hby d2_37) rfl ?_
  show Steps p.tables e below (T.setTop (mkF m 38 #[.val (.int z)] [(.int z)])) _
  refine XT.sipushV X.here hx rfl (214 : Int32) (hb hby d2_38) (by decide) ?_
  show Steps p.tables e below (T.setTop (mkF m 41 #[.val (.int z)] [(.int (214 : Int32)), (.int z)])) _
  by_cases h : 214 < z.toInt
  · have h' : (214 : Int32) < z := (own_gt32 (k := (214 : Int32)) (n := 214) (by decide)).mpr h
    refine XS.icmpNo X.here hx rfl (hb hby d2_41) rfl (tlt h').2.2.2 ?_
    exact own_b2_44 X hx hZ hw hby hown hret z v (by rw [own_f2_37, if_pos h] at hv; exact hv) hr
  · have h' : ¬ (214 : Int32) < z := fun q => h ((own_gt32 (k := (214 : Int32)) (n := 214) (by decide)).mp q)
    refine XS.icmpYes X.here hx rfl (pc0 := 41) (pc' := 191) rfl (hb hby d2_41) rfl (flt h').2.2.2 (by decide) (by decide) ?_
    exact own_b2_191 X hx hZ hw hby hown hret z v (by rw [own_f2_37, if_neg h] at hv; exact hv) hr
set_option maxRecDepth 65536 in
set_option maxHeartbeats 40000000 in
theorem own_b2_30 {p : Program} {l : Launch} {e : Env} {R : Room} {s : State} {m : MethodId} {args : Array Value} {below : List Frame} {meth : Method} {c : Code} {T : State} {locs : List Loc} {cells slots : Nat} {Z : State} {a0 : Array Value}
    (X : Stand p l e R s m args below meth c T locs cells slots) (hx : p.tables.exec = Jvm.exec) (hZ : Z.Warmed39 s.vm) (hw : ∀ d ∈ tables_1, d.before a0 Z = true) (hby : c.code = prog_88_method_4_code) (hown : s.vm.findClass "com/example/hale_xslt/halexslt/xdm/XmlNames" = some m.cls) (hret : meth.sig.returnType = some .boolean) (z v : Int32) (hv : own_f2_30 z.toInt = v) {fs : List Frame}
    (hr : ∀ (f : JFrame) (acts : List Action), f.method = m → f.locked = none → f.entered = [] → (doReturn e (T.setTop f) acts (some (.int v))).1 = T.setFrames fs) :
    Steps p.tables e below (T.setTop (mkF m 30 #[.val (.int z)] [])) (T.setFrames fs) := by
  refine XS.iloadN X.here hx rfl (hb hby d2_30) rfl ?_
  show Steps p.tables e below (T.setTop (mkF m 31 #[.val (.int z)] [(.int z)])) _
  refine XT.sipushV X.here hx rfl (192 : Int32) (hb hby d2_31) (by decide) ?_
  show Steps p.tables e below (T.setTop (mkF m 34 #[.val (.int z)] [(.int (192 : Int32)), (.int z)])) _
  by_cases h : z.toInt < 192
  · have h' : z < (192 : Int32) := (own_lt32 (k := (192 : Int32)) (n := 192) (by decide)).mpr h
    refine XS.icmpYes X.here hx rfl (pc0 := 34) (pc' := 44) rfl (hb hby d2_34) rfl (tlt h').1 (by decide) (by decide) ?_
    exact own_b2_44 X hx hZ hw hby hown hret z v (by rw [own_f2_30, if_pos h] at hv; exact hv) hr
  · have h' : ¬ z < (192 : Int32) := fun q => h ((own_lt32 (k := (192 : Int32)) (n := 192) (by decide)).mp q)
    refine XS.icmpNo X.here hx rfl (hb hby d2_34) rfl (flt h').1 ?_
    exact own_b2_37 X hx hZ hw hby hown hret z v (by rw [own_f2_30, if_neg h] at hv; exact hv) hr
set_option maxRecDepth 65536 in
set_option maxHeartbeats 40000000 in
theorem own_b2_24 {p : Program} {l : Launch} {e : Env} {R : Room} {s : State} {m : MethodId} {args : Array Value} {below : List Frame} {meth : Method} {c : Code} {T : State} {locs : List Loc} {cells slots : Nat} {Z : State} {a0 : Array Value}
    (X : Stand p l e R s m args below meth c T locs cells slots) (hx : p.tables.exec = Jvm.exec) (hZ : Z.Warmed39 s.vm) (hw : ∀ d ∈ tables_1, d.before a0 Z = true) (hby : c.code = prog_88_method_4_code) (hown : s.vm.findClass "com/example/hale_xslt/halexslt/xdm/XmlNames" = some m.cls) (hret : meth.sig.returnType = some .boolean) (z v : Int32) (hv : own_f2_24 z.toInt = v) {fs : List Frame}
    (hr : ∀ (f : JFrame) (acts : List Action), f.method = m → f.locked = none → f.entered = [] → (doReturn e (T.setTop f) acts (some (.int v))).1 = T.setFrames fs) :
    Steps p.tables e below (T.setTop (mkF m 24 #[.val (.int z)] [])) (T.setFrames fs) := by
  refine XS.iloadN X.here hx rfl (hb hby d2_24) rfl ?_
  show Steps p.tables e below (T.setTop (mkF m 25 #[.val (.int z)] [(.int z)])) _
  refine XT.bipushV X.here hx rfl (95 : Int32) (hb hby d2_25) (by decide) ?_
  show Steps p.tables e below (T.setTop (mkF m 27 #[.val (.int z)] [(.int (95 : Int32)), (.int z)])) _
  by_cases h : z.toInt = 95
  · have h' : z = (95 : Int32) := (own_eq32 (k := (95 : Int32)) (n := 95) (by decide)).mpr h
    refine XS.icmpYes X.here hx rfl (pc0 := 27) (pc' := 191) rfl (hb hby d2_27) rfl (teq h').1 (by decide) (by decide) ?_
    exact own_b2_191 X hx hZ hw hby hown hret z v (by rw [own_f2_24, if_pos h] at hv; exact hv) hr
  · have h' : ¬ z = (95 : Int32) := fun q => h ((own_eq32 (k := (95 : Int32)) (n := 95) (by decide)).mp q)
    refine XS.icmpNo X.here hx rfl (hb hby d2_27) rfl (feq h').1 ?_
    exact own_b2_30 X hx hZ hw hby hown hret z v (by rw [own_f2_24, if_neg h] at hv; exact hv) hr
set_option maxRecDepth 65536 in
set_option maxHeartbeats 40000000 in
theorem own_b2_18 {p : Program} {l : Launch} {e : Env} {R : Room} {s : State} {m : MethodId} {args : Array Value} {below : List Frame} {meth : Method} {c : Code} {T : State} {locs : List Loc} {cells slots : Nat} {Z : State} {a0 : Array Value}
    (X : Stand p l e R s m args below meth c T locs cells slots) (hx : p.tables.exec = Jvm.exec) (hZ : Z.Warmed39 s.vm) (hw : ∀ d ∈ tables_1, d.before a0 Z = true) (hby : c.code = prog_88_method_4_code) (hown : s.vm.findClass "com/example/hale_xslt/halexslt/xdm/XmlNames" = some m.cls) (hret : meth.sig.returnType = some .boolean) (z v : Int32) (hv : own_f2_18 z.toInt = v) {fs : List Frame}
    (hr : ∀ (f : JFrame) (acts : List Action), f.method = m → f.locked = none → f.entered = [] → (doReturn e (T.setTop f) acts (some (.int v))).1 = T.setFrames fs) :
    Steps p.tables e below (T.setTop (mkF m 18 #[.val (.int z)] [])) (T.setFrames fs) := by
  refine XS.iloadN X.here hx rfl (hb hby d2_18) rfl ?_
  show Steps p.tables e below (T.setTop (mkF m 19 #[.val (.int z)] [(.int z)])) _
  refine XT.bipushV X.here hx rfl (90 : Int32) (hb hby d2_19) (by decide) ?_
  show Steps p.tables e below (T.setTop (mkF m 21 #[.val (.int z)] [(.int (90 : Int32)), (.int z)])) _
  by_cases h : 90 < z.toInt
  · have h' : (90 : Int32) < z := (own_gt32 (k := (90 : Int32)) (n := 90) (by decide)).mpr h
    refine XS.icmpNo X.here hx rfl (hb hby d2_21) rfl (tlt h').2.2.2 ?_
    exact own_b2_24 X hx hZ hw hby hown hret z v (by rw [own_f2_18, if_pos h] at hv; exact hv) hr
  · have h' : ¬ (90 : Int32) < z := fun q => h ((own_gt32 (k := (90 : Int32)) (n := 90) (by decide)).mp q)
    refine XS.icmpYes X.here hx rfl (pc0 := 21) (pc' := 191) rfl (hb hby d2_21) rfl (flt h').2.2.2 (by decide) (by decide) ?_
    exact own_b2_191 X hx hZ hw hby hown hret z v (by rw [own_f2_18, if_neg h] at hv; exact hv) hr
set_option maxRecDepth 65536 in
set_option maxHeartbeats 40000000 in
theorem own_b2_12 {p : Program} {l : Launch} {e : Env} {R : Room} {s : State} {m : MethodId} {args : Array Value} {below : List Frame} {meth : Method} {c : Code} {T : State} {locs : List Loc} {cells slots : Nat} {Z : State} {a0 : Array Value}
    (X : Stand p l e R s m args below meth c T locs cells slots) (hx : p.tables.exec = Jvm.exec) (hZ : Z.Warmed39 s.vm) (hw : ∀ d ∈ tables_1, d.before a0 Z = true) (hby : c.code = prog_88_method_4_code) (hown : s.vm.findClass "com/example/hale_xslt/halexslt/xdm/XmlNames" = some m.cls) (hret : meth.sig.returnType = some .boolean) (z v : Int32) (hv : own_f2_12 z.toInt = v) {fs : List Frame}
    (hr : ∀ (f : JFrame) (acts : List Action), f.method = m → f.locked = none → f.entered = [] → (doReturn e (T.setTop f) acts (some (.int v))).1 = T.setFrames fs) :
    Steps p.tables e below (T.setTop (mkF m 12 #[.val (.int z)] [])) (T.setFrames fs) := by
  refine XS.iloadN X.here hx rfl (hb hby d2_12) rfl ?_
  show Steps p.tables e below (T.setTop (mkF m 13 #[.val (.int z)] [(.int z)])) _
  refine XT.bipushV X.here hx rfl (65 : Int32) (hb hby d2_13) (by decide) ?_
  show Steps p.tables e below (T.setTop (mkF m 15 #[.val (.int z)] [(.int (65 : Int32)), (.int z)])) _
  by_cases h : z.toInt < 65
  · have h' : z < (65 : Int32) := (own_lt32 (k := (65 : Int32)) (n := 65) (by decide)).mpr h
    refine XS.icmpYes X.here hx rfl (pc0 := 15) (pc' := 24) rfl (hb hby d2_15) rfl (tlt h').1 (by decide) (by decide) ?_
    exact own_b2_24 X hx hZ hw hby hown hret z v (by rw [own_f2_12, if_pos h] at hv; exact hv) hr
  · have h' : ¬ z < (65 : Int32) := fun q => h ((own_lt32 (k := (65 : Int32)) (n := 65) (by decide)).mp q)
    refine XS.icmpNo X.here hx rfl (hb hby d2_15) rfl (flt h').1 ?_
    exact own_b2_18 X hx hZ hw hby hown hret z v (by rw [own_f2_12, if_neg h] at hv; exact hv) hr
set_option maxRecDepth 65536 in
set_option maxHeartbeats 40000000 in
theorem own_b2_6 {p : Program} {l : Launch} {e : Env} {R : Room} {s : State} {m : MethodId} {args : Array Value} {below : List Frame} {meth : Method} {c : Code} {T : State} {locs : List Loc} {cells slots : Nat} {Z : State} {a0 : Array Value}
    (X : Stand p l e R s m args below meth c T locs cells slots) (hx : p.tables.exec = Jvm.exec) (hZ : Z.Warmed39 s.vm) (hw : ∀ d ∈ tables_1, d.before a0 Z = true) (hby : c.code = prog_88_method_4_code) (hown : s.vm.findClass "com/example/hale_xslt/halexslt/xdm/XmlNames" = some m.cls) (hret : meth.sig.returnType = some .boolean) (z v : Int32) (hv : own_f2_6 z.toInt = v) {fs : List Frame}
    (hr : ∀ (f : JFrame) (acts : List Action), f.method = m → f.locked = none → f.entered = [] → (doReturn e (T.setTop f) acts (some (.int v))).1 = T.setFrames fs) :
    Steps p.tables e below (T.setTop (mkF m 6 #[.val (.int z)] [])) (T.setFrames fs) := by
  refine XS.iloadN X.here hx rfl (hb hby d2_6) rfl ?_
  show Steps p.tables e below (T.setTop (mkF m 7 #[.val (.int z)] [(.int z)])) _
  refine XT.bipushV X.here hx rfl (122 : Int32) (hb hby d2_7) (by decide) ?_
  show Steps p.tables e below (T.setTop (mkF m 9 #[.val (.int z)] [(.int (122 : Int32)), (.int z)])) _
  by_cases h : 122 < z.toInt
  · have h' : (122 : Int32) < z := (own_gt32 (k := (122 : Int32)) (n := 122) (by decide)).mpr h
    refine XS.icmpNo X.here hx rfl (hb hby d2_9) rfl (tlt h').2.2.2 ?_
    exact own_b2_12 X hx hZ hw hby hown hret z v (by rw [own_f2_6, if_pos h] at hv; exact hv) hr
  · have h' : ¬ (122 : Int32) < z := fun q => h ((own_gt32 (k := (122 : Int32)) (n := 122) (by decide)).mp q)
    refine XS.icmpYes X.here hx rfl (pc0 := 9) (pc' := 191) rfl (hb hby d2_9) rfl (flt h').2.2.2 (by decide) (by decide) ?_
    exact own_b2_191 X hx hZ hw hby hown hret z v (by rw [own_f2_6, if_neg h] at hv; exact hv) hr
set_option maxRecDepth 65536 in
set_option maxHeartbeats 40000000 in
theorem own_b2_0 {p : Program} {l : Launch} {e : Env} {R : Room} {s : State} {m : MethodId} {args : Array Value} {below : List Frame} {meth : Method} {c : Code} {T : State} {locs : List Loc} {cells slots : Nat} {Z : State} {a0 : Array Value}
    (X : Stand p l e R s m args below meth c T locs cells slots) (hx : p.tables.exec = Jvm.exec) (hZ : Z.Warmed39 s.vm) (hw : ∀ d ∈ tables_1, d.before a0 Z = true) (hby : c.code = prog_88_method_4_code) (hown : s.vm.findClass "com/example/hale_xslt/halexslt/xdm/XmlNames" = some m.cls) (hret : meth.sig.returnType = some .boolean) (z v : Int32) (hv : own_f2_0 z.toInt = v) {fs : List Frame}
    (hr : ∀ (f : JFrame) (acts : List Action), f.method = m → f.locked = none → f.entered = [] → (doReturn e (T.setTop f) acts (some (.int v))).1 = T.setFrames fs) :
    Steps p.tables e below (T.setTop (mkF m 0 #[.val (.int z)] [])) (T.setFrames fs) := by
  refine XS.iloadN X.here hx rfl (hb hby d2_0) rfl ?_
  show Steps p.tables e below (T.setTop (mkF m 1 #[.val (.int z)] [(.int z)])) _
  refine XT.bipushV X.here hx rfl (97 : Int32) (hb hby d2_1) (by decide) ?_
  show Steps p.tables e below (T.setTop (mkF m 3 #[.val (.int z)] [(.int (97 : Int32)), (.int z)])) _
  by_cases h : z.toInt < 97
  · have h' : z < (97 : Int32) := (own_lt32 (k := (97 : Int32)) (n := 97) (by decide)).mpr h
    refine XS.icmpYes X.here hx rfl (pc0 := 3) (pc' := 12) rfl (hb hby d2_3) rfl (tlt h').1 (by decide) (by decide) ?_
    exact own_b2_12 X hx hZ hw hby hown hret z v (by rw [own_f2_0, if_pos h] at hv; exact hv) hr
  · have h' : ¬ z < (97 : Int32) := fun q => h ((own_lt32 (k := (97 : Int32)) (n := 97) (by decide)).mp q)
    refine XS.icmpNo X.here hx rfl (hb hby d2_3) rfl (flt h').1 ?_
    exact own_b2_6 X hx hZ hw hby hown hret z v (by rw [own_f2_0, if_neg h] at hv; exact hv) hr
theorem pn_2 : plainName "com/example/hale_xslt/halexslt/xdm/XmlNames" = true := by first | (simp [plainName, overriddenIn]; done) | decide +kernel
theorem ef_2 (m : MethodId) (x0 : Int32) : entryFrame m #[(.int x0)] 1 = mkF m 0 #[.val (.int x0)] [] := by first | (simp [entryFrame, mkF, argsToLocals, Value.category]; done) | rfl
def Q2 (p1 : Int32) (h0 : Heap) (n0 : Nat) (v : Option Value) (h : Heap) (L : List Loc) : Prop := v = some (.int (own_f2_0 p1.toInt)) ∧ Fr n0 L ∧ h = h0
set_option maxRecDepth 65536 in
set_option maxHeartbeats 40000000 in
theorem rm2 (l : Launch) (Z : State) (a0 : Array Value) (hw : ∀ d ∈ tables_1, d.before a0 Z = true) (ws : List Jvm.Cond) (p1 : Int32) (h0 : Heap) (n0 : Nat) (Z0 : n0 ≤ h0.size) :
    MetFree l (⟨"com/example/hale_xslt/halexslt/xdm/XmlNames", "isNameStart", "(I)Z"⟩ : MethodName) (head1 (Jvm.Cond.code (⟨"com/example/hale_xslt/halexslt/xdm/XmlNames", "isNameStart", "(I)Z"⟩ : MethodName) prog_88_method_4_code 1 (some .boolean) :: ws) ({ frames := 0, cells := 0, slots := 0, locals := 0 } : Room)) (fun a U => a = #[(.int p1)] ∧ Z.Warmed39 U.vm ∧ U.heap = h0) (fun _ _ _ _ _ => True) (fun _ U o U' => ∃ v L, o = .returned v ∧ Q2 p1 h0 n0 v U'.heap L ∧ FrameEnd U o U' L ({ frames := 0, cells := 0, slots := 0, locals := 0 } : Room).cells ({ frames := 0, cells := 0, slots := 0, locals := 0 } : Room).slots) := by
  refine MetFree.of_bodySF (plainFor_of_name pn_2) hisR ?_
  intro p e s m args below meth c s₁ Bd hml0 hP hK
  obtain ⟨rfl, hZ, hh⟩ := hP
  have hx := Bd.exec
  have hby := Bd.bytes
  have hml : c.maxLocals = 1 := hml0
  have hown : s.vm.findClass "com/example/hale_xslt/halexslt/xdm/XmlNames" = some m.cls := findClass_of_methodNamed Bd.named
  have X0 : Stand p l e ({ frames := 0, cells := 0, slots := 0, locals := 0 } : Room) s m #[(.int p1)] below meth c s₁ [] 0 0 := Stand.of_body Bd
  have e0 : s₁.heap = h0 := by rw [← hh, Bd.state]; rfl
  have N0 := Fr.nil n0
  have pre0 : ∀ t, Steps p.tables e below (s₁.setTop (mkF m 0 #[.val (.int p1)] [])) t → Steps p.tables e below (s₁.setTop (entryFrame m #[(.int p1)] 1)) t := fun t k => castTop (ef_2 m p1) k
  obtain ⟨fs, hr, hrun, hended, hW, hsame⟩ := X0.leave (v := some (.int (own_f2_0 p1.toInt))) (fun h => by rw [Bd.returns] at h; cases h)
  refine ⟨_, _, pre0 _ ?_, hrun, hended, _, _, rfl, ?_, ⟨_, rfl⟩, hW, hsame.mono (by decide) (by decide)⟩
  · exact own_b2_0 X0 hx hZ hw hby hown Bd.returns p1 _ rfl hr
  · show Q2 p1 h0 n0 _ s₁.heap _
    rw [e0]
    exact ⟨rfl, N0, rfl⟩
theorem d3_0 : decode method_2_code 0 = .ok (.iload_n 0, 1) := by decide +kernel
theorem d3_1 : decode method_2_code 1 = .ok (.bipush 65, 2) := by decide +kernel
theorem d3_3 : decode method_2_code 3 = .ok (.if_icmp .lt 167, 3) := by decide +kernel
theorem d3_6 : decode method_2_code 6 = .ok (.iload_n 0, 1) := by decide +kernel
theorem d3_7 : decode method_2_code 7 = .ok (.bipush 90, 2) := by decide +kernel
theorem d3_9 : decode method_2_code 9 = .ok (.if_icmp .le 15, 3) := by decide +kernel
theorem d3_12 : decode method_2_code 12 = .ok (.iload_n 0, 1) := by decide +kernel
theorem d3_13 : decode method_2_code 13 = .ok (.bipush 97, 2) := by decide +kernel
theorem d3_15 : decode method_2_code 15 = .ok (.if_icmp .ge 9, 3) := by decide +kernel
theorem d3_18 : decode method_2_code 18 = .ok (.iload_n 0, 1) := by decide +kernel
theorem d3_19 : decode method_2_code 19 = .ok (.bipush 95, 2) := by decide +kernel
theorem d3_21 : decode method_2_code 21 = .ok (.if_icmp .ne 149, 3) := by decide +kernel
theorem d3_24 : decode method_2_code 24 = .ok (.iload_n 0, 1) := by decide +kernel
theorem d3_25 : decode method_2_code 25 = .ok (.bipush 122, 2) := by decide +kernel
theorem d3_27 : decode method_2_code 27 = .ok (.if_icmp .le 10, 3) := by decide +kernel
theorem d3_30 : decode method_2_code 30 = .ok (.iload_n 0, 1) := by decide +kernel
theorem d3_31 : decode method_2_code 31 = .ok (.sipush 192, 3) := by decide +kernel
theorem d3_34 : decode method_2_code 34 = .ok (.if_icmp .lt 136, 3) := by decide +kernel
theorem d3_37 : decode method_2_code 37 = .ok (.iload_n 0, 1) := by decide +kernel
theorem d3_38 : decode method_2_code 38 = .ok (.sipush 215, 3) := by decide +kernel
theorem d3_41 : decode method_2_code 41 = .ok (.if_icmp .eq 129, 3) := by decide +kernel
theorem d3_44 : decode method_2_code 44 = .ok (.iload_n 0, 1) := by decide +kernel
theorem d3_45 : decode method_2_code 45 = .ok (.sipush 247, 3) := by decide +kernel
theorem d3_48 : decode method_2_code 48 = .ok (.if_icmp .eq 122, 3) := by decide +kernel
theorem d3_51 : decode method_2_code 51 = .ok (.iload_n 0, 1) := by decide +kernel
theorem d3_52 : decode method_2_code 52 = .ok (.sipush 768, 3) := by decide +kernel
theorem d3_55 : decode method_2_code 55 = .ok (.if_icmp .lt 10, 3) := by decide +kernel
theorem d3_58 : decode method_2_code 58 = .ok (.iload_n 0, 1) := by decide +kernel
theorem d3_59 : decode method_2_code 59 = .ok (.sipush 879, 3) := by decide +kernel
theorem d3_62 : decode method_2_code 62 = .ok (.if_icmp .le 108, 3) := by decide +kernel
theorem d3_65 : decode method_2_code 65 = .ok (.iload_n 0, 1) := by decide +kernel
theorem d3_66 : decode method_2_code 66 = .ok (.sipush 894, 3) := by decide +kernel
theorem d3_69 : decode method_2_code 69 = .ok (.if_icmp .eq 101, 3) := by decide +kernel
theorem d3_72 : decode method_2_code 72 = .ok (.iload_n 0, 1) := by decide +kernel
theorem d3_73 : decode method_2_code 73 = .ok (.sipush 8192, 3) := by decide +kernel
theorem d3_76 : decode method_2_code 76 = .ok (.if_icmp .lt 10, 3) := by decide +kernel
theorem d3_79 : decode method_2_code 79 = .ok (.iload_n 0, 1) := by decide +kernel
theorem d3_80 : decode method_2_code 80 = .ok (.sipush 8203, 3) := by decide +kernel
theorem d3_83 : decode method_2_code 83 = .ok (.if_icmp .le 87, 3) := by decide +kernel
theorem d3_86 : decode method_2_code 86 = .ok (.iload_n 0, 1) := by decide +kernel
theorem d3_87 : decode method_2_code 87 = .ok (.sipush 8206, 3) := by decide +kernel
theorem d3_90 : decode method_2_code 90 = .ok (.if_icmp .lt 10, 3) := by decide +kernel
theorem d3_93 : decode method_2_code 93 = .ok (.iload_n 0, 1) := by decide +kernel
theorem d3_94 : decode method_2_code 94 = .ok (.sipush 8303, 3) := by decide +kernel
theorem d3_97 : decode method_2_code 97 = .ok (.if_icmp .le 73, 3) := by decide +kernel
theorem d3_100 : decode method_2_code 100 = .ok (.iload_n 0, 1) := by decide +kernel
theorem d3_101 : decode method_2_code 101 = .ok (.sipush 8592, 3) := by decide +kernel
theorem d3_104 : decode method_2_code 104 = .ok (.if_icmp .lt 10, 3) := by decide +kernel
theorem d3_107 : decode method_2_code 107 = .ok (.iload_n 0, 1) := by decide +kernel
theorem d3_108 : decode method_2_code 108 = .ok (.sipush 11263, 3) := by decide +kernel
theorem d3_111 : decode method_2_code 111 = .ok (.if_icmp .le 59, 3) := by decide +kernel
theorem d3_114 : decode method_2_code 114 = .ok (.iload_n 0, 1) := by decide +kernel
theorem d3_115 : decode method_2_code 115 = .ok (.sipush 12272, 3) := by decide +kernel
theorem d3_118 : decode method_2_code 118 = .ok (.if_icmp .lt 10, 3) := by decide +kernel
theorem d3_121 : decode method_2_code 121 = .ok (.iload_n 0, 1) := by decide +kernel
theorem d3_122 : decode method_2_code 122 = .ok (.sipush 12288, 3) := by decide +kernel
theorem d3_125 : decode method_2_code 125 = .ok (.if_icmp .le 45, 3) := by decide +kernel
theorem d3_128 : decode method_2_code 128 = .ok (.iload_n 0, 1) := by decide +kernel
theorem d3_129 : decode method_2_code 129 = .ok (.ldc 7, 2) := by decide +kernel
theorem d3_131 : decode method_2_code 131 = .ok (.if_icmp .lt 9, 3) := by decide +kernel
theorem d3_134 : decode method_2_code 134 = .ok (.iload_n 0, 1) := by decide +kernel
theorem d3_135 : decode method_2_code 135 = .ok (.ldc 8, 2) := by decide +kernel
theorem d3_137 : decode method_2_code 137 = .ok (.if_icmp .le 33, 3) := by decide +kernel
theorem d3_140 : decode method_2_code 140 = .ok (.iload_n 0, 1) := by decide +kernel
theorem d3_141 : decode method_2_code 141 = .ok (.ldc 9, 2) := by decide +kernel
theorem d3_143 : decode method_2_code 143 = .ok (.if_icmp .lt 9, 3) := by decide +kernel
theorem d3_146 : decode method_2_code 146 = .ok (.iload_n 0, 1) := by decide +kernel
theorem d3_147 : decode method_2_code 147 = .ok (.ldc 10, 2) := by decide +kernel
theorem d3_149 : decode method_2_code 149 = .ok (.if_icmp .le 21, 3) := by decide +kernel
theorem d3_152 : decode method_2_code 152 = .ok (.iload_n 0, 1) := by decide +kernel
theorem d3_153 : decode method_2_code 153 = .ok (.ldc 11, 2) := by decide +kernel
theorem d3_155 : decode method_2_code 155 = .ok (.if_icmp .lt 9, 3) := by decide +kernel
theorem d3_158 : decode method_2_code 158 = .ok (.iload_n 0, 1) := by decide +kernel
theorem d3_159 : decode method_2_code 159 = .ok (.ldc 12, 2) := by decide +kernel
theorem d3_161 : decode method_2_code 161 = .ok (.if_icmp .le 9, 3) := by decide +kernel
theorem d3_164 : decode method_2_code 164 = .ok (.iload_n 0, 1) := by decide +kernel
theorem d3_165 : decode method_2_code 165 = .ok (.ldc 13, 2) := by decide +kernel
theorem d3_167 : decode method_2_code 167 = .ok (.if_icmp .le 7, 3) := by decide +kernel
theorem d3_170 : decode method_2_code 170 = .ok (.iconst 1, 1) := by decide +kernel
theorem d3_171 : decode method_2_code 171 = .ok (.goto 4, 3) := by decide +kernel
theorem d3_174 : decode method_2_code 174 = .ok (.iconst 0, 1) := by decide +kernel
theorem d3_175 : decode method_2_code 175 = .ok (.ireturn, 1) := by decide +kernel
def own_f3_174 (z : Int) : Int32 := 0
def own_f3_170 (z : Int) : Int32 := 1
def own_f3_164 (z : Int) : Int32 := if 983039 < z then own_f3_170 z else own_f3_174 z
def own_f3_158 (z : Int) : Int32 := if 65535 < z then own_f3_164 z else own_f3_170 z
def own_f3_152 (z : Int) : Int32 := if z < 65534 then own_f3_164 z else own_f3_158 z
def own_f3_146 (z : Int) : Int32 := if 65007 < z then own_f3_152 z else own_f3_170 z
def own_f3_140 (z : Int) : Int32 := if z < 64976 then own_f3_152 z else own_f3_146 z
def own_f3_134 (z : Int) : Int32 := if 63743 < z then own_f3_140 z else own_f3_170 z
def own_f3_128 (z : Int) : Int32 := if z < 55296 then own_f3_140 z else own_f3_134 z
def own_f3_121 (z : Int) : Int32 := if 12288 < z then own_f3_128 z else own_f3_170 z
def own_f3_114 (z : Int) : Int32 := if z < 12272 then own_f3_128 z else own_f3_121 z
def own_f3_107 (z : Int) : Int32 := if 11263 < z then own_f3_114 z else own_f3_170 z
def own_f3_100 (z : Int) : Int32 := if z < 8592 then own_f3_114 z else own_f3_107 z
def own_f3_93 (z : Int) : Int32 := if 8303 < z then own_f3_100 z else own_f3_170 z
def own_f3_86 (z : Int) : Int32 := if z < 8206 then own_f3_100 z else own_f3_93 z
def own_f3_79 (z : Int) : Int32 := if 8203 < z then own_f3_86 z else own_f3_170 z
def own_f3_72 (z : Int) : Int32 := if z < 8192 then own_f3_86 z else own_f3_79 z
def own_f3_65 (z : Int) : Int32 := if z = 894 then own_f3_170 z else own_f3_72 z
def own_f3_58 (z : Int) : Int32 := if 879 < z then own_f3_65 z else own_f3_170 z
def own_f3_51 (z : Int) : Int32 := if z < 768 then own_f3_65 z else own_f3_58 z
def own_f3_44 (z : Int) : Int32 := if z = 247 then own_f3_170 z else own_f3_51 z
def own_f3_37 (z : Int) : Int32 := if z = 215 then own_f3_170 z else own_f3_44 z
def own_f3_30 (z : Int) : Int32 := if z < 192 then own_f3_170 z else own_f3_37 z
def own_f3_24 (z : Int) : Int32 := if 122 < z then own_f3_30 z else own_f3_37 z
def own_f3_18 (z : Int) : Int32 := if z = 95 then own_f3_24 z else own_f3_170 z
def own_f3_12 (z : Int) : Int32 := if z < 97 then own_f3_18 z else own_f3_24 z
def own_f3_6 (z : Int) : Int32 := if 90 < z then own_f3_12 z else own_f3_24 z
def own_f3_0 (z : Int) : Int32 := if z < 65 then own_f3_170 z else own_f3_6 z
theorem own_o3_170 (z : Int) : (own_f3_170 z = 1 ∧ True) ∨ (own_f3_170 z = 0 ∧ ¬ True) := Or.inl ⟨rfl, trivial⟩
theorem own_m3_164 (z : Int) : own_f3_164 z = if (¬ 983039 < z) then 0 else own_f3_170 z := by
  by_cases h : (¬ 983039 < z)
  · rw [if_pos h, own_f3_164, if_neg h]; rfl
  · rw [if_neg h, own_f3_164, if_pos (Decidable.not_not.mp h)]
theorem own_o3_164 (z : Int) : (own_f3_164 z = 1 ∧ (¬ (¬ 983039 < z))) ∨ (own_f3_164 z = 0 ∧ ¬ (¬ (¬ 983039 < z))) := by
  rw [own_m3_164]
  by_cases h : (¬ 983039 < z)
  · rw [if_pos h]; exact Or.inr ⟨rfl, fun q => q h⟩
  · rw [if_neg h]; exact Or.inl ⟨rfl, h⟩
theorem own_m3_152 (z : Int) : own_f3_152 z = if (¬ z < 65534 ∧ ¬ 65535 < z) then 1 else own_f3_164 z := by
  by_cases h : (¬ z < 65534 ∧ ¬ 65535 < z)
  · obtain ⟨h0, h1⟩ := id h
    rw [if_pos h, own_f3_152, if_neg h0, own_f3_158, if_neg h1]; rfl
  · rw [if_neg h]
    by_cases h0 : z < 65534
    · rw [own_f3_152, if_pos h0]
    · rw [own_f3_152, if_neg h0, own_f3_158, if_pos (Decidable.not_not.mp (fun q => h ⟨h0, q⟩))]
theorem own_o3_152 (z : Int) : (own_f3_152 z = 1 ∧ ((¬ z < 65534 ∧ ¬ 65535 < z) ∨ (¬ (¬ 983039 < z)))) ∨ (own_f3_152 z = 0 ∧ ¬ ((¬ z < 65534 ∧ ¬ 65535 < z) ∨ (¬ (¬ 983039 < z)))) := by
  rw [own_m3_152]
  by_cases h : (¬ z < 65534 ∧ ¬ 65535 < z)
  · rw [if_pos h]; exact Or.inl ⟨rfl, Or.inl h⟩
  · rw [if_neg h]
    rcases own_o3_164 z with ⟨a, b⟩ | ⟨a, b⟩
    · exact Or.inl ⟨a, Or.inr b⟩
    · exact Or.inr ⟨a, fun q => q.elim h b⟩
theorem own_m3_140 (z : Int) : own_f3_140 z = if (¬ z < 64976 ∧ ¬ 65007 < z) then 1 else own_f3_152 z := by
  by_cases h : (¬ z < 64976 ∧ ¬ 65007 < z)
  · obtain ⟨h0, h1⟩ := id h
    rw [if_pos h, own_f3_140, if_neg h0, own_f3_146, if_neg h1]; rfl
  · rw [if_neg h]
    by_cases h0 : z < 64976
    · rw [own_f3_140, if_pos h0]
    · rw [own_f3_140, if_neg h0, own_f3_146, if_pos (Decidable.not_not.mp (fun q => h ⟨h0, q⟩))]
theorem own_o3_140 (z : Int) : (own_f3_140 z = 1 ∧ ((¬ z < 64976 ∧ ¬ 65007 < z) ∨ ((¬ z < 65534 ∧ ¬ 65535 < z) ∨ (¬ (¬ 983039 < z))))) ∨ (own_f3_140 z = 0 ∧ ¬ ((¬ z < 64976 ∧ ¬ 65007 < z) ∨ ((¬ z < 65534 ∧ ¬ 65535 < z) ∨ (¬ (¬ 983039 < z))))) := by
  rw [own_m3_140]
  by_cases h : (¬ z < 64976 ∧ ¬ 65007 < z)
  · rw [if_pos h]; exact Or.inl ⟨rfl, Or.inl h⟩
  · rw [if_neg h]
    rcases own_o3_152 z with ⟨a, b⟩ | ⟨a, b⟩
    · exact Or.inl ⟨a, Or.inr b⟩
    · exact Or.inr ⟨a, fun q => q.elim h b⟩
theorem own_m3_128 (z : Int) : own_f3_128 z = if (¬ z < 55296 ∧ ¬ 63743 < z) then 1 else own_f3_140 z := by
  by_cases h : (¬ z < 55296 ∧ ¬ 63743 < z)
  · obtain ⟨h0, h1⟩ := id h
    rw [if_pos h, own_f3_128, if_neg h0, own_f3_134, if_neg h1]; rfl
  · rw [if_neg h]
    by_cases h0 : z < 55296
    · rw [own_f3_128, if_pos h0]
    · rw [own_f3_128, if_neg h0, own_f3_134, if_pos (Decidable.not_not.mp (fun q => h ⟨h0, q⟩))]
theorem own_o3_128 (z : Int) : (own_f3_128 z = 1 ∧ ((¬ z < 55296 ∧ ¬ 63743 < z) ∨ ((¬ z < 64976 ∧ ¬ 65007 < z) ∨ ((¬ z < 65534 ∧ ¬ 65535 < z) ∨ (¬ (¬ 983039 < z)))))) ∨ (own_f3_128 z = 0 ∧ ¬ ((¬ z < 55296 ∧ ¬ 63743 < z) ∨ ((¬ z < 64976 ∧ ¬ 65007 < z) ∨ ((¬ z < 65534 ∧ ¬ 65535 < z) ∨ (¬ (¬ 983039 < z)))))) := by
  rw [own_m3_128]
  by_cases h : (¬ z < 55296 ∧ ¬ 63743 < z)
  · rw [if_pos h]; exact Or.inl ⟨rfl, Or.inl h⟩
  · rw [if_neg h]
    rcases own_o3_140 z with ⟨a, b⟩ | ⟨a, b⟩
    · exact Or.inl ⟨a, Or.inr b⟩
    · exact Or.inr ⟨a, fun q => q.elim h b⟩
theorem own_m3_114 (z : Int) : own_f3_114 z = if (¬ z < 12272 ∧ ¬ 12288 < z) then 1 else own_f3_128 z := by
  by_cases h : (¬ z < 12272 ∧ ¬ 12288 < z)
  · obtain ⟨h0, h1⟩ := id h
    rw [if_pos h, own_f3_114, if_neg h0, own_f3_121, if_neg h1]; rfl
  · rw [if_neg h]
    by_cases h0 : z < 12272
    · rw [own_f3_114, if_pos h0]
    · rw [own_f3_114, if_neg h0, own_f3_121, if_pos (Decidable.not_not.mp (fun q => h ⟨h0, q⟩))]
theorem own_o3_114 (z : Int) : (own_f3_114 z = 1 ∧ ((¬ z < 12272 ∧ ¬ 12288 < z) ∨ ((¬ z < 55296 ∧ ¬ 63743 < z) ∨ ((¬ z < 64976 ∧ ¬ 65007 < z) ∨ ((¬ z < 65534 ∧ ¬ 65535 < z) ∨ (¬ (¬ 983039 < z))))))) ∨ (own_f3_114 z = 0 ∧ ¬ ((¬ z < 12272 ∧ ¬ 12288 < z) ∨ ((¬ z < 55296 ∧ ¬ 63743 < z) ∨ ((¬ z < 64976 ∧ ¬ 65007 < z) ∨ ((¬ z < 65534 ∧ ¬ 65535 < z) ∨ (¬ (¬ 983039 < z))))))) := by
  rw [own_m3_114]
  by_cases h : (¬ z < 12272 ∧ ¬ 12288 < z)
  · rw [if_pos h]; exact Or.inl ⟨rfl, Or.inl h⟩
  · rw [if_neg h]
    rcases own_o3_128 z with ⟨a, b⟩ | ⟨a, b⟩
    · exact Or.inl ⟨a, Or.inr b⟩
    · exact Or.inr ⟨a, fun q => q.elim h b⟩
theorem own_m3_100 (z : Int) : own_f3_100 z = if (¬ z < 8592 ∧ ¬ 11263 < z) then 1 else own_f3_114 z := by
  by_cases h : (¬ z < 8592 ∧ ¬ 11263 < z)
  · obtain ⟨h0, h1⟩ := id h
    rw [if_pos h, own_f3_100, if_neg h0, own_f3_107, if_neg h1]; rfl
  · rw [if_neg h]
    by_cases h0 : z < 8592
    · rw [own_f3_100, if_pos h0]
    · rw [own_f3_100, if_neg h0, own_f3_107, if_pos (Decidable.not_not.mp (fun q => h ⟨h0, q⟩))]
theorem own_o3_100 (z : Int) : (own_f3_100 z = 1 ∧ ((¬ z < 8592 ∧ ¬ 11263 < z) ∨ ((¬ z < 12272 ∧ ¬ 12288 < z) ∨ ((¬ z < 55296 ∧ ¬ 63743 < z) ∨ ((¬ z < 64976 ∧ ¬ 65007 < z) ∨ ((¬ z < 65534 ∧ ¬ 65535 < z) ∨ (¬ (¬ 983039 < z)))))))) ∨ (own_f3_100 z = 0 ∧ ¬ ((¬ z < 8592 ∧ ¬ 11263 < z) ∨ ((¬ z < 12272 ∧ ¬ 12288 < z) ∨ ((¬ z < 55296 ∧ ¬ 63743 < z) ∨ ((¬ z < 64976 ∧ ¬ 65007 < z) ∨ ((¬ z < 65534 ∧ ¬ 65535 < z) ∨ (¬ (¬ 983039 < z)))))))) := by
  rw [own_m3_100]
  by_cases h : (¬ z < 8592 ∧ ¬ 11263 < z)
  · rw [if_pos h]; exact Or.inl ⟨rfl, Or.inl h⟩
  · rw [if_neg h]
    rcases own_o3_114 z with ⟨a, b⟩ | ⟨a, b⟩
    · exact Or.inl ⟨a, Or.inr b⟩
    · exact Or.inr ⟨a, fun q => q.elim h b⟩
theorem own_m3_86 (z : Int) : own_f3_86 z = if (¬ z < 8206 ∧ ¬ 8303 < z) then 1 else own_f3_100 z := by
  by_cases h : (¬ z < 8206 ∧ ¬ 8303 < z)
  · obtain ⟨h0, h1⟩ := id h
    rw [if_pos h, own_f3_86, if_neg h0, own_f3_93, if_neg h1]; rfl
  · rw [if_neg h]
    by_cases h0 : z < 8206
    · rw [own_f3_86, if_pos h0]
    · rw [own_f3_86, if_neg h0, own_f3_93, if_pos (Decidable.not_not.mp (fun q => h ⟨h0, q⟩))]
theorem own_o3_86 (z : Int) : (own_f3_86 z = 1 ∧ ((¬ z < 8206 ∧ ¬ 8303 < z) ∨ ((¬ z < 8592 ∧ ¬ 11263 < z) ∨ ((¬ z < 12272 ∧ ¬ 12288 < z) ∨ ((¬ z < 55296 ∧ ¬ 63743 < z) ∨ ((¬ z < 64976 ∧ ¬ 65007 < z) ∨ ((¬ z < 65534 ∧ ¬ 65535 < z) ∨ (¬ (¬ 983039 < z))))))))) ∨ (own_f3_86 z = 0 ∧ ¬ ((¬ z < 8206 ∧ ¬ 8303 < z) ∨ ((¬ z < 8592 ∧ ¬ 11263 < z) ∨ ((¬ z < 12272 ∧ ¬ 12288 < z) ∨ ((¬ z < 55296 ∧ ¬ 63743 < z) ∨ ((¬ z < 64976 ∧ ¬ 65007 < z) ∨ ((¬ z < 65534 ∧ ¬ 65535 < z) ∨ (¬ (¬ 983039 < z))))))))) := by
  rw [own_m3_86]
  by_cases h : (¬ z < 8206 ∧ ¬ 8303 < z)
  · rw [if_pos h]; exact Or.inl ⟨rfl, Or.inl h⟩
  · rw [if_neg h]
    rcases own_o3_100 z with ⟨a, b⟩ | ⟨a, b⟩
    · exact Or.inl ⟨a, Or.inr b⟩
    · exact Or.inr ⟨a, fun q => q.elim h b⟩
theorem own_m3_72 (z : Int) : own_f3_72 z = if (¬ z < 8192 ∧ ¬ 8203 < z) then 1 else own_f3_86 z := by
  by_cases h : (¬ z < 8192 ∧ ¬ 8203 < z)
  · obtain ⟨h0, h1⟩ := id h
    rw [if_pos h, own_f3_72, if_neg h0, own_f3_79, if_neg h1]; rfl
  · rw [if_neg h]
    by_cases h0 : z < 8192
    · rw [own_f3_72, if_pos h0]
    · rw [own_f3_72, if_neg h0, own_f3_79, if_pos (Decidable.not_not.mp (fun q => h ⟨h0, q⟩))]
theorem own_o3_72 (z : Int) : (own_f3_72 z = 1 ∧ ((¬ z < 8192 ∧ ¬ 8203 < z) ∨ ((¬ z < 8206 ∧ ¬ 8303 < z) ∨ ((¬ z < 8592 ∧ ¬ 11263 < z) ∨ ((¬ z < 12272 ∧ ¬ 12288 < z) ∨ ((¬ z < 55296 ∧ ¬ 63743 < z) ∨ ((¬ z < 64976 ∧ ¬ 65007 < z) ∨ ((¬ z < 65534 ∧ ¬ 65535 < z) ∨ (¬ (¬ 983039 < z)))))))))) ∨ (own_f3_72 z = 0 ∧ ¬ ((¬ z < 8192 ∧ ¬ 8203 < z) ∨ ((¬ z < 8206 ∧ ¬ 8303 < z) ∨ ((¬ z < 8592 ∧ ¬ 11263 < z) ∨ ((¬ z < 12272 ∧ ¬ 12288 < z) ∨ ((¬ z < 55296 ∧ ¬ 63743 < z) ∨ ((¬ z < 64976 ∧ ¬ 65007 < z) ∨ ((¬ z < 65534 ∧ ¬ 65535 < z) ∨ (¬ (¬ 983039 < z)))))))))) := by
  rw [own_m3_72]
  by_cases h : (¬ z < 8192 ∧ ¬ 8203 < z)
  · rw [if_pos h]; exact Or.inl ⟨rfl, Or.inl h⟩
  · rw [if_neg h]
    rcases own_o3_86 z with ⟨a, b⟩ | ⟨a, b⟩
    · exact Or.inl ⟨a, Or.inr b⟩
    · exact Or.inr ⟨a, fun q => q.elim h b⟩
theorem own_m3_65 (z : Int) : own_f3_65 z = if (z = 894) then 1 else own_f3_72 z := by
  by_cases h : (z = 894)
  · rw [if_pos h, own_f3_65, if_pos h]; rfl
  · rw [if_neg h, own_f3_65, if_neg h]
theorem own_o3_65 (z : Int) : (own_f3_65 z = 1 ∧ ((z = 894) ∨ ((¬ z < 8192 ∧ ¬ 8203 < z) ∨ ((¬ z < 8206 ∧ ¬ 8303 < z) ∨ ((¬ z < 8592 ∧ ¬ 11263 < z) ∨ ((¬ z < 12272 ∧ ¬ 12288 < z) ∨ ((¬ z < 55296 ∧ ¬ 63743 < z) ∨ ((¬ z < 64976 ∧ ¬ 65007 < z) ∨ ((¬ z < 65534 ∧ ¬ 65535 < z) ∨ (¬ (¬ 983039 < z))))))))))) ∨ (own_f3_65 z = 0 ∧ ¬ ((z = 894) ∨ ((¬ z < 8192 ∧ ¬ 8203 < z) ∨ ((¬ z < 8206 ∧ ¬ 8303 < z) ∨ ((¬ z < 8592 ∧ ¬ 11263 < z) ∨ ((¬ z < 12272 ∧ ¬ 12288 < z) ∨ ((¬ z < 55296 ∧ ¬ 63743 < z) ∨ ((¬ z < 64976 ∧ ¬ 65007 < z) ∨ ((¬ z < 65534 ∧ ¬ 65535 < z) ∨ (¬ (¬ 983039 < z))))))))))) := by
  rw [own_m3_65]
  by_cases h : (z = 894)
  · rw [if_pos h]; exact Or.inl ⟨rfl, Or.inl h⟩
  · rw [if_neg h]
    rcases own_o3_72 z with ⟨a, b⟩ | ⟨a, b⟩
    · exact Or.inl ⟨a, Or.inr b⟩
    · exact Or.inr ⟨a, fun q => q.elim h b⟩
theorem own_m3_51 (z : Int) : own_f3_51 z = if (¬ z < 768 ∧ ¬ 879 < z) then 1 else own_f3_65 z := by
  by_cases h : (¬ z < 768 ∧ ¬ 879 < z)
  · obtain ⟨h0, h1⟩ := id h
    rw [if_pos h, own_f3_51, if_neg h0, own_f3_58, if_neg h1]; rfl
  · rw [if_neg h]
    by_cases h0 : z < 768
    · rw [own_f3_51, if_pos h0]
    · rw [own_f3_51, if_neg h0, own_f3_58, if_pos (Decidable.not_not.mp (fun q => h ⟨h0, q⟩))]
theorem own_o3_51 (z : Int) : (own_f3_51 z = 1 ∧ ((¬ z < 768 ∧ ¬ 879 < z) ∨ ((z = 894) ∨ ((¬ z < 8192 ∧ ¬ 8203 < z) ∨ ((¬ z < 8206 ∧ ¬ 8303 < z) ∨ ((¬ z < 8592 ∧ ¬ 11263 < z) ∨ ((¬ z < 12272 ∧ ¬ 12288 < z) ∨ ((¬ z < 55296 ∧ ¬ 63743 < z) ∨ ((¬ z < 64976 ∧ ¬ 65007 < z) ∨ ((¬ z < 65534 ∧ ¬ 65535 < z) ∨ (¬ (¬ 983039 < z)))))))))))) ∨ (own_f3_51 z = 0 ∧ ¬ ((¬ z < 768 ∧ ¬ 879 < z) ∨ ((z = 894) ∨ ((¬ z < 8192 ∧ ¬ 8203 < z) ∨ ((¬ z < 8206 ∧ ¬ 8303 < z) ∨ ((¬ z < 8592 ∧ ¬ 11263 < z) ∨ ((¬ z < 12272 ∧ ¬ 12288 < z) ∨ ((¬ z < 55296 ∧ ¬ 63743 < z) ∨ ((¬ z < 64976 ∧ ¬ 65007 < z) ∨ ((¬ z < 65534 ∧ ¬ 65535 < z) ∨ (¬ (¬ 983039 < z)))))))))))) := by
  rw [own_m3_51]
  by_cases h : (¬ z < 768 ∧ ¬ 879 < z)
  · rw [if_pos h]; exact Or.inl ⟨rfl, Or.inl h⟩
  · rw [if_neg h]
    rcases own_o3_65 z with ⟨a, b⟩ | ⟨a, b⟩
    · exact Or.inl ⟨a, Or.inr b⟩
    · exact Or.inr ⟨a, fun q => q.elim h b⟩
theorem own_m3_44 (z : Int) : own_f3_44 z = if (z = 247) then 1 else own_f3_51 z := by
  by_cases h : (z = 247)
  · rw [if_pos h, own_f3_44, if_pos h]; rfl
  · rw [if_neg h, own_f3_44, if_neg h]
theorem own_o3_44 (z : Int) : (own_f3_44 z = 1 ∧ ((z = 247) ∨ ((¬ z < 768 ∧ ¬ 879 < z) ∨ ((z = 894) ∨ ((¬ z < 8192 ∧ ¬ 8203 < z) ∨ ((¬ z < 8206 ∧ ¬ 8303 < z) ∨ ((¬ z < 8592 ∧ ¬ 11263 < z) ∨ ((¬ z < 12272 ∧ ¬ 12288 < z) ∨ ((¬ z < 55296 ∧ ¬ 63743 < z) ∨ ((¬ z < 64976 ∧ ¬ 65007 < z) ∨ ((¬ z < 65534 ∧ ¬ 65535 < z) ∨ (¬ (¬ 983039 < z))))))))))))) ∨ (own_f3_44 z = 0 ∧ ¬ ((z = 247) ∨ ((¬ z < 768 ∧ ¬ 879 < z) ∨ ((z = 894) ∨ ((¬ z < 8192 ∧ ¬ 8203 < z) ∨ ((¬ z < 8206 ∧ ¬ 8303 < z) ∨ ((¬ z < 8592 ∧ ¬ 11263 < z) ∨ ((¬ z < 12272 ∧ ¬ 12288 < z) ∨ ((¬ z < 55296 ∧ ¬ 63743 < z) ∨ ((¬ z < 64976 ∧ ¬ 65007 < z) ∨ ((¬ z < 65534 ∧ ¬ 65535 < z) ∨ (¬ (¬ 983039 < z))))))))))))) := by
  rw [own_m3_44]
  by_cases h : (z = 247)
  · rw [if_pos h]; exact Or.inl ⟨rfl, Or.inl h⟩
  · rw [if_neg h]
    rcases own_o3_51 z with ⟨a, b⟩ | ⟨a, b⟩
    · exact Or.inl ⟨a, Or.inr b⟩
    · exact Or.inr ⟨a, fun q => q.elim h b⟩
theorem own_m3_37 (z : Int) : own_f3_37 z = if (z = 215) then 1 else own_f3_44 z := by
  by_cases h : (z = 215)
  · rw [if_pos h, own_f3_37, if_pos h]; rfl
  · rw [if_neg h, own_f3_37, if_neg h]
theorem own_o3_37 (z : Int) : (own_f3_37 z = 1 ∧ ((z = 215) ∨ ((z = 247) ∨ ((¬ z < 768 ∧ ¬ 879 < z) ∨ ((z = 894) ∨ ((¬ z < 8192 ∧ ¬ 8203 < z) ∨ ((¬ z < 8206 ∧ ¬ 8303 < z) ∨ ((¬ z < 8592 ∧ ¬ 11263 < z) ∨ ((¬ z < 12272 ∧ ¬ 12288 < z) ∨ ((¬ z < 55296 ∧ ¬ 63743 < z) ∨ ((¬ z < 64976 ∧ ¬ 65007 < z) ∨ ((¬ z < 65534 ∧ ¬ 65535 < z) ∨ (¬ (¬ 983039 < z)))))))))))))) ∨ (own_f3_37 z = 0 ∧ ¬ ((z = 215) ∨ ((z = 247) ∨ ((¬ z < 768 ∧ ¬ 879 < z) ∨ ((z = 894) ∨ ((¬ z < 8192 ∧ ¬ 8203 < z) ∨ ((¬ z < 8206 ∧ ¬ 8303 < z) ∨ ((¬ z < 8592 ∧ ¬ 11263 < z) ∨ ((¬ z < 12272 ∧ ¬ 12288 < z) ∨ ((¬ z < 55296 ∧ ¬ 63743 < z) ∨ ((¬ z < 64976 ∧ ¬ 65007 < z) ∨ ((¬ z < 65534 ∧ ¬ 65535 < z) ∨ (¬ (¬ 983039 < z)))))))))))))) := by
  rw [own_m3_37]
  by_cases h : (z = 215)
  · rw [if_pos h]; exact Or.inl ⟨rfl, Or.inl h⟩
  · rw [if_neg h]
    rcases own_o3_44 z with ⟨a, b⟩ | ⟨a, b⟩
    · exact Or.inl ⟨a, Or.inr b⟩
    · exact Or.inr ⟨a, fun q => q.elim h b⟩
theorem own_m3_24 (z : Int) : own_f3_24 z = if (122 < z ∧ z < 192) then 1 else own_f3_37 z := by
  by_cases h : (122 < z ∧ z < 192)
  · obtain ⟨h0, h1⟩ := id h
    rw [if_pos h, own_f3_24, if_pos h0, own_f3_30, if_pos h1]; rfl
  · rw [if_neg h]
    by_cases h0 : 122 < z
    · rw [own_f3_24, if_pos h0, own_f3_30, if_neg (fun q => h ⟨h0, q⟩)]
    · rw [own_f3_24, if_neg h0]
theorem own_o3_24 (z : Int) : (own_f3_24 z = 1 ∧ ((122 < z ∧ z < 192) ∨ ((z = 215) ∨ ((z = 247) ∨ ((¬ z < 768 ∧ ¬ 879 < z) ∨ ((z = 894) ∨ ((¬ z < 8192 ∧ ¬ 8203 < z) ∨ ((¬ z < 8206 ∧ ¬ 8303 < z) ∨ ((¬ z < 8592 ∧ ¬ 11263 < z) ∨ ((¬ z < 12272 ∧ ¬ 12288 < z) ∨ ((¬ z < 55296 ∧ ¬ 63743 < z) ∨ ((¬ z < 64976 ∧ ¬ 65007 < z) ∨ ((¬ z < 65534 ∧ ¬ 65535 < z) ∨ (¬ (¬ 983039 < z))))))))))))))) ∨ (own_f3_24 z = 0 ∧ ¬ ((122 < z ∧ z < 192) ∨ ((z = 215) ∨ ((z = 247) ∨ ((¬ z < 768 ∧ ¬ 879 < z) ∨ ((z = 894) ∨ ((¬ z < 8192 ∧ ¬ 8203 < z) ∨ ((¬ z < 8206 ∧ ¬ 8303 < z) ∨ ((¬ z < 8592 ∧ ¬ 11263 < z) ∨ ((¬ z < 12272 ∧ ¬ 12288 < z) ∨ ((¬ z < 55296 ∧ ¬ 63743 < z) ∨ ((¬ z < 64976 ∧ ¬ 65007 < z) ∨ ((¬ z < 65534 ∧ ¬ 65535 < z) ∨ (¬ (¬ 983039 < z))))))))))))))) := by
  rw [own_m3_24]
  by_cases h : (122 < z ∧ z < 192)
  · rw [if_pos h]; exact Or.inl ⟨rfl, Or.inl h⟩
  · rw [if_neg h]
    rcases own_o3_37 z with ⟨a, b⟩ | ⟨a, b⟩
    · exact Or.inl ⟨a, Or.inr b⟩
    · exact Or.inr ⟨a, fun q => q.elim h b⟩
theorem own_m3_6 (z : Int) : own_f3_6 z = if (90 < z ∧ z < 97 ∧ ¬ z = 95) then 1 else own_f3_24 z := by
  by_cases h : (90 < z ∧ z < 97 ∧ ¬ z = 95)
  · obtain ⟨h0, h1, h2⟩ := id h
    rw [if_pos h, own_f3_6, if_pos h0, own_f3_12, if_pos h1, own_f3_18, if_neg h2]; rfl
  · rw [if_neg h]
    by_cases h0 : 90 < z
    · by_cases h1 : z < 97
      · rw [own_f3_6, if_pos h0, own_f3_12, if_pos h1, own_f3_18, if_pos (Decidable.not_not.mp (fun q => h ⟨h0, h1, q⟩))]
      · rw [own_f3_6, if_pos h0, own_f3_12, if_neg h1]
    · rw [own_f3_6, if_neg h0]
theorem own_o3_6 (z : Int) : (own_f3_6 z = 1 ∧ ((90 < z ∧ z < 97 ∧ ¬ z = 95) ∨ ((122 < z ∧ z < 192) ∨ ((z = 215) ∨ ((z = 247) ∨ ((¬ z < 768 ∧ ¬ 879 < z) ∨ ((z = 894) ∨ ((¬ z < 8192 ∧ ¬ 8203 < z) ∨ ((¬ z < 8206 ∧ ¬ 8303 < z) ∨ ((¬ z < 8592 ∧ ¬ 11263 < z) ∨ ((¬ z < 12272 ∧ ¬ 12288 < z) ∨ ((¬ z < 55296 ∧ ¬ 63743 < z) ∨ ((¬ z < 64976 ∧ ¬ 65007 < z) ∨ ((¬ z < 65534 ∧ ¬ 65535 < z) ∨ (¬ (¬ 983039 < z)))))))))))))))) ∨ (own_f3_6 z = 0 ∧ ¬ ((90 < z ∧ z < 97 ∧ ¬ z = 95) ∨ ((122 < z ∧ z < 192) ∨ ((z = 215) ∨ ((z = 247) ∨ ((¬ z < 768 ∧ ¬ 879 < z) ∨ ((z = 894) ∨ ((¬ z < 8192 ∧ ¬ 8203 < z) ∨ ((¬ z < 8206 ∧ ¬ 8303 < z) ∨ ((¬ z < 8592 ∧ ¬ 11263 < z) ∨ ((¬ z < 12272 ∧ ¬ 12288 < z) ∨ ((¬ z < 55296 ∧ ¬ 63743 < z) ∨ ((¬ z < 64976 ∧ ¬ 65007 < z) ∨ ((¬ z < 65534 ∧ ¬ 65535 < z) ∨ (¬ (¬ 983039 < z)))))))))))))))) := by
  rw [own_m3_6]
  by_cases h : (90 < z ∧ z < 97 ∧ ¬ z = 95)
  · rw [if_pos h]; exact Or.inl ⟨rfl, Or.inl h⟩
  · rw [if_neg h]
    rcases own_o3_24 z with ⟨a, b⟩ | ⟨a, b⟩
    · exact Or.inl ⟨a, Or.inr b⟩
    · exact Or.inr ⟨a, fun q => q.elim h b⟩
theorem own_m3_0 (z : Int) : own_f3_0 z = if (z < 65) then 1 else own_f3_6 z := by
  by_cases h : (z < 65)
  · rw [if_pos h, own_f3_0, if_pos h]; rfl
  · rw [if_neg h, own_f3_0, if_neg h]
theorem own_o3_0 (z : Int) : (own_f3_0 z = 1 ∧ ((z < 65) ∨ ((90 < z ∧ z < 97 ∧ ¬ z = 95) ∨ ((122 < z ∧ z < 192) ∨ ((z = 215) ∨ ((z = 247) ∨ ((¬ z < 768 ∧ ¬ 879 < z) ∨ ((z = 894) ∨ ((¬ z < 8192 ∧ ¬ 8203 < z) ∨ ((¬ z < 8206 ∧ ¬ 8303 < z) ∨ ((¬ z < 8592 ∧ ¬ 11263 < z) ∨ ((¬ z < 12272 ∧ ¬ 12288 < z) ∨ ((¬ z < 55296 ∧ ¬ 63743 < z) ∨ ((¬ z < 64976 ∧ ¬ 65007 < z) ∨ ((¬ z < 65534 ∧ ¬ 65535 < z) ∨ (¬ (¬ 983039 < z))))))))))))))))) ∨ (own_f3_0 z = 0 ∧ ¬ ((z < 65) ∨ ((90 < z ∧ z < 97 ∧ ¬ z = 95) ∨ ((122 < z ∧ z < 192) ∨ ((z = 215) ∨ ((z = 247) ∨ ((¬ z < 768 ∧ ¬ 879 < z) ∨ ((z = 894) ∨ ((¬ z < 8192 ∧ ¬ 8203 < z) ∨ ((¬ z < 8206 ∧ ¬ 8303 < z) ∨ ((¬ z < 8592 ∧ ¬ 11263 < z) ∨ ((¬ z < 12272 ∧ ¬ 12288 < z) ∨ ((¬ z < 55296 ∧ ¬ 63743 < z) ∨ ((¬ z < 64976 ∧ ¬ 65007 < z) ∨ ((¬ z < 65534 ∧ ¬ 65535 < z) ∨ (¬ (¬ 983039 < z))))))))))))))))) := by
  rw [own_m3_0]
  by_cases h : (z < 65)
  · rw [if_pos h]; exact Or.inl ⟨rfl, Or.inl h⟩
  · rw [if_neg h]
    rcases own_o3_6 z with ⟨a, b⟩ | ⟨a, b⟩
    · exact Or.inl ⟨a, Or.inr b⟩
    · exact Or.inr ⟨a, fun q => q.elim h b⟩
set_option maxRecDepth 65536 in
set_option maxHeartbeats 40000000 in
theorem own_b3_174 {p : Program} {l : Launch} {e : Env} {R : Room} {s : State} {m : MethodId} {args : Array Value} {below : List Frame} {meth : Method} {c : Code} {T : State} {locs : List Loc} {cells slots : Nat} {Z : State} {a0 : Array Value}
    (X : Stand p l e R s m args below meth c T locs cells slots) (hx : p.tables.exec = Jvm.exec) (hZ : Z.Warmed39 s.vm) (hw : ∀ d ∈ tables_1, d.before a0 Z = true) (hby : c.code = method_2_code) (hown : s.vm.findClass "com/example/hale_xslt/halexslt/xdm/XmlNamesIsNameStartPinLaw" = some m.cls) (hret : meth.sig.returnType = some .boolean) (z v : Int32) (hv : own_f3_174 z.toInt = v) {fs : List Frame}
    (hr : ∀ (f : JFrame) (acts : List Action), f.method = m → f.locked = none → f.entered = [] → (doReturn e (T.setTop f) acts (some (.int v))).1 = T.setFrames fs) :
    Steps p.tables e below (T.setTop (mkF m 174 #[.val (.int z)] [])) (T.setFrames fs) := by
  obtain rfl : v = (0 : Int32) := hv.symm
  refine XT.iconstV X.here hx rfl (0 : Int32) (hb hby d3_174) (by decide) ?_
  show Steps p.tables e below (T.setTop (mkF m 175 #[.val (.int z)] [(.int (0 : Int32))])) _
  exact retN X hx (t := .boolean) hret (by simp) (hb hby d3_175) hr
set_option maxRecDepth 65536 in
set_option maxHeartbeats 40000000 in
theorem own_b3_170 {p : Program} {l : Launch} {e : Env} {R : Room} {s : State} {m : MethodId} {args : Array Value} {below : List Frame} {meth : Method} {c : Code} {T : State} {locs : List Loc} {cells slots : Nat} {Z : State} {a0 : Array Value}
    (X : Stand p l e R s m args below meth c T locs cells slots) (hx : p.tables.exec = Jvm.exec) (hZ : Z.Warmed39 s.vm) (hw : ∀ d ∈ tables_1, d.before a0 Z = true) (hby : c.code = method_2_code) (hown : s.vm.findClass "com/example/hale_xslt/halexslt/xdm/XmlNamesIsNameStartPinLaw" = some m.cls) (hret : meth.sig.returnType = some .boolean) (z v : Int32) (hv : own_f3_170 z.toInt = v) {fs : List Frame}
    (hr : ∀ (f : JFrame) (acts : List Action), f.method = m → f.locked = none → f.entered = [] → (doReturn e (T.setTop f) acts (some (.int v))).1 = T.setFrames fs) :
    Steps p.tables e below (T.setTop (mkF m 170 #[.val (.int z)] [])) (T.setFrames fs) := by
  obtain rfl : v = (1 : Int32) := hv.symm
  refine XT.iconstV X.here hx rfl (1 : Int32) (hb hby d3_170) (by decide) ?_
  show Steps p.tables e below (T.setTop (mkF m 171 #[.val (.int z)] [(.int (1 : Int32))])) _
  refine XS.goto X.here hx rfl (pc0 := 171) (pc' := 175) rfl (hb hby d3_171) (by decide) (by decide) ?_
  show Steps p.tables e below (T.setTop (mkF m 175 #[.val (.int z)] [(.int (1 : Int32))])) _
  exact retN X hx (t := .boolean) hret (by simp) (hb hby d3_175) hr
set_option maxRecDepth 65536 in
set_option maxHeartbeats 40000000 in
theorem own_b3_164 {p : Program} {l : Launch} {e : Env} {R : Room} {s : State} {m : MethodId} {args : Array Value} {below : List Frame} {meth : Method} {c : Code} {T : State} {locs : List Loc} {cells slots : Nat} {Z : State} {a0 : Array Value}
    (X : Stand p l e R s m args below meth c T locs cells slots) (hx : p.tables.exec = Jvm.exec) (hZ : Z.Warmed39 s.vm) (hw : ∀ d ∈ tables_1, d.before a0 Z = true) (hby : c.code = method_2_code) (hown : s.vm.findClass "com/example/hale_xslt/halexslt/xdm/XmlNamesIsNameStartPinLaw" = some m.cls) (hret : meth.sig.returnType = some .boolean) (z v : Int32) (hv : own_f3_164 z.toInt = v) {fs : List Frame}
    (hr : ∀ (f : JFrame) (acts : List Action), f.method = m → f.locked = none → f.entered = [] → (doReturn e (T.setTop f) acts (some (.int v))).1 = T.setFrames fs) :
    Steps p.tables e below (T.setTop (mkF m 164 #[.val (.int z)] [])) (T.setFrames fs) := by
  refine XS.iloadN X.here hx rfl (hb hby d3_164) rfl ?_
  show Steps p.tables e below (T.setTop (mkF m 165 #[.val (.int z)] [(.int z)])) _
  refine X.ldcI hx hown (v := (983039 : Int32)) (mvT hZ (hw _ (List.mem_of_getElem? (i := 24) rfl))) rfl (hb hby d3_165) ?_
  show Steps p.tables e below (T.setTop (mkF m 167 #[.val (.int z)] [(.int (983039 : Int32)), (.int z)])) _
  by_cases h : 983039 < z.toInt
  · have h' : (983039 : Int32) < z := (own_gt32 (k := (983039 : Int32)) (n := 983039) (by decide)).mpr h
    refine XS.icmpNo X.here hx rfl (hb hby d3_167) rfl (tlt h').2.2.2 ?_
    exact own_b3_170 X hx hZ hw hby hown hret z v (by rw [own_f3_164, if_pos h] at hv; exact hv) hr
  · have h' : ¬ (983039 : Int32) < z := fun q => h ((own_gt32 (k := (983039 : Int32)) (n := 983039) (by decide)).mp q)
    refine XS.icmpYes X.here hx rfl (pc0 := 167) (pc' := 174) rfl (hb hby d3_167) rfl (flt h').2.2.2 (by decide) (by decide) ?_
    exact own_b3_174 X hx hZ hw hby hown hret z v (by rw [own_f3_164, if_neg h] at hv; exact hv) hr
set_option maxRecDepth 65536 in
set_option maxHeartbeats 40000000 in
theorem own_b3_158 {p : Program} {l : Launch} {e : Env} {R : Room} {s : State} {m : MethodId} {args : Array Value} {below : List Frame} {meth : Method} {c : Code} {T : State} {locs : List Loc} {cells slots : Nat} {Z : State} {a0 : Array Value}
    (X : Stand p l e R s m args below meth c T locs cells slots) (hx : p.tables.exec = Jvm.exec) (hZ : Z.Warmed39 s.vm) (hw : ∀ d ∈ tables_1, d.before a0 Z = true) (hby : c.code = method_2_code) (hown : s.vm.findClass "com/example/hale_xslt/halexslt/xdm/XmlNamesIsNameStartPinLaw" = some m.cls) (hret : meth.sig.returnType = some .boolean) (z v : Int32) (hv : own_f3_158 z.toInt = v) {fs : List Frame}
    (hr : ∀ (f : JFrame) (acts : List Action), f.method = m → f.locked = none → f.entered = [] → (doReturn e (T.setTop f) acts (some (.int v))).1 = T.setFrames fs) :
    Steps p.tables e below (T.setTop (mkF m 158 #[.val (.int z)] [])) (T.setFrames fs) := by
  refine XS.iloadN X.here hx rfl (hb hby d3_158) rfl ?_
  show Steps p.tables e below (T.setTop (mkF m 159 #[.val (.int z)] [(.int z)])) _
  refine X.ldcI hx hown (v := (65535 : Int32)) (mvT hZ (hw _ (List.mem_of_getElem? (i := 31) rfl))) rfl (hb hby d3_159) ?_
  show Steps p.tables e below (T.setTop (mkF m 161 #[.val (.int z)] [(.int (65535 : Int32)), (.int z)])) _
  by_cases h : 65535 < z.toInt
  · have h' : (65535 : Int32) < z := (own_gt32 (k := (65535 : Int32)) (n := 65535) (by decide)).mpr h
    refine XS.icmpNo X.here hx rfl (hb hby d3_161) rfl (tlt h').2.2.2 ?_
    exact own_b3_164 X hx hZ hw hby hown hret z v (by rw [own_f3_158, if_pos h] at hv; exact hv) hr
  · have h' : ¬ (65535 : Int32) < z := fun q => h ((own_gt32 (k := (65535 : Int32)) (n := 65535) (by decide)).mp q)
    refine XS.icmpYes X.here hx rfl (pc0 := 161) (pc' := 170) rfl (hb hby d3_161) rfl (flt h').2.2.2 (by decide) (by decide) ?_
    exact own_b3_170 X hx hZ hw hby hown hret z v (by rw [own_f3_158, if_neg h] at hv; exact hv) hr
set_option maxRecDepth 65536 in
set_option maxHeartbeats 40000000 in
theorem own_b3_152 {p : Program} {l : Launch} {e : Env} {R : Room} {s : State} {m : MethodId} {args : Array Value} {below : List Frame} {meth : Method} {c : Code} {T : State} {locs : List Loc} {cells slots : Nat} {Z : State} {a0 : Array Value}
    (X : Stand p l e R s m args below meth c T locs cells slots) (hx : p.tables.exec = Jvm.exec) (hZ : Z.Warmed39 s.vm) (hw : ∀ d ∈ tables_1, d.before a0 Z = true) (hby : c.code = method_2_code) (hown : s.vm.findClass "com/example/hale_xslt/halexslt/xdm/XmlNamesIsNameStartPinLaw" = some m.cls) (hret : meth.sig.returnType = some .boolean) (z v : Int32) (hv : own_f3_152 z.toInt = v) {fs : List Frame}
    (hr : ∀ (f : JFrame) (acts : List Action), f.method = m → f.locked = none → f.entered = [] → (doReturn e (T.setTop f) acts (some (.int v))).1 = T.setFrames fs) :
    Steps p.tables e below (T.setTop (mkF m 152 #[.val (.int z)] [])) (T.setFrames fs) := by
  refine XS.iloadN X.here hx rfl (hb hby d3_152) rfl ?_
  show Steps p.tables e below (T.setTop (mkF m 153 #[.val (.int z)] [(.int z)])) _
  refine X.ldcI hx hown (v := (65534 : Int32)) (mvT hZ (hw _ (List.mem_of_getElem? (i := 5) rfl))) rfl (hb hby d3_153) ?_
  show Steps p.tables e below (T.setTop (mkF m 155 #[.val (.int z)] [(.int (65534 : Int32)), (.int z)])) _
  by_cases h : z.toInt < 65534
  · have h' : z < (65534 : Int32) := (own_lt32 (k := (65534 : Int32)) (n := 65534) (by decide)).mpr h
    refine XS.icmpYes X.here hx rfl (pc0 := 155) (pc' := 164) rfl (hb hby d3_155) rfl (tlt h').1 (by decide) (by decide) ?_
    exact own_b3_164 X hx hZ hw hby hown hret z v (by rw [own_f3_152, if_pos h] at hv; exact hv) hr
  · have h' : ¬ z < (65534 : Int32) := fun q => h ((own_lt32 (k := (65534 : Int32)) (n := 65534) (by decide)).mp q)
    refine XS.icmpNo X.here hx rfl (hb hby d3_155) rfl (flt h').1 ?_
    exact own_b3_158 X hx hZ hw hby hown hret z v (by rw [own_f3_152, if_neg h] at hv; exact hv) hr
set_option maxRecDepth 65536 in
set_option maxHeartbeats 40000000 in
theorem own_b3_146 {p : Program} {l : Launch} {e : Env} {R : Room} {s : State} {m : MethodId} {args : Array Value} {below : List Frame} {meth : Method} {c : Code} {T : State} {locs : List Loc} {cells slots : Nat} {Z : State} {a0 : Array Value}
    (X : Stand p l e R s m args below meth c T locs cells slots) (hx : p.tables.exec = Jvm.exec) (hZ : Z.Warmed39 s.vm) (hw : ∀ d ∈ tables_1, d.before a0 Z = true) (hby : c.code = method_2_code) (hown : s.vm.findClass "com/example/hale_xslt/halexslt/xdm/XmlNamesIsNameStartPinLaw" = some m.cls) (hret : meth.sig.returnType = some .boolean) (z v : Int32) (hv : own_f3_146 z.toInt = v) {fs : List Frame}
    (hr : ∀ (f : JFrame) (acts : List Action), f.method = m → f.locked = none → f.entered = [] → (doReturn e (T.setTop f) acts (some (.int v))).1 = T.setFrames fs) :
    Steps p.tables e below (T.setTop (mkF m 146 #[.val (.int z)] [])) (T.setFrames fs) := by
  refine XS.iloadN X.here hx rfl (hb hby d3_146) rfl ?_
  show Steps p.tables e below (T.setTop (mkF m 147 #[.val (.int z)] [(.int z)])) _
  refine X.ldcI hx hown (v := (65007 : Int32)) (mvT hZ (hw _ (List.mem_of_getElem? (i := 30) rfl))) rfl (hb hby d3_147) ?_
  show Steps p.tables e below (T.setTop (mkF m 149 #[.val (.int z)] [(.int (65007 : Int32)), (.int z)])) _
  by_cases h : 65007 < z.toInt
  · have h' : (65007 : Int32) < z := (own_gt32 (k := (65007 : Int32)) (n := 65007) (by decide)).mpr h
    refine XS.icmpNo X.here hx rfl (hb hby d3_149) rfl (tlt h').2.2.2 ?_
    exact own_b3_152 X hx hZ hw hby hown hret z v (by rw [own_f3_146, if_pos h] at hv; exact hv) hr
  · have h' : ¬ (65007 : Int32) < z := fun q => h ((own_gt32 (k := (65007 : Int32)) (n := 65007) (by decide)).mp q)
    refine XS.icmpYes X.here hx rfl (pc0 := 149) (pc' := 170) rfl (hb hby d3_149) rfl (flt h').2.2.2 (by decide) (by decide) ?_
    exact own_b3_170 X hx hZ hw hby hown hret z v (by rw [own_f3_146, if_neg h] at hv; exact hv) hr
set_option maxRecDepth 65536 in
set_option maxHeartbeats 40000000 in
theorem own_b3_140 {p : Program} {l : Launch} {e : Env} {R : Room} {s : State} {m : MethodId} {args : Array Value} {below : List Frame} {meth : Method} {c : Code} {T : State} {locs : List Loc} {cells slots : Nat} {Z : State} {a0 : Array Value}
    (X : Stand p l e R s m args below meth c T locs cells slots) (hx : p.tables.exec = Jvm.exec) (hZ : Z.Warmed39 s.vm) (hw : ∀ d ∈ tables_1, d.before a0 Z = true) (hby : c.code = method_2_code) (hown : s.vm.findClass "com/example/hale_xslt/halexslt/xdm/XmlNamesIsNameStartPinLaw" = some m.cls) (hret : meth.sig.returnType = some .boolean) (z v : Int32) (hv : own_f3_140 z.toInt = v) {fs : List Frame}
    (hr : ∀ (f : JFrame) (acts : List Action), f.method = m → f.locked = none → f.entered = [] → (doReturn e (T.setTop f) acts (some (.int v))).1 = T.setFrames fs) :
    Steps p.tables e below (T.setTop (mkF m 140 #[.val (.int z)] [])) (T.setFrames fs) := by
  refine XS.iloadN X.here hx rfl (hb hby d3_140) rfl ?_
  show Steps p.tables e below (T.setTop (mkF m 141 #[.val (.int z)] [(.int z)])) _
  refine X.ldcI hx hown (v := (64976 : Int32)) (mvT hZ (hw _ (List.mem_of_getElem? (i := 3) rfl))) rfl (hb hby d3_141) ?_
  show Steps p.tables e below (T.setTop (mkF m 143 #[.val (.int z)] [(.int (64976 : Int32)), (.int z)])) _
  by_cases h : z.toInt < 64976
  · have h' : z < (64976 : Int32) := (own_lt32 (k := (64976 : Int32)) (n := 64976) (by decide)).mpr h
    refine XS.icmpYes X.here hx rfl (pc0 := 143) (pc' := 152) rfl (hb hby d3_143) rfl (tlt h').1 (by decide) (by decide) ?_
    exact own_b3_152 X hx hZ hw hby hown hret z v (by rw [own_f3_140, if_pos h] at hv; exact hv) hr
  · have h' : ¬ z < (64976 : Int32) := fun q => h ((own_lt32 (k := (64976 : Int32)) (n := 64976) (by decide)).mp q)
    refine XS.icmpNo X.here hx rfl (hb hby d3_143) rfl (flt h').1 ?_
    exact own_b3_146 X hx hZ hw hby hown hret z v (by rw [own_f3_140, if_neg h] at hv; exact hv) hr
set_option maxRecDepth 65536 in
set_option maxHeartbeats 40000000 in
theorem own_b3_134 {p : Program} {l : Launch} {e : Env} {R : Room} {s : State} {m : MethodId} {args : Array Value} {below : List Frame} {meth : Method} {c : Code} {T : State} {locs : List Loc} {cells slots : Nat} {Z : State} {a0 : Array Value}
    (X : Stand p l e R s m args below meth c T locs cells slots) (hx : p.tables.exec = Jvm.exec) (hZ : Z.Warmed39 s.vm) (hw : ∀ d ∈ tables_1, d.before a0 Z = true) (hby : c.code = method_2_code) (hown : s.vm.findClass "com/example/hale_xslt/halexslt/xdm/XmlNamesIsNameStartPinLaw" = some m.cls) (hret : meth.sig.returnType = some .boolean) (z v : Int32) (hv : own_f3_134 z.toInt = v) {fs : List Frame}
    (hr : ∀ (f : JFrame) (acts : List Action), f.method = m → f.locked = none → f.entered = [] → (doReturn e (T.setTop f) acts (some (.int v))).1 = T.setFrames fs) :
    Steps p.tables e below (T.setTop (mkF m 134 #[.val (.int z)] [])) (T.setFrames fs) := by
  refine XS.iloadN X.here hx rfl (hb hby d3_134) rfl ?_
  show Steps p.tables e below (T.setTop (mkF m 135 #[.val (.int z)] [(.int z)])) _
  refine X.ldcI hx hown (v := (63743 : Int32)) (mvT hZ (hw _ (List.mem_of_getElem? (i := 29) rfl))) rfl (hb hby d3_135) ?_
  show Steps p.tables e below (T.setTop (mkF m 137 #[.val (.int z)] [(.int (63743 : Int32)), (.int z)])) _
  by_cases h : 63743 < z.toInt
  · have h' : (63743 : Int32) < z := (own_gt32 (k := (63743 : Int32)) (n := 63743) (by decide)).mpr h
    refine XS.icmpNo X.here hx rfl (hb hby d3_137) rfl (tlt h').2.2.2 ?_
    exact own_b3_140 X hx hZ hw hby hown hret z v (by rw [own_f3_134, if_pos h] at hv; exact hv) hr
  · have h' : ¬ (63743 : Int32) < z := fun q => h ((own_gt32 (k := (63743 : Int32)) (n := 63743) (by decide)).mp q)
    refine XS.icmpYes X.here hx rfl (pc0 := 137) (pc' := 170) rfl (hb hby d3_137) rfl (flt h').2.2.2 (by decide) (by decide) ?_
    exact own_b3_170 X hx hZ hw hby hown hret z v (by rw [own_f3_134, if_neg h] at hv; exact hv) hr
set_option maxRecDepth 65536 in
set_option maxHeartbeats 40000000 in
theorem own_b3_128 {p : Program} {l : Launch} {e : Env} {R : Room} {s : State} {m : MethodId} {args : Array Value} {below : List Frame} {meth : Method} {c : Code} {T : State} {locs : List Loc} {cells slots : Nat} {Z : State} {a0 : Array Value}
    (X : Stand p l e R s m args below meth c T locs cells slots) (hx : p.tables.exec = Jvm.exec) (hZ : Z.Warmed39 s.vm) (hw : ∀ d ∈ tables_1, d.before a0 Z = true) (hby : c.code = method_2_code) (hown : s.vm.findClass "com/example/hale_xslt/halexslt/xdm/XmlNamesIsNameStartPinLaw" = some m.cls) (hret : meth.sig.returnType = some .boolean) (z v : Int32) (hv : own_f3_128 z.toInt = v) {fs : List Frame}
    (hr : ∀ (f : JFrame) (acts : List Action), f.method = m → f.locked = none → f.entered = [] → (doReturn e (T.setTop f) acts (some (.int v))).1 = T.setFrames fs) :
    Steps p.tables e below (T.setTop (mkF m 128 #[.val (.int z)] [])) (T.setFrames fs) := by
  refine XS.iloadN X.here hx rfl (hb hby d3_128) rfl ?_
  show Steps p.tables e below (T.setTop (mkF m 129 #[.val (.int z)] [(.int z)])) _
  refine X.ldcI hx hown (v := (55296 : Int32)) (mvT hZ (hw _ (List.mem_of_getElem? (i := 1) rfl))) rfl (hb hby d3_129) ?_
  show Steps p.tables e below (T.setTop (mkF m 131 #[.val (.int z)] [(.int (55296 : Int32)), (.int z)])) _
  by_cases h : z.toInt < 55296
  · have h' : z < (55296 : Int32) := (own_lt32 (k := (55296 : Int32)) (n := 55296) (by decide)).mpr h
    refine XS.icmpYes X.here hx rfl (pc0 := 131) (pc' := 140) rfl (hb hby d3_131) rfl (tlt h').1 (by decide) (by decide) ?_
    exact own_b3_140 X hx hZ hw hby hown hret z v (by rw [own_f3_128, if_pos h] at hv; exact hv) hr
  · have h' : ¬ z < (55296 : Int32) := fun q => h ((own_lt32 (k := (55296 : Int32)) (n := 55296) (by decide)).mp q)
    refine XS.icmpNo X.here hx rfl (hb hby d3_131) rfl (flt h').1 ?_
    exact own_b3_134 X hx hZ hw hby hown hret z v (by rw [own_f3_128, if_neg h] at hv; exact hv) hr
set_option maxRecDepth 65536 in
set_option maxHeartbeats 40000000 in
theorem own_b3_121 {p : Program} {l : Launch} {e : Env} {R : Room} {s : State} {m : MethodId} {args : Array Value} {below : List Frame} {meth : Method} {c : Code} {T : State} {locs : List Loc} {cells slots : Nat} {Z : State} {a0 : Array Value}
    (X : Stand p l e R s m args below meth c T locs cells slots) (hx : p.tables.exec = Jvm.exec) (hZ : Z.Warmed39 s.vm) (hw : ∀ d ∈ tables_1, d.before a0 Z = true) (hby : c.code = method_2_code) (hown : s.vm.findClass "com/example/hale_xslt/halexslt/xdm/XmlNamesIsNameStartPinLaw" = some m.cls) (hret : meth.sig.returnType = some .boolean) (z v : Int32) (hv : own_f3_121 z.toInt = v) {fs : List Frame}
    (hr : ∀ (f : JFrame) (acts : List Action), f.method = m → f.locked = none → f.entered = [] → (doReturn e (T.setTop f) acts (some (.int v))).1 = T.setFrames fs) :
    Steps p.tables e below (T.setTop (mkF m 121 #[.val (.int z)] [])) (T.setFrames fs) := by
  refine XS.iloadN X.here hx rfl (hb hby d3_121) rfl ?_
  show Steps p.tables e below (T.setTop (mkF m 122 #[.val (.int z)] [(.int z)])) _
  refine XT.sipushV X.here hx rfl (12288 : Int32) (hb hby d3_122) (by decide) ?_
  show Steps p.tables e below (T.setTop (mkF m 125 #[.val (.int z)] [(.int (12288 : Int32)), (.int z)])) _
  by_cases h : 12288 < z.toInt
  · have h' : (12288 : Int32) < z := (own_gt32 (k := (12288 : Int32)) (n := 12288) (by decide)).mpr h
    refine XS.icmpNo X.here hx rfl (hb hby d3_125) rfl (tlt h').2.2.2 ?_
    exact own_b3_128 X hx hZ hw hby hown hret z v (by rw [own_f3_121, if_pos h] at hv; exact hv) hr
  · have h' : ¬ (12288 : Int32) < z := fun q => h ((own_gt32 (k := (12288 : Int32)) (n := 12288) (by decide)).mp q)
    refine XS.icmpYes X.here hx rfl (pc0 := 125) (pc' := 170) rfl (hb hby d3_125) rfl (flt h').2.2.2 (by decide) (by decide) ?_
    exact own_b3_170 X hx hZ hw hby hown hret z v (by rw [own_f3_121, if_neg h] at hv; exact hv) hr
set_option maxRecDepth 65536 in
set_option maxHeartbeats 40000000 in
theorem own_b3_114 {p : Program} {l : Launch} {e : Env} {R : Room} {s : State} {m : MethodId} {args : Array Value} {below : List Frame} {meth : Method} {c : Code} {T : State} {locs : List Loc} {cells slots : Nat} {Z : State} {a0 : Array Value}
    (X : Stand p l e R s m args below meth c T locs cells slots) (hx : p.tables.exec = Jvm.exec) (hZ : Z.Warmed39 s.vm) (hw : ∀ d ∈ tables_1, d.before a0 Z = true) (hby : c.code = method_2_code) (hown : s.vm.findClass "com/example/hale_xslt/halexslt/xdm/XmlNamesIsNameStartPinLaw" = some m.cls) (hret : meth.sig.returnType = some .boolean) (z v : Int32) (hv : own_f3_114 z.toInt = v) {fs : List Frame}
    (hr : ∀ (f : JFrame) (acts : List Action), f.method = m → f.locked = none → f.entered = [] → (doReturn e (T.setTop f) acts (some (.int v))).1 = T.setFrames fs) :
    Steps p.tables e below (T.setTop (mkF m 114 #[.val (.int z)] [])) (T.setFrames fs) := by
  refine XS.iloadN X.here hx rfl (hb hby d3_114) rfl ?_
  show Steps p.tables e below (T.setTop (mkF m 115 #[.val (.int z)] [(.int z)])) _
  refine XT.sipushV X.here hx rfl (12272 : Int32) (hb hby d3_115) (by decide) ?_
  show Steps p.tables e below (T.setTop (mkF m 118 #[.val (.int z)] [(.int (12272 : Int32)), (.int z)])) _
  by_cases h : z.toInt < 12272
  · have h' : z < (12272 : Int32) := (own_lt32 (k := (12272 : Int32)) (n := 12272) (by decide)).mpr h
    refine XS.icmpYes X.here hx rfl (pc0 := 118) (pc' := 128) rfl (hb hby d3_118) rfl (tlt h').1 (by decide) (by decide) ?_
    exact own_b3_128 X hx hZ hw hby hown hret z v (by rw [own_f3_114, if_pos h] at hv; exact hv) hr
  · have h' : ¬ z < (12272 : Int32) := fun q => h ((own_lt32 (k := (12272 : Int32)) (n := 12272) (by decide)).mp q)
    refine XS.icmpNo X.here hx rfl (hb hby d3_118) rfl (flt h').1 ?_
    exact own_b3_121 X hx hZ hw hby hown hret z v (by rw [own_f3_114, if_neg h] at hv; exact hv) hr
set_option maxRecDepth 65536 in
set_option maxHeartbeats 40000000 in
theorem own_b3_107 {p : Program} {l : Launch} {e : Env} {R : Room} {s : State} {m : MethodId} {args : Array Value} {below : List Frame} {meth : Method} {c : Code} {T : State} {locs : List Loc} {cells slots : Nat} {Z : State} {a0 : Array Value}
    (X : Stand p l e R s m args below meth c T locs cells slots) (hx : p.tables.exec = Jvm.exec) (hZ : Z.Warmed39 s.vm) (hw : ∀ d ∈ tables_1, d.before a0 Z = true) (hby : c.code = method_2_code) (hown : s.vm.findClass "com/example/hale_xslt/halexslt/xdm/XmlNamesIsNameStartPinLaw" = some m.cls) (hret : meth.sig.returnType = some .boolean) (z v : Int32) (hv : own_f3_107 z.toInt = v) {fs : List Frame}
    (hr : ∀ (f : JFrame) (acts : List Action), f.method = m → f.locked = none → f.entered = [] → (doReturn e (T.setTop f) acts (some (.int v))).1 = T.setFrames fs) :
    Steps p.tables e below (T.setTop (mkF m 107 #[.val (.int z)] [])) (T.setFrames fs) := by
  refine XS.iloadN X.here hx rfl (hb hby d3_107) rfl ?_
  show Steps p.tables e below (T.setTop (mkF m 108 #[.val (.int z)] [(.int z)])) _
  refine XT.sipushV X.here hx rfl (11263 : Int32) (hb hby d3_108) (by decide) ?_
  show Steps p.tables e below (T.setTop (mkF m 111 #[.val (.int z)] [(.int (11263 : Int32)), (.int z)])) _
  by_cases h : 11263 < z.toInt
  · have h' : (11263 : Int32) < z := (own_gt32 (k := (11263 : Int32)) (n := 11263) (by decide)).mpr h
    refine XS.icmpNo X.here hx rfl (hb hby d3_111) rfl (tlt h').2.2.2 ?_
    exact own_b3_114 X hx hZ hw hby hown hret z v (by rw [own_f3_107, if_pos h] at hv; exact hv) hr
  · have h' : ¬ (11263 : Int32) < z := fun q => h ((own_gt32 (k := (11263 : Int32)) (n := 11263) (by decide)).mp q)
    refine XS.icmpYes X.here hx rfl (pc0 := 111) (pc' := 170) rfl (hb hby d3_111) rfl (flt h').2.2.2 (by decide) (by decide) ?_
    exact own_b3_170 X hx hZ hw hby hown hret z v (by rw [own_f3_107, if_neg h] at hv; exact hv) hr
set_option maxRecDepth 65536 in
set_option maxHeartbeats 40000000 in
theorem own_b3_100 {p : Program} {l : Launch} {e : Env} {R : Room} {s : State} {m : MethodId} {args : Array Value} {below : List Frame} {meth : Method} {c : Code} {T : State} {locs : List Loc} {cells slots : Nat} {Z : State} {a0 : Array Value}
    (X : Stand p l e R s m args below meth c T locs cells slots) (hx : p.tables.exec = Jvm.exec) (hZ : Z.Warmed39 s.vm) (hw : ∀ d ∈ tables_1, d.before a0 Z = true) (hby : c.code = method_2_code) (hown : s.vm.findClass "com/example/hale_xslt/halexslt/xdm/XmlNamesIsNameStartPinLaw" = some m.cls) (hret : meth.sig.returnType = some .boolean) (z v : Int32) (hv : own_f3_100 z.toInt = v) {fs : List Frame}
    (hr : ∀ (f : JFrame) (acts : List Action), f.method = m → f.locked = none → f.entered = [] → (doReturn e (T.setTop f) acts (some (.int v))).1 = T.setFrames fs) :
    Steps p.tables e below (T.setTop (mkF m 100 #[.val (.int z)] [])) (T.setFrames fs) := by
  refine XS.iloadN X.here hx rfl (hb hby d3_100) rfl ?_
  show Steps p.tables e below (T.setTop (mkF m 101 #[.val (.int z)] [(.int z)])) _
  refine XT.sipushV X.here hx rfl (8592 : Int32) (hb hby d3_101) (by decide) ?_
  show Steps p.tables e below (T.setTop (mkF m 104 #[.val (.int z)] [(.int (8592 : Int32)), (.int z)])) _
  by_cases h : z.toInt < 8592
  · have h' : z < (8592 : Int32) := (own_lt32 (k := (8592 : Int32)) (n := 8592) (by decide)).mpr h
    refine XS.icmpYes X.here hx rfl (pc0 := 104) (pc' := 114) rfl (hb hby d3_104) rfl (tlt h').1 (by decide) (by decide) ?_
    exact own_b3_114 X hx hZ hw hby hown hret z v (by rw [own_f3_100, if_pos h] at hv; exact hv) hr
  · have h' : ¬ z < (8592 : Int32) := fun q => h ((own_lt32 (k := (8592 : Int32)) (n := 8592) (by decide)).mp q)
    refine XS.icmpNo X.here hx rfl (hb hby d3_104) rfl (flt h').1 ?_
    exact own_b3_107 X hx hZ hw hby hown hret z v (by rw [own_f3_100, if_neg h] at hv; exact hv) hr
set_option maxRecDepth 65536 in
set_option maxHeartbeats 40000000 in
theorem own_b3_93 {p : Program} {l : Launch} {e : Env} {R : Room} {s : State} {m : MethodId} {args : Array Value} {below : List Frame} {meth : Method} {c : Code} {T : State} {locs : List Loc} {cells slots : Nat} {Z : State} {a0 : Array Value}
    (X : Stand p l e R s m args below meth c T locs cells slots) (hx : p.tables.exec = Jvm.exec) (hZ : Z.Warmed39 s.vm) (hw : ∀ d ∈ tables_1, d.before a0 Z = true) (hby : c.code = method_2_code) (hown : s.vm.findClass "com/example/hale_xslt/halexslt/xdm/XmlNamesIsNameStartPinLaw" = some m.cls) (hret : meth.sig.returnType = some .boolean) (z v : Int32) (hv : own_f3_93 z.toInt = v) {fs : List Frame}
    (hr : ∀ (f : JFrame) (acts : List Action), f.method = m → f.locked = none → f.entered = [] → (doReturn e (T.setTop f) acts (some (.int v))).1 = T.setFrames fs) :
    Steps p.tables e below (T.setTop (mkF m 93 #[.val (.int z)] [])) (T.setFrames fs) := by
  refine XS.iloadN X.here hx rfl (hb hby d3_93) rfl ?_
  show Steps p.tables e below (T.setTop (mkF m 94 #[.val (.int z)] [(.int z)])) _
  refine XT.sipushV X.here hx rfl (8303 : Int32) (hb hby d3_94) (by decide) ?_
  show Steps p.tables e below (T.setTop (mkF m 97 #[.val (.int z)] [(.int (8303 : Int32)), (.int z)])) _
  by_cases h : 8303 < z.toInt
  · have h' : (8303 : Int32) < z := (own_gt32 (k := (8303 : Int32)) (n := 8303) (by decide)).mpr h
    refine XS.icmpNo X.here hx rfl (hb hby d3_97) rfl (tlt h').2.2.2 ?_
    exact own_b3_100 X hx hZ hw hby hown hret z v (by rw [own_f3_93, if_pos h] at hv; exact hv) hr
  · have h' : ¬ (8303 : Int32) < z := fun q => h ((own_gt32 (k := (8303 : Int32)) (n := 8303) (by decide)).mp q)
    refine XS.icmpYes X.here hx rfl (pc0 := 97) (pc' := 170) rfl (hb hby d3_97) rfl (flt h').2.2.2 (by decide) (by decide) ?_
    exact own_b3_170 X hx hZ hw hby hown hret z v (by rw [own_f3_93, if_neg h] at hv; exact hv) hr
set_option maxRecDepth 65536 in
set_option maxHeartbeats 40000000 in
theorem own_b3_86 {p : Program} {l : Launch} {e : Env} {R : Room} {s : State} {m : MethodId} {args : Array Value} {below : List Frame} {meth : Method} {c : Code} {T : State} {locs : List Loc} {cells slots : Nat} {Z : State} {a0 : Array Value}
    (X : Stand p l e R s m args below meth c T locs cells slots) (hx : p.tables.exec = Jvm.exec) (hZ : Z.Warmed39 s.vm) (hw : ∀ d ∈ tables_1, d.before a0 Z = true) (hby : c.code = method_2_code) (hown : s.vm.findClass "com/example/hale_xslt/halexslt/xdm/XmlNamesIsNameStartPinLaw" = some m.cls) (hret : meth.sig.returnType = some .boolean) (z v : Int32) (hv : own_f3_86 z.toInt = v) {fs : List Frame}
    (hr : ∀ (f : JFrame) (acts : List Action), f.method = m → f.locked = none → f.entered = [] → (doReturn e (T.setTop f) acts (some (.int v))).1 = T.setFrames fs) :
    Steps p.tables e below (T.setTop (mkF m 86 #[.val (.int z)] [])) (T.setFrames fs) := by
  refine XS.iloadN X.here hx rfl (hb hby d3_86) rfl ?_
  show Steps p.tables e below (T.setTop (mkF m 87 #[.val (.int z)] [(.int z)])) _
  refine XT.sipushV X.here hx rfl (8206 : Int32) (hb hby d3_87) (by decide) ?_
  show Steps p.tables e below (T.setTop (mkF m 90 #[.val (.int z)] [(.int (8206 : Int32)), (.int z)])) _
  by_cases h : z.toInt < 8206
  · have h' : z < (8206 : Int32) := (own_lt32 (k := (8206 : Int32)) (n := 8206) (by decide)).mpr h
    refine XS.icmpYes X.here hx rfl (pc0 := 90) (pc' := 100) rfl (hb hby d3_90) rfl (tlt h').1 (by decide) (by decide) ?_
    exact own_b3_100 X hx hZ hw hby hown hret z v (by rw [own_f3_86, if_pos h] at hv; exact hv) hr
  · have h' : ¬ z < (8206 : Int32) := fun q => h ((own_lt32 (k := (8206 : Int32)) (n := 8206) (by decide)).mp q)
    refine XS.icmpNo X.here hx rfl (hb hby d3_90) rfl (flt h').1 ?_
    exact own_b3_93 X hx hZ hw hby hown hret z v (by rw [own_f3_86, if_neg h] at hv; exact hv) hr
set_option maxRecDepth 65536 in
set_option maxHeartbeats 40000000 in
theorem own_b3_79 {p : Program} {l : Launch} {e : Env} {R : Room} {s : State} {m : MethodId} {args : Array Value} {below : List Frame} {meth : Method} {c : Code} {T : State} {locs : List Loc} {cells slots : Nat} {Z : State} {a0 : Array Value}
    (X : Stand p l e R s m args below meth c T locs cells slots) (hx : p.tables.exec = Jvm.exec) (hZ : Z.Warmed39 s.vm) (hw : ∀ d ∈ tables_1, d.before a0 Z = true) (hby : c.code = method_2_code) (hown : s.vm.findClass "com/example/hale_xslt/halexslt/xdm/XmlNamesIsNameStartPinLaw" = some m.cls) (hret : meth.sig.returnType = some .boolean) (z v : Int32) (hv : own_f3_79 z.toInt = v) {fs : List Frame}
    (hr : ∀ (f : JFrame) (acts : List Action), f.method = m → f.locked = none → f.entered = [] → (doReturn e (T.setTop f) acts (some (.int v))).1 = T.setFrames fs) :
    Steps p.tables e below (T.setTop (mkF m 79 #[.val (.int z)] [])) (T.setFrames fs) := by
  refine XS.iloadN X.here hx rfl (hb hby d3_79) rfl ?_
  show Steps p.tables e below (T.setTop (mkF m 80 #[.val (.int z)] [(.int z)])) _
  refine XT.sipushV X.here hx rfl (8203 : Int32) (hb hby d3_80) (by decide) ?_
  show Steps p.tables e below (T.setTop (mkF m 83 #[.val (.int z)] [(.int (8203 : Int32)), (.int z)])) _
  by_cases h : 8203 < z.toInt
  · have h' : (8203 : Int32) < z := (own_gt32 (k := (8203 : Int32)) (n := 8203) (by decide)).mpr h
    refine XS.icmpNo X.here hx rfl (hb hby d3_83) rfl (tlt h').2.2.2 ?_
    exact own_b3_86 X hx hZ hw hby hown hret z v (by rw [own_f3_79, if_pos h] at hv; exact hv) hr
  · have h' : ¬ (8203 : Int32) < z := fun q => h ((own_gt32 (k := (8203 : Int32)) (n := 8203) (by decide)).mp q)
    refine XS.icmpYes X.here hx rfl (pc0 := 83) (pc' := 170) rfl (hb hby d3_83) rfl (flt h').2.2.2 (by decide) (by decide) ?_
    exact own_b3_170 X hx hZ hw hby hown hret z v (by rw [own_f3_79, if_neg h] at hv; exact hv) hr
set_option maxRecDepth 65536 in
set_option maxHeartbeats 40000000 in
theorem own_b3_72 {p : Program} {l : Launch} {e : Env} {R : Room} {s : State} {m : MethodId} {args : Array Value} {below : List Frame} {meth : Method} {c : Code} {T : State} {locs : List Loc} {cells slots : Nat} {Z : State} {a0 : Array Value}
    (X : Stand p l e R s m args below meth c T locs cells slots) (hx : p.tables.exec = Jvm.exec) (hZ : Z.Warmed39 s.vm) (hw : ∀ d ∈ tables_1, d.before a0 Z = true) (hby : c.code = method_2_code) (hown : s.vm.findClass "com/example/hale_xslt/halexslt/xdm/XmlNamesIsNameStartPinLaw" = some m.cls) (hret : meth.sig.returnType = some .boolean) (z v : Int32) (hv : own_f3_72 z.toInt = v) {fs : List Frame}
    (hr : ∀ (f : JFrame) (acts : List Action), f.method = m → f.locked = none → f.entered = [] → (doReturn e (T.setTop f) acts (some (.int v))).1 = T.setFrames fs) :
    Steps p.tables e below (T.setTop (mkF m 72 #[.val (.int z)] [])) (T.setFrames fs) := by
  refine XS.iloadN X.here hx rfl (hb hby d3_72) rfl ?_
  show Steps p.tables e below (T.setTop (mkF m 73 #[.val (.int z)] [(.int z)])) _
  refine XT.sipushV X.here hx rfl (8192 : Int32) (hb hby d3_73) (by decide) ?_
  show Steps p.tables e below (T.setTop (mkF m 76 #[.val (.int z)] [(.int (8192 : Int32)), (.int z)])) _
  by_cases h : z.toInt < 8192
  · have h' : z < (8192 : Int32) := (own_lt32 (k := (8192 : Int32)) (n := 8192) (by decide)).mpr h
    refine XS.icmpYes X.here hx rfl (pc0 := 76) (pc' := 86) rfl (hb hby d3_76) rfl (tlt h').1 (by decide) (by decide) ?_
    exact own_b3_86 X hx hZ hw hby hown hret z v (by rw [own_f3_72, if_pos h] at hv; exact hv) hr
  · have h' : ¬ z < (8192 : Int32) := fun q => h ((own_lt32 (k := (8192 : Int32)) (n := 8192) (by decide)).mp q)
    refine XS.icmpNo X.here hx rfl (hb hby d3_76) rfl (flt h').1 ?_
    exact own_b3_79 X hx hZ hw hby hown hret z v (by rw [own_f3_72, if_neg h] at hv; exact hv) hr
set_option maxRecDepth 65536 in
set_option maxHeartbeats 40000000 in
theorem own_b3_65 {p : Program} {l : Launch} {e : Env} {R : Room} {s : State} {m : MethodId} {args : Array Value} {below : List Frame} {meth : Method} {c : Code} {T : State} {locs : List Loc} {cells slots : Nat} {Z : State} {a0 : Array Value}
    (X : Stand p l e R s m args below meth c T locs cells slots) (hx : p.tables.exec = Jvm.exec) (hZ : Z.Warmed39 s.vm) (hw : ∀ d ∈ tables_1, d.before a0 Z = true) (hby : c.code = method_2_code) (hown : s.vm.findClass "com/example/hale_xslt/halexslt/xdm/XmlNamesIsNameStartPinLaw" = some m.cls) (hret : meth.sig.returnType = some .boolean) (z v : Int32) (hv : own_f3_65 z.toInt = v) {fs : List Frame}
    (hr : ∀ (f : JFrame) (acts : List Action), f.method = m → f.locked = none → f.entered = [] → (doReturn e (T.setTop f) acts (some (.int v))).1 = T.setFrames fs) :
    Steps p.tables e below (T.setTop (mkF m 65 #[.val (.int z)] [])) (T.setFrames fs) := by
  refine XS.iloadN X.here hx rfl (hb hby d3_65) rfl ?_
  show Steps p.tables e below (T.setTop (mkF m 66 #[.val (.int z)] [(.int z)])) _
  refine XT.sipushV X.here hx rfl (894 : Int32) (hb hby d3_66) (by decide) ?_
  show Steps p.tables e below (T.setTop (mkF m 69 #[.val (.int z)] [(.int (894 : Int32)), (.int z)])) _
  by_cases h : z.toInt = 894
  · have h' : z = (894 : Int32) := (own_eq32 (k := (894 : Int32)) (n := 894) (by decide)).mpr h
    refine XS.icmpYes X.here hx rfl (pc0 := 69) (pc' := 170) rfl (hb hby d3_69) rfl (teq h').1 (by decide) (by decide) ?_
    exact own_b3_170 X hx hZ hw hby hown hret z v (by rw [own_f3_65, if_pos h] at hv; exact hv) hr
  · have h' : ¬ z = (894 : Int32) := fun q => h ((own_eq32 (k := (894 : Int32)) (n := 894) (by decide)).mp q)
    refine XS.icmpNo X.here hx rfl (hb hby d3_69) rfl (feq h').1 ?_
    exact own_b3_72 X hx hZ hw hby hown hret z v (by rw [own_f3_65, if_neg h] at hv; exact hv) hr
set_option maxRecDepth 65536 in
set_option maxHeartbeats 40000000 in
theorem own_b3_58 {p : Program} {l : Launch} {e : Env} {R : Room} {s : State} {m : MethodId} {args : Array Value} {below : List Frame} {meth : Method} {c : Code} {T : State} {locs : List Loc} {cells slots : Nat} {Z : State} {a0 : Array Value}
    (X : Stand p l e R s m args below meth c T locs cells slots) (hx : p.tables.exec = Jvm.exec) (hZ : Z.Warmed39 s.vm) (hw : ∀ d ∈ tables_1, d.before a0 Z = true) (hby : c.code = method_2_code) (hown : s.vm.findClass "com/example/hale_xslt/halexslt/xdm/XmlNamesIsNameStartPinLaw" = some m.cls) (hret : meth.sig.returnType = some .boolean) (z v : Int32) (hv : own_f3_58 z.toInt = v) {fs : List Frame}
    (hr : ∀ (f : JFrame) (acts : List Action), f.method = m → f.locked = none → f.entered = [] → (doReturn e (T.setTop f) acts (some (.int v))).1 = T.setFrames fs) :
    Steps p.tables e below (T.setTop (mkF m 58 #[.val (.int z)] [])) (T.setFrames fs) := by
  refine XS.iloadN X.here hx rfl (hb hby d3_58) rfl ?_
  show Steps p.tables e below (T.setTop (mkF m 59 #[.val (.int z)] [(.int z)])) _
  refine XT.sipushV X.here hx rfl (879 : Int32) (hb hby d3_59) (by decide) ?_
  show Steps p.tables e below (T.setTop (mkF m 62 #[.val (.int z)] [(.int (879 : Int32)), (.int z)])) _
  by_cases h : 879 < z.toInt
  · have h' : (879 : Int32) < z := (own_gt32 (k := (879 : Int32)) (n := 879) (by decide)).mpr h
    refine XS.icmpNo X.here hx rfl (hb hby d3_62) rfl (tlt h').2.2.2 ?_
    exact own_b3_65 X hx hZ hw hby hown hret z v (by rw [own_f3_58, if_pos h] at hv; exact hv) hr
  · have h' : ¬ (879 : Int32) < z := fun q => h ((own_gt32 (k := (879 : Int32)) (n := 879) (by decide)).mp q)
    refine XS.icmpYes X.here hx rfl (pc0 := 62) (pc' := 170) rfl (hb hby d3_62) rfl (flt h').2.2.2 (by decide) (by decide) ?_
    exact own_b3_170 X hx hZ hw hby hown hret z v (by rw [own_f3_58, if_neg h] at hv; exact hv) hr
set_option maxRecDepth 65536 in
set_option maxHeartbeats 40000000 in
theorem own_b3_51 {p : Program} {l : Launch} {e : Env} {R : Room} {s : State} {m : MethodId} {args : Array Value} {below : List Frame} {meth : Method} {c : Code} {T : State} {locs : List Loc} {cells slots : Nat} {Z : State} {a0 : Array Value}
    (X : Stand p l e R s m args below meth c T locs cells slots) (hx : p.tables.exec = Jvm.exec) (hZ : Z.Warmed39 s.vm) (hw : ∀ d ∈ tables_1, d.before a0 Z = true) (hby : c.code = method_2_code) (hown : s.vm.findClass "com/example/hale_xslt/halexslt/xdm/XmlNamesIsNameStartPinLaw" = some m.cls) (hret : meth.sig.returnType = some .boolean) (z v : Int32) (hv : own_f3_51 z.toInt = v) {fs : List Frame}
    (hr : ∀ (f : JFrame) (acts : List Action), f.method = m → f.locked = none → f.entered = [] → (doReturn e (T.setTop f) acts (some (.int v))).1 = T.setFrames fs) :
    Steps p.tables e below (T.setTop (mkF m 51 #[.val (.int z)] [])) (T.setFrames fs) := by
  refine XS.iloadN X.here hx rfl (hb hby d3_51) rfl ?_
  show Steps p.tables e below (T.setTop (mkF m 52 #[.val (.int z)] [(.int z)])) _
  refine XT.sipushV X.here hx rfl (768 : Int32) (hb hby d3_52) (by decide) ?_
  show Steps p.tables e below (T.setTop (mkF m 55 #[.val (.int z)] [(.int (768 : Int32)), (.int z)])) _
  by_cases h : z.toInt < 768
  · have h' : z < (768 : Int32) := (own_lt32 (k := (768 : Int32)) (n := 768) (by decide)).mpr h
    refine XS.icmpYes X.here hx rfl (pc0 := 55) (pc' := 65) rfl (hb hby d3_55) rfl (tlt h').1 (by decide) (by decide) ?_
    exact own_b3_65 X hx hZ hw hby hown hret z v (by rw [own_f3_51, if_pos h] at hv; exact hv) hr
  · have h' : ¬ z < (768 : Int32) := fun q => h ((own_lt32 (k := (768 : Int32)) (n := 768) (by decide)).mp q)
    refine XS.icmpNo X.here hx rfl (hb hby d3_55) rfl (flt h').1 ?_
    exact own_b3_58 X hx hZ hw hby hown hret z v (by rw [own_f3_51, if_neg h] at hv; exact hv) hr
set_option maxRecDepth 65536 in
set_option maxHeartbeats 40000000 in
theorem own_b3_44 {p : Program} {l : Launch} {e : Env} {R : Room} {s : State} {m : MethodId} {args : Array Value} {below : List Frame} {meth : Method} {c : Code} {T : State} {locs : List Loc} {cells slots : Nat} {Z : State} {a0 : Array Value}
    (X : Stand p l e R s m args below meth c T locs cells slots) (hx : p.tables.exec = Jvm.exec) (hZ : Z.Warmed39 s.vm) (hw : ∀ d ∈ tables_1, d.before a0 Z = true) (hby : c.code = method_2_code) (hown : s.vm.findClass "com/example/hale_xslt/halexslt/xdm/XmlNamesIsNameStartPinLaw" = some m.cls) (hret : meth.sig.returnType = some .boolean) (z v : Int32) (hv : own_f3_44 z.toInt = v) {fs : List Frame}
    (hr : ∀ (f : JFrame) (acts : List Action), f.method = m → f.locked = none → f.entered = [] → (doReturn e (T.setTop f) acts (some (.int v))).1 = T.setFrames fs) :
    Steps p.tables e below (T.setTop (mkF m 44 #[.val (.int z)] [])) (T.setFrames fs) := by
  refine XS.iloadN X.here hx rfl (hb hby d3_44) rfl ?_
  show Steps p.tables e below (T.setTop (mkF m 45 #[.val (.int z)] [(.int z)])) _
  refine XT.sipushV X.here hx rfl (247 : Int32) (hb hby d3_45) (by decide) ?_
  show Steps p.tables e below (T.setTop (mkF m 48 #[.val (.int z)] [(.int (247 : Int32)), (.int z)])) _
  by_cases h : z.toInt = 247
  · have h' : z = (247 : Int32) := (own_eq32 (k := (247 : Int32)) (n := 247) (by decide)).mpr h
    refine XS.icmpYes X.here hx rfl (pc0 := 48) (pc' := 170) rfl (hb hby d3_48) rfl (teq h').1 (by decide) (by decide) ?_
    exact own_b3_170 X hx hZ hw hby hown hret z v (by rw [own_f3_44, if_pos h] at hv; exact hv) hr
  · have h' : ¬ z = (247 : Int32) := fun q => h ((own_eq32 (k := (247 : Int32)) (n := 247) (by decide)).mp q)
    refine XS.icmpNo X.here hx rfl (hb hby d3_48) rfl (feq h').1 ?_
    exact own_b3_51 X hx hZ hw hby hown hret z v (by rw [own_f3_44, if_neg h] at hv; exact hv) hr
set_option maxRecDepth 65536 in
set_option maxHeartbeats 40000000 in
theorem own_b3_37 {p : Program} {l : Launch} {e : Env} {R : Room} {s : State} {m : MethodId} {args : Array Value} {below : List Frame} {meth : Method} {c : Code} {T : State} {locs : List Loc} {cells slots : Nat} {Z : State} {a0 : Array Value}
    (X : Stand p l e R s m args below meth c T locs cells slots) (hx : p.tables.exec = Jvm.exec) (hZ : Z.Warmed39 s.vm) (hw : ∀ d ∈ tables_1, d.before a0 Z = true) (hby : c.code = method_2_code) (hown : s.vm.findClass "com/example/hale_xslt/halexslt/xdm/XmlNamesIsNameStartPinLaw" = some m.cls) (hret : meth.sig.returnType = some .boolean) (z v : Int32) (hv : own_f3_37 z.toInt = v) {fs : List Frame}
    (hr : ∀ (f : JFrame) (acts : List Action), f.method = m → f.locked = none → f.entered = [] → (doReturn e (T.setTop f) acts (some (.int v))).1 = T.setFrames fs) :
    Steps p.tables e below (T.setTop (mkF m 37 #[.val (.int z)] [])) (T.setFrames fs) := by
  refine XS.iloadN X.here hx rfl (hb hby d3_37) rfl ?_
  show Steps p.tables e below (T.setTop (mkF m 38 #[.val (.int z)] [(.int z)])) _
  refine XT.sipushV X.here hx rfl (215 : Int32) (hb hby d3_38) (by decide) ?_
  show Steps p.tables e below (T.setTop (mkF m 41 #[.val (.int z)] [(.int (215 : Int32)), (.int z)])) _
  by_cases h : z.toInt = 215
  · have h' : z = (215 : Int32) := (own_eq32 (k := (215 : Int32)) (n := 215) (by decide)).mpr h
    refine XS.icmpYes X.here hx rfl (pc0 := 41) (pc' := 170) rfl (hb hby d3_41) rfl (teq h').1 (by decide) (by decide) ?_
    exact own_b3_170 X hx hZ hw hby hown hret z v (by rw [own_f3_37, if_pos h] at hv; exact hv) hr
  · have h' : ¬ z = (215 : Int32) := fun q => h ((own_eq32 (k := (215 : Int32)) (n := 215) (by decide)).mp q)
    refine XS.icmpNo X.here hx rfl (hb hby d3_41) rfl (feq h').1 ?_
    exact own_b3_44 X hx hZ hw hby hown hret z v (by rw [own_f3_37, if_neg h] at hv; exact hv) hr
set_option maxRecDepth 65536 in
set_option maxHeartbeats 40000000 in
theorem own_b3_30 {p : Program} {l : Launch} {e : Env} {R : Room} {s : State} {m : MethodId} {args : Array Value} {below : List Frame} {meth : Method} {c : Code} {T : State} {locs : List Loc} {cells slots : Nat} {Z : State} {a0 : Array Value}
    (X : Stand p l e R s m args below meth c T locs cells slots) (hx : p.tables.exec = Jvm.exec) (hZ : Z.Warmed39 s.vm) (hw : ∀ d ∈ tables_1, d.before a0 Z = true) (hby : c.code = method_2_code) (hown : s.vm.findClass "com/example/hale_xslt/halexslt/xdm/XmlNamesIsNameStartPinLaw" = some m.cls) (hret : meth.sig.returnType = some .boolean) (z v : Int32) (hv : own_f3_30 z.toInt = v) {fs : List Frame}
    (hr : ∀ (f : JFrame) (acts : List Action), f.method = m → f.locked = none → f.entered = [] → (doReturn e (T.setTop f) acts (some (.int v))).1 = T.setFrames fs) :
    Steps p.tables e below (T.setTop (mkF m 30 #[.val (.int z)] [])) (T.setFrames fs) := by
  refine XS.iloadN X.here hx rfl (hb hby d3_30) rfl ?_
  show Steps p.tables e below (T.setTop (mkF m 31 #[.val (.int z)] [(.int z)])) _
  refine XT.sipushV X.here hx rfl (192 : Int32) (hb hby d3_31) (by decide) ?_
  show Steps p.tables e below (T.setTop (mkF m 34 #[.val (.int z)] [(.int (192 : Int32)), (.int z)])) _
  by_cases h : z.toInt < 192
  · have h' : z < (192 : Int32) := (own_lt32 (k := (192 : Int32)) (n := 192) (by decide)).mpr h
    refine XS.icmpYes X.here hx rfl (pc0 := 34) (pc' := 170) rfl (hb hby d3_34) rfl (tlt h').1 (by decide) (by decide) ?_
    exact own_b3_170 X hx hZ hw hby hown hret z v (by rw [own_f3_30, if_pos h] at hv; exact hv) hr
  · have h' : ¬ z < (192 : Int32) := fun q => h ((own_lt32 (k := (192 : Int32)) (n := 192) (by decide)).mp q)
    refine XS.icmpNo X.here hx rfl (hb hby d3_34) rfl (flt h').1 ?_
    exact own_b3_37 X hx hZ hw hby hown hret z v (by rw [own_f3_30, if_neg h] at hv; exact hv) hr
set_option maxRecDepth 65536 in
set_option maxHeartbeats 40000000 in
theorem own_b3_24 {p : Program} {l : Launch} {e : Env} {R : Room} {s : State} {m : MethodId} {args : Array Value} {below : List Frame} {meth : Method} {c : Code} {T : State} {locs : List Loc} {cells slots : Nat} {Z : State} {a0 : Array Value}
    (X : Stand p l e R s m args below meth c T locs cells slots) (hx : p.tables.exec = Jvm.exec) (hZ : Z.Warmed39 s.vm) (hw : ∀ d ∈ tables_1, d.before a0 Z = true) (hby : c.code = method_2_code) (hown : s.vm.findClass "com/example/hale_xslt/halexslt/xdm/XmlNamesIsNameStartPinLaw" = some m.cls) (hret : meth.sig.returnType = some .boolean) (z v : Int32) (hv : own_f3_24 z.toInt = v) {fs : List Frame}
    (hr : ∀ (f : JFrame) (acts : List Action), f.method = m → f.locked = none → f.entered = [] → (doReturn e (T.setTop f) acts (some (.int v))).1 = T.setFrames fs) :
    Steps p.tables e below (T.setTop (mkF m 24 #[.val (.int z)] [])) (T.setFrames fs) := by
  refine XS.iloadN X.here hx rfl (hb hby d3_24) rfl ?_
  show Steps p.tables e below (T.setTop (mkF m 25 #[.val (.int z)] [(.int z)])) _
  refine XT.bipushV X.here hx rfl (122 : Int32) (hb hby d3_25) (by decide) ?_
  show Steps p.tables e below (T.setTop (mkF m 27 #[.val (.int z)] [(.int (122 : Int32)), (.int z)])) _
  by_cases h : 122 < z.toInt
  · have h' : (122 : Int32) < z := (own_gt32 (k := (122 : Int32)) (n := 122) (by decide)).mpr h
    refine XS.icmpNo X.here hx rfl (hb hby d3_27) rfl (tlt h').2.2.2 ?_
    exact own_b3_30 X hx hZ hw hby hown hret z v (by rw [own_f3_24, if_pos h] at hv; exact hv) hr
  · have h' : ¬ (122 : Int32) < z := fun q => h ((own_gt32 (k := (122 : Int32)) (n := 122) (by decide)).mp q)
    refine XS.icmpYes X.here hx rfl (pc0 := 27) (pc' := 37) rfl (hb hby d3_27) rfl (flt h').2.2.2 (by decide) (by decide) ?_
    exact own_b3_37 X hx hZ hw hby hown hret z v (by rw [own_f3_24, if_neg h] at hv; exact hv) hr
set_option maxRecDepth 65536 in
set_option maxHeartbeats 40000000 in
theorem own_b3_18 {p : Program} {l : Launch} {e : Env} {R : Room} {s : State} {m : MethodId} {args : Array Value} {below : List Frame} {meth : Method} {c : Code} {T : State} {locs : List Loc} {cells slots : Nat} {Z : State} {a0 : Array Value}
    (X : Stand p l e R s m args below meth c T locs cells slots) (hx : p.tables.exec = Jvm.exec) (hZ : Z.Warmed39 s.vm) (hw : ∀ d ∈ tables_1, d.before a0 Z = true) (hby : c.code = method_2_code) (hown : s.vm.findClass "com/example/hale_xslt/halexslt/xdm/XmlNamesIsNameStartPinLaw" = some m.cls) (hret : meth.sig.returnType = some .boolean) (z v : Int32) (hv : own_f3_18 z.toInt = v) {fs : List Frame}
    (hr : ∀ (f : JFrame) (acts : List Action), f.method = m → f.locked = none → f.entered = [] → (doReturn e (T.setTop f) acts (some (.int v))).1 = T.setFrames fs) :
    Steps p.tables e below (T.setTop (mkF m 18 #[.val (.int z)] [])) (T.setFrames fs) := by
  refine XS.iloadN X.here hx rfl (hb hby d3_18) rfl ?_
  show Steps p.tables e below (T.setTop (mkF m 19 #[.val (.int z)] [(.int z)])) _
  refine XT.bipushV X.here hx rfl (95 : Int32) (hb hby d3_19) (by decide) ?_
  show Steps p.tables e below (T.setTop (mkF m 21 #[.val (.int z)] [(.int (95 : Int32)), (.int z)])) _
  by_cases h : z.toInt = 95
  · have h' : z = (95 : Int32) := (own_eq32 (k := (95 : Int32)) (n := 95) (by decide)).mpr h
    refine XS.icmpNo X.here hx rfl (hb hby d3_21) rfl (teq h').2 ?_
    exact own_b3_24 X hx hZ hw hby hown hret z v (by rw [own_f3_18, if_pos h] at hv; exact hv) hr
  · have h' : ¬ z = (95 : Int32) := fun q => h ((own_eq32 (k := (95 : Int32)) (n := 95) (by decide)).mp q)
    refine XS.icmpYes X.here hx rfl (pc0 := 21) (pc' := 170) rfl (hb hby d3_21) rfl (feq h').2 (by decide) (by decide) ?_
    exact own_b3_170 X hx hZ hw hby hown hret z v (by rw [own_f3_18, if_neg h] at hv; exact hv) hr
set_option maxRecDepth 65536 in
set_option maxHeartbeats 40000000 in
theorem own_b3_12 {p : Program} {l : Launch} {e : Env} {R : Room} {s : State} {m : MethodId} {args : Array Value} {below : List Frame} {meth : Method} {c : Code} {T : State} {locs : List Loc} {cells slots : Nat} {Z : State} {a0 : Array Value}
    (X : Stand p l e R s m args below meth c T locs cells slots) (hx : p.tables.exec = Jvm.exec) (hZ : Z.Warmed39 s.vm) (hw : ∀ d ∈ tables_1, d.before a0 Z = true) (hby : c.code = method_2_code) (hown : s.vm.findClass "com/example/hale_xslt/halexslt/xdm/XmlNamesIsNameStartPinLaw" = some m.cls) (hret : meth.sig.returnType = some .boolean) (z v : Int32) (hv : own_f3_12 z.toInt = v) {fs : List Frame}
    (hr : ∀ (f : JFrame) (acts : List Action), f.method = m → f.locked = none → f.entered = [] → (doReturn e (T.setTop f) acts (some (.int v))).1 = T.setFrames fs) :
    Steps p.tables e below (T.setTop (mkF m 12 #[.val (.int z)] [])) (T.setFrames fs) := by
  refine XS.iloadN X.here hx rfl (hb hby d3_12) rfl ?_
  show Steps p.tables e below (T.setTop (mkF m 13 #[.val (.int z)] [(.int z)])) _
  refine XT.bipushV X.here hx rfl (97 : Int32) (hb hby d3_13) (by decide) ?_
  show Steps p.tables e below (T.setTop (mkF m 15 #[.val (.int z)] [(.int (97 : Int32)), (.int z)])) _
  by_cases h : z.toInt < 97
  · have h' : z < (97 : Int32) := (own_lt32 (k := (97 : Int32)) (n := 97) (by decide)).mpr h
    refine XS.icmpNo X.here hx rfl (hb hby d3_15) rfl (tlt h').2.1 ?_
    exact own_b3_18 X hx hZ hw hby hown hret z v (by rw [own_f3_12, if_pos h] at hv; exact hv) hr
  · have h' : ¬ z < (97 : Int32) := fun q => h ((own_lt32 (k := (97 : Int32)) (n := 97) (by decide)).mp q)
    refine XS.icmpYes X.here hx rfl (pc0 := 15) (pc' := 24) rfl (hb hby d3_15) rfl (flt h').2.1 (by decide) (by decide) ?_
    exact own_b3_24 X hx hZ hw hby hown hret z v (by rw [own_f3_12, if_neg h] at hv; exact hv) hr
set_option maxRecDepth 65536 in
set_option maxHeartbeats 40000000 in
theorem own_b3_6 {p : Program} {l : Launch} {e : Env} {R : Room} {s : State} {m : MethodId} {args : Array Value} {below : List Frame} {meth : Method} {c : Code} {T : State} {locs : List Loc} {cells slots : Nat} {Z : State} {a0 : Array Value}
    (X : Stand p l e R s m args below meth c T locs cells slots) (hx : p.tables.exec = Jvm.exec) (hZ : Z.Warmed39 s.vm) (hw : ∀ d ∈ tables_1, d.before a0 Z = true) (hby : c.code = method_2_code) (hown : s.vm.findClass "com/example/hale_xslt/halexslt/xdm/XmlNamesIsNameStartPinLaw" = some m.cls) (hret : meth.sig.returnType = some .boolean) (z v : Int32) (hv : own_f3_6 z.toInt = v) {fs : List Frame}
    (hr : ∀ (f : JFrame) (acts : List Action), f.method = m → f.locked = none → f.entered = [] → (doReturn e (T.setTop f) acts (some (.int v))).1 = T.setFrames fs) :
    Steps p.tables e below (T.setTop (mkF m 6 #[.val (.int z)] [])) (T.setFrames fs) := by
  refine XS.iloadN X.here hx rfl (hb hby d3_6) rfl ?_
  show Steps p.tables e below (T.setTop (mkF m 7 #[.val (.int z)] [(.int z)])) _
  refine XT.bipushV X.here hx rfl (90 : Int32) (hb hby d3_7) (by decide) ?_
  show Steps p.tables e below (T.setTop (mkF m 9 #[.val (.int z)] [(.int (90 : Int32)), (.int z)])) _
  by_cases h : 90 < z.toInt
  · have h' : (90 : Int32) < z := (own_gt32 (k := (90 : Int32)) (n := 90) (by decide)).mpr h
    refine XS.icmpNo X.here hx rfl (hb hby d3_9) rfl (tlt h').2.2.2 ?_
    exact own_b3_12 X hx hZ hw hby hown hret z v (by rw [own_f3_6, if_pos h] at hv; exact hv) hr
  · have h' : ¬ (90 : Int32) < z := fun q => h ((own_gt32 (k := (90 : Int32)) (n := 90) (by decide)).mp q)
    refine XS.icmpYes X.here hx rfl (pc0 := 9) (pc' := 24) rfl (hb hby d3_9) rfl (flt h').2.2.2 (by decide) (by decide) ?_
    exact own_b3_24 X hx hZ hw hby hown hret z v (by rw [own_f3_6, if_neg h] at hv; exact hv) hr
set_option maxRecDepth 65536 in
set_option maxHeartbeats 40000000 in
theorem own_b3_0 {p : Program} {l : Launch} {e : Env} {R : Room} {s : State} {m : MethodId} {args : Array Value} {below : List Frame} {meth : Method} {c : Code} {T : State} {locs : List Loc} {cells slots : Nat} {Z : State} {a0 : Array Value}
    (X : Stand p l e R s m args below meth c T locs cells slots) (hx : p.tables.exec = Jvm.exec) (hZ : Z.Warmed39 s.vm) (hw : ∀ d ∈ tables_1, d.before a0 Z = true) (hby : c.code = method_2_code) (hown : s.vm.findClass "com/example/hale_xslt/halexslt/xdm/XmlNamesIsNameStartPinLaw" = some m.cls) (hret : meth.sig.returnType = some .boolean) (z v : Int32) (hv : own_f3_0 z.toInt = v) {fs : List Frame}
    (hr : ∀ (f : JFrame) (acts : List Action), f.method = m → f.locked = none → f.entered = [] → (doReturn e (T.setTop f) acts (some (.int v))).1 = T.setFrames fs) :
    Steps p.tables e below (T.setTop (mkF m 0 #[.val (.int z)] [])) (T.setFrames fs) := by
  refine XS.iloadN X.here hx rfl (hb hby d3_0) rfl ?_
  show Steps p.tables e below (T.setTop (mkF m 1 #[.val (.int z)] [(.int z)])) _
  refine XT.bipushV X.here hx rfl (65 : Int32) (hb hby d3_1) (by decide) ?_
  show Steps p.tables e below (T.setTop (mkF m 3 #[.val (.int z)] [(.int (65 : Int32)), (.int z)])) _
  by_cases h : z.toInt < 65
  · have h' : z < (65 : Int32) := (own_lt32 (k := (65 : Int32)) (n := 65) (by decide)).mpr h
    refine XS.icmpYes X.here hx rfl (pc0 := 3) (pc' := 170) rfl (hb hby d3_3) rfl (tlt h').1 (by decide) (by decide) ?_
    exact own_b3_170 X hx hZ hw hby hown hret z v (by rw [own_f3_0, if_pos h] at hv; exact hv) hr
  · have h' : ¬ z < (65 : Int32) := fun q => h ((own_lt32 (k := (65 : Int32)) (n := 65) (by decide)).mp q)
    refine XS.icmpNo X.here hx rfl (hb hby d3_3) rfl (flt h').1 ?_
    exact own_b3_6 X hx hZ hw hby hown hret z v (by rw [own_f3_0, if_neg h] at hv; exact hv) hr
theorem pn_3 : plainName "com/example/hale_xslt/halexslt/xdm/XmlNamesIsNameStartPinLaw" = true := by first | (simp [plainName, overriddenIn]; done) | decide +kernel
theorem ef_3 (m : MethodId) (x0 : Int32) : entryFrame m #[(.int x0)] 1 = mkF m 0 #[.val (.int x0)] [] := by first | (simp [entryFrame, mkF, argsToLocals, Value.category]; done) | rfl
def Q3 (p1 : Int32) (h0 : Heap) (n0 : Nat) (v : Option Value) (h : Heap) (L : List Loc) : Prop := v = some (.int (own_f3_0 p1.toInt)) ∧ Fr n0 L ∧ h = h0
set_option maxRecDepth 65536 in
set_option maxHeartbeats 40000000 in
theorem rm3 (l : Launch) (Z : State) (a0 : Array Value) (hw : ∀ d ∈ tables_1, d.before a0 Z = true) (ws : List Jvm.Cond) (p1 : Int32) (h0 : Heap) (n0 : Nat) (Z0 : n0 ≤ h0.size) :
    MetFree l (⟨"com/example/hale_xslt/halexslt/xdm/XmlNamesIsNameStartPinLaw", "excluded", "(I)Z"⟩ : MethodName) (head1 (Jvm.Cond.code (⟨"com/example/hale_xslt/halexslt/xdm/XmlNamesIsNameStartPinLaw", "excluded", "(I)Z"⟩ : MethodName) method_2_code 1 (some .boolean) :: ws) ({ frames := 0, cells := 0, slots := 0, locals := 0 } : Room)) (fun a U => a = #[(.int p1)] ∧ Z.Warmed39 U.vm ∧ U.heap = h0) (fun _ _ _ _ _ => True) (fun _ U o U' => ∃ v L, o = .returned v ∧ Q3 p1 h0 n0 v U'.heap L ∧ FrameEnd U o U' L ({ frames := 0, cells := 0, slots := 0, locals := 0 } : Room).cells ({ frames := 0, cells := 0, slots := 0, locals := 0 } : Room).slots) := by
  refine MetFree.of_bodySF (plainFor_of_name pn_3) hisR ?_
  intro p e s m args below meth c s₁ Bd hml0 hP hK
  obtain ⟨rfl, hZ, hh⟩ := hP
  have hx := Bd.exec
  have hby := Bd.bytes
  have hml : c.maxLocals = 1 := hml0
  have hown : s.vm.findClass "com/example/hale_xslt/halexslt/xdm/XmlNamesIsNameStartPinLaw" = some m.cls := findClass_of_methodNamed Bd.named
  have X0 : Stand p l e ({ frames := 0, cells := 0, slots := 0, locals := 0 } : Room) s m #[(.int p1)] below meth c s₁ [] 0 0 := Stand.of_body Bd
  have e0 : s₁.heap = h0 := by rw [← hh, Bd.state]; rfl
  have N0 := Fr.nil n0
  have pre0 : ∀ t, Steps p.tables e below (s₁.setTop (mkF m 0 #[.val (.int p1)] [])) t → Steps p.tables e below (s₁.setTop (entryFrame m #[(.int p1)] 1)) t := fun t k => castTop (ef_3 m p1) k
  obtain ⟨fs, hr, hrun, hended, hW, hsame⟩ := X0.leave (v := some (.int (own_f3_0 p1.toInt))) (fun h => by rw [Bd.returns] at h; cases h)
  refine ⟨_, _, pre0 _ ?_, hrun, hended, _, _, rfl, ?_, ⟨_, rfl⟩, hW, hsame.mono (by decide) (by decide)⟩
  · exact own_b3_0 X0 hx hZ hw hby hown Bd.returns p1 _ rfl hr
  · show Q3 p1 h0 n0 _ s₁.heap _
    rw [e0]
    exact ⟨rfl, N0, rfl⟩
theorem own_opp (z : Int) : (own_f2_0 z = 1 ∧ own_f3_0 z = 0) ∨ (own_f2_0 z = 0 ∧ own_f3_0 z = 1) := by
  rcases own_o2_0 z with ⟨a, b⟩ | ⟨a, b⟩ <;> rcases own_o3_0 z with ⟨c, d⟩ | ⟨c, d⟩
  · exfalso; clear a c; omega
  · exact Or.inl ⟨a, c⟩
  · exact Or.inr ⟨a, c⟩
  · exfalso; clear a c; omega
theorem own_ix (k : Int32) : ¬ ((k &&& (2147483647 : Int32)) % (32 : Int32)) < 0 ∧ ((k &&& (2147483647 : Int32)) % (32 : Int32)) < (32 : Int32) := by
  have h1 := (c_and k (2147483647 : Int32) (by decide)).1
  have h2 := (c_irem (k &&& (2147483647 : Int32)) (32 : Int32) 32 (by decide)).1 h1
  rw [own_lt32 (k := (0 : Int32)) (n := 0) (by decide), own_lt32 (k := (32 : Int32)) (n := 32) (by decide)]
  omega
theorem d1_0 : decode method_3_code 0 = .ok (.iload_n 0, 1) := by decide +kernel
theorem d1_1 : decode method_3_code 1 = .ok (.invokestatic 14, 3) := by decide +kernel
theorem d1_4 : decode method_3_code 4 = .ok (.iload_n 0, 1) := by decide +kernel
theorem d1_5 : decode method_3_code 5 = .ok (.invokestatic 20, 3) := by decide +kernel
theorem d1_8 : decode method_3_code 8 = .ok (.ifCond .ne 7, 3) := by decide +kernel
theorem d1_11 : decode method_3_code 11 = .ok (.iconst 1, 1) := by decide +kernel
theorem d1_12 : decode method_3_code 12 = .ok (.goto 4, 3) := by decide +kernel
theorem d1_15 : decode method_3_code 15 = .ok (.iconst 0, 1) := by decide +kernel
theorem d1_16 : decode method_3_code 16 = .ok (.if_icmp .ne 7, 3) := by decide +kernel
theorem d1_19 : decode method_3_code 19 = .ok (.iconst 1, 1) := by decide +kernel
theorem d1_20 : decode method_3_code 20 = .ok (.goto 4, 3) := by decide +kernel
theorem d1_23 : decode method_3_code 23 = .ok (.iconst 0, 1) := by decide +kernel
theorem d1_24 : decode method_3_code 24 = .ok (.ireturn, 1) := by decide +kernel
set_option maxRecDepth 65536 in
set_option maxHeartbeats 40000000 in
theorem own_s1_c {p : Program} {l : Launch} {e : Env} {s : State} {m : MethodId} {args : Array Value} {below : List Frame} {meth : Method} {c : Code} {T0 : State} {locs : List Loc} {cells slots : Nat} {Z : State} {a0 : Array Value} {h0 : Heap} {n0 : Nat} (p0 : Int32)
    (X0 : Stand p l e ({ frames := 1, cells := 0, slots := 0, locals := 13 } : Room) s m args below meth c T0 locs cells slots) (hx : p.tables.exec = Jvm.exec) (hZ : Z.Warmed39 s.vm) (hw : ∀ d ∈ tables_1, d.before a0 Z = true) (hby : c.code = method_3_code) (hml : c.maxLocals = 1) (hown : s.vm.findClass "com/example/hale_xslt/halexslt/xdm/XmlNamesIsNameStartPinLaw" = some m.cls) (e0 : T0.heap = h0) (Z0 : n0 ≤ h0.size) (N0 : Fr n0 locs) (hcl : cells ≤ ({ frames := 1, cells := 0, slots := 0, locals := 13 } : Room).cells) (hsl : slots ≤ ({ frames := 1, cells := 0, slots := 0, locals := 13 } : Room).slots) :
    ∃ (T' : State) (h' : Heap) (locs' : List Loc), Stand p l e ({ frames := 1, cells := 0, slots := 0, locals := 13 } : Room) s m args below meth c T' locs' cells slots ∧ T'.heap = h' ∧ n0 ≤ h'.size ∧ Fr n0 locs' ∧ h' = h0 ∧
      ∀ target, Steps p.tables e below (T'.setTop (mkF m 8 #[.val (.int p0)] [(.int (own_f3_0 (p0).toInt)), (.int (own_f2_0 (p0).toInt))])) target → Steps p.tables e below (T0.setTop (mkF m 0 #[.val (.int p0)] [])) target := by
  obtain ⟨_, _, ⟨T1, L1, k1, n1⟩, -, X1, ⟨Lc1, hQ1, l1, y1, z1⟩, st1⟩ := Jvm.LawKit.callS X0 hx (y := (⟨"com/example/hale_xslt/halexslt/xdm/XmlNames", "isNameStart", "(I)Z"⟩ : MethodName)) hown (mvT hZ (hw _ (List.mem_of_getElem? (i := 14) rfl))) (mvT hZ (hw _ (List.mem_of_getElem? (i := 15) rfl))) (mvT hZ (hw _ (List.mem_of_getElem? (i := 16) rfl))) (mvT hZ (hw _ (List.mem_of_getElem? (i := 17) rfl))) (by decide) (backOf (W := 0) (rm2 l Z a0 hw [] (p0) h0 n0 Z0) hZ (hw _ (List.mem_of_getElem? (i := 17) rfl)) (hw _ (List.mem_of_getElem? (i := 16) rfl)) (by decide) (by decide)) (g := (mkF m 1 #[.val (.int p0)] [(.int p0)])) rfl (by rw [hml]; rfl) (argsL := [(.int (p0))]) (rest := []) (lenOf own_pdI rfl) rfl (by show 2 * 0 + _ ≤ _; exact Nat.le_of_eq rfl) (hb hby d1_1) (fun _ _ => ⟨rfl, e0, hcl, hsl⟩)
  dsimp only [Pt.U, Pt.locs, Pt.cells, Pt.slots] at X1 l1 y1 z1 st1 hQ1
  subst l1 y1 z1
  obtain ⟨rfl, M1, e1⟩ := hQ1
  have N1 := Fr.app N0 M1
  obtain ⟨_, _, ⟨T2, L2, k2, n2⟩, -, X2, ⟨Lc2, hQ2, l2, y2, z2⟩, st2⟩ := Jvm.LawKit.callS X1 hx (y := (⟨"com/example/hale_xslt/halexslt/xdm/XmlNamesIsNameStartPinLaw", "excluded", "(I)Z"⟩ : MethodName)) hown (mvT hZ (hw _ (List.mem_of_getElem? (i := 21) rfl))) (mvT hZ (hw _ (List.mem_of_getElem? (i := 22) rfl))) (mvT hZ (hw _ (List.mem_of_getElem? (i := 12) rfl))) (mvT hZ (hw _ (List.mem_of_getElem? (i := 23) rfl))) (by decide) (backOf (W := 1) (rm3 l Z a0 hw [] (p0) h0 n0 Z0) hZ (hw _ (List.mem_of_getElem? (i := 23) rfl)) (hw _ (List.mem_of_getElem? (i := 12) rfl)) (by decide) (by decide)) (g := (mkF m 5 #[.val (.int p0)] [(.int p0), (.int (own_f2_0 (p0).toInt))])) rfl (by rw [hml]; rfl) (argsL := [(.int (p0))]) (rest := [(.int (own_f2_0 (p0).toInt))]) (lenOf own_pdI rfl) rfl (by show 2 * 0 + _ ≤ _; exact Nat.le_of_eq rfl) (hb hby d1_5) (fun _ _ => ⟨rfl, e1, hcl, hsl⟩)
  dsimp only [Pt.U, Pt.locs, Pt.cells, Pt.slots] at X2 l2 y2 z2 st2 hQ2
  subst l2 y2 z2
  obtain ⟨rfl, M2, e2⟩ := hQ2
  have N2 := Fr.app N1 M2
  refine ⟨T2, _, _, X2, e2, Z0, N2, rfl, fun target kt => ?_⟩
  show Steps p.tables e below (T0.setTop (mkF m 0 #[.val (.int p0)] [])) _
  refine XS.iloadN X0.here hx rfl (hb hby d1_0) rfl ?_
  show Steps p.tables e below (T0.setTop (mkF m 1 #[.val (.int p0)] [(.int p0)])) _
  refine st1 _ ?_
  show Steps p.tables e below (T1.setTop (mkF m 4 #[.val (.int p0)] [(.int (own_f2_0 (p0).toInt))])) _
  refine XS.iloadN X1.here hx rfl (hb hby d1_4) rfl ?_
  show Steps p.tables e below (T1.setTop (mkF m 5 #[.val (.int p0)] [(.int p0), (.int (own_f2_0 (p0).toInt))])) _
  refine st2 _ ?_
  exact kt
set_option maxRecDepth 65536 in
set_option maxHeartbeats 40000000 in
theorem own_j1_n {p : Program} {l : Launch} {e : Env} {R : Room} {s : State} {m : MethodId} {args : Array Value} {below : List Frame} {meth : Method} {c : Code} {T0 : State} {locs : List Loc} {cells slots : Nat} (v0 : Slot) (a b : Int32)
    (X0 : Stand p l e R s m args below meth c T0 locs cells slots) (hx : p.tables.exec = Jvm.exec) (hby : c.code = method_3_code) (h : (a = 1 ∧ b = 0) ∨ (a = 0 ∧ b = 1)) :
    ∀ target, Steps p.tables e below (T0.setTop (mkF m 24 #[v0] [(.int (1 : Int32))])) target → Steps p.tables e below (T0.setTop (mkF m 8 #[v0] [(.int b), (.int a)])) target := by
  intro target kt
  rcases h with ⟨rfl, rfl⟩ | ⟨rfl, rfl⟩
  · show Steps p.tables e below (T0.setTop (mkF m 8 #[v0] [(.int (0 : Int32)), (.int (1 : Int32))])) _
    refine XS.ifNo X0.here hx rfl (hb hby d1_8) rfl ((if0 _ _).trans (teq rfl).2) ?_
    show Steps p.tables e below (T0.setTop (mkF m 11 #[v0] [(.int (1 : Int32))])) _
    refine XT.iconstV X0.here hx rfl (1 : Int32) (hb hby d1_11) (by decide) ?_
    show Steps p.tables e below (T0.setTop (mkF m 12 #[v0] [(.int (1 : Int32)), (.int (1 : Int32))])) _
    refine XS.goto X0.here hx rfl (pc0 := 12) (pc' := 16) rfl (hb hby d1_12) (by decide) (by decide) ?_
    show Steps p.tables e below (T0.setTop (mkF m 16 #[v0] [(.int (1 : Int32)), (.int (1 : Int32))])) _
    refine XS.icmpNo X0.here hx rfl (hb hby d1_16) rfl (teq rfl).2 ?_
    show Steps p.tables e below (T0.setTop (mkF m 19 #[v0] [])) _
    refine XT.iconstV X0.here hx rfl (1 : Int32) (hb hby d1_19) (by decide) ?_
    show Steps p.tables e below (T0.setTop (mkF m 20 #[v0] [(.int (1 : Int32))])) _
    refine XS.goto X0.here hx rfl (pc0 := 20) (pc' := 24) rfl (hb hby d1_20) (by decide) (by decide) ?_
    exact kt
  · show Steps p.tables e below (T0.setTop (mkF m 8 #[v0] [(.int (1 : Int32)), (.int (0 : Int32))])) _
    refine XS.ifYes X0.here hx rfl (pc0 := 8) (pc' := 15) rfl (hb hby d1_8) rfl ((if0 _ _).trans (feq own_n10).2) (by decide) (by decide) ?_
    show Steps p.tables e below (T0.setTop (mkF m 15 #[v0] [(.int (0 : Int32))])) _
    refine XT.iconstV X0.here hx rfl (0 : Int32) (hb hby d1_15) (by decide) ?_
    show Steps p.tables e below (T0.setTop (mkF m 16 #[v0] [(.int (0 : Int32)), (.int (0 : Int32))])) _
    refine XS.icmpNo X0.here hx rfl (hb hby d1_16) rfl (teq rfl).2 ?_
    show Steps p.tables e below (T0.setTop (mkF m 19 #[v0] [])) _
    refine XT.iconstV X0.here hx rfl (1 : Int32) (hb hby d1_19) (by decide) ?_
    show Steps p.tables e below (T0.setTop (mkF m 20 #[v0] [(.int (1 : Int32))])) _
    refine XS.goto X0.here hx rfl (pc0 := 20) (pc' := 24) rfl (hb hby d1_20) (by decide) (by decide) ?_
    exact kt
theorem pn_1 : plainName "com/example/hale_xslt/halexslt/xdm/XmlNamesIsNameStartPinLaw" = true := by first | (simp [plainName, overriddenIn]; done) | decide +kernel
theorem ef_1 (m : MethodId) (x0 : Int32) : entryFrame m #[(.int x0)] 1 = mkF m 0 #[.val (.int x0)] [] := by first | (simp [entryFrame, mkF, argsToLocals, Value.category]; done) | rfl
def Q1 (h0 : Heap) (n0 : Nat) (v : Option Value) (h : Heap) (L : List Loc) : Prop := v = some (.int (1 : Int32)) ∧ Fr n0 L ∧ h = h0
set_option maxRecDepth 65536 in
set_option maxHeartbeats 40000000 in
theorem rm1 (l : Launch) (Z : State) (a0 : Array Value) (hw : ∀ d ∈ tables_1, d.before a0 Z = true) (ws : List Jvm.Cond) (p1 : Int32) (h0 : Heap) (n0 : Nat) (Z0 : n0 ≤ h0.size) :
    MetFree l (⟨"com/example/hale_xslt/halexslt/xdm/XmlNamesIsNameStartPinLaw", "agrees", "(I)Z"⟩ : MethodName) (head1 (Jvm.Cond.code (⟨"com/example/hale_xslt/halexslt/xdm/XmlNamesIsNameStartPinLaw", "agrees", "(I)Z"⟩ : MethodName) method_3_code 1 (some .boolean) :: ws) ({ frames := 1, cells := 0, slots := 0, locals := 13 } : Room)) (fun a U => a = #[(.int p1)] ∧ Z.Warmed39 U.vm ∧ U.heap = h0) (fun _ _ _ _ _ => True) (fun _ U o U' => ∃ v L, o = .returned v ∧ Q1 h0 n0 v U'.heap L ∧ FrameEnd U o U' L ({ frames := 1, cells := 0, slots := 0, locals := 13 } : Room).cells ({ frames := 1, cells := 0, slots := 0, locals := 13 } : Room).slots) := by
  refine MetFree.of_bodySF (plainFor_of_name pn_1) hisR ?_
  intro p e s m args below meth c s₁ Bd hml0 hP hK
  obtain ⟨rfl, hZ, hh⟩ := hP
  have hx := Bd.exec
  have hby := Bd.bytes
  have hml : c.maxLocals = 1 := hml0
  have hown : s.vm.findClass "com/example/hale_xslt/halexslt/xdm/XmlNamesIsNameStartPinLaw" = some m.cls := findClass_of_methodNamed Bd.named
  have X0 : Stand p l e ({ frames := 1, cells := 0, slots := 0, locals := 13 } : Room) s m #[(.int p1)] below meth c s₁ [] 0 0 := Stand.of_body Bd
  have e0 : s₁.heap = h0 := by rw [← hh, Bd.state]; rfl
  have N0 := Fr.nil n0
  have pre0 : ∀ t, Steps p.tables e below (s₁.setTop (mkF m 0 #[.val (.int p1)] [])) t → Steps p.tables e below (s₁.setTop (entryFrame m #[(.int p1)] 1)) t := fun t k => castTop (ef_1 m p1) k
  obtain ⟨T1, h1, L1, X1, e1, Z1, N1, hh1, st1⟩ := own_s1_c p1 X0 hx hZ hw hby hml hown e0 Z0 N0 (by decide) (by decide)
  have st2 := own_j1_n (.val (.int p1)) _ _ X1 hx hby (own_opp p1.toInt)
  obtain ⟨fs, hr, hrun, hended, hW, hsame⟩ := X1.leave (v := some (.int (1 : Int32))) (fun h => by rw [Bd.returns] at h; cases h)
  refine ⟨_, _, pre0 _ ?_, hrun, hended, _, _, rfl, ?_, ⟨_, rfl⟩, hW, hsame.mono (by decide) (by decide)⟩
  · refine st1 _ ?_
    refine st2 _ ?_
    exact retN X1 hx (t := .boolean) Bd.returns (by simp) (hb hby d1_24) hr
  · show Q1 h0 n0 _ T1.heap _
    rw [e1, hh1]
    exact ⟨rfl, N1, rfl⟩
set_option maxRecDepth 65536 in
set_option maxHeartbeats 40000000 in
theorem own_s0_mk {p : Program} {l : Launch} {e : Env} {s : State} {m : MethodId} {args : Array Value} {below : List Frame} {meth : Method} {c : Code} {T0 : State} {locs : List Loc} {Z : State} {a0 : Array Value} {h0 : Heap} {n0 : Nat} (p0 p1 p2 : Int32)
    (X0 : Stand p l e room_1 s m args below meth c T0 locs 0 0) (hx : p.tables.exec = Jvm.exec) (hZ : Z.Warmed39 s.vm) (hw : ∀ d ∈ tables_1, d.before a0 Z = true) (hby : c.code = code) (hml : c.maxLocals = 7) (hown : s.vm.findClass "com/example/hale_xslt/halexslt/xdm/XmlNamesIsNameStartPinLaw" = some m.cls) (e0 : T0.heap = h0) (Z0 : n0 ≤ h0.size) (N0 : Fr n0 locs) :
    ∃ (T' : State) (h' : Heap) (locs' : List Loc) (a1 : Addr) (cl : Cell), Stand p l e room_1 s m args below meth c T' locs' 1 32 ∧ T'.heap = h' ∧ n0 ≤ h'.size ∧ Fr n0 locs' ∧ own_IA Z h' a1 (32 : Int32) cl ∧
      ∀ target, Steps p.tables e below (T'.setTop (mkF m 206 #[.val (.int p0), .val (.int p1), .val (.int p2), .unset, .unset, .unset, .unset] [(.ref a1)])) target → Steps p.tables e below (T0.setTop (mkF m 0 #[.val (.int p0), .val (.int p1), .val (.int p2), .unset, .unset, .unset, .unset] [])) target := by
  obtain ⟨T1, h1, k1, X1, e1, E1, A1, st1⟩ := newP X0 hx hZ (hw _ (List.mem_of_getElem? (i := 0) rfl)) e0 (g := (mkF m 2 #[.val (.int p0), .val (.int p1), .val (.int p2), .unset, .unset, .unset, .unset] [(.int (32 : Int32))])) rfl (hb hby at_2) rfl (by decide : ¬ ((32 : Int32) < (0 : Int32))) (cap := 32) (by decide : ((32 : Int32)).toNatClampNeg ≤ 32) (by decide) (by decide) (by decide)
  obtain ⟨a1, g1⟩ : ∃ z, z = h0.size := ⟨_, rfl⟩
  rw [← g1] at A1 st1
  have q1 : n0 ≤ a1 := Nat.le_trans Z0 (Nat.le_of_eq g1.symm)
  have Z1 : n0 ≤ h1.size := Nat.le_trans Z0 E1.1
  have I1 := own_IA_new A1
  obtain ⟨T2, h2, X2, e2, W2, st2⟩ := stI X1 hx hZ e1 I1.1 (j := (0 : Int32)) (inb_of I1.2.1 ⟨(by decide : ¬ ((0 : Int32) < (0 : Int32))), (by decide : (0 : Int32) < (32 : Int32))⟩) (g := (mkF m 8 #[.val (.int p0), .val (.int p1), .val (.int p2), .unset, .unset, .unset, .unset] [(.int (65 : Int32)), (.int (0 : Int32)), (.ref a1), (.ref a1)])) rfl rfl (hb hby at_8)
  have N2 := Fr.snoc X2 N0 q1
  have Z2 : n0 ≤ h2.size := Nat.le_trans Z1 (Keep.of_wr W2).1
  have I2 := own_IA_set I1 W2
  obtain ⟨T3, h3, X3, e3, W3, st3⟩ := stI X2 hx hZ e2 I2.1 (j := (1 : Int32)) (inb_of I2.2.1 ⟨(by decide : ¬ ((1 : Int32) < (0 : Int32))), (by decide : (1 : Int32) < (32 : Int32))⟩) (g := (mkF m 13 #[.val (.int p0), .val (.int p1), .val (.int p2), .unset, .unset, .unset, .unset] [(.int (91 : Int32)), (.int (1 : Int32)), (.ref a1), (.ref a1)])) rfl rfl (hb hby at_13)
  have N3 := Fr.snoc X3 N2 q1
  have Z3 : n0 ≤ h3.size := Nat.le_trans Z2 (Keep.of_wr W3).1
  have I3 := own_IA_set I2 W3
  obtain ⟨T4, h4, X4, e4, W4, st4⟩ := stI X3 hx hZ e3 I3.1 (j := (2 : Int32)) (inb_of I3.2.1 ⟨(by decide : ¬ ((2 : Int32) < (0 : Int32))), (by decide : (2 : Int32) < (32 : Int32))⟩) (g := (mkF m 18 #[.val (.int p0), .val (.int p1), .val (.int p2), .unset, .unset, .unset, .unset] [(.int (95 : Int32)), (.int (2 : Int32)), (.ref a1), (.ref a1)])) rfl rfl (hb hby at_18)
  have N4 := Fr.snoc X4 N3 q1
  have Z4 : n0 ≤ h4.size := Nat.le_trans Z3 (Keep.of_wr W4).1
  have I4 := own_IA_set I3 W4
  obtain ⟨T5, h5, X5, e5, W5, st5⟩ := stI X4 hx hZ e4 I4.1 (j := (3 : Int32)) (inb_of I4.2.1 ⟨(by decide : ¬ ((3 : Int32) < (0 : Int32))), (by decide : (3 : Int32) < (32 : Int32))⟩) (g := (mkF m 23 #[.val (.int p0), .val (.int p1), .val (.int p2), .unset, .unset, .unset, .unset] [(.int (96 : Int32)), (.int (3 : Int32)), (.ref a1), (.ref a1)])) rfl rfl (hb hby at_23)
  have N5 := Fr.snoc X5 N4 q1
  have Z5 : n0 ≤ h5.size := Nat.le_trans Z4 (Keep.of_wr W5).1
  have I5 := own_IA_set I4 W5
  obtain ⟨T6, h6, X6, e6, W6, st6⟩ := stI X5 hx hZ e5 I5.1 (j := (4 : Int32)) (inb_of I5.2.1 ⟨(by decide : ¬ ((4 : Int32) < (0 : Int32))), (by decide : (4 : Int32) < (32 : Int32))⟩) (g := (mkF m 28 #[.val (.int p0), .val (.int p1), .val (.int p2), .unset, .unset, .unset, .unset] [(.int (97 : Int32)), (.int (4 : Int32)), (.ref a1), (.ref a1)])) rfl rfl (hb hby at_28)
  have N6 := Fr.snoc X6 N5 q1
  have Z6 : n0 ≤ h6.size := Nat.le_trans Z5 (Keep.of_wr W6).1
  have I6 := own_IA_set I5 W6
  obtain ⟨T7, h7, X7, e7, W7, st7⟩ := stI X6 hx hZ e6 I6.1 (j := (5 : Int32)) (inb_of I6.2.1 ⟨(by decide : ¬ ((5 : Int32) < (0 : Int32))), (by decide : (5 : Int32) < (32 : Int32))⟩) (g := (mkF m 33 #[.val (.int p0), .val (.int p1), .val (.int p2), .unset, .unset, .unset, .unset] [(.int (123 : Int32)), (.int (5 : Int32)), (.ref a1), (.ref a1)])) rfl rfl (hb hby at_33)
  have N7 := Fr.snoc X7 N6 q1
  have Z7 : n0 ≤ h7.size := Nat.le_trans Z6 (Keep.of_wr W7).1
  have I7 := own_IA_set I6 W7
  obtain ⟨T8, h8, X8, e8, W8, st8⟩ := stI X7 hx hZ e7 I7.1 (j := (6 : Int32)) (inb_of I7.2.1 ⟨(by decide : ¬ ((6 : Int32) < (0 : Int32))), (by decide : (6 : Int32) < (32 : Int32))⟩) (g := (mkF m 40 #[.val (.int p0), .val (.int p1), .val (.int p2), .unset, .unset, .unset, .unset] [(.int (192 : Int32)), (.int (6 : Int32)), (.ref a1), (.ref a1)])) rfl rfl (hb hby at_40)
  have N8 := Fr.snoc X8 N7 q1
  have Z8 : n0 ≤ h8.size := Nat.le_trans Z7 (Keep.of_wr W8).1
  have I8 := own_IA_set I7 W8
  obtain ⟨T9, h9, X9, e9, W9, st9⟩ := stI X8 hx hZ e8 I8.1 (j := (7 : Int32)) (inb_of I8.2.1 ⟨(by decide : ¬ ((7 : Int32) < (0 : Int32))), (by decide : (7 : Int32) < (32 : Int32))⟩) (g := (mkF m 47 #[.val (.int p0), .val (.int p1), .val (.int p2), .unset, .unset, .unset, .unset] [(.int (215 : Int32)), (.int (7 : Int32)), (.ref a1), (.ref a1)])) rfl rfl (hb hby at_47)
  have N9 := Fr.snoc X9 N8 q1
  have Z9 : n0 ≤ h9.size := Nat.le_trans Z8 (Keep.of_wr W9).1
  have I9 := own_IA_set I8 W9
  obtain ⟨T10, h10, X10, e10, W10, st10⟩ := stI X9 hx hZ e9 I9.1 (j := (8 : Int32)) (inb_of I9.2.1 ⟨(by decide : ¬ ((8 : Int32) < (0 : Int32))), (by decide : (8 : Int32) < (32 : Int32))⟩) (g := (mkF m 54 #[.val (.int p0), .val (.int p1), .val (.int p2), .unset, .unset, .unset, .unset] [(.int (216 : Int32)), (.int (8 : Int32)), (.ref a1), (.ref a1)])) rfl rfl (hb hby at_54)
  have N10 := Fr.snoc X10 N9 q1
  have Z10 : n0 ≤ h10.size := Nat.le_trans Z9 (Keep.of_wr W10).1
  have I10 := own_IA_set I9 W10
  obtain ⟨T11, h11, X11, e11, W11, st11⟩ := stI X10 hx hZ e10 I10.1 (j := (9 : Int32)) (inb_of I10.2.1 ⟨(by decide : ¬ ((9 : Int32) < (0 : Int32))), (by decide : (9 : Int32) < (32 : Int32))⟩) (g := (mkF m 61 #[.val (.int p0), .val (.int p1), .val (.int p2), .unset, .unset, .unset, .unset] [(.int (247 : Int32)), (.int (9 : Int32)), (.ref a1), (.ref a1)])) rfl rfl (hb hby at_61)
  have N11 := Fr.snoc X11 N10 q1
  have Z11 : n0 ≤ h11.size := Nat.le_trans Z10 (Keep.of_wr W11).1
  have I11 := own_IA_set I10 W11
  obtain ⟨T12, h12, X12, e12, W12, st12⟩ := stI X11 hx hZ e11 I11.1 (j := (10 : Int32)) (inb_of I11.2.1 ⟨(by decide : ¬ ((10 : Int32) < (0 : Int32))), (by decide : (10 : Int32) < (32 : Int32))⟩) (g := (mkF m 68 #[.val (.int p0), .val (.int p1), .val (.int p2), .unset, .unset, .unset, .unset] [(.int (248 : Int32)), (.int (10 : Int32)), (.ref a1), (.ref a1)])) rfl rfl (hb hby at_68)
  have N12 := Fr.snoc X12 N11 q1
  have Z12 : n0 ≤ h12.size := Nat.le_trans Z11 (Keep.of_wr W12).1
  have I12 := own_IA_set I11 W12
  obtain ⟨T13, h13, X13, e13, W13, st13⟩ := stI X12 hx hZ e12 I12.1 (j := (11 : Int32)) (inb_of I12.2.1 ⟨(by decide : ¬ ((11 : Int32) < (0 : Int32))), (by decide : (11 : Int32) < (32 : Int32))⟩) (g := (mkF m 75 #[.val (.int p0), .val (.int p1), .val (.int p2), .unset, .unset, .unset, .unset] [(.int (768 : Int32)), (.int (11 : Int32)), (.ref a1), (.ref a1)])) rfl rfl (hb hby at_75)
  have N13 := Fr.snoc X13 N12 q1
  have Z13 : n0 ≤ h13.size := Nat.le_trans Z12 (Keep.of_wr W13).1
  have I13 := own_IA_set I12 W13
  obtain ⟨T14, h14, X14, e14, W14, st14⟩ := stI X13 hx hZ e13 I13.1 (j := (12 : Int32)) (inb_of I13.2.1 ⟨(by decide : ¬ ((12 : Int32) < (0 : Int32))), (by decide : (12 : Int32) < (32 : Int32))⟩) (g := (mkF m 82 #[.val (.int p0), .val (.int p1), .val (.int p2), .unset, .unset, .unset, .unset] [(.int (880 : Int32)), (.int (12 : Int32)), (.ref a1), (.ref a1)])) rfl rfl (hb hby at_82)
  have N14 := Fr.snoc X14 N13 q1
  have Z14 : n0 ≤ h14.size := Nat.le_trans Z13 (Keep.of_wr W14).1
  have I14 := own_IA_set I13 W14
  obtain ⟨T15, h15, X15, e15, W15, st15⟩ := stI X14 hx hZ e14 I14.1 (j := (13 : Int32)) (inb_of I14.2.1 ⟨(by decide : ¬ ((13 : Int32) < (0 : Int32))), (by decide : (13 : Int32) < (32 : Int32))⟩) (g := (mkF m 89 #[.val (.int p0), .val (.int p1), .val (.int p2), .unset, .unset, .unset, .unset] [(.int (894 : Int32)), (.int (13 : Int32)), (.ref a1), (.ref a1)])) rfl rfl (hb hby at_89)
  have N15 := Fr.snoc X15 N14 q1
  have Z15 : n0 ≤ h15.size := Nat.le_trans Z14 (Keep.of_wr W15).1
  have I15 := own_IA_set I14 W15
  obtain ⟨T16, h16, X16, e16, W16, st16⟩ := stI X15 hx hZ e15 I15.1 (j := (14 : Int32)) (inb_of I15.2.1 ⟨(by decide : ¬ ((14 : Int32) < (0 : Int32))), (by decide : (14 : Int32) < (32 : Int32))⟩) (g := (mkF m 96 #[.val (.int p0), .val (.int p1), .val (.int p2), .unset, .unset, .unset, .unset] [(.int (895 : Int32)), (.int (14 : Int32)), (.ref a1), (.ref a1)])) rfl rfl (hb hby at_96)
  have N16 := Fr.snoc X16 N15 q1
  have Z16 : n0 ≤ h16.size := Nat.le_trans Z15 (Keep.of_wr W16).1
  have I16 := own_IA_set I15 W16
  obtain ⟨T17, h17, X17, e17, W17, st17⟩ := stI X16 hx hZ e16 I16.1 (j := (15 : Int32)) (inb_of I16.2.1 ⟨(by decide : ¬ ((15 : Int32) < (0 : Int32))), (by decide : (15 : Int32) < (32 : Int32))⟩) (g := (mkF m 103 #[.val (.int p0), .val (.int p1), .val (.int p2), .unset, .unset, .unset, .unset] [(.int (8192 : Int32)), (.int (15 : Int32)), (.ref a1), (.ref a1)])) rfl rfl (hb hby at_103)
  have N17 := Fr.snoc X17 N16 q1
  have Z17 : n0 ≤ h17.size := Nat.le_trans Z16 (Keep.of_wr W17).1
  have I17 := own_IA_set I16 W17
  obtain ⟨T18, h18, X18, e18, W18, st18⟩ := stI X17 hx hZ e17 I17.1 (j := (16 : Int32)) (inb_of I17.2.1 ⟨(by decide : ¬ ((16 : Int32) < (0 : Int32))), (by decide : (16 : Int32) < (32 : Int32))⟩) (g := (mkF m 110 #[.val (.int p0), .val (.int p1), .val (.int p2), .unset, .unset, .unset, .unset] [(.int (8204 : Int32)), (.int (16 : Int32)), (.ref a1), (.ref a1)])) rfl rfl (hb hby at_110)
  have N18 := Fr.snoc X18 N17 q1
  have Z18 : n0 ≤ h18.size := Nat.le_trans Z17 (Keep.of_wr W18).1
  have I18 := own_IA_set I17 W18
  obtain ⟨T19, h19, X19, e19, W19, st19⟩ := stI X18 hx hZ e18 I18.1 (j := (17 : Int32)) (inb_of I18.2.1 ⟨(by decide : ¬ ((17 : Int32) < (0 : Int32))), (by decide : (17 : Int32) < (32 : Int32))⟩) (g := (mkF m 117 #[.val (.int p0), .val (.int p1), .val (.int p2), .unset, .unset, .unset, .unset] [(.int (8206 : Int32)), (.int (17 : Int32)), (.ref a1), (.ref a1)])) rfl rfl (hb hby at_117)
  have N19 := Fr.snoc X19 N18 q1
  have Z19 : n0 ≤ h19.size := Nat.le_trans Z18 (Keep.of_wr W19).1
  have I19 := own_IA_set I18 W19
  obtain ⟨T20, h20, X20, e20, W20, st20⟩ := stI X19 hx hZ e19 I19.1 (j := (18 : Int32)) (inb_of I19.2.1 ⟨(by decide : ¬ ((18 : Int32) < (0 : Int32))), (by decide : (18 : Int32) < (32 : Int32))⟩) (g := (mkF m 124 #[.val (.int p0), .val (.int p1), .val (.int p2), .unset, .unset, .unset, .unset] [(.int (8304 : Int32)), (.int (18 : Int32)), (.ref a1), (.ref a1)])) rfl rfl (hb hby at_124)
  have N20 := Fr.snoc X20 N19 q1
  have Z20 : n0 ≤ h20.size := Nat.le_trans Z19 (Keep.of_wr W20).1
  have I20 := own_IA_set I19 W20
  obtain ⟨T21, h21, X21, e21, W21, st21⟩ := stI X20 hx hZ e20 I20.1 (j := (19 : Int32)) (inb_of I20.2.1 ⟨(by decide : ¬ ((19 : Int32) < (0 : Int32))), (by decide : (19 : Int32) < (32 : Int32))⟩) (g := (mkF m 131 #[.val (.int p0), .val (.int p1), .val (.int p2), .unset, .unset, .unset, .unset] [(.int (8592 : Int32)), (.int (19 : Int32)), (.ref a1), (.ref a1)])) rfl rfl (hb hby at_131)
  have N21 := Fr.snoc X21 N20 q1
  have Z21 : n0 ≤ h21.size := Nat.le_trans Z20 (Keep.of_wr W21).1
  have I21 := own_IA_set I20 W21
  obtain ⟨T22, h22, X22, e22, W22, st22⟩ := stI X21 hx hZ e21 I21.1 (j := (20 : Int32)) (inb_of I21.2.1 ⟨(by decide : ¬ ((20 : Int32) < (0 : Int32))), (by decide : (20 : Int32) < (32 : Int32))⟩) (g := (mkF m 138 #[.val (.int p0), .val (.int p1), .val (.int p2), .unset, .unset, .unset, .unset] [(.int (11264 : Int32)), (.int (20 : Int32)), (.ref a1), (.ref a1)])) rfl rfl (hb hby at_138)
  have N22 := Fr.snoc X22 N21 q1
  have Z22 : n0 ≤ h22.size := Nat.le_trans Z21 (Keep.of_wr W22).1
  have I22 := own_IA_set I21 W22
  obtain ⟨T23, h23, X23, e23, W23, st23⟩ := stI X22 hx hZ e22 I22.1 (j := (21 : Int32)) (inb_of I22.2.1 ⟨(by decide : ¬ ((21 : Int32) < (0 : Int32))), (by decide : (21 : Int32) < (32 : Int32))⟩) (g := (mkF m 145 #[.val (.int p0), .val (.int p1), .val (.int p2), .unset, .unset, .unset, .unset] [(.int (12272 : Int32)), (.int (21 : Int32)), (.ref a1), (.ref a1)])) rfl rfl (hb hby at_145)
  have N23 := Fr.snoc X23 N22 q1
  have Z23 : n0 ≤ h23.size := Nat.le_trans Z22 (Keep.of_wr W23).1
  have I23 := own_IA_set I22 W23
  obtain ⟨T24, h24, X24, e24, W24, st24⟩ := stI X23 hx hZ e23 I23.1 (j := (22 : Int32)) (inb_of I23.2.1 ⟨(by decide : ¬ ((22 : Int32) < (0 : Int32))), (by decide : (22 : Int32) < (32 : Int32))⟩) (g := (mkF m 152 #[.val (.int p0), .val (.int p1), .val (.int p2), .unset, .unset, .unset, .unset] [(.int (12289 : Int32)), (.int (22 : Int32)), (.ref a1), (.ref a1)])) rfl rfl (hb hby at_152)
  have N24 := Fr.snoc X24 N23 q1
  have Z24 : n0 ≤ h24.size := Nat.le_trans Z23 (Keep.of_wr W24).1
  have I24 := own_IA_set I23 W24
  obtain ⟨T25, h25, X25, e25, W25, st25⟩ := stI X24 hx hZ e24 I24.1 (j := (23 : Int32)) (inb_of I24.2.1 ⟨(by decide : ¬ ((23 : Int32) < (0 : Int32))), (by decide : (23 : Int32) < (32 : Int32))⟩) (g := (mkF m 158 #[.val (.int p0), .val (.int p1), .val (.int p2), .unset, .unset, .unset, .unset] [(.int (55296 : Int32)), (.int (23 : Int32)), (.ref a1), (.ref a1)])) rfl rfl (hb hby at_158)
  have N25 := Fr.snoc X25 N24 q1
  have Z25 : n0 ≤ h25.size := Nat.le_trans Z24 (Keep.of_wr W25).1
  have I25 := own_IA_set I24 W25
  obtain ⟨T26, h26, X26, e26, W26, st26⟩ := stI X25 hx hZ e25 I25.1 (j := (24 : Int32)) (inb_of I25.2.1 ⟨(by decide : ¬ ((24 : Int32) < (0 : Int32))), (by decide : (24 : Int32) < (32 : Int32))⟩) (g := (mkF m 164 #[.val (.int p0), .val (.int p1), .val (.int p2), .unset, .unset, .unset, .unset] [(.int (63744 : Int32)), (.int (24 : Int32)), (.ref a1), (.ref a1)])) rfl rfl (hb hby at_164)
  have N26 := Fr.snoc X26 N25 q1
  have Z26 : n0 ≤ h26.size := Nat.le_trans Z25 (Keep.of_wr W26).1
  have I26 := own_IA_set I25 W26
  obtain ⟨T27, h27, X27, e27, W27, st27⟩ := stI X26 hx hZ e26 I26.1 (j := (25 : Int32)) (inb_of I26.2.1 ⟨(by decide : ¬ ((25 : Int32) < (0 : Int32))), (by decide : (25 : Int32) < (32 : Int32))⟩) (g := (mkF m 170 #[.val (.int p0), .val (.int p1), .val (.int p2), .unset, .unset, .unset, .unset] [(.int (64976 : Int32)), (.int (25 : Int32)), (.ref a1), (.ref a1)])) rfl rfl (hb hby at_170)
  have N27 := Fr.snoc X27 N26 q1
  have Z27 : n0 ≤ h27.size := Nat.le_trans Z26 (Keep.of_wr W27).1
  have I27 := own_IA_set I26 W27
  obtain ⟨T28, h28, X28, e28, W28, st28⟩ := stI X27 hx hZ e27 I27.1 (j := (26 : Int32)) (inb_of I27.2.1 ⟨(by decide : ¬ ((26 : Int32) < (0 : Int32))), (by decide : (26 : Int32) < (32 : Int32))⟩) (g := (mkF m 176 #[.val (.int p0), .val (.int p1), .val (.int p2), .unset, .unset, .unset, .unset] [(.int (65008 : Int32)), (.int (26 : Int32)), (.ref a1), (.ref a1)])) rfl rfl (hb hby at_176)
  have N28 := Fr.snoc X28 N27 q1
  have Z28 : n0 ≤ h28.size := Nat.le_trans Z27 (Keep.of_wr W28).1
  have I28 := own_IA_set I27 W28
  obtain ⟨T29, h29, X29, e29, W29, st29⟩ := stI X28 hx hZ e28 I28.1 (j := (27 : Int32)) (inb_of I28.2.1 ⟨(by decide : ¬ ((27 : Int32) < (0 : Int32))), (by decide : (27 : Int32) < (32 : Int32))⟩) (g := (mkF m 182 #[.val (.int p0), .val (.int p1), .val (.int p2), .unset, .unset, .unset, .unset] [(.int (65534 : Int32)), (.int (27 : Int32)), (.ref a1), (.ref a1)])) rfl rfl (hb hby at_182)
  have N29 := Fr.snoc X29 N28 q1
  have Z29 : n0 ≤ h29.size := Nat.le_trans Z28 (Keep.of_wr W29).1
  have I29 := own_IA_set I28 W29
  obtain ⟨T30, h30, X30, e30, W30, st30⟩ := stI X29 hx hZ e29 I29.1 (j := (28 : Int32)) (inb_of I29.2.1 ⟨(by decide : ¬ ((28 : Int32) < (0 : Int32))), (by decide : (28 : Int32) < (32 : Int32))⟩) (g := (mkF m 188 #[.val (.int p0), .val (.int p1), .val (.int p2), .unset, .unset, .unset, .unset] [(.int (65536 : Int32)), (.int (28 : Int32)), (.ref a1), (.ref a1)])) rfl rfl (hb hby at_188)
  have N30 := Fr.snoc X30 N29 q1
  have Z30 : n0 ≤ h30.size := Nat.le_trans Z29 (Keep.of_wr W30).1
  have I30 := own_IA_set I29 W30
  obtain ⟨T31, h31, X31, e31, W31, st31⟩ := stI X30 hx hZ e30 I30.1 (j := (29 : Int32)) (inb_of I30.2.1 ⟨(by decide : ¬ ((29 : Int32) < (0 : Int32))), (by decide : (29 : Int32) < (32 : Int32))⟩) (g := (mkF m 194 #[.val (.int p0), .val (.int p1), .val (.int p2), .unset, .unset, .unset, .unset] [(.int (983040 : Int32)), (.int (29 : Int32)), (.ref a1), (.ref a1)])) rfl rfl (hb hby at_194)
  have N31 := Fr.snoc X31 N30 q1
  have Z31 : n0 ≤ h31.size := Nat.le_trans Z30 (Keep.of_wr W31).1
  have I31 := own_IA_set I30 W31
  obtain ⟨T32, h32, X32, e32, W32, st32⟩ := stI X31 hx hZ e31 I31.1 (j := (30 : Int32)) (inb_of I31.2.1 ⟨(by decide : ¬ ((30 : Int32) < (0 : Int32))), (by decide : (30 : Int32) < (32 : Int32))⟩) (g := (mkF m 199 #[.val (.int p0), .val (.int p1), .val (.int p2), .unset, .unset, .unset, .unset] [(.int (0 : Int32)), (.int (30 : Int32)), (.ref a1), (.ref a1)])) rfl rfl (hb hby at_199)
  have N32 := Fr.snoc X32 N31 q1
  have Z32 : n0 ≤ h32.size := Nat.le_trans Z31 (Keep.of_wr W32).1
  have I32 := own_IA_set I31 W32
  obtain ⟨T33, h33, X33, e33, W33, st33⟩ := stI X32 hx hZ e32 I32.1 (j := (31 : Int32)) (inb_of I32.2.1 ⟨(by decide : ¬ ((31 : Int32) < (0 : Int32))), (by decide : (31 : Int32) < (32 : Int32))⟩) (g := (mkF m 205 #[.val (.int p0), .val (.int p1), .val (.int p2), .unset, .unset, .unset, .unset] [(.int (58 : Int32)), (.int (31 : Int32)), (.ref a1), (.ref a1)])) rfl rfl (hb hby at_205)
  have N33 := Fr.snoc X33 N32 q1
  have Z33 : n0 ≤ h33.size := Nat.le_trans Z32 (Keep.of_wr W33).1
  have I33 := own_IA_set I32 W33
  refine ⟨T33, _, _, a1, _, X33, e33, Z33, N33, I33, fun target kt => ?_⟩
  show Steps p.tables e below (T0.setTop (mkF m 0 #[.val (.int p0), .val (.int p1), .val (.int p2), .unset, .unset, .unset, .unset] [])) _
  refine XT.bipushV X0.here hx rfl (32 : Int32) (hb hby at_0) (by decide) ?_
  show Steps p.tables e below (T0.setTop (mkF m 2 #[.val (.int p0), .val (.int p1), .val (.int p2), .unset, .unset, .unset, .unset] [(.int (32 : Int32))])) _
  refine st1 _ ?_
  show Steps p.tables e below (T1.setTop (mkF m 4 #[.val (.int p0), .val (.int p1), .val (.int p2), .unset, .unset, .unset, .unset] [(.ref a1)])) _
  refine XS.dup X1.here hx rfl (hb hby at_4) rfl rfl ?_
  show Steps p.tables e below (T1.setTop (mkF m 5 #[.val (.int p0), .val (.int p1), .val (.int p2), .unset, .unset, .unset, .unset] [(.ref a1), (.ref a1)])) _
  refine XT.iconstV X1.here hx rfl (0 : Int32) (hb hby at_5) (by decide) ?_
  show Steps p.tables e below (T1.setTop (mkF m 6 #[.val (.int p0), .val (.int p1), .val (.int p2), .unset, .unset, .unset, .unset] [(.int (0 : Int32)), (.ref a1), (.ref a1)])) _
  refine XT.bipushV X1.here hx rfl (65 : Int32) (hb hby at_6) (by decide) ?_
  show Steps p.tables e below (T1.setTop (mkF m 8 #[.val (.int p0), .val (.int p1), .val (.int p2), .unset, .unset, .unset, .unset] [(.int (65 : Int32)), (.int (0 : Int32)), (.ref a1), (.ref a1)])) _
  refine st2 _ ?_
  show Steps p.tables e below (T2.setTop (mkF m 9 #[.val (.int p0), .val (.int p1), .val (.int p2), .unset, .unset, .unset, .unset] [(.ref a1)])) _
  refine XS.dup X2.here hx rfl (hb hby at_9) rfl rfl ?_
  show Steps p.tables e below (T2.setTop (mkF m 10 #[.val (.int p0), .val (.int p1), .val (.int p2), .unset, .unset, .unset, .unset] [(.ref a1), (.ref a1)])) _
  refine XT.iconstV X2.here hx rfl (1 : Int32) (hb hby at_10) (by decide) ?_
  show Steps p.tables e below (T2.setTop (mkF m 11 #[.val (.int p0), .val (.int p1), .val (.int p2), .unset, .unset, .unset, .unset] [(.int (1 : Int32)), (.ref a1), (.ref a1)])) _
  refine XT.bipushV X2.here hx rfl (91 : Int32) (hb hby at_11) (by decide) ?_
  show Steps p.tables e below (T2.setTop (mkF m 13 #[.val (.int p0), .val (.int p1), .val (.int p2), .unset, .unset, .unset, .unset] [(.int (91 : Int32)), (.int (1 : Int32)), (.ref a1), (.ref a1)])) _
  refine st3 _ ?_
  show Steps p.tables e below (T3.setTop (mkF m 14 #[.val (.int p0), .val (.int p1), .val (.int p2), .unset, .unset, .unset, .unset] [(.ref a1)])) _
  refine XS.dup X3.here hx rfl (hb hby at_14) rfl rfl ?_
  show Steps p.tables e below (T3.setTop (mkF m 15 #[.val (.int p0), .val (.int p1), .val (.int p2), .unset, .unset, .unset, .unset] [(.ref a1), (.ref a1)])) _
  refine XT.iconstV X3.here hx rfl (2 : Int32) (hb hby at_15) (by decide) ?_
  show Steps p.tables e below (T3.setTop (mkF m 16 #[.val (.int p0), .val (.int p1), .val (.int p2), .unset, .unset, .unset, .unset] [(.int (2 : Int32)), (.ref a1), (.ref a1)])) _
  refine XT.bipushV X3.here hx rfl (95 : Int32) (hb hby at_16) (by decide) ?_
  show Steps p.tables e below (T3.setTop (mkF m 18 #[.val (.int p0), .val (.int p1), .val (.int p2), .unset, .unset, .unset, .unset] [(.int (95 : Int32)), (.int (2 : Int32)), (.ref a1), (.ref a1)])) _
  refine st4 _ ?_
  show Steps p.tables e below (T4.setTop (mkF m 19 #[.val (.int p0), .val (.int p1), .val (.int p2), .unset, .unset, .unset, .unset] [(.ref a1)])) _
  refine XS.dup X4.here hx rfl (hb hby at_19) rfl rfl ?_
  show Steps p.tables e below (T4.setTop (mkF m 20 #[.val (.int p0), .val (.int p1), .val (.int p2), .unset, .unset, .unset, .unset] [(.ref a1), (.ref a1)])) _
  refine XT.iconstV X4.here hx rfl (3 : Int32) (hb hby at_20) (by decide) ?_
  show Steps p.tables e below (T4.setTop (mkF m 21 #[.val (.int p0), .val (.int p1), .val (.int p2), .unset, .unset, .unset, .unset] [(.int (3 : Int32)), (.ref a1), (.ref a1)])) _
  refine XT.bipushV X4.here hx rfl (96 : Int32) (hb hby at_21) (by decide) ?_
  show Steps p.tables e below (T4.setTop (mkF m 23 #[.val (.int p0), .val (.int p1), .val (.int p2), .unset, .unset, .unset, .unset] [(.int (96 : Int32)), (.int (3 : Int32)), (.ref a1), (.ref a1)])) _
  refine st5 _ ?_
  show Steps p.tables e below (T5.setTop (mkF m 24 #[.val (.int p0), .val (.int p1), .val (.int p2), .unset, .unset, .unset, .unset] [(.ref a1)])) _
  refine XS.dup X5.here hx rfl (hb hby at_24) rfl rfl ?_
  show Steps p.tables e below (T5.setTop (mkF m 25 #[.val (.int p0), .val (.int p1), .val (.int p2), .unset, .unset, .unset, .unset] [(.ref a1), (.ref a1)])) _
  refine XT.iconstV X5.here hx rfl (4 : Int32) (hb hby at_25) (by decide) ?_
  show Steps p.tables e below (T5.setTop (mkF m 26 #[.val (.int p0), .val (.int p1), .val (.int p2), .unset, .unset, .unset, .unset] [(.int (4 : Int32)), (.ref a1), (.ref a1)])) _
  refine XT.bipushV X5.here hx rfl (97 : Int32) (hb hby at_26) (by decide) ?_
  show Steps p.tables e below (T5.setTop (mkF m 28 #[.val (.int p0), .val (.int p1), .val (.int p2), .unset, .unset, .unset, .unset] [(.int (97 : Int32)), (.int (4 : Int32)), (.ref a1), (.ref a1)])) _
  refine st6 _ ?_
  show Steps p.tables e below (T6.setTop (mkF m 29 #[.val (.int p0), .val (.int p1), .val (.int p2), .unset, .unset, .unset, .unset] [(.ref a1)])) _
  refine XS.dup X6.here hx rfl (hb hby at_29) rfl rfl ?_
  show Steps p.tables e below (T6.setTop (mkF m 30 #[.val (.int p0), .val (.int p1), .val (.int p2), .unset, .unset, .unset, .unset] [(.ref a1), (.ref a1)])) _
  refine XT.iconstV X6.here hx rfl (5 : Int32) (hb hby at_30) (by decide) ?_
  show Steps p.tables e below (T6.setTop (mkF m 31 #[.val (.int p0), .val (.int p1), .val (.int p2), .unset, .unset, .unset, .unset] [(.int (5 : Int32)), (.ref a1), (.ref a1)])) _
  refine XT.bipushV X6.here hx rfl (123 : Int32) (hb hby at_31) (by decide) ?_
  show Steps p.tables e below (T6.setTop (mkF m 33 #[.val (.int p0), .val (.int p1), .val (.int p2), .unset, .unset, .unset, .unset] [(.int (123 : Int32)), (.int (5 : Int32)), (.ref a1), (.ref a1)])) _
  refine st7 _ ?_
  show Steps p.tables e below (T7.setTop (mkF m 34 #[.val (.int p0), .val (.int p1), .val (.int p2), .unset, .unset, .unset, .unset] [(.ref a1)])) _
  refine XS.dup X7.here hx rfl (hb hby at_34) rfl rfl ?_
  show Steps p.tables e below (T7.setTop (mkF m 35 #[.val (.int p0), .val (.int p1), .val (.int p2), .unset, .unset, .unset, .unset] [(.ref a1), (.ref a1)])) _
  refine XT.bipushV X7.here hx rfl (6 : Int32) (hb hby at_35) (by decide) ?_
  show Steps p.tables e below (T7.setTop (mkF m 37 #[.val (.int p0), .val (.int p1), .val (.int p2), .unset, .unset, .unset, .unset] [(.int (6 : Int32)), (.ref a1), (.ref a1)])) _
  refine XT.sipushV X7.here hx rfl (192 : Int32) (hb hby at_37) (by decide) ?_
  show Steps p.tables e below (T7.setTop (mkF m 40 #[.val (.int p0), .val (.int p1), .val (.int p2), .unset, .unset, .unset, .unset] [(.int (192 : Int32)), (.int (6 : Int32)), (.ref a1), (.ref a1)])) _
  refine st8 _ ?_
  show Steps p.tables e below (T8.setTop (mkF m 41 #[.val (.int p0), .val (.int p1), .val (.int p2), .unset, .unset, .unset, .unset] [(.ref a1)])) _
  refine XS.dup X8.here hx rfl (hb hby at_41) rfl rfl ?_
  show Steps p.tables e below (T8.setTop (mkF m 42 #[.val (.int p0), .val (.int p1), .val (.int p2), .unset, .unset, .unset, .unset] [(.ref a1), (.ref a1)])) _
  refine XT.bipushV X8.here hx rfl (7 : Int32) (hb hby at_42) (by decide) ?_
  show Steps p.tables e below (T8.setTop (mkF m 44 #[.val (.int p0), .val (.int p1), .val (.int p2), .unset, .unset, .unset, .unset] [(.int (7 : Int32)), (.ref a1), (.ref a1)])) _
  refine XT.sipushV X8.here hx rfl (215 : Int32) (hb hby at_44) (by decide) ?_
  show Steps p.tables e below (T8.setTop (mkF m 47 #[.val (.int p0), .val (.int p1), .val (.int p2), .unset, .unset, .unset, .unset] [(.int (215 : Int32)), (.int (7 : Int32)), (.ref a1), (.ref a1)])) _
  refine st9 _ ?_
  show Steps p.tables e below (T9.setTop (mkF m 48 #[.val (.int p0), .val (.int p1), .val (.int p2), .unset, .unset, .unset, .unset] [(.ref a1)])) _
  refine XS.dup X9.here hx rfl (hb hby at_48) rfl rfl ?_
  show Steps p.tables e below (T9.setTop (mkF m 49 #[.val (.int p0), .val (.int p1), .val (.int p2), .unset, .unset, .unset, .unset] [(.ref a1), (.ref a1)])) _
  refine XT.bipushV X9.here hx rfl (8 : Int32) (hb hby at_49) (by decide) ?_
  show Steps p.tables e below (T9.setTop (mkF m 51 #[.val (.int p0), .val (.int p1), .val (.int p2), .unset, .unset, .unset, .unset] [(.int (8 : Int32)), (.ref a1), (.ref a1)])) _
  refine XT.sipushV X9.here hx rfl (216 : Int32) (hb hby at_51) (by decide) ?_
  show Steps p.tables e below (T9.setTop (mkF m 54 #[.val (.int p0), .val (.int p1), .val (.int p2), .unset, .unset, .unset, .unset] [(.int (216 : Int32)), (.int (8 : Int32)), (.ref a1), (.ref a1)])) _
  refine st10 _ ?_
  show Steps p.tables e below (T10.setTop (mkF m 55 #[.val (.int p0), .val (.int p1), .val (.int p2), .unset, .unset, .unset, .unset] [(.ref a1)])) _
  refine XS.dup X10.here hx rfl (hb hby at_55) rfl rfl ?_
  show Steps p.tables e below (T10.setTop (mkF m 56 #[.val (.int p0), .val (.int p1), .val (.int p2), .unset, .unset, .unset, .unset] [(.ref a1), (.ref a1)])) _
  refine XT.bipushV X10.here hx rfl (9 : Int32) (hb hby at_56) (by decide) ?_
  show Steps p.tables e below (T10.setTop (mkF m 58 #[.val (.int p0), .val (.int p1), .val (.int p2), .unset, .unset, .unset, .unset] [(.int (9 : Int32)), (.ref a1), (.ref a1)])) _
  refine XT.sipushV X10.here hx rfl (247 : Int32) (hb hby at_58) (by decide) ?_
  show Steps p.tables e below (T10.setTop (mkF m 61 #[.val (.int p0), .val (.int p1), .val (.int p2), .unset, .unset, .unset, .unset] [(.int (247 : Int32)), (.int (9 : Int32)), (.ref a1), (.ref a1)])) _
  refine st11 _ ?_
  show Steps p.tables e below (T11.setTop (mkF m 62 #[.val (.int p0), .val (.int p1), .val (.int p2), .unset, .unset, .unset, .unset] [(.ref a1)])) _
  refine XS.dup X11.here hx rfl (hb hby at_62) rfl rfl ?_
  show Steps p.tables e below (T11.setTop (mkF m 63 #[.val (.int p0), .val (.int p1), .val (.int p2), .unset, .unset, .unset, .unset] [(.ref a1), (.ref a1)])) _
  refine XT.bipushV X11.here hx rfl (10 : Int32) (hb hby at_63) (by decide) ?_
  show Steps p.tables e below (T11.setTop (mkF m 65 #[.val (.int p0), .val (.int p1), .val (.int p2), .unset, .unset, .unset, .unset] [(.int (10 : Int32)), (.ref a1), (.ref a1)])) _
  refine XT.sipushV X11.here hx rfl (248 : Int32) (hb hby at_65) (by decide) ?_
  show Steps p.tables e below (T11.setTop (mkF m 68 #[.val (.int p0), .val (.int p1), .val (.int p2), .unset, .unset, .unset, .unset] [(.int (248 : Int32)), (.int (10 : Int32)), (.ref a1), (.ref a1)])) _
  refine st12 _ ?_
  show Steps p.tables e below (T12.setTop (mkF m 69 #[.val (.int p0), .val (.int p1), .val (.int p2), .unset, .unset, .unset, .unset] [(.ref a1)])) _
  refine XS.dup X12.here hx rfl (hb hby at_69) rfl rfl ?_
  show Steps p.tables e below (T12.setTop (mkF m 70 #[.val (.int p0), .val (.int p1), .val (.int p2), .unset, .unset, .unset, .unset] [(.ref a1), (.ref a1)])) _
  refine XT.bipushV X12.here hx rfl (11 : Int32) (hb hby at_70) (by decide) ?_
  show Steps p.tables e below (T12.setTop (mkF m 72 #[.val (.int p0), .val (.int p1), .val (.int p2), .unset, .unset, .unset, .unset] [(.int (11 : Int32)), (.ref a1), (.ref a1)])) _
  refine XT.sipushV X12.here hx rfl (768 : Int32) (hb hby at_72) (by decide) ?_
  show Steps p.tables e below (T12.setTop (mkF m 75 #[.val (.int p0), .val (.int p1), .val (.int p2), .unset, .unset, .unset, .unset] [(.int (768 : Int32)), (.int (11 : Int32)), (.ref a1), (.ref a1)])) _
  refine st13 _ ?_
  show Steps p.tables e below (T13.setTop (mkF m 76 #[.val (.int p0), .val (.int p1), .val (.int p2), .unset, .unset, .unset, .unset] [(.ref a1)])) _
  refine XS.dup X13.here hx rfl (hb hby at_76) rfl rfl ?_
  show Steps p.tables e below (T13.setTop (mkF m 77 #[.val (.int p0), .val (.int p1), .val (.int p2), .unset, .unset, .unset, .unset] [(.ref a1), (.ref a1)])) _
  refine XT.bipushV X13.here hx rfl (12 : Int32) (hb hby at_77) (by decide) ?_
  show Steps p.tables e below (T13.setTop (mkF m 79 #[.val (.int p0), .val (.int p1), .val (.int p2), .unset, .unset, .unset, .unset] [(.int (12 : Int32)), (.ref a1), (.ref a1)])) _
  refine XT.sipushV X13.here hx rfl (880 : Int32) (hb hby at_79) (by decide) ?_
  show Steps p.tables e below (T13.setTop (mkF m 82 #[.val (.int p0), .val (.int p1), .val (.int p2), .unset, .unset, .unset, .unset] [(.int (880 : Int32)), (.int (12 : Int32)), (.ref a1), (.ref a1)])) _
  refine st14 _ ?_
  show Steps p.tables e below (T14.setTop (mkF m 83 #[.val (.int p0), .val (.int p1), .val (.int p2), .unset, .unset, .unset, .unset] [(.ref a1)])) _
  refine XS.dup X14.here hx rfl (hb hby at_83) rfl rfl ?_
  show Steps p.tables e below (T14.setTop (mkF m 84 #[.val (.int p0), .val (.int p1), .val (.int p2), .unset, .unset, .unset, .unset] [(.ref a1), (.ref a1)])) _
  refine XT.bipushV X14.here hx rfl (13 : Int32) (hb hby at_84) (by decide) ?_
  show Steps p.tables e below (T14.setTop (mkF m 86 #[.val (.int p0), .val (.int p1), .val (.int p2), .unset, .unset, .unset, .unset] [(.int (13 : Int32)), (.ref a1), (.ref a1)])) _
  refine XT.sipushV X14.here hx rfl (894 : Int32) (hb hby at_86) (by decide) ?_
  show Steps p.tables e below (T14.setTop (mkF m 89 #[.val (.int p0), .val (.int p1), .val (.int p2), .unset, .unset, .unset, .unset] [(.int (894 : Int32)), (.int (13 : Int32)), (.ref a1), (.ref a1)])) _
  refine st15 _ ?_
  show Steps p.tables e below (T15.setTop (mkF m 90 #[.val (.int p0), .val (.int p1), .val (.int p2), .unset, .unset, .unset, .unset] [(.ref a1)])) _
  refine XS.dup X15.here hx rfl (hb hby at_90) rfl rfl ?_
  show Steps p.tables e below (T15.setTop (mkF m 91 #[.val (.int p0), .val (.int p1), .val (.int p2), .unset, .unset, .unset, .unset] [(.ref a1), (.ref a1)])) _
  refine XT.bipushV X15.here hx rfl (14 : Int32) (hb hby at_91) (by decide) ?_
  show Steps p.tables e below (T15.setTop (mkF m 93 #[.val (.int p0), .val (.int p1), .val (.int p2), .unset, .unset, .unset, .unset] [(.int (14 : Int32)), (.ref a1), (.ref a1)])) _
  refine XT.sipushV X15.here hx rfl (895 : Int32) (hb hby at_93) (by decide) ?_
  show Steps p.tables e below (T15.setTop (mkF m 96 #[.val (.int p0), .val (.int p1), .val (.int p2), .unset, .unset, .unset, .unset] [(.int (895 : Int32)), (.int (14 : Int32)), (.ref a1), (.ref a1)])) _
  refine st16 _ ?_
  show Steps p.tables e below (T16.setTop (mkF m 97 #[.val (.int p0), .val (.int p1), .val (.int p2), .unset, .unset, .unset, .unset] [(.ref a1)])) _
  refine XS.dup X16.here hx rfl (hb hby at_97) rfl rfl ?_
  show Steps p.tables e below (T16.setTop (mkF m 98 #[.val (.int p0), .val (.int p1), .val (.int p2), .unset, .unset, .unset, .unset] [(.ref a1), (.ref a1)])) _
  refine XT.bipushV X16.here hx rfl (15 : Int32) (hb hby at_98) (by decide) ?_
  show Steps p.tables e below (T16.setTop (mkF m 100 #[.val (.int p0), .val (.int p1), .val (.int p2), .unset, .unset, .unset, .unset] [(.int (15 : Int32)), (.ref a1), (.ref a1)])) _
  refine XT.sipushV X16.here hx rfl (8192 : Int32) (hb hby at_100) (by decide) ?_
  show Steps p.tables e below (T16.setTop (mkF m 103 #[.val (.int p0), .val (.int p1), .val (.int p2), .unset, .unset, .unset, .unset] [(.int (8192 : Int32)), (.int (15 : Int32)), (.ref a1), (.ref a1)])) _
  refine st17 _ ?_
  show Steps p.tables e below (T17.setTop (mkF m 104 #[.val (.int p0), .val (.int p1), .val (.int p2), .unset, .unset, .unset, .unset] [(.ref a1)])) _
  refine XS.dup X17.here hx rfl (hb hby at_104) rfl rfl ?_
  show Steps p.tables e below (T17.setTop (mkF m 105 #[.val (.int p0), .val (.int p1), .val (.int p2), .unset, .unset, .unset, .unset] [(.ref a1), (.ref a1)])) _
  refine XT.bipushV X17.here hx rfl (16 : Int32) (hb hby at_105) (by decide) ?_
  show Steps p.tables e below (T17.setTop (mkF m 107 #[.val (.int p0), .val (.int p1), .val (.int p2), .unset, .unset, .unset, .unset] [(.int (16 : Int32)), (.ref a1), (.ref a1)])) _
  refine XT.sipushV X17.here hx rfl (8204 : Int32) (hb hby at_107) (by decide) ?_
  show Steps p.tables e below (T17.setTop (mkF m 110 #[.val (.int p0), .val (.int p1), .val (.int p2), .unset, .unset, .unset, .unset] [(.int (8204 : Int32)), (.int (16 : Int32)), (.ref a1), (.ref a1)])) _
  refine st18 _ ?_
  show Steps p.tables e below (T18.setTop (mkF m 111 #[.val (.int p0), .val (.int p1), .val (.int p2), .unset, .unset, .unset, .unset] [(.ref a1)])) _
  refine XS.dup X18.here hx rfl (hb hby at_111) rfl rfl ?_
  show Steps p.tables e below (T18.setTop (mkF m 112 #[.val (.int p0), .val (.int p1), .val (.int p2), .unset, .unset, .unset, .unset] [(.ref a1), (.ref a1)])) _
  refine XT.bipushV X18.here hx rfl (17 : Int32) (hb hby at_112) (by decide) ?_
  show Steps p.tables e below (T18.setTop (mkF m 114 #[.val (.int p0), .val (.int p1), .val (.int p2), .unset, .unset, .unset, .unset] [(.int (17 : Int32)), (.ref a1), (.ref a1)])) _
  refine XT.sipushV X18.here hx rfl (8206 : Int32) (hb hby at_114) (by decide) ?_
  show Steps p.tables e below (T18.setTop (mkF m 117 #[.val (.int p0), .val (.int p1), .val (.int p2), .unset, .unset, .unset, .unset] [(.int (8206 : Int32)), (.int (17 : Int32)), (.ref a1), (.ref a1)])) _
  refine st19 _ ?_
  show Steps p.tables e below (T19.setTop (mkF m 118 #[.val (.int p0), .val (.int p1), .val (.int p2), .unset, .unset, .unset, .unset] [(.ref a1)])) _
  refine XS.dup X19.here hx rfl (hb hby at_118) rfl rfl ?_
  show Steps p.tables e below (T19.setTop (mkF m 119 #[.val (.int p0), .val (.int p1), .val (.int p2), .unset, .unset, .unset, .unset] [(.ref a1), (.ref a1)])) _
  refine XT.bipushV X19.here hx rfl (18 : Int32) (hb hby at_119) (by decide) ?_
  show Steps p.tables e below (T19.setTop (mkF m 121 #[.val (.int p0), .val (.int p1), .val (.int p2), .unset, .unset, .unset, .unset] [(.int (18 : Int32)), (.ref a1), (.ref a1)])) _
  refine XT.sipushV X19.here hx rfl (8304 : Int32) (hb hby at_121) (by decide) ?_
  show Steps p.tables e below (T19.setTop (mkF m 124 #[.val (.int p0), .val (.int p1), .val (.int p2), .unset, .unset, .unset, .unset] [(.int (8304 : Int32)), (.int (18 : Int32)), (.ref a1), (.ref a1)])) _
  refine st20 _ ?_
  show Steps p.tables e below (T20.setTop (mkF m 125 #[.val (.int p0), .val (.int p1), .val (.int p2), .unset, .unset, .unset, .unset] [(.ref a1)])) _
  refine XS.dup X20.here hx rfl (hb hby at_125) rfl rfl ?_
  show Steps p.tables e below (T20.setTop (mkF m 126 #[.val (.int p0), .val (.int p1), .val (.int p2), .unset, .unset, .unset, .unset] [(.ref a1), (.ref a1)])) _
  refine XT.bipushV X20.here hx rfl (19 : Int32) (hb hby at_126) (by decide) ?_
  show Steps p.tables e below (T20.setTop (mkF m 128 #[.val (.int p0), .val (.int p1), .val (.int p2), .unset, .unset, .unset, .unset] [(.int (19 : Int32)), (.ref a1), (.ref a1)])) _
  refine XT.sipushV X20.here hx rfl (8592 : Int32) (hb hby at_128) (by decide) ?_
  show Steps p.tables e below (T20.setTop (mkF m 131 #[.val (.int p0), .val (.int p1), .val (.int p2), .unset, .unset, .unset, .unset] [(.int (8592 : Int32)), (.int (19 : Int32)), (.ref a1), (.ref a1)])) _
  refine st21 _ ?_
  show Steps p.tables e below (T21.setTop (mkF m 132 #[.val (.int p0), .val (.int p1), .val (.int p2), .unset, .unset, .unset, .unset] [(.ref a1)])) _
  refine XS.dup X21.here hx rfl (hb hby at_132) rfl rfl ?_
  show Steps p.tables e below (T21.setTop (mkF m 133 #[.val (.int p0), .val (.int p1), .val (.int p2), .unset, .unset, .unset, .unset] [(.ref a1), (.ref a1)])) _
  refine XT.bipushV X21.here hx rfl (20 : Int32) (hb hby at_133) (by decide) ?_
  show Steps p.tables e below (T21.setTop (mkF m 135 #[.val (.int p0), .val (.int p1), .val (.int p2), .unset, .unset, .unset, .unset] [(.int (20 : Int32)), (.ref a1), (.ref a1)])) _
  refine XT.sipushV X21.here hx rfl (11264 : Int32) (hb hby at_135) (by decide) ?_
  show Steps p.tables e below (T21.setTop (mkF m 138 #[.val (.int p0), .val (.int p1), .val (.int p2), .unset, .unset, .unset, .unset] [(.int (11264 : Int32)), (.int (20 : Int32)), (.ref a1), (.ref a1)])) _
  refine st22 _ ?_
  show Steps p.tables e below (T22.setTop (mkF m 139 #[.val (.int p0), .val (.int p1), .val (.int p2), .unset, .unset, .unset, .unset] [(.ref a1)])) _
  refine XS.dup X22.here hx rfl (hb hby at_139) rfl rfl ?_
  show Steps p.tables e below (T22.setTop (mkF m 140 #[.val (.int p0), .val (.int p1), .val (.int p2), .unset, .unset, .unset, .unset] [(.ref a1), (.ref a1)])) _
  refine XT.bipushV X22.here hx rfl (21 : Int32) (hb hby at_140) (by decide) ?_
  show Steps p.tables e below (T22.setTop (mkF m 142 #[.val (.int p0), .val (.int p1), .val (.int p2), .unset, .unset, .unset, .unset] [(.int (21 : Int32)), (.ref a1), (.ref a1)])) _
  refine XT.sipushV X22.here hx rfl (12272 : Int32) (hb hby at_142) (by decide) ?_
  show Steps p.tables e below (T22.setTop (mkF m 145 #[.val (.int p0), .val (.int p1), .val (.int p2), .unset, .unset, .unset, .unset] [(.int (12272 : Int32)), (.int (21 : Int32)), (.ref a1), (.ref a1)])) _
  refine st23 _ ?_
  show Steps p.tables e below (T23.setTop (mkF m 146 #[.val (.int p0), .val (.int p1), .val (.int p2), .unset, .unset, .unset, .unset] [(.ref a1)])) _
  refine XS.dup X23.here hx rfl (hb hby at_146) rfl rfl ?_
  show Steps p.tables e below (T23.setTop (mkF m 147 #[.val (.int p0), .val (.int p1), .val (.int p2), .unset, .unset, .unset, .unset] [(.ref a1), (.ref a1)])) _
  refine XT.bipushV X23.here hx rfl (22 : Int32) (hb hby at_147) (by decide) ?_
  show Steps p.tables e below (T23.setTop (mkF m 149 #[.val (.int p0), .val (.int p1), .val (.int p2), .unset, .unset, .unset, .unset] [(.int (22 : Int32)), (.ref a1), (.ref a1)])) _
  refine XT.sipushV X23.here hx rfl (12289 : Int32) (hb hby at_149) (by decide) ?_
  show Steps p.tables e below (T23.setTop (mkF m 152 #[.val (.int p0), .val (.int p1), .val (.int p2), .unset, .unset, .unset, .unset] [(.int (12289 : Int32)), (.int (22 : Int32)), (.ref a1), (.ref a1)])) _
  refine st24 _ ?_
  show Steps p.tables e below (T24.setTop (mkF m 153 #[.val (.int p0), .val (.int p1), .val (.int p2), .unset, .unset, .unset, .unset] [(.ref a1)])) _
  refine XS.dup X24.here hx rfl (hb hby at_153) rfl rfl ?_
  show Steps p.tables e below (T24.setTop (mkF m 154 #[.val (.int p0), .val (.int p1), .val (.int p2), .unset, .unset, .unset, .unset] [(.ref a1), (.ref a1)])) _
  refine XT.bipushV X24.here hx rfl (23 : Int32) (hb hby at_154) (by decide) ?_
  show Steps p.tables e below (T24.setTop (mkF m 156 #[.val (.int p0), .val (.int p1), .val (.int p2), .unset, .unset, .unset, .unset] [(.int (23 : Int32)), (.ref a1), (.ref a1)])) _
  refine X24.ldcI hx hown (v := (55296 : Int32)) (mvT hZ (hw _ (List.mem_of_getElem? (i := 1) rfl))) rfl (hb hby at_156) ?_
  show Steps p.tables e below (T24.setTop (mkF m 158 #[.val (.int p0), .val (.int p1), .val (.int p2), .unset, .unset, .unset, .unset] [(.int (55296 : Int32)), (.int (23 : Int32)), (.ref a1), (.ref a1)])) _
  refine st25 _ ?_
  show Steps p.tables e below (T25.setTop (mkF m 159 #[.val (.int p0), .val (.int p1), .val (.int p2), .unset, .unset, .unset, .unset] [(.ref a1)])) _
  refine XS.dup X25.here hx rfl (hb hby at_159) rfl rfl ?_
  show Steps p.tables e below (T25.setTop (mkF m 160 #[.val (.int p0), .val (.int p1), .val (.int p2), .unset, .unset, .unset, .unset] [(.ref a1), (.ref a1)])) _
  refine XT.bipushV X25.here hx rfl (24 : Int32) (hb hby at_160) (by decide) ?_
  show Steps p.tables e below (T25.setTop (mkF m 162 #[.val (.int p0), .val (.int p1), .val (.int p2), .unset, .unset, .unset, .unset] [(.int (24 : Int32)), (.ref a1), (.ref a1)])) _
  refine X25.ldcI hx hown (v := (63744 : Int32)) (mvT hZ (hw _ (List.mem_of_getElem? (i := 2) rfl))) rfl (hb hby at_162) ?_
  show Steps p.tables e below (T25.setTop (mkF m 164 #[.val (.int p0), .val (.int p1), .val (.int p2), .unset, .unset, .unset, .unset] [(.int (63744 : Int32)), (.int (24 : Int32)), (.ref a1), (.ref a1)])) _
  refine st26 _ ?_
  show Steps p.tables e below (T26.setTop (mkF m 165 #[.val (.int p0), .val (.int p1), .val (.int p2), .unset, .unset, .unset, .unset] [(.ref a1)])) _
  refine XS.dup X26.here hx rfl (hb hby at_165) rfl rfl ?_
  show Steps p.tables e below (T26.setTop (mkF m 166 #[.val (.int p0), .val (.int p1), .val (.int p2), .unset, .unset, .unset, .unset] [(.ref a1), (.ref a1)])) _
  refine XT.bipushV X26.here hx rfl (25 : Int32) (hb hby at_166) (by decide) ?_
  show Steps p.tables e below (T26.setTop (mkF m 168 #[.val (.int p0), .val (.int p1), .val (.int p2), .unset, .unset, .unset, .unset] [(.int (25 : Int32)), (.ref a1), (.ref a1)])) _
  refine X26.ldcI hx hown (v := (64976 : Int32)) (mvT hZ (hw _ (List.mem_of_getElem? (i := 3) rfl))) rfl (hb hby at_168) ?_
  show Steps p.tables e below (T26.setTop (mkF m 170 #[.val (.int p0), .val (.int p1), .val (.int p2), .unset, .unset, .unset, .unset] [(.int (64976 : Int32)), (.int (25 : Int32)), (.ref a1), (.ref a1)])) _
  refine st27 _ ?_
  show Steps p.tables e below (T27.setTop (mkF m 171 #[.val (.int p0), .val (.int p1), .val (.int p2), .unset, .unset, .unset, .unset] [(.ref a1)])) _
  refine XS.dup X27.here hx rfl (hb hby at_171) rfl rfl ?_
  show Steps p.tables e below (T27.setTop (mkF m 172 #[.val (.int p0), .val (.int p1), .val (.int p2), .unset, .unset, .unset, .unset] [(.ref a1), (.ref a1)])) _
  refine XT.bipushV X27.here hx rfl (26 : Int32) (hb hby at_172) (by decide) ?_
  show Steps p.tables e below (T27.setTop (mkF m 174 #[.val (.int p0), .val (.int p1), .val (.int p2), .unset, .unset, .unset, .unset] [(.int (26 : Int32)), (.ref a1), (.ref a1)])) _
  refine X27.ldcI hx hown (v := (65008 : Int32)) (mvT hZ (hw _ (List.mem_of_getElem? (i := 4) rfl))) rfl (hb hby at_174) ?_
  show Steps p.tables e below (T27.setTop (mkF m 176 #[.val (.int p0), .val (.int p1), .val (.int p2), .unset, .unset, .unset, .unset] [(.int (65008 : Int32)), (.int (26 : Int32)), (.ref a1), (.ref a1)])) _
  refine st28 _ ?_
  show Steps p.tables e below (T28.setTop (mkF m 177 #[.val (.int p0), .val (.int p1), .val (.int p2), .unset, .unset, .unset, .unset] [(.ref a1)])) _
  refine XS.dup X28.here hx rfl (hb hby at_177) rfl rfl ?_
  show Steps p.tables e below (T28.setTop (mkF m 178 #[.val (.int p0), .val (.int p1), .val (.int p2), .unset, .unset, .unset, .unset] [(.ref a1), (.ref a1)])) _
  refine XT.bipushV X28.here hx rfl (27 : Int32) (hb hby at_178) (by decide) ?_
  show Steps p.tables e below (T28.setTop (mkF m 180 #[.val (.int p0), .val (.int p1), .val (.int p2), .unset, .unset, .unset, .unset] [(.int (27 : Int32)), (.ref a1), (.ref a1)])) _
  refine X28.ldcI hx hown (v := (65534 : Int32)) (mvT hZ (hw _ (List.mem_of_getElem? (i := 5) rfl))) rfl (hb hby at_180) ?_
  show Steps p.tables e below (T28.setTop (mkF m 182 #[.val (.int p0), .val (.int p1), .val (.int p2), .unset, .unset, .unset, .unset] [(.int (65534 : Int32)), (.int (27 : Int32)), (.ref a1), (.ref a1)])) _
  refine st29 _ ?_
  show Steps p.tables e below (T29.setTop (mkF m 183 #[.val (.int p0), .val (.int p1), .val (.int p2), .unset, .unset, .unset, .unset] [(.ref a1)])) _
  refine XS.dup X29.here hx rfl (hb hby at_183) rfl rfl ?_
  show Steps p.tables e below (T29.setTop (mkF m 184 #[.val (.int p0), .val (.int p1), .val (.int p2), .unset, .unset, .unset, .unset] [(.ref a1), (.ref a1)])) _
  refine XT.bipushV X29.here hx rfl (28 : Int32) (hb hby at_184) (by decide) ?_
  show Steps p.tables e below (T29.setTop (mkF m 186 #[.val (.int p0), .val (.int p1), .val (.int p2), .unset, .unset, .unset, .unset] [(.int (28 : Int32)), (.ref a1), (.ref a1)])) _
  refine X29.ldcI hx hown (v := (65536 : Int32)) (mvT hZ (hw _ (List.mem_of_getElem? (i := 6) rfl))) rfl (hb hby at_186) ?_
  show Steps p.tables e below (T29.setTop (mkF m 188 #[.val (.int p0), .val (.int p1), .val (.int p2), .unset, .unset, .unset, .unset] [(.int (65536 : Int32)), (.int (28 : Int32)), (.ref a1), (.ref a1)])) _
  refine st30 _ ?_
  show Steps p.tables e below (T30.setTop (mkF m 189 #[.val (.int p0), .val (.int p1), .val (.int p2), .unset, .unset, .unset, .unset] [(.ref a1)])) _
  refine XS.dup X30.here hx rfl (hb hby at_189) rfl rfl ?_
  show Steps p.tables e below (T30.setTop (mkF m 190 #[.val (.int p0), .val (.int p1), .val (.int p2), .unset, .unset, .unset, .unset] [(.ref a1), (.ref a1)])) _
  refine XT.bipushV X30.here hx rfl (29 : Int32) (hb hby at_190) (by decide) ?_
  show Steps p.tables e below (T30.setTop (mkF m 192 #[.val (.int p0), .val (.int p1), .val (.int p2), .unset, .unset, .unset, .unset] [(.int (29 : Int32)), (.ref a1), (.ref a1)])) _
  refine X30.ldcI hx hown (v := (983040 : Int32)) (mvT hZ (hw _ (List.mem_of_getElem? (i := 7) rfl))) rfl (hb hby at_192) ?_
  show Steps p.tables e below (T30.setTop (mkF m 194 #[.val (.int p0), .val (.int p1), .val (.int p2), .unset, .unset, .unset, .unset] [(.int (983040 : Int32)), (.int (29 : Int32)), (.ref a1), (.ref a1)])) _
  refine st31 _ ?_
  show Steps p.tables e below (T31.setTop (mkF m 195 #[.val (.int p0), .val (.int p1), .val (.int p2), .unset, .unset, .unset, .unset] [(.ref a1)])) _
  refine XS.dup X31.here hx rfl (hb hby at_195) rfl rfl ?_
  show Steps p.tables e below (T31.setTop (mkF m 196 #[.val (.int p0), .val (.int p1), .val (.int p2), .unset, .unset, .unset, .unset] [(.ref a1), (.ref a1)])) _
  refine XT.bipushV X31.here hx rfl (30 : Int32) (hb hby at_196) (by decide) ?_
  show Steps p.tables e below (T31.setTop (mkF m 198 #[.val (.int p0), .val (.int p1), .val (.int p2), .unset, .unset, .unset, .unset] [(.int (30 : Int32)), (.ref a1), (.ref a1)])) _
  refine XT.iconstV X31.here hx rfl (0 : Int32) (hb hby at_198) (by decide) ?_
  show Steps p.tables e below (T31.setTop (mkF m 199 #[.val (.int p0), .val (.int p1), .val (.int p2), .unset, .unset, .unset, .unset] [(.int (0 : Int32)), (.int (30 : Int32)), (.ref a1), (.ref a1)])) _
  refine st32 _ ?_
  show Steps p.tables e below (T32.setTop (mkF m 200 #[.val (.int p0), .val (.int p1), .val (.int p2), .unset, .unset, .unset, .unset] [(.ref a1)])) _
  refine XS.dup X32.here hx rfl (hb hby at_200) rfl rfl ?_
  show Steps p.tables e below (T32.setTop (mkF m 201 #[.val (.int p0), .val (.int p1), .val (.int p2), .unset, .unset, .unset, .unset] [(.ref a1), (.ref a1)])) _
  refine XT.bipushV X32.here hx rfl (31 : Int32) (hb hby at_201) (by decide) ?_
  show Steps p.tables e below (T32.setTop (mkF m 203 #[.val (.int p0), .val (.int p1), .val (.int p2), .unset, .unset, .unset, .unset] [(.int (31 : Int32)), (.ref a1), (.ref a1)])) _
  refine XT.bipushV X32.here hx rfl (58 : Int32) (hb hby at_203) (by decide) ?_
  show Steps p.tables e below (T32.setTop (mkF m 205 #[.val (.int p0), .val (.int p1), .val (.int p2), .unset, .unset, .unset, .unset] [(.int (58 : Int32)), (.int (31 : Int32)), (.ref a1), (.ref a1)])) _
  refine st33 _ ?_
  exact kt
set_option maxRecDepth 65536 in
set_option maxHeartbeats 40000000 in
theorem own_s0_rd {p : Program} {l : Launch} {e : Env} {s : State} {m : MethodId} {args : Array Value} {below : List Frame} {meth : Method} {c : Code} {T0 : State} {locs : List Loc} {cells slots : Nat} {Z : State} {a0 : Array Value} {h0 : Heap} {n0 : Nat} (p0 p1 p2 : Int32) (a1 : Addr) (cl : Cell)
    (X0 : Stand p l e room_1 s m args below meth c T0 locs cells slots) (hx : p.tables.exec = Jvm.exec) (hZ : Z.Warmed39 s.vm) (hw : ∀ d ∈ tables_1, d.before a0 Z = true) (hby : c.code = code) (hml : c.maxLocals = 7) (hown : s.vm.findClass "com/example/hale_xslt/halexslt/xdm/XmlNamesIsNameStartPinLaw" = some m.cls) (e0 : T0.heap = h0) (Z0 : n0 ≤ h0.size) (N0 : Fr n0 locs) (hcl : cells ≤ room_1.cells) (hsl : slots ≤ room_1.slots) (I0 : own_IA Z h0 a1 (32 : Int32) cl) :
    ∃ (T' : State) (h' : Heap) (locs' : List Loc) (w : Int32), Stand p l e room_1 s m args below meth c T' locs' cells slots ∧ T'.heap = h' ∧ n0 ≤ h'.size ∧ Fr n0 locs' ∧
      ∀ target, Steps p.tables e below (T'.setTop (mkF m 234 #[.val (.int p0), .val (.int p1), .val (.int p2), .val (.ref a1), .val (.int ((p1 &&& (2147483647 : Int32)) % (32 : Int32))), .val (.int (w + ((p2 &&& (3 : Int32)) - (1 : Int32)))), .val (.int (p0 &&& (2097151 : Int32)))] [])) target → Steps p.tables e below (T0.setTop (mkF m 206 #[.val (.int p0), .val (.int p1), .val (.int p2), .unset, .unset, .unset, .unset] [(.ref a1)])) target := by
  obtain ⟨hin, w, hat⟩ := own_IA_at I0 (j := ((p1 &&& (2147483647 : Int32)) % (32 : Int32))) (own_ix p1)
  refine ⟨T0, _, _, w, X0, e0, Z0, N0, fun target kt => ?_⟩
  show Steps p.tables e below (T0.setTop (mkF m 206 #[.val (.int p0), .val (.int p1), .val (.int p2), .unset, .unset, .unset, .unset] [(.ref a1)])) _
  refine XS.astoreN X0.here hx rfl (hb hby at_206) rfl rfl (l' := #[.val (.int p0), .val (.int p1), .val (.int p2), .val (.ref a1), .unset, .unset, .unset]) rfl ?_
  show Steps p.tables e below (T0.setTop (mkF m 207 #[.val (.int p0), .val (.int p1), .val (.int p2), .val (.ref a1), .unset, .unset, .unset] [])) _
  refine XS.iloadN X0.here hx rfl (hb hby at_207) rfl ?_
  show Steps p.tables e below (T0.setTop (mkF m 208 #[.val (.int p0), .val (.int p1), .val (.int p2), .val (.ref a1), .unset, .unset, .unset] [(.int p1)])) _
  refine X0.ldcI hx hown (v := (2147483647 : Int32)) (mvT hZ (hw _ (List.mem_of_getElem? (i := 8) rfl))) rfl (hb hby at_208) ?_
  show Steps p.tables e below (T0.setTop (mkF m 210 #[.val (.int p0), .val (.int p1), .val (.int p2), .val (.ref a1), .unset, .unset, .unset] [(.int (2147483647 : Int32)), (.int p1)])) _
  refine XS.iand X0.here hx rfl (hb hby at_210) rfl ?_
  show Steps p.tables e below (T0.setTop (mkF m 211 #[.val (.int p0), .val (.int p1), .val (.int p2), .val (.ref a1), .unset, .unset, .unset] [(.int (p1 &&& (2147483647 : Int32)))])) _
  refine XS.aloadN X0.here hx rfl (hb hby at_211) rfl rfl ?_
  show Steps p.tables e below (T0.setTop (mkF m 212 #[.val (.int p0), .val (.int p1), .val (.int p2), .val (.ref a1), .unset, .unset, .unset] [(.ref a1), (.int (p1 &&& (2147483647 : Int32)))])) _
  refine X0.arraylength hx (cell := cl) (by rw [e0]; exact I0.1.1) (State.isArrayOf_alike hZ.alike I0.1.2.1) (g := (mkF m 212 #[.val (.int p0), .val (.int p1), .val (.int p2), .val (.ref a1), .unset, .unset, .unset] [(.ref a1), (.int (p1 &&& (2147483647 : Int32)))])) rfl (rest := [(.int (p1 &&& (2147483647 : Int32)))]) rfl (hb hby at_212) _ ?_
  rw [len_of I0.2.1 (by decide : ¬ ((32 : Int32) < (0 : Int32)))]
  show Steps p.tables e below (T0.setTop (mkF m 213 #[.val (.int p0), .val (.int p1), .val (.int p2), .val (.ref a1), .unset, .unset, .unset] [(.int (32 : Int32)), (.int (p1 &&& (2147483647 : Int32)))])) _
  refine iremM X0 hx rfl (hb hby at_213) rfl (by decide) ?_
  show Steps p.tables e below (T0.setTop (mkF m 214 #[.val (.int p0), .val (.int p1), .val (.int p2), .val (.ref a1), .unset, .unset, .unset] [(.int ((p1 &&& (2147483647 : Int32)) % (32 : Int32)))])) _
  refine XS.istore X0.here hx rfl (hb hby at_214) rfl (l' := #[.val (.int p0), .val (.int p1), .val (.int p2), .val (.ref a1), .val (.int ((p1 &&& (2147483647 : Int32)) % (32 : Int32))), .unset, .unset]) rfl ?_
  show Steps p.tables e below (T0.setTop (mkF m 216 #[.val (.int p0), .val (.int p1), .val (.int p2), .val (.ref a1), .val (.int ((p1 &&& (2147483647 : Int32)) % (32 : Int32))), .unset, .unset] [])) _
  refine XS.aloadN X0.here hx rfl (hb hby at_216) rfl rfl ?_
  show Steps p.tables e below (T0.setTop (mkF m 217 #[.val (.int p0), .val (.int p1), .val (.int p2), .val (.ref a1), .val (.int ((p1 &&& (2147483647 : Int32)) % (32 : Int32))), .unset, .unset] [(.ref a1)])) _
  refine XS.iload X0.here hx rfl (hb hby at_217) rfl ?_
  show Steps p.tables e below (T0.setTop (mkF m 219 #[.val (.int p0), .val (.int p1), .val (.int p2), .val (.ref a1), .val (.int ((p1 &&& (2147483647 : Int32)) % (32 : Int32))), .unset, .unset] [(.int ((p1 &&& (2147483647 : Int32)) % (32 : Int32))), (.ref a1)])) _
  refine X0.iaload hx (j := ((p1 &&& (2147483647 : Int32)) % (32 : Int32))) (v := (.int w)) (by rw [e0]; exact I0.1.1) (State.isArrayOf_alike hZ.alike I0.1.2.1) I0.1.2.2 hin hat (g := (mkF m 219 #[.val (.int p0), .val (.int p1), .val (.int p2), .val (.ref a1), .val (.int ((p1 &&& (2147483647 : Int32)) % (32 : Int32))), .unset, .unset] [(.int ((p1 &&& (2147483647 : Int32)) % (32 : Int32))), (.ref a1)])) rfl rfl (hb hby at_219) _ ?_
  show Steps p.tables e below (T0.setTop (mkF m 220 #[.val (.int p0), .val (.int p1), .val (.int p2), .val (.ref a1), .val (.int ((p1 &&& (2147483647 : Int32)) % (32 : Int32))), .unset, .unset] [(.int w)])) _
  refine XS.iloadN X0.here hx rfl (hb hby at_220) rfl ?_
  show Steps p.tables e below (T0.setTop (mkF m 221 #[.val (.int p0), .val (.int p1), .val (.int p2), .val (.ref a1), .val (.int ((p1 &&& (2147483647 : Int32)) % (32 : Int32))), .unset, .unset] [(.int p2), (.int w)])) _
  refine XT.iconstV X0.here hx rfl (3 : Int32) (hb hby at_221) (by decide) ?_
  show Steps p.tables e below (T0.setTop (mkF m 222 #[.val (.int p0), .val (.int p1), .val (.int p2), .val (.ref a1), .val (.int ((p1 &&& (2147483647 : Int32)) % (32 : Int32))), .unset, .unset] [(.int (3 : Int32)), (.int p2), (.int w)])) _
  refine XS.iand X0.here hx rfl (hb hby at_222) rfl ?_
  show Steps p.tables e below (T0.setTop (mkF m 223 #[.val (.int p0), .val (.int p1), .val (.int p2), .val (.ref a1), .val (.int ((p1 &&& (2147483647 : Int32)) % (32 : Int32))), .unset, .unset] [(.int (p2 &&& (3 : Int32))), (.int w)])) _
  refine XT.iconstV X0.here hx rfl (1 : Int32) (hb hby at_223) (by decide) ?_
  show Steps p.tables e below (T0.setTop (mkF m 224 #[.val (.int p0), .val (.int p1), .val (.int p2), .val (.ref a1), .val (.int ((p1 &&& (2147483647 : Int32)) % (32 : Int32))), .unset, .unset] [(.int (1 : Int32)), (.int (p2 &&& (3 : Int32))), (.int w)])) _
  refine XS.isub X0.here hx rfl (hb hby at_224) rfl ?_
  show Steps p.tables e below (T0.setTop (mkF m 225 #[.val (.int p0), .val (.int p1), .val (.int p2), .val (.ref a1), .val (.int ((p1 &&& (2147483647 : Int32)) % (32 : Int32))), .unset, .unset] [(.int ((p2 &&& (3 : Int32)) - (1 : Int32))), (.int w)])) _
  refine XS.iadd X0.here hx rfl (hb hby at_225) rfl ?_
  show Steps p.tables e below (T0.setTop (mkF m 226 #[.val (.int p0), .val (.int p1), .val (.int p2), .val (.ref a1), .val (.int ((p1 &&& (2147483647 : Int32)) % (32 : Int32))), .unset, .unset] [(.int (w + ((p2 &&& (3 : Int32)) - (1 : Int32))))])) _
  refine XS.istore X0.here hx rfl (hb hby at_226) rfl (l' := #[.val (.int p0), .val (.int p1), .val (.int p2), .val (.ref a1), .val (.int ((p1 &&& (2147483647 : Int32)) % (32 : Int32))), .val (.int (w + ((p2 &&& (3 : Int32)) - (1 : Int32)))), .unset]) rfl ?_
  show Steps p.tables e below (T0.setTop (mkF m 228 #[.val (.int p0), .val (.int p1), .val (.int p2), .val (.ref a1), .val (.int ((p1 &&& (2147483647 : Int32)) % (32 : Int32))), .val (.int (w + ((p2 &&& (3 : Int32)) - (1 : Int32)))), .unset] [])) _
  refine XS.iloadN X0.here hx rfl (hb hby at_228) rfl ?_
  show Steps p.tables e below (T0.setTop (mkF m 229 #[.val (.int p0), .val (.int p1), .val (.int p2), .val (.ref a1), .val (.int ((p1 &&& (2147483647 : Int32)) % (32 : Int32))), .val (.int (w + ((p2 &&& (3 : Int32)) - (1 : Int32)))), .unset] [(.int p0)])) _
  refine X0.ldcI hx hown (v := (2097151 : Int32)) (mvT hZ (hw _ (List.mem_of_getElem? (i := 9) rfl))) rfl (hb hby at_229) ?_
  show Steps p.tables e below (T0.setTop (mkF m 231 #[.val (.int p0), .val (.int p1), .val (.int p2), .val (.ref a1), .val (.int ((p1 &&& (2147483647 : Int32)) % (32 : Int32))), .val (.int (w + ((p2 &&& (3 : Int32)) - (1 : Int32)))), .unset] [(.int (2097151 : Int32)), (.int p0)])) _
  refine XS.iand X0.here hx rfl (hb hby at_231) rfl ?_
  show Steps p.tables e below (T0.setTop (mkF m 232 #[.val (.int p0), .val (.int p1), .val (.int p2), .val (.ref a1), .val (.int ((p1 &&& (2147483647 : Int32)) % (32 : Int32))), .val (.int (w + ((p2 &&& (3 : Int32)) - (1 : Int32)))), .unset] [(.int (p0 &&& (2097151 : Int32)))])) _
  refine XS.istore X0.here hx rfl (hb hby at_232) rfl (l' := #[.val (.int p0), .val (.int p1), .val (.int p2), .val (.ref a1), .val (.int ((p1 &&& (2147483647 : Int32)) % (32 : Int32))), .val (.int (w + ((p2 &&& (3 : Int32)) - (1 : Int32)))), .val (.int (p0 &&& (2097151 : Int32)))]) rfl ?_
  exact kt
set_option maxRecDepth 65536 in
set_option maxHeartbeats 40000000 in
theorem own_s0_out {p : Program} {l : Launch} {e : Env} {s : State} {m : MethodId} {args : Array Value} {below : List Frame} {meth : Method} {c : Code} {T0 : State} {locs : List Loc} {cells slots : Nat} {Z : State} {a0 : Array Value} {h0 : Heap} {n0 : Nat} (p0 p1 p2 : Int32) (a1 : Addr) (j z y : Int32)
    (X0 : Stand p l e room_1 s m args below meth c T0 locs cells slots) (hx : p.tables.exec = Jvm.exec) (hZ : Z.Warmed39 s.vm) (hw : ∀ d ∈ tables_1, d.before a0 Z = true) (hby : c.code = code) (hml : c.maxLocals = 7) (hown : s.vm.findClass "com/example/hale_xslt/halexslt/xdm/XmlNamesIsNameStartPinLaw" = some m.cls) (e0 : T0.heap = h0) (Z0 : n0 ≤ h0.size) (N0 : Fr n0 locs) (hcl : cells ≤ room_1.cells) (hsl : slots ≤ room_1.slots) :
    ∃ (T' : State) (h' : Heap) (locs' : List Loc), Stand p l e room_1 s m args below meth c T' locs' cells slots ∧ T'.heap = h' ∧ n0 ≤ h'.size ∧ Fr n0 locs' ∧
      ∀ target, Steps p.tables e below (T'.setTop (mkF m 262 #[.val (.int p0), .val (.int p1), .val (.int p2), .val (.ref a1), .val (.int j), .val (.int z), .val (.int y)] [(.int (1 : Int32))])) target → Steps p.tables e below (T0.setTop (mkF m 234 #[.val (.int p0), .val (.int p1), .val (.int p2), .val (.ref a1), .val (.int j), .val (.int z), .val (.int y)] [])) target := by
  obtain ⟨_, _, ⟨T1, L1, k1, n1⟩, -, X1, ⟨Lc1, hQ1, l1, y1, z1⟩, st1⟩ := Jvm.LawKit.callS X0 hx (y := (⟨"com/example/hale_xslt/halexslt/xdm/XmlNamesIsNameStartPinLaw", "agrees", "(I)Z"⟩ : MethodName)) hown (mvT hZ (hw _ (List.mem_of_getElem? (i := 10) rfl))) (mvT hZ (hw _ (List.mem_of_getElem? (i := 11) rfl))) (mvT hZ (hw _ (List.mem_of_getElem? (i := 12) rfl))) (mvT hZ (hw _ (List.mem_of_getElem? (i := 13) rfl))) (by decide) (backOf (W := 0) (rm1 l Z a0 hw [] (p0) h0 n0 Z0) hZ (hw _ (List.mem_of_getElem? (i := 13) rfl)) (hw _ (List.mem_of_getElem? (i := 12) rfl)) (by decide) (by decide)) (g := (mkF m 235 #[.val (.int p0), .val (.int p1), .val (.int p2), .val (.ref a1), .val (.int j), .val (.int z), .val (.int y)] [(.int p0)])) rfl (by rw [hml]; rfl) (argsL := [(.int (p0))]) (rest := []) (lenOf own_pdI rfl) rfl (by show 2 * 0 + _ ≤ _; exact Nat.le_of_eq rfl) (hb hby at_235) (fun _ _ => ⟨rfl, e0, hcl, hsl⟩)
  dsimp only [Pt.U, Pt.locs, Pt.cells, Pt.slots] at X1 l1 y1 z1 st1 hQ1
  subst l1 y1 z1
  obtain ⟨rfl, M1, e1⟩ := hQ1
  have N1 := Fr.app N0 M1
  obtain ⟨_, _, ⟨T2, L2, k2, n2⟩, -, X2, ⟨Lc2, hQ2, l2, y2, z2⟩, st2⟩ := Jvm.LawKit.callS X1 hx (y := (⟨"com/example/hale_xslt/halexslt/xdm/XmlNamesIsNameStartPinLaw", "agrees", "(I)Z"⟩ : MethodName)) hown (mvT hZ (hw _ (List.mem_of_getElem? (i := 10) rfl))) (mvT hZ (hw _ (List.mem_of_getElem? (i := 11) rfl))) (mvT hZ (hw _ (List.mem_of_getElem? (i := 12) rfl))) (mvT hZ (hw _ (List.mem_of_getElem? (i := 13) rfl))) (by decide) (backOf (W := 0) (rm1 l Z a0 hw [] (y) h0 n0 Z0) hZ (hw _ (List.mem_of_getElem? (i := 13) rfl)) (hw _ (List.mem_of_getElem? (i := 12) rfl)) (by decide) (by decide)) (g := (mkF m 243 #[.val (.int p0), .val (.int p1), .val (.int p2), .val (.ref a1), .val (.int j), .val (.int z), .val (.int y)] [(.int y)])) rfl (by rw [hml]; rfl) (argsL := [(.int (y))]) (rest := []) (lenOf own_pdI rfl) rfl (by show 2 * 0 + _ ≤ _; exact Nat.le_of_eq rfl) (hb hby at_243) (fun _ _ => ⟨rfl, e1, hcl, hsl⟩)
  dsimp only [Pt.U, Pt.locs, Pt.cells, Pt.slots] at X2 l2 y2 z2 st2 hQ2
  subst l2 y2 z2
  obtain ⟨rfl, M2, e2⟩ := hQ2
  have N2 := Fr.app N1 M2
  obtain ⟨_, _, ⟨T3, L3, k3, n3⟩, -, X3, ⟨Lc3, hQ3, l3, y3, z3⟩, st3⟩ := Jvm.LawKit.callS X2 hx (y := (⟨"com/example/hale_xslt/halexslt/xdm/XmlNamesIsNameStartPinLaw", "agrees", "(I)Z"⟩ : MethodName)) hown (mvT hZ (hw _ (List.mem_of_getElem? (i := 10) rfl))) (mvT hZ (hw _ (List.mem_of_getElem? (i := 11) rfl))) (mvT hZ (hw _ (List.mem_of_getElem? (i := 12) rfl))) (mvT hZ (hw _ (List.mem_of_getElem? (i := 13) rfl))) (by decide) (backOf (W := 0) (rm1 l Z a0 hw [] (z) h0 n0 Z0) hZ (hw _ (List.mem_of_getElem? (i := 13) rfl)) (hw _ (List.mem_of_getElem? (i := 12) rfl)) (by decide) (by decide)) (g := (mkF m 251 #[.val (.int p0), .val (.int p1), .val (.int p2), .val (.ref a1), .val (.int j), .val (.int z), .val (.int y)] [(.int z)])) rfl (by rw [hml]; rfl) (argsL := [(.int (z))]) (rest := []) (lenOf own_pdI rfl) rfl (by show 2 * 0 + _ ≤ _; exact Nat.le_of_eq rfl) (hb hby at_251) (fun _ _ => ⟨rfl, e2, hcl, hsl⟩)
  dsimp only [Pt.U, Pt.locs, Pt.cells, Pt.slots] at X3 l3 y3 z3 st3 hQ3
  subst l3 y3 z3
  obtain ⟨rfl, M3, e3⟩ := hQ3
  have N3 := Fr.app N2 M3
  refine ⟨T3, _, _, X3, e3, Z0, N3, fun target kt => ?_⟩
  show Steps p.tables e below (T0.setTop (mkF m 234 #[.val (.int p0), .val (.int p1), .val (.int p2), .val (.ref a1), .val (.int j), .val (.int z), .val (.int y)] [])) _
  refine XS.iloadN X0.here hx rfl (hb hby at_234) rfl ?_
  show Steps p.tables e below (T0.setTop (mkF m 235 #[.val (.int p0), .val (.int p1), .val (.int p2), .val (.ref a1), .val (.int j), .val (.int z), .val (.int y)] [(.int p0)])) _
  refine st1 _ ?_
  show Steps p.tables e below (T1.setTop (mkF m 238 #[.val (.int p0), .val (.int p1), .val (.int p2), .val (.ref a1), .val (.int j), .val (.int z), .val (.int y)] [(.int ((1 : Int32)))])) _
  refine XS.ifNo X1.here hx rfl (hb hby at_238) rfl ((if0 _ _).trans (feq own_n10).1) ?_
  show Steps p.tables e below (T1.setTop (mkF m 241 #[.val (.int p0), .val (.int p1), .val (.int p2), .val (.ref a1), .val (.int j), .val (.int z), .val (.int y)] [])) _
  refine XS.iload X1.here hx rfl (hb hby at_241) rfl ?_
  show Steps p.tables e below (T1.setTop (mkF m 243 #[.val (.int p0), .val (.int p1), .val (.int p2), .val (.ref a1), .val (.int j), .val (.int z), .val (.int y)] [(.int y)])) _
  refine st2 _ ?_
  show Steps p.tables e below (T2.setTop (mkF m 246 #[.val (.int p0), .val (.int p1), .val (.int p2), .val (.ref a1), .val (.int j), .val (.int z), .val (.int y)] [(.int ((1 : Int32)))])) _
  refine XS.ifNo X2.here hx rfl (hb hby at_246) rfl ((if0 _ _).trans (feq own_n10).1) ?_
  show Steps p.tables e below (T2.setTop (mkF m 249 #[.val (.int p0), .val (.int p1), .val (.int p2), .val (.ref a1), .val (.int j), .val (.int z), .val (.int y)] [])) _
  refine XS.iload X2.here hx rfl (hb hby at_249) rfl ?_
  show Steps p.tables e below (T2.setTop (mkF m 251 #[.val (.int p0), .val (.int p1), .val (.int p2), .val (.ref a1), .val (.int j), .val (.int z), .val (.int y)] [(.int z)])) _
  refine st3 _ ?_
  show Steps p.tables e below (T3.setTop (mkF m 254 #[.val (.int p0), .val (.int p1), .val (.int p2), .val (.ref a1), .val (.int j), .val (.int z), .val (.int y)] [(.int ((1 : Int32)))])) _
  refine XS.ifNo X3.here hx rfl (hb hby at_254) rfl ((if0 _ _).trans (feq own_n10).1) ?_
  show Steps p.tables e below (T3.setTop (mkF m 257 #[.val (.int p0), .val (.int p1), .val (.int p2), .val (.ref a1), .val (.int j), .val (.int z), .val (.int y)] [])) _
  refine XT.iconstV X3.here hx rfl (1 : Int32) (hb hby at_257) (by decide) ?_
  show Steps p.tables e below (T3.setTop (mkF m 258 #[.val (.int p0), .val (.int p1), .val (.int p2), .val (.ref a1), .val (.int j), .val (.int z), .val (.int y)] [(.int (1 : Int32))])) _
  refine XS.goto X3.here hx rfl (pc0 := 258) (pc' := 262) rfl (hb hby at_258) (by decide) (by decide) ?_
  exact kt
theorem pn_0 : plainName "com/example/hale_xslt/halexslt/xdm/XmlNamesIsNameStartPinLaw" = true := by first | (simp [plainName, overriddenIn]; done) | decide +kernel
theorem ef_0 (m : MethodId) (p0 : Int32) (p1 : Int32) (p2 : Int32) : entryFrame m #[(.int p0), (.int p1), (.int p2)] maxLocals = mkF m 0 #[.val (.int p0), .val (.int p1), .val (.int p2), .unset, .unset, .unset, .unset] [] := by first | (simp [entryFrame, mkF, argsToLocals, Value.category, maxLocals]; done) | rfl
def Q0 (n0 : Nat) (v : Option Value) (h : Heap) (L : List Loc) : Prop := v = some (.int (1 : Int32)) ∧ Fr n0 L
set_option maxRecDepth 65536 in
set_option maxHeartbeats 40000000 in
theorem rm0 (l : Launch) (Z : State) (a0 : Array Value) (hw : ∀ d ∈ tables_1, d.before a0 Z = true) (ws : List Jvm.Cond) (p0 : Int32) (p1 : Int32) (p2 : Int32) (h0 : Heap) (n0 : Nat) (Z0 : n0 ≤ h0.size) :
    MetFree l x (head1 (Jvm.Cond.code x code maxLocals ret :: ws) room_1) (fun a U => a = #[(.int p0), (.int p1), (.int p2)] ∧ Z.Warmed39 U.vm ∧ U.heap = h0) (fun _ _ _ _ _ => True) (fun _ U o U' => ∃ v L, o = .returned v ∧ Q0 n0 v U'.heap L ∧ FrameEnd U o U' L room_1.cells room_1.slots) := by
  refine MetFree.of_bodySF (plainFor_of_name pn_0) hisR ?_
  intro p e s m args below meth c s₁ Bd hml0 hP hK
  obtain ⟨rfl, hZ, hh⟩ := hP
  have hx := Bd.exec
  have hby := Bd.bytes
  have hml : c.maxLocals = 7 := hml0
  have hown : s.vm.findClass "com/example/hale_xslt/halexslt/xdm/XmlNamesIsNameStartPinLaw" = some m.cls := findClass_of_methodNamed Bd.named
  have X0 : Stand p l e room_1 s m #[(.int p0), (.int p1), (.int p2)] below meth c s₁ [] 0 0 := Stand.of_body Bd
  have e0 : s₁.heap = h0 := by rw [← hh, Bd.state]; rfl
  have N0 := Fr.nil n0
  have pre0 : ∀ t, Steps p.tables e below (s₁.setTop (mkF m 0 #[.val (.int p0), .val (.int p1), .val (.int p2), .unset, .unset, .unset, .unset] [])) t → Steps p.tables e below (s₁.setTop (entryFrame m #[(.int p0), (.int p1), (.int p2)] maxLocals)) t := fun t k => castTop (ef_0 m p0 p1 p2) k
  obtain ⟨T1, h1, L1, a1, cl, X1, e1, Z1, N1, I1, st1⟩ := own_s0_mk p0 p1 p2 X0 hx hZ hw hby hml hown e0 Z0 N0
  obtain ⟨T2, h2, L2, w, X2, e2, Z2, N2, st2⟩ := own_s0_rd p0 p1 p2 a1 cl X1 hx hZ hw hby hml hown e1 Z1 N1 (by decide) (by decide) I1
  obtain ⟨T3, h3, L3, X3, e3, Z3, N3, st3⟩ := own_s0_out p0 p1 p2 a1 _ _ _ X2 hx hZ hw hby hml hown e2 Z2 N2 (by decide) (by decide)
  obtain ⟨fs, hr, hrun, hended, hW, hsame⟩ := X3.leave (v := some (.int (1 : Int32))) (fun h => by rw [Bd.returns] at h; cases h)
  refine ⟨_, _, pre0 _ ?_, hrun, hended, _, _, rfl, ?_, ⟨_, rfl⟩, hW, hsame.mono (by decide) (by decide)⟩
  · refine st1 _ ?_
    refine st2 _ ?_
    refine st3 _ ?_
    exact retN X3 hx (t := .boolean) Bd.returns (by simp) (hb hby at_262) hr
  · exact ⟨rfl, N3⟩
set_option maxRecDepth 65536 in
set_option maxHeartbeats 40000000 in
theorem comes_1 {Post : Tables → Env → Array Value → State → Outcome → State → Prop} (hpost : ∀ tb e args s v u, (limb_1_1.after args s (.returned v) u = true ∧ limb_1_2.after args s (.returned v) u = true ∧ True) → FrameEnd s (.returned v) u (Jvm.fieldLocs frame_1_writes args s ++ Jvm.arrayLocs frame_1_arrays args s ++ Jvm.staticLocs frame_1_statics s) 16 128 → Post tb e args s (.returned v) u) :
    ArmFor flags0 classFile x code maxLocals ret World_1 tables_1 room_1 Calls_1 rest_1 Pre_1 Post := by
  intro l hfl _ _ p e ha hc hk s m args below hf hA hF happ hP
  obtain ⟨hcalls, hrest, hpre⟩ := hP
  obtain ⟨-, -, -, hnamed, -, -, -, hat⟩ := (Spec.applies_iff hf).mp happ
  obtain ⟨hg, hn⟩ := and_e (Cond.before_iff.mp (show (Jvm.Cond.and given_1 narrow_1).before args s = true from hpre))
  obtain ⟨gc, r0⟩ := and_e hg
  obtain ⟨g0, r1⟩ := and_e r0
  obtain ⟨g1, r2⟩ := and_e r1
  obtain ⟨w0, w1, w2, rfl⟩ : ∃ w0 w1 w2 : Value, args = #[w0, w1, w2] := by
    have hs : args.size = 3 := by simpa [Cond.value, given_1] using gc
    obtain ⟨L⟩ := args
    match L, hs with
    | [w0, w1, w2], _ => exact ⟨w0, w1, w2, rfl⟩
  have hw := fun d (hd : d ∈ tables_1) => atoms_spec (ws := Jvm.Cond.code x code maxLocals ret :: tables_1) hat d (List.mem_cons_of_mem _ hd)
  obtain ⟨i0, ei0⟩ := is_v g0
  obtain rfl : w0 = (.int i0) := Option.some.inj ei0
  obtain ⟨i1, ei1⟩ := is_v g1
  obtain rfl : w1 = (.int i1) := Option.some.inj ei1
  obtain ⟨i2, ei2⟩ := is_v r2
  obtain rfl : w2 = (.int i2) := Option.some.inj ei2
  obtain ⟨n, o, h1, h2, h3, _, L, rfl, ⟨rfl, N⟩, hq⟩ := rm0 l s _ hw tables_1 i0 i1 i2 s.heap s.heap.size (Nat.le_refl _) p e ha hc hk s m _ below hf ((Spec.applies_iff_loose hf).mp happ).1 ⟨rfl, State.Warmed39.refl s, rfl⟩ trivial
  refine ⟨n, _, h1, h2, h3, hpost _ _ _ _ _ _ ⟨Cond.after_iff.mpr rfl, Cond.after_iff.mpr (eq_i res_at (Term.int_eval (1)) rfl), trivial⟩ ⟨hq.1, hq.2.1, (hq.2.2.sift fun y hy => Or.inr (N y hy)).mono (by decide) (by decide)⟩⟩
theorem main_1_1 : Claimed_1_1 := comes_1 fun _ _ _ _ _ _ h hF => ⟨h.1, hF⟩
theorem main_1_2 : Claimed_1_2 := comes_1 fun _ _ _ _ _ _ h hF => ⟨h.2.1, hF⟩
end Jvm.Pilot.@@N@@
namespace Jvm.Pilot.@@N@@
open Jvm Jvm.ClassFile Sem Op Lib Jvm.Free Jvm.Stand Jvm.Pilot.@@N@@.Jvm.D
/-! MADE BY PROGRAM (witnessworld.py) out of the Statement's table words and the real class files: 9 classes; the members and pool entries that the words name. The judged class is class 1, her method 3. -/
namespace start1
open Jvm.ClassFile
def u (s : String) : CpInfo := .utf8 (stringToUtf16 s)
/-- a pool by its gaps: so many unusable entries, then the entry; so many at the end -/
def gap : Nat → List CpInfo → List CpInfo
  | 0, r => r
  | n + 1, r => .unusable :: gap n r
def poolList (es : List (Nat × CpInfo)) (last : Nat) : List CpInfo := es.foldr (fun e r => gap e.1 (e.2 :: r)) (gap last [])
def pool (es : List (Nat × CpInfo)) (last : Nat) : Array CpInfo := ⟨poolList es last⟩
def fileOf (pool : Array CpInfo) (this : Nat) (attrs : Array Attribute := #[]) (ms : Array MethodInfo := #[]) (fl : Nat := 33) (sup : Nat := 0) (ifs : Array Nat := #[]) (fds : Array FieldInfo := #[]) : ClassFile where
  minorVersion := 0
  majorVersion := 65
  constantPool := pool
  accessFlags := fl
  thisClass := this
  superClass := sup
  interfaces := ifs
  fields := fds
  methods := ms
  attributes := attrs
def plain (name : String) (sup : Option ClassId) : Class where
  name := name
  kind := .ordinary
  loader := none
  accessFlags := 33
  super := sup
  interfaces := #[]
  cf := none
  fields := #[]
  methods := #[]
  instanceTypes := #[]
  staticTypes := #[]
  resolved := #[]
  callSites := []
  init := .initialized
  statics := none
  mirror := none

def pool0 : Array CpInfo := pool [(5, u "<init>"), (0, u "()V"), (1, .class_ 10), (1, u "java/lang/Object")] 113

def k0m0 : Method := { name := "<init>", desc := "()V", sig := { parameters := [], returnType := none }, accessFlags := 1, code := none }
/-- java/lang/Object -/
def k0 : Class := { plain "java/lang/Object" none with
  accessFlags := 33
  interfaces := #[]
  cf := some (fileOf pool0 8 #[] #[{ accessFlags := 1, nameIndex := 5, descriptorIndex := 6, attributes := #[] }] 33 0 #[] #[])
  fields := #[]
  methods := #[k0m0]
  instanceTypes := #[]
  staticTypes := #[]
  resolved := Array.replicate 124 none
  statics := none }

def pool1 : Array CpInfo := pool [(2, .class_ 4), (1, u "java/lang/Object"), (0, u "<init>"), (0, u "()V"), (0, .integer 55296), (0, .integer 63743), (0, .integer 64976), (0, .integer 65007), (0, .integer 65534), (0, .integer 65535), (0, .integer 983039), (0, .methodref 15 16), (0, .class_ 17), (0, .nameAndType 18 19), (0, u "com/example/hale_xslt/halexslt/xdm/XmlNames"), (0, u "isNameStart"), (0, u "(I)Z"), (0, .methodref 21 22), (0, .class_ 23), (0, .nameAndType 24 19), (0, u "com/example/hale_xslt/halexslt/xdm/XmlNamesIsNameStartPinLaw"), (0, u "excluded"), (0, .integer 63744), (0, .integer 65008), (0, .integer 65536), (0, .integer 983040), (0, .integer 2147483647), (0, .integer 2097151), (0, .methodref 21 32), (0, .nameAndType 33 19), (0, u "agrees"), (3, u "law"), (0, u "(III)Z")] 4

def k1m0 : Method := { name := "<init>", desc := "()V", sig := { parameters := [], returnType := none }, accessFlags := 2, code := none }
def k1c1 : Code := { maxStack := 2, maxLocals := 1, code := method_2_code, exceptionTable := #[], attributes := #[] }
def k1m1 : Method := { name := "excluded", desc := "(I)Z", sig := { parameters := [.int], returnType := some .boolean }, accessFlags := 10, code := some k1c1 }
def k1c2 : Code := { maxStack := 2, maxLocals := 1, code := method_3_code, exceptionTable := #[], attributes := #[] }
def k1m2 : Method := { name := "agrees", desc := "(I)Z", sig := { parameters := [.int], returnType := some .boolean }, accessFlags := 10, code := some k1c2 }
def k1c3 : Code := { maxStack := 4, maxLocals := 7, code := code, exceptionTable := #[], attributes := #[] }
def k1m3 : Method := { name := "law", desc := "(III)Z", sig := { parameters := [.int, .int, .int], returnType := some .boolean }, accessFlags := 9, code := some k1c3 }
/-- com/example/hale_xslt/halexslt/xdm/XmlNamesIsNameStartPinLaw -/
def k1 : Class := { plain "com/example/hale_xslt/halexslt/xdm/XmlNamesIsNameStartPinLaw" (some 0) with
  accessFlags := 49
  interfaces := #[]
  cf := some (fileOf pool1 21 #[] #[{ accessFlags := 2, nameIndex := 5, descriptorIndex := 6, attributes := #[] }, { accessFlags := 10, nameIndex := 24, descriptorIndex := 19, attributes := #[] }, { accessFlags := 10, nameIndex := 33, descriptorIndex := 19, attributes := #[] }, { accessFlags := 9, nameIndex := 37, descriptorIndex := 38, attributes := #[] }] 49 2 #[] #[])
  fields := #[]
  methods := #[k1m0, k1m1, k1m2, k1m3]
  instanceTypes := #[]
  staticTypes := #[]
  resolved := Array.replicate 43 none
  statics := none }

def pool2 : Array CpInfo := pool [(2, .class_ 4), (1, u "java/lang/Object"), (0, u "<init>"), (0, u "()V"), (0, .integer 55295), (1, .integer 65533), (0, .integer 65536), (12, .class_ 25), (1, u "com/example/hale_xslt/halexslt/xdm/XmlNames"), (1, u "(I)Z"), (5, .integer 63744), (0, .integer 64975), (0, .integer 65008), (0, .integer 983039), (2, u "isNameStart")] 78

def k2m0 : Method := { name := "<init>", desc := "()V", sig := { parameters := [], returnType := none }, accessFlags := 2, code := none }
def k2c1 : Code := { maxStack := 2, maxLocals := 1, code := prog_88_method_4_code, exceptionTable := #[], attributes := #[] }
def k2m1 : Method := { name := "isNameStart", desc := "(I)Z", sig := { parameters := [.int], returnType := some .boolean }, accessFlags := 9, code := some k2c1 }
/-- com/example/hale_xslt/halexslt/xdm/XmlNames -/
def k2 : Class := { plain "com/example/hale_xslt/halexslt/xdm/XmlNames" (some 0) with
  accessFlags := 33
  interfaces := #[]
  cf := some (fileOf pool2 23 #[] #[{ accessFlags := 2, nameIndex := 5, descriptorIndex := 6, attributes := #[] }, { accessFlags := 9, nameIndex := 39, descriptorIndex := 27, attributes := #[] }] 33 2 #[] #[])
  fields := #[]
  methods := #[k2m0, k2m1]
  instanceTypes := #[]
  staticTypes := #[]
  resolved := Array.replicate 118 none
  statics := none }

def pool3 : Array CpInfo := pool [(1, u "java/lang/Cloneable"), (0, .class_ 1), (0, u "java/lang/Object"), (0, .class_ 3)] 3

/-- java/lang/Cloneable -/
def k3 : Class := { plain "java/lang/Cloneable" (some 0) with
  accessFlags := 1537
  interfaces := #[]
  cf := some (fileOf pool3 2 #[] #[] 1537 4 #[] #[])
  fields := #[]
  methods := #[]
  instanceTypes := #[]
  staticTypes := #[]
  resolved := Array.replicate 8 none
  statics := none }

def pool4 : Array CpInfo := pool [(1, u "java/io/Serializable"), (0, .class_ 1), (0, u "java/lang/Object"), (0, .class_ 3)] 3

/-- java/io/Serializable -/
def k4 : Class := { plain "java/io/Serializable" (some 0) with
  accessFlags := 1537
  interfaces := #[]
  cf := some (fileOf pool4 2 #[] #[] 1537 4 #[] #[])
  fields := #[]
  methods := #[]
  instanceTypes := #[]
  staticTypes := #[]
  resolved := Array.replicate 8 none
  statics := none }

/-- the primitive byte -/
def k5 : Class := { plain "byte" none with kind := .primitive 'B', accessFlags := 0x411 }
/-- [B -/
def k6 : Class := { plain "[B" (some 0) with kind := .array 5 .byte, interfaces := #[3, 4], accessFlags := 1041 }

/-- the primitive int -/
def k7 : Class := { plain "int" none with kind := .primitive 'I', accessFlags := 0x411 }
/-- [I -/
def k8 : Class := { plain "[I" (some 0) with kind := .array 7 .int, interfaces := #[3, 4], accessFlags := 1041 }

def heap : Heap := #[]
def classes : Array Class := #[k0, k1, k2, k3, k4, k5, k6, k7, k8]
def interned : List (Array UInt16 × Addr) := []
def slotsUsed : Nat := 0
def theMethod : MethodId := ⟨1, 3⟩
def args0 : Array Value := #[.int 65, .int 3, .int 1]
def aboutOver (below : List Frame) : State where
  vm := { classes := classes, interned := interned.toArray }
  heap := heap
  slotsUsed := slotsUsed
  threads := #[{ frames := .invoking theMethod args0 :: below }]
def below0 : List Frame := [.native { method := ⟨0, 0⟩, args := #[] }]
def about1 : State := aboutOver below0
def p0 : Program := .bare "" "" ""
def e0 : Env := launch0.env 0 0 0
theorem w_frames : about1.frames = Frame.invoking theMethod args0 :: below0 := rfl
set_option maxRecDepth 65536 in
theorem w_args : argsFit about1.vm theMethod args0 = true := by decide +kernel
set_option maxRecDepth 65536 in
theorem w_heap : heapFits about1 = true := by decide +kernel
set_option maxRecDepth 65536 in
theorem w_runnable : about1.curStatus? = some .runnable := by decide +kernel
set_option maxRecDepth 65536 in
theorem w_alone : about1.alone = true := by decide +kernel
set_option maxRecDepth 65536 in
theorem w_named : about1.methodNamed? x = some theMethod := by decide +kernel
set_option maxRecDepth 65536 in
theorem w_hears : about1.hears theMethod below0 = true := by decide +kernel
set_option maxRecDepth 65536 in
theorem w_ripe : about1.ripe theMethod args0 below0 = true := by decide +kernel
theorem w_running : about1.status = .running := rfl
set_option maxRecDepth 65536 in
theorem w_room : about1.hasRoom e0.platform room_1 = true :=
  launch0.hasRoom_least _ room_1 (by decide +kernel) (by decide +kernel) (by decide +kernel) (by decide +kernel) (by decide +kernel) (by decide +kernel)
theorem allAtoms_all (ts : List Jvm.Cond) (a : Array Jvm.Value) (st : Jvm.State) : (allAtoms ts).before a st = ts.all (fun c => c.before a st) := by
  induction ts with
  | nil => rfl
  | cons c t ih =>
    show (Jvm.Cond.and c (allAtoms t)).before a st = _
    rw [Jvm.Cond.before_and, ih, List.all_cons]
def words1 : List Jvm.Cond := Jvm.Cond.code x code maxLocals ret :: tables_1
/-- a 'code' word, met by the world's own term for the bytes: nothing is compared byte by byte -/
theorem code_word {y : MethodName} {bytes : ByteArray} {mx : Nat} {rt : Option FieldType} {a : Array Value} {s : State} {m : MethodId} {meth : Method} {c : Code} (h1 : s.methodNamed? y = some m) (h2 : s.vm.method? m = some meth) (h3 : meth.code = some c) (h4 : c.code = bytes)
    (h5 : (c.maxLocals == mx && c.exceptionTable.isEmpty && decide (c.maxStack ≤ mostOperands) && decide (meth.sig.returnType = rt) && !meth.locks && decide (parseMethodDescriptor y.desc = some meth.sig)) = true) : (Jvm.Cond.code y bytes mx rt).before a s = true := by
  simp only [Bool.and_eq_true, beq_iff_eq, Bool.not_eq_true', decide_eq_true_eq] at h5
  obtain ⟨⟨⟨⟨⟨g1, g2⟩, g3⟩, g4⟩, g5⟩, g6⟩ := h5
  simp [Cond.before, Cond.holds, Cond.value, h1, h2, h3, h4, g1, g2, g3, g4, g5, g6]
def isCode : Jvm.Cond → Bool
  | .code _ _ _ _ => true
  | _ => false
theorem all_split {L : List Jvm.Cond} {P : Jvm.Cond → Bool} (h1 : L.all (fun c => isCode c || P c) = true) (h2 : ∀ c ∈ L.filter isCode, P c = true) : L.all P = true := by
  refine List.all_eq_true.mpr fun c hc => ?_
  have h := List.all_eq_true.mp h1 c hc
  rcases Bool.eq_false_or_eq_true (isCode c) with hi | hi
  · exact h2 c (List.mem_filter.mpr ⟨hc, hi⟩)
  · simpa [hi] using h
set_option maxRecDepth 65536 in
theorem w_c0 : (Jvm.Cond.code x code maxLocals ret).before args0 about1 = true := code_word (m := ⟨1, 3⟩) (meth := k1m3) (c := k1c3) (by decide +kernel) rfl rfl rfl (by decide +kernel)
set_option maxRecDepth 65536 in
theorem w_c1 : (Jvm.Cond.code ({ cls := "com/example/hale_xslt/halexslt/xdm/XmlNamesIsNameStartPinLaw", name := "agrees", desc := "(I)Z" } : Jvm.MethodName) method_3_code (1 : Nat) (Option.some Jvm.ClassFile.FieldType.boolean)).before args0 about1 = true := code_word (m := ⟨1, 2⟩) (meth := k1m2) (c := k1c2) (by decide +kernel) rfl rfl rfl (by decide +kernel)
set_option maxRecDepth 65536 in
theorem w_c2 : (Jvm.Cond.code ({ cls := "com/example/hale_xslt/halexslt/xdm/XmlNames", name := "isNameStart", desc := "(I)Z" } : Jvm.MethodName) prog_88_method_4_code (1 : Nat) (Option.some Jvm.ClassFile.FieldType.boolean)).before args0 about1 = true := code_word (m := ⟨2, 1⟩) (meth := k2m1) (c := k2c1) (by decide +kernel) rfl rfl rfl (by decide +kernel)
set_option maxRecDepth 65536 in
theorem w_c3 : (Jvm.Cond.code ({ cls := "com/example/hale_xslt/halexslt/xdm/XmlNamesIsNameStartPinLaw", name := "excluded", desc := "(I)Z" } : Jvm.MethodName) method_2_code (1 : Nat) (Option.some Jvm.ClassFile.FieldType.boolean)).before args0 about1 = true := code_word (m := ⟨1, 1⟩) (meth := k1m1) (c := k1c1) (by decide +kernel) rfl rfl rfl (by decide +kernel)
def codes1 : List Jvm.Cond := [Jvm.Cond.code x code maxLocals ret, Jvm.Cond.code ({ cls := "com/example/hale_xslt/halexslt/xdm/XmlNamesIsNameStartPinLaw", name := "agrees", desc := "(I)Z" } : Jvm.MethodName) method_3_code (1 : Nat) (Option.some Jvm.ClassFile.FieldType.boolean), Jvm.Cond.code ({ cls := "com/example/hale_xslt/halexslt/xdm/XmlNames", name := "isNameStart", desc := "(I)Z" } : Jvm.MethodName) prog_88_method_4_code (1 : Nat) (Option.some Jvm.ClassFile.FieldType.boolean), Jvm.Cond.code ({ cls := "com/example/hale_xslt/halexslt/xdm/XmlNamesIsNameStartPinLaw", name := "excluded", desc := "(I)Z" } : Jvm.MethodName) method_2_code (1 : Nat) (Option.some Jvm.ClassFile.FieldType.boolean)]
set_option maxRecDepth 65536 in
theorem codes_eq : words1.filter isCode = codes1 := rfl
theorem w_codes : ∀ c ∈ words1.filter isCode, c.before args0 about1 = true := by
  rw [codes_eq]
  intro c hc
  simp only [codes1, List.mem_cons, List.not_mem_nil, or_false] at hc
  rcases hc with rfl | rfl | rfl | rfl
  · exact w_c0
  · exact w_c1
  · exact w_c2
  · exact w_c3
set_option maxRecDepth 65536 in
theorem w_t1 : (words1.take 24).all (fun c => isCode c || c.before args0 about1) = true := by decide +kernel
set_option maxRecDepth 65536 in
theorem w_t2 : (words1.drop 24).all (fun c => isCode c || c.before args0 about1) = true := by decide +kernel
theorem w_tables : (allAtoms (Jvm.Cond.code x code maxLocals ret :: tables_1)).before args0 about1 = true := by
  rw [allAtoms_all]
  show words1.all (fun c => c.before args0 about1) = true
  refine all_split ?_ w_codes
  rw [← List.take_append_drop 24 words1, List.all_append, w_t1, w_t2]
  rfl
set_option maxRecDepth 65536 in
theorem w_case : (Jvm.Cond.and given_1 narrow_1).before args0 about1 = true := by decide +kernel
theorem w_applies : (headSpec (Jvm.Cond.code x code maxLocals ret :: tables_1) room_1).applies x e0.platform about1 = true :=
  (Spec.applies_iff w_frames).mpr ⟨w_running, w_runnable, w_alone, w_named, w_hears, w_ripe, w_room, w_tables⟩
theorem atStart : AtStart classFile x code maxLocals ret World_1 tables_1 room_1 Calls_1 rest_1 Pre_1 launch0 p0 e0 about1 theMethod args0 below0 :=
  ⟨lists_1, trivial, launch0.admits_env _ _ _, launch0.least_env, fairChoices_fair.cas, fairChoices_fair.clock, w_frames, w_args, w_heap, w_applies, trivial, trivial, w_case⟩
end start1
theorem witness_1 : WitnessClaimed_1 := ⟨start1.p0, start1.e0, start1.about1, start1.theMethod, start1.args0, start1.below0, start1.atStart⟩
end Jvm.Pilot.@@N@@
