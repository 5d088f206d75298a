import JvmDerived
import JvmDerived.Pilot.@@N@@Statement
import JvmDerived.Pilot.@@N@@Code
set_option linter.unusedVariables false
set_option linter.unusedSimpArgs false
namespace Jvm.Pilot.@@N@@
open Jvm Jvm.ClassFile Sem Op Lib Jvm.Free Jvm.Stand Jvm.LawKit Jvm.RoadKit Bundle Jvm.Pilot.@@N@@.Jvm.D
theorem own_lt32 {c k : Int32} {n : Int} (hk : k.toInt = n) : c < k ↔ c.toInt < n := by rw [Int32.lt_iff_toInt_lt, hk]
theorem own_gt32 {c k : Int32} {n : Int} (hk : k.toInt = n) : k < c ↔ n < c.toInt := by rw [Int32.lt_iff_toInt_lt, hk]
theorem own_eq32 {c k : Int32} {n : Int} (hk : k.toInt = n) : c = k ↔ c.toInt = n := by rw [← hk, Int32.toInt_inj]
/-- the int[] at a in heap h has N places, and each holds an int -/
def own_IA (Z : State) (h : Heap) (a : Addr) (N : Int32) (cl : Cell) : Prop := Arr Z h a cl .int ∧ cl.slots.size = N.toNatClampNeg ∧ ∀ j : Nat, j < cl.slots.size → ∃ w : Int32, cl.slots[j]? = some (.int w)
theorem own_IA_new {Z : State} {h : Heap} {a : Addr} {N : Int32} {cA : ClassId} (A : Arr Z h a (newA cA .int N) .int) : own_IA Z h a N (newA cA .int N) := by
  refine ⟨A, sz_new cA .int N, fun j hj => ⟨0, ?_⟩⟩
  rw [sz_new] at hj
  show (Array.replicate N.toNatClampNeg (defaultValue .int))[j]? = _
  rw [Array.getElem?_replicate, if_pos hj]; rfl
theorem own_IA_set {Z : State} {h h' : Heap} {a : Addr} {N x : Int32} {cl : Cell} {i : Nat} (A : own_IA Z h a N cl) (W : Wr h h' a i (.int x)) : own_IA Z h' a N (cl.setSlot i (.int x)) := by
  refine ⟨A.1.same W, by rw [sz_set]; exact A.2.1, fun j hj => ?_⟩
  rw [sz_set] at hj
  show ∃ w : Int32, (cl.slots.setIfInBounds i (.int x))[j]? = some (.int w)
  rw [Array.getElem?_setIfInBounds]
  by_cases q : i = j
  · subst q; rw [if_pos rfl, if_pos hj]; exact ⟨x, rfl⟩
  · rw [if_neg q]; exact A.2.2 j hj
theorem own_IA_at {Z : State} {h : Heap} {a : Addr} {N j : Int32} {cl : Cell} (A : own_IA Z h a N cl) (q : ¬ j < 0 ∧ j < N) : ¬ (j < 0 ∨ cl.slots.size ≤ j.toNatClampNeg) ∧ ∃ w : Int32, cl.slots[j.toNatClampNeg]? = some (.int w) := by
  have hin := inb_of A.2.1 q
  exact ⟨hin, A.2.2 _ (Nat.lt_of_not_le fun r => hin (Or.inr r))⟩
theorem own_pdI : parseMethodDescriptor "(I)Z" = some ⟨[.int], some .boolean⟩ := by decide +kernel
theorem own_n10 : ¬ (1 : Int32) = 0 := by decide
theorem d1_0 : decode prog_216_method_5_code 0 = .ok (.iload_n 0, 1) := by decide +kernel
theorem d1_1 : decode prog_216_method_5_code 1 = .ok (.bipush 9, 2) := by decide +kernel
theorem d1_3 : decode prog_216_method_5_code 3 = .ok (.if_icmp .eq 51, 3) := by decide +kernel
theorem d1_6 : decode prog_216_method_5_code 6 = .ok (.iload_n 0, 1) := by decide +kernel
theorem d1_7 : decode prog_216_method_5_code 7 = .ok (.bipush 10, 2) := by decide +kernel
theorem d1_9 : decode prog_216_method_5_code 9 = .ok (.if_icmp .eq 45, 3) := by decide +kernel
theorem d1_12 : decode prog_216_method_5_code 12 = .ok (.iload_n 0, 1) := by decide +kernel
theorem d1_13 : decode prog_216_method_5_code 13 = .ok (.bipush 13, 2) := by decide +kernel
theorem d1_15 : decode prog_216_method_5_code 15 = .ok (.if_icmp .eq 39, 3) := by decide +kernel
theorem d1_18 : decode prog_216_method_5_code 18 = .ok (.iload_n 0, 1) := by decide +kernel
theorem d1_19 : decode prog_216_method_5_code 19 = .ok (.bipush 32, 2) := by decide +kernel
theorem d1_21 : decode prog_216_method_5_code 21 = .ok (.if_icmp .lt 9, 3) := by decide +kernel
theorem d1_24 : decode prog_216_method_5_code 24 = .ok (.iload_n 0, 1) := by decide +kernel
theorem d1_25 : decode prog_216_method_5_code 25 = .ok (.ldc 106, 2) := by decide +kernel
theorem d1_27 : decode prog_216_method_5_code 27 = .ok (.if_icmp .le 27, 3) := by decide +kernel
theorem d1_30 : decode prog_216_method_5_code 30 = .ok (.iload_n 0, 1) := by decide +kernel
theorem d1_31 : decode prog_216_method_5_code 31 = .ok (.ldc 107, 2) := by decide +kernel
theorem d1_33 : decode prog_216_method_5_code 33 = .ok (.if_icmp .lt 9, 3) := by decide +kernel
theorem d1_36 : decode prog_216_method_5_code 36 = .ok (.iload_n 0, 1) := by decide +kernel
theorem d1_37 : decode prog_216_method_5_code 37 = .ok (.ldc 108, 2) := by decide +kernel
theorem d1_39 : decode prog_216_method_5_code 39 = .ok (.if_icmp .le 15, 3) := by decide +kernel
theorem d1_42 : decode prog_216_method_5_code 42 = .ok (.iload_n 0, 1) := by decide +kernel
theorem d1_43 : decode prog_216_method_5_code 43 = .ok (.ldc 109, 2) := by decide +kernel
theorem d1_45 : decode prog_216_method_5_code 45 = .ok (.if_icmp .lt 13, 3) := by decide +kernel
theorem d1_48 : decode prog_216_method_5_code 48 = .ok (.iload_n 0, 1) := by decide +kernel
theorem d1_49 : decode prog_216_method_5_code 49 = .ok (.ldc 110, 2) := by decide +kernel
theorem d1_51 : decode prog_216_method_5_code 51 = .ok (.if_icmp .gt 7, 3) := by decide +kernel
theorem d1_54 : decode prog_216_method_5_code 54 = .ok (.iconst 1, 1) := by decide +kernel
theorem d1_55 : decode prog_216_method_5_code 55 = .ok (.goto 4, 3) := by decide +kernel
theorem d1_58 : decode prog_216_method_5_code 58 = .ok (.iconst 0, 1) := by decide +kernel
theorem d1_59 : decode prog_216_method_5_code 59 = .ok (.ireturn, 1) := by decide +kernel
def own_f1_58 (z : Int) : Int32 := 0
def own_f1_54 (z : Int) : Int32 := 1
def own_f1_48 (z : Int) : Int32 := if 1114111 < z then own_f1_58 z else own_f1_54 z
def own_f1_42 (z : Int) : Int32 := if z < 65536 then own_f1_58 z else own_f1_48 z
def own_f1_36 (z : Int) : Int32 := if 65533 < z then own_f1_42 z else own_f1_54 z
def own_f1_30 (z : Int) : Int32 := if z < 57344 then own_f1_42 z else own_f1_36 z
def own_f1_24 (z : Int) : Int32 := if 55295 < z then own_f1_30 z else own_f1_54 z
def own_f1_18 (z : Int) : Int32 := if z < 32 then own_f1_30 z else own_f1_24 z
def own_f1_12 (z : Int) : Int32 := if z = 13 then own_f1_54 z else own_f1_18 z
def own_f1_6 (z : Int) : Int32 := if z = 10 then own_f1_54 z else own_f1_12 z
def own_f1_0 (z : Int) : Int32 := if z = 9 then own_f1_54 z else own_f1_6 z
theorem own_o1_58 (z : Int) : (own_f1_58 z = 1 ∧ False) ∨ (own_f1_58 z = 0 ∧ ¬ False) := Or.inr ⟨rfl, id⟩
theorem own_m1_42 (z : Int) : own_f1_42 z = if (¬ z < 65536 ∧ ¬ 1114111 < z) then 1 else own_f1_58 z := by
  by_cases h : (¬ z < 65536 ∧ ¬ 1114111 < z)
  · obtain ⟨h0, h1⟩ := id h
    rw [if_pos h, own_f1_42, if_neg h0, own_f1_48, if_neg h1]; rfl
  · rw [if_neg h]
    by_cases h0 : z < 65536
    · rw [own_f1_42, if_pos h0]
    · rw [own_f1_42, if_neg h0, own_f1_48, if_pos (Decidable.not_not.mp (fun q => h ⟨h0, q⟩))]
theorem own_o1_42 (z : Int) : (own_f1_42 z = 1 ∧ (¬ z < 65536 ∧ ¬ 1114111 < z)) ∨ (own_f1_42 z = 0 ∧ ¬ (¬ z < 65536 ∧ ¬ 1114111 < z)) := by
  rw [own_m1_42]
  by_cases h : (¬ z < 65536 ∧ ¬ 1114111 < z)
  · rw [if_pos h]; exact Or.inl ⟨rfl, h⟩
  · rw [if_neg h]; exact Or.inr ⟨rfl, h⟩
theorem own_m1_30 (z : Int) : own_f1_30 z = if (¬ z < 57344 ∧ ¬ 65533 < z) then 1 else own_f1_42 z := by
  by_cases h : (¬ z < 57344 ∧ ¬ 65533 < z)
  · obtain ⟨h0, h1⟩ := id h
    rw [if_pos h, own_f1_30, if_neg h0, own_f1_36, if_neg h1]; rfl
  · rw [if_neg h]
    by_cases h0 : z < 57344
    · rw [own_f1_30, if_pos h0]
    · rw [own_f1_30, if_neg h0, own_f1_36, if_pos (Decidable.not_not.mp (fun q => h ⟨h0, q⟩))]
theorem own_o1_30 (z : Int) : (own_f1_30 z = 1 ∧ ((¬ z < 57344 ∧ ¬ 65533 < z) ∨ (¬ z < 65536 ∧ ¬ 1114111 < z))) ∨ (own_f1_30 z = 0 ∧ ¬ ((¬ z < 57344 ∧ ¬ 65533 < z) ∨ (¬ z < 65536 ∧ ¬ 1114111 < z))) := by
  rw [own_m1_30]
  by_cases h : (¬ z < 57344 ∧ ¬ 65533 < z)
  · rw [if_pos h]; exact Or.inl ⟨rfl, Or.inl h⟩
  · rw [if_neg h]
    rcases own_o1_42 z with ⟨a, b⟩ | ⟨a, b⟩
    · exact Or.inl ⟨a, Or.inr b⟩
    · exact Or.inr ⟨a, fun q => q.elim h b⟩
theorem own_m1_18 (z : Int) : own_f1_18 z = if (¬ z < 32 ∧ ¬ 55295 < z) then 1 else own_f1_30 z := by
  by_cases h : (¬ z < 32 ∧ ¬ 55295 < z)
  · obtain ⟨h0, h1⟩ := id h
    rw [if_pos h, own_f1_18, if_neg h0, own_f1_24, if_neg h1]; rfl
  · rw [if_neg h]
    by_cases h0 : z < 32
    · rw [own_f1_18, if_pos h0]
    · rw [own_f1_18, if_neg h0, own_f1_24, if_pos (Decidable.not_not.mp (fun q => h ⟨h0, q⟩))]
theorem own_o1_18 (z : Int) : (own_f1_18 z = 1 ∧ ((¬ z < 32 ∧ ¬ 55295 < z) ∨ ((¬ z < 57344 ∧ ¬ 65533 < z) ∨ (¬ z < 65536 ∧ ¬ 1114111 < z)))) ∨ (own_f1_18 z = 0 ∧ ¬ ((¬ z < 32 ∧ ¬ 55295 < z) ∨ ((¬ z < 57344 ∧ ¬ 65533 < z) ∨ (¬ z < 65536 ∧ ¬ 1114111 < z)))) := by
  rw [own_m1_18]
  by_cases h : (¬ z < 32 ∧ ¬ 55295 < z)
  · rw [if_pos h]; exact Or.inl ⟨rfl, Or.inl h⟩
  · rw [if_neg h]
    rcases own_o1_30 z with ⟨a, b⟩ | ⟨a, b⟩
    · exact Or.inl ⟨a, Or.inr b⟩
    · exact Or.inr ⟨a, fun q => q.elim h b⟩
theorem own_m1_12 (z : Int) : own_f1_12 z = if (z = 13) then 1 else own_f1_18 z := by
  by_cases h : (z = 13)
  · rw [if_pos h, own_f1_12, if_pos h]; rfl
  · rw [if_neg h, own_f1_12, if_neg h]
theorem own_o1_12 (z : Int) : (own_f1_12 z = 1 ∧ ((z = 13) ∨ ((¬ z < 32 ∧ ¬ 55295 < z) ∨ ((¬ z < 57344 ∧ ¬ 65533 < z) ∨ (¬ z < 65536 ∧ ¬ 1114111 < z))))) ∨ (own_f1_12 z = 0 ∧ ¬ ((z = 13) ∨ ((¬ z < 32 ∧ ¬ 55295 < z) ∨ ((¬ z < 57344 ∧ ¬ 65533 < z) ∨ (¬ z < 65536 ∧ ¬ 1114111 < z))))) := by
  rw [own_m1_12]
  by_cases h : (z = 13)
  · rw [if_pos h]; exact Or.inl ⟨rfl, Or.inl h⟩
  · rw [if_neg h]
    rcases own_o1_18 z with ⟨a, b⟩ | ⟨a, b⟩
    · exact Or.inl ⟨a, Or.inr b⟩
    · exact Or.inr ⟨a, fun q => q.elim h b⟩
theorem own_m1_6 (z : Int) : own_f1_6 z = if (z = 10) then 1 else own_f1_12 z := by
  by_cases h : (z = 10)
  · rw [if_pos h, own_f1_6, if_pos h]; rfl
  · rw [if_neg h, own_f1_6, if_neg h]
theorem own_o1_6 (z : Int) : (own_f1_6 z = 1 ∧ ((z = 10) ∨ ((z = 13) ∨ ((¬ z < 32 ∧ ¬ 55295 < z) ∨ ((¬ z < 57344 ∧ ¬ 65533 < z) ∨ (¬ z < 65536 ∧ ¬ 1114111 < z)))))) ∨ (own_f1_6 z = 0 ∧ ¬ ((z = 10) ∨ ((z = 13) ∨ ((¬ z < 32 ∧ ¬ 55295 < z) ∨ ((¬ z < 57344 ∧ ¬ 65533 < z) ∨ (¬ z < 65536 ∧ ¬ 1114111 < z)))))) := by
  rw [own_m1_6]
  by_cases h : (z = 10)
  · rw [if_pos h]; exact Or.inl ⟨rfl, Or.inl h⟩
  · rw [if_neg h]
    rcases own_o1_12 z with ⟨a, b⟩ | ⟨a, b⟩
    · exact Or.inl ⟨a, Or.inr b⟩
    · exact Or.inr ⟨a, fun q => q.elim h b⟩
theorem own_m1_0 (z : Int) : own_f1_0 z = if (z = 9) then 1 else own_f1_6 z := by
  by_cases h : (z = 9)
  · rw [if_pos h, own_f1_0, if_pos h]; rfl
  · rw [if_neg h, own_f1_0, if_neg h]
theorem own_o1_0 (z : Int) : (own_f1_0 z = 1 ∧ ((z = 9) ∨ ((z = 10) ∨ ((z = 13) ∨ ((¬ z < 32 ∧ ¬ 55295 < z) ∨ ((¬ z < 57344 ∧ ¬ 65533 < z) ∨ (¬ z < 65536 ∧ ¬ 1114111 < z))))))) ∨ (own_f1_0 z = 0 ∧ ¬ ((z = 9) ∨ ((z = 10) ∨ ((z = 13) ∨ ((¬ z < 32 ∧ ¬ 55295 < z) ∨ ((¬ z < 57344 ∧ ¬ 65533 < z) ∨ (¬ z < 65536 ∧ ¬ 1114111 < z))))))) := by
  rw [own_m1_0]
  by_cases h : (z = 9)
  · rw [if_pos h]; exact Or.inl ⟨rfl, Or.inl h⟩
  · rw [if_neg h]
    rcases own_o1_6 z with ⟨a, b⟩ | ⟨a, b⟩
    · exact Or.inl ⟨a, Or.inr b⟩
    · exact Or.inr ⟨a, fun q => q.elim h b⟩
set_option maxRecDepth 65536 in
set_option maxHeartbeats 40000000 in
theorem own_b1_58 {p : Program} {l : Launch} {e : Env} {R : Room} {s : State} {m : MethodId} {args : Array Value} {below : List Frame} {meth : Method} {c : Code} {T : State} {locs : List Loc} {cells slots : Nat} {Z : State} {a0 : Array Value}
    (X : Stand p l e R s m args below meth c T locs cells slots) (hx : p.tables.exec = Jvm.exec) (hZ : Z.Warmed39 s.vm) (hw : ∀ d ∈ tables_1, d.before a0 Z = true) (hby : c.code = prog_216_method_5_code) (hown : s.vm.findClass site_111.cls = some m.cls) (hret : meth.sig.returnType = some .boolean) (z v : Int32) (hv : own_f1_58 z.toInt = v) {fs : List Frame}
    (hr : ∀ (f : JFrame) (acts : List Action), f.method = m → f.locked = none → f.entered = [] → (doReturn e (T.setTop f) acts (some (.int v))).1 = T.setFrames fs) :
    Steps p.tables e below (T.setTop (mkF m 58 #[.val (.int z)] [])) (T.setFrames fs) := by
  obtain rfl : v = (0 : Int32) := hv.symm
  refine XT.iconstV X.here hx rfl (0 : Int32) (hb hby d1_58) (by decide) ?_
  show Steps p.tables e below (T.setTop (mkF m 59 #[.val (.int z)] [(.int (0 : Int32))])) _
  exact retN X hx (t := .boolean) hret (by simp) (hb hby d1_59) hr
set_option maxRecDepth 65536 in
set_option maxHeartbeats 40000000 in
theorem own_b1_54 {p : Program} {l : Launch} {e : Env} {R : Room} {s : State} {m : MethodId} {args : Array Value} {below : List Frame} {meth : Method} {c : Code} {T : State} {locs : List Loc} {cells slots : Nat} {Z : State} {a0 : Array Value}
    (X : Stand p l e R s m args below meth c T locs cells slots) (hx : p.tables.exec = Jvm.exec) (hZ : Z.Warmed39 s.vm) (hw : ∀ d ∈ tables_1, d.before a0 Z = true) (hby : c.code = prog_216_method_5_code) (hown : s.vm.findClass site_111.cls = some m.cls) (hret : meth.sig.returnType = some .boolean) (z v : Int32) (hv : own_f1_54 z.toInt = v) {fs : List Frame}
    (hr : ∀ (f : JFrame) (acts : List Action), f.method = m → f.locked = none → f.entered = [] → (doReturn e (T.setTop f) acts (some (.int v))).1 = T.setFrames fs) :
    Steps p.tables e below (T.setTop (mkF m 54 #[.val (.int z)] [])) (T.setFrames fs) := by
  obtain rfl : v = (1 : Int32) := hv.symm
  refine XT.iconstV X.here hx rfl (1 : Int32) (hb hby d1_54) (by decide) ?_
  show Steps p.tables e below (T.setTop (mkF m 55 #[.val (.int z)] [(.int (1 : Int32))])) _
  refine XS.goto X.here hx rfl (pc0 := 55) (pc' := 59) rfl (hb hby d1_55) (by decide) (by decide) ?_
  show Steps p.tables e below (T.setTop (mkF m 59 #[.val (.int z)] [(.int (1 : Int32))])) _
  exact retN X hx (t := .boolean) hret (by simp) (hb hby d1_59) hr
set_option maxRecDepth 65536 in
set_option maxHeartbeats 40000000 in
theorem own_b1_48 {p : Program} {l : Launch} {e : Env} {R : Room} {s : State} {m : MethodId} {args : Array Value} {below : List Frame} {meth : Method} {c : Code} {T : State} {locs : List Loc} {cells slots : Nat} {Z : State} {a0 : Array Value}
    (X : Stand p l e R s m args below meth c T locs cells slots) (hx : p.tables.exec = Jvm.exec) (hZ : Z.Warmed39 s.vm) (hw : ∀ d ∈ tables_1, d.before a0 Z = true) (hby : c.code = prog_216_method_5_code) (hown : s.vm.findClass site_111.cls = some m.cls) (hret : meth.sig.returnType = some .boolean) (z v : Int32) (hv : own_f1_48 z.toInt = v) {fs : List Frame}
    (hr : ∀ (f : JFrame) (acts : List Action), f.method = m → f.locked = none → f.entered = [] → (doReturn e (T.setTop f) acts (some (.int v))).1 = T.setFrames fs) :
    Steps p.tables e below (T.setTop (mkF m 48 #[.val (.int z)] [])) (T.setFrames fs) := by
  refine XS.iloadN X.here hx rfl (hb hby d1_48) rfl ?_
  show Steps p.tables e below (T.setTop (mkF m 49 #[.val (.int z)] [(.int z)])) _
  refine X.ldcI hx hown (v := (1114111 : Int32)) (mvT hZ (hw _ (List.mem_of_getElem? (i := 24) rfl))) rfl (hb hby d1_49) ?_
  show Steps p.tables e below (T.setTop (mkF m 51 #[.val (.int z)] [(.int (1114111 : Int32)), (.int z)])) _
  by_cases h : 1114111 < z.toInt
  · have h' : (1114111 : Int32) < z := (own_gt32 (k := (1114111 : Int32)) (n := 1114111) (by decide)).mpr h
    refine XS.icmpYes X.here hx rfl (pc0 := 51) (pc' := 58) rfl (hb hby d1_51) rfl (tlt h').2.2.1 (by decide) (by decide) ?_
    exact own_b1_58 X hx hZ hw hby hown hret z v (by rw [own_f1_48, if_pos h] at hv; exact hv) hr
  · have h' : ¬ (1114111 : Int32) < z := fun q => h ((own_gt32 (k := (1114111 : Int32)) (n := 1114111) (by decide)).mp q)
    refine XS.icmpNo X.here hx rfl (hb hby d1_51) rfl (flt h').2.2.1 ?_
    exact own_b1_54 X hx hZ hw hby hown hret z v (by rw [own_f1_48, if_neg h] at hv; exact hv) hr
set_option maxRecDepth 65536 in
set_option maxHeartbeats 40000000 in
theorem own_b1_42 {p : Program} {l : Launch} {e : Env} {R : Room} {s : State} {m : MethodId} {args : Array Value} {below : List Frame} {meth : Method} {c : Code} {T : State} {locs : List Loc} {cells slots : Nat} {Z : State} {a0 : Array Value}
    (X : Stand p l e R s m args below meth c T locs cells slots) (hx : p.tables.exec = Jvm.exec) (hZ : Z.Warmed39 s.vm) (hw : ∀ d ∈ tables_1, d.before a0 Z = true) (hby : c.code = prog_216_method_5_code) (hown : s.vm.findClass site_111.cls = some m.cls) (hret : meth.sig.returnType = some .boolean) (z v : Int32) (hv : own_f1_42 z.toInt = v) {fs : List Frame}
    (hr : ∀ (f : JFrame) (acts : List Action), f.method = m → f.locked = none → f.entered = [] → (doReturn e (T.setTop f) acts (some (.int v))).1 = T.setFrames fs) :
    Steps p.tables e below (T.setTop (mkF m 42 #[.val (.int z)] [])) (T.setFrames fs) := by
  refine XS.iloadN X.here hx rfl (hb hby d1_42) rfl ?_
  show Steps p.tables e below (T.setTop (mkF m 43 #[.val (.int z)] [(.int z)])) _
  refine X.ldcI hx hown (v := (65536 : Int32)) (mvT hZ (hw _ (List.mem_of_getElem? (i := 15) rfl))) rfl (hb hby d1_43) ?_
  show Steps p.tables e below (T.setTop (mkF m 45 #[.val (.int z)] [(.int (65536 : Int32)), (.int z)])) _
  by_cases h : z.toInt < 65536
  · have h' : z < (65536 : Int32) := (own_lt32 (k := (65536 : Int32)) (n := 65536) (by decide)).mpr h
    refine XS.icmpYes X.here hx rfl (pc0 := 45) (pc' := 58) rfl (hb hby d1_45) rfl (tlt h').1 (by decide) (by decide) ?_
    exact own_b1_58 X hx hZ hw hby hown hret z v (by rw [own_f1_42, if_pos h] at hv; exact hv) hr
  · have h' : ¬ z < (65536 : Int32) := fun q => h ((own_lt32 (k := (65536 : Int32)) (n := 65536) (by decide)).mp q)
    refine XS.icmpNo X.here hx rfl (hb hby d1_45) rfl (flt h').1 ?_
    exact own_b1_48 X hx hZ hw hby hown hret z v (by rw [own_f1_42, if_neg h] at hv; exact hv) hr
set_option maxRecDepth 65536 in
set_option maxHeartbeats 40000000 in
theorem own_b1_36 {p : Program} {l : Launch} {e : Env} {R : Room} {s : State} {m : MethodId} {args : Array Value} {below : List Frame} {meth : Method} {c : Code} {T : State} {locs : List Loc} {cells slots : Nat} {Z : State} {a0 : Array Value}
    (X : Stand p l e R s m args below meth c T locs cells slots) (hx : p.tables.exec = Jvm.exec) (hZ : Z.Warmed39 s.vm) (hw : ∀ d ∈ tables_1, d.before a0 Z = true) (hby : c.code = prog_216_method_5_code) (hown : s.vm.findClass site_111.cls = some m.cls) (hret : meth.sig.returnType = some .boolean) (z v : Int32) (hv : own_f1_36 z.toInt = v) {fs : List Frame}
    (hr : ∀ (f : JFrame) (acts : List Action), f.method = m → f.locked = none → f.entered = [] → (doReturn e (T.setTop f) acts (some (.int v))).1 = T.setFrames fs) :
    Steps p.tables e below (T.setTop (mkF m 36 #[.val (.int z)] [])) (T.setFrames fs) := by
  refine XS.iloadN X.here hx rfl (hb hby d1_36) rfl ?_
  show Steps p.tables e below (T.setTop (mkF m 37 #[.val (.int z)] [(.int z)])) _
  refine X.ldcI hx hown (v := (65533 : Int32)) (mvT hZ (hw _ (List.mem_of_getElem? (i := 21) rfl))) rfl (hb hby d1_37) ?_
  show Steps p.tables e below (T.setTop (mkF m 39 #[.val (.int z)] [(.int (65533 : Int32)), (.int z)])) _
  by_cases h : 65533 < z.toInt
  · have h' : (65533 : Int32) < z := (own_gt32 (k := (65533 : Int32)) (n := 65533) (by decide)).mpr h
    refine XS.icmpNo X.here hx rfl (hb hby d1_39) rfl (tlt h').2.2.2 ?_
    exact own_b1_42 X hx hZ hw hby hown hret z v (by rw [own_f1_36, if_pos h] at hv; exact hv) hr
  · have h' : ¬ (65533 : Int32) < z := fun q => h ((own_gt32 (k := (65533 : Int32)) (n := 65533) (by decide)).mp q)
    refine XS.icmpYes X.here hx rfl (pc0 := 39) (pc' := 54) rfl (hb hby d1_39) rfl (flt h').2.2.2 (by decide) (by decide) ?_
    exact own_b1_54 X hx hZ hw hby hown hret z v (by rw [own_f1_36, if_neg h] at hv; exact hv) hr
set_option maxRecDepth 65536 in
set_option maxHeartbeats 40000000 in
theorem own_b1_30 {p : Program} {l : Launch} {e : Env} {R : Room} {s : State} {m : MethodId} {args : Array Value} {below : List Frame} {meth : Method} {c : Code} {T : State} {locs : List Loc} {cells slots : Nat} {Z : State} {a0 : Array Value}
    (X : Stand p l e R s m args below meth c T locs cells slots) (hx : p.tables.exec = Jvm.exec) (hZ : Z.Warmed39 s.vm) (hw : ∀ d ∈ tables_1, d.before a0 Z = true) (hby : c.code = prog_216_method_5_code) (hown : s.vm.findClass site_111.cls = some m.cls) (hret : meth.sig.returnType = some .boolean) (z v : Int32) (hv : own_f1_30 z.toInt = v) {fs : List Frame}
    (hr : ∀ (f : JFrame) (acts : List Action), f.method = m → f.locked = none → f.entered = [] → (doReturn e (T.setTop f) acts (some (.int v))).1 = T.setFrames fs) :
    Steps p.tables e below (T.setTop (mkF m 30 #[.val (.int z)] [])) (T.setFrames fs) := by
  refine XS.iloadN X.here hx rfl (hb hby d1_30) rfl ?_
  show Steps p.tables e below (T.setTop (mkF m 31 #[.val (.int z)] [(.int z)])) _
  refine X.ldcI hx hown (v := (57344 : Int32)) (mvT hZ (hw _ (List.mem_of_getElem? (i := 14) rfl))) rfl (hb hby d1_31) ?_
  show Steps p.tables e below (T.setTop (mkF m 33 #[.val (.int z)] [(.int (57344 : Int32)), (.int z)])) _
  by_cases h : z.toInt < 57344
  · have h' : z < (57344 : Int32) := (own_lt32 (k := (57344 : Int32)) (n := 57344) (by decide)).mpr h
    refine XS.icmpYes X.here hx rfl (pc0 := 33) (pc' := 42) rfl (hb hby d1_33) rfl (tlt h').1 (by decide) (by decide) ?_
    exact own_b1_42 X hx hZ hw hby hown hret z v (by rw [own_f1_30, if_pos h] at hv; exact hv) hr
  · have h' : ¬ z < (57344 : Int32) := fun q => h ((own_lt32 (k := (57344 : Int32)) (n := 57344) (by decide)).mp q)
    refine XS.icmpNo X.here hx rfl (hb hby d1_33) rfl (flt h').1 ?_
    exact own_b1_36 X hx hZ hw hby hown hret z v (by rw [own_f1_30, if_neg h] at hv; exact hv) hr
set_option maxRecDepth 65536 in
set_option maxHeartbeats 40000000 in
theorem own_b1_24 {p : Program} {l : Launch} {e : Env} {R : Room} {s : State} {m : MethodId} {args : Array Value} {below : List Frame} {meth : Method} {c : Code} {T : State} {locs : List Loc} {cells slots : Nat} {Z : State} {a0 : Array Value}
    (X : Stand p l e R s m args below meth c T locs cells slots) (hx : p.tables.exec = Jvm.exec) (hZ : Z.Warmed39 s.vm) (hw : ∀ d ∈ tables_1, d.before a0 Z = true) (hby : c.code = prog_216_method_5_code) (hown : s.vm.findClass site_111.cls = some m.cls) (hret : meth.sig.returnType = some .boolean) (z v : Int32) (hv : own_f1_24 z.toInt = v) {fs : List Frame}
    (hr : ∀ (f : JFrame) (acts : List Action), f.method = m → f.locked = none → f.entered = [] → (doReturn e (T.setTop f) acts (some (.int v))).1 = T.setFrames fs) :
    Steps p.tables e below (T.setTop (mkF m 24 #[.val (.int z)] [])) (T.setFrames fs) := by
  refine XS.iloadN X.here hx rfl (hb hby d1_24) rfl ?_
  show Steps p.tables e below (T.setTop (mkF m 25 #[.val (.int z)] [(.int z)])) _
  refine X.ldcI hx hown (v := (55295 : Int32)) (mvT hZ (hw _ (List.mem_of_getElem? (i := 20) rfl))) rfl (hb hby d1_25) ?_
  show Steps p.tables e below (T.setTop (mkF m 27 #[.val (.int z)] [(.int (55295 : Int32)), (.int z)])) _
  by_cases h : 55295 < z.toInt
  · have h' : (55295 : Int32) < z := (own_gt32 (k := (55295 : Int32)) (n := 55295) (by decide)).mpr h
    refine XS.icmpNo X.here hx rfl (hb hby d1_27) rfl (tlt h').2.2.2 ?_
    exact own_b1_30 X hx hZ hw hby hown hret z v (by rw [own_f1_24, if_pos h] at hv; exact hv) hr
  · have h' : ¬ (55295 : Int32) < z := fun q => h ((own_gt32 (k := (55295 : Int32)) (n := 55295) (by decide)).mp q)
    refine XS.icmpYes X.here hx rfl (pc0 := 27) (pc' := 54) rfl (hb hby d1_27) rfl (flt h').2.2.2 (by decide) (by decide) ?_
    exact own_b1_54 X hx hZ hw hby hown hret z v (by rw [own_f1_24, if_neg h] at hv; exact hv) hr
set_option maxRecDepth 65536 in
set_option maxHeartbeats 40000000 in
theorem own_b1_18 {p : Program} {l : Launch} {e : Env} {R : Room} {s : State} {m : MethodId} {args : Array Value} {below : List Frame} {meth : Method} {c : Code} {T : State} {locs : List Loc} {cells slots : Nat} {Z : State} {a0 : Array Value}
    (X : Stand p l e R s m args below meth c T locs cells slots) (hx : p.tables.exec = Jvm.exec) (hZ : Z.Warmed39 s.vm) (hw : ∀ d ∈ tables_1, d.before a0 Z = true) (hby : c.code = prog_216_method_5_code) (hown : s.vm.findClass site_111.cls = some m.cls) (hret : meth.sig.returnType = some .boolean) (z v : Int32) (hv : own_f1_18 z.toInt = v) {fs : List Frame}
    (hr : ∀ (f : JFrame) (acts : List Action), f.method = m → f.locked = none → f.entered = [] → (doReturn e (T.setTop f) acts (some (.int v))).1 = T.setFrames fs) :
    Steps p.tables e below (T.setTop (mkF m 18 #[.val (.int z)] [])) (T.setFrames fs) := by
  refine XS.iloadN X.here hx rfl (hb hby d1_18) rfl ?_
  show Steps p.tables e below (T.setTop (mkF m 19 #[.val (.int z)] [(.int z)])) _
  refine XT.bipushV X.here hx rfl (32 : Int32) (hb hby d1_19) (by decide) ?_
  show Steps p.tables e below (T.setTop (mkF m 21 #[.val (.int z)] [(.int (32 : Int32)), (.int z)])) _
  by_cases h : z.toInt < 32
  · have h' : z < (32 : Int32) := (own_lt32 (k := (32 : Int32)) (n := 32) (by decide)).mpr h
    refine XS.icmpYes X.here hx rfl (pc0 := 21) (pc' := 30) rfl (hb hby d1_21) rfl (tlt h').1 (by decide) (by decide) ?_
    exact own_b1_30 X hx hZ hw hby hown hret z v (by rw [own_f1_18, if_pos h] at hv; exact hv) hr
  · have h' : ¬ z < (32 : Int32) := fun q => h ((own_lt32 (k := (32 : Int32)) (n := 32) (by decide)).mp q)
    refine XS.icmpNo X.here hx rfl (hb hby d1_21) rfl (flt h').1 ?_
    exact own_b1_24 X hx hZ hw hby hown hret z v (by rw [own_f1_18, if_neg h] at hv; exact hv) hr
set_option maxRecDepth 65536 in
set_option maxHeartbeats 40000000 in
theorem own_b1_12 {p : Program} {l : Launch} {e : Env} {R : Room} {s : State} {m : MethodId} {args : Array Value} {below : List Frame} {meth : Method} {c : Code} {T : State} {locs : List Loc} {cells slots : Nat} {Z : State} {a0 : Array Value}
    (X : Stand p l e R s m args below meth c T locs cells slots) (hx : p.tables.exec = Jvm.exec) (hZ : Z.Warmed39 s.vm) (hw : ∀ d ∈ tables_1, d.before a0 Z = true) (hby : c.code = prog_216_method_5_code) (hown : s.vm.findClass site_111.cls = some m.cls) (hret : meth.sig.returnType = some .boolean) (z v : Int32) (hv : own_f1_12 z.toInt = v) {fs : List Frame}
    (hr : ∀ (f : JFrame) (acts : List Action), f.method = m → f.locked = none → f.entered = [] → (doReturn e (T.setTop f) acts (some (.int v))).1 = T.setFrames fs) :
    Steps p.tables e below (T.setTop (mkF m 12 #[.val (.int z)] [])) (T.setFrames fs) := by
  refine XS.iloadN X.here hx rfl (hb hby d1_12) rfl ?_
  show Steps p.tables e below (T.setTop (mkF m 13 #[.val (.int z)] [(.int z)])) _
  refine XT.bipushV X.here hx rfl (13 : Int32) (hb hby d1_13) (by decide) ?_
  show Steps p.tables e below (T.setTop (mkF m 15 #[.val (.int z)] [(.int (13 : Int32)), (.int z)])) _
  by_cases h : z.toInt = 13
  · have h' : z = (13 : Int32) := (own_eq32 (k := (13 : Int32)) (n := 13) (by decide)).mpr h
    refine XS.icmpYes X.here hx rfl (pc0 := 15) (pc' := 54) rfl (hb hby d1_15) rfl (teq h').1 (by decide) (by decide) ?_
    exact own_b1_54 X hx hZ hw hby hown hret z v (by rw [own_f1_12, if_pos h] at hv; exact hv) hr
  · have h' : ¬ z = (13 : Int32) := fun q => h ((own_eq32 (k := (13 : Int32)) (n := 13) (by decide)).mp q)
    refine XS.icmpNo X.here hx rfl (hb hby d1_15) rfl (feq h').1 ?_
    exact own_b1_18 X hx hZ hw hby hown hret z v (by rw [own_f1_12, if_neg h] at hv; exact hv) hr
set_option maxRecDepth 65536 in
set_option maxHeartbeats 40000000 in
theorem own_b1_6 {p : Program} {l : Launch} {e : Env} {R : Room} {s : State} {m : MethodId} {args : Array Value} {below : List Frame} {meth : Method} {c : Code} {T : State} {locs : List Loc} {cells slots : Nat} {Z : State} {a0 : Array Value}
    (X : Stand p l e R s m args below meth c T locs cells slots) (hx : p.tables.exec = Jvm.exec) (hZ : Z.Warmed39 s.vm) (hw : ∀ d ∈ tables_1, d.before a0 Z = true) (hby : c.code = prog_216_method_5_code) (hown : s.vm.findClass site_111.cls = some m.cls) (hret : meth.sig.returnType = some .boolean) (z v : Int32) (hv : own_f1_6 z.toInt = v) {fs : List Frame}
    (hr : ∀ (f : JFrame) (acts : List Action), f.method = m → f.locked = none → f.entered = [] → (doReturn e (T.setTop f) acts (some (.int v))).1 = T.setFrames fs) :
    Steps p.tables e below (T.setTop (mkF m 6 #[.val (.int z)] [])) (T.setFrames fs) := by
  refine XS.iloadN X.here hx rfl (hb hby d1_6) rfl ?_
  show Steps p.tables e below (T.setTop (mkF m 7 #[.val (.int z)] [(.int z)])) _
  refine XT.bipushV X.here hx rfl (10 : Int32) (hb hby d1_7) (by decide) ?_
  show Steps p.tables e below (T.setTop (mkF m 9 #[.val (.int z)] [(.int (10 : Int32)), (.int z)])) _
  by_cases h : z.toInt = 10
  · have h' : z = (10 : Int32) := (own_eq32 (k := (10 : Int32)) (n := 10) (by decide)).mpr h
    refine XS.icmpYes X.here hx rfl (pc0 := 9) (pc' := 54) rfl (hb hby d1_9) rfl (teq h').1 (by decide) (by decide) ?_
    exact own_b1_54 X hx hZ hw hby hown hret z v (by rw [own_f1_6, if_pos h] at hv; exact hv) hr
  · have h' : ¬ z = (10 : Int32) := fun q => h ((own_eq32 (k := (10 : Int32)) (n := 10) (by decide)).mp q)
    refine XS.icmpNo X.here hx rfl (hb hby d1_9) rfl (feq h').1 ?_
    exact own_b1_12 X hx hZ hw hby hown hret z v (by rw [own_f1_6, if_neg h] at hv; exact hv) hr
set_option maxRecDepth 65536 in
set_option maxHeartbeats 40000000 in
theorem own_b1_0 {p : Program} {l : Launch} {e : Env} {R : Room} {s : State} {m : MethodId} {args : Array Value} {below : List Frame} {meth : Method} {c : Code} {T : State} {locs : List Loc} {cells slots : Nat} {Z : State} {a0 : Array Value}
    (X : Stand p l e R s m args below meth c T locs cells slots) (hx : p.tables.exec = Jvm.exec) (hZ : Z.Warmed39 s.vm) (hw : ∀ d ∈ tables_1, d.before a0 Z = true) (hby : c.code = prog_216_method_5_code) (hown : s.vm.findClass site_111.cls = some m.cls) (hret : meth.sig.returnType = some .boolean) (z v : Int32) (hv : own_f1_0 z.toInt = v) {fs : List Frame}
    (hr : ∀ (f : JFrame) (acts : List Action), f.method = m → f.locked = none → f.entered = [] → (doReturn e (T.setTop f) acts (some (.int v))).1 = T.setFrames fs) :
    Steps p.tables e below (T.setTop (mkF m 0 #[.val (.int z)] [])) (T.setFrames fs) := by
  refine XS.iloadN X.here hx rfl (hb hby d1_0) rfl ?_
  show Steps p.tables e below (T.setTop (mkF m 1 #[.val (.int z)] [(.int z)])) _
  refine XT.bipushV X.here hx rfl (9 : Int32) (hb hby d1_1) (by decide) ?_
  show Steps p.tables e below (T.setTop (mkF m 3 #[.val (.int z)] [(.int (9 : Int32)), (.int z)])) _
  by_cases h : z.toInt = 9
  · have h' : z = (9 : Int32) := (own_eq32 (k := (9 : Int32)) (n := 9) (by decide)).mpr h
    refine XS.icmpYes X.here hx rfl (pc0 := 3) (pc' := 54) rfl (hb hby d1_3) rfl (teq h').1 (by decide) (by decide) ?_
    exact own_b1_54 X hx hZ hw hby hown hret z v (by rw [own_f1_0, if_pos h] at hv; exact hv) hr
  · have h' : ¬ z = (9 : Int32) := fun q => h ((own_eq32 (k := (9 : Int32)) (n := 9) (by decide)).mp q)
    refine XS.icmpNo X.here hx rfl (hb hby d1_3) rfl (feq h').1 ?_
    exact own_b1_6 X hx hZ hw hby hown hret z v (by rw [own_f1_0, if_neg h] at hv; exact hv) hr
theorem pn_1 : plainName site_111.cls = true := by first | (simp [plainName, overriddenIn]; done) | decide +kernel
theorem ef_1 (m : MethodId) (x0 : Int32) : entryFrame m #[(.int x0)] 1 = mkF m 0 #[.val (.int x0)] [] := by first | (simp [entryFrame, mkF, argsToLocals, Value.category]; done) | rfl
def Q1 (p1 : Int32) (h0 : Heap) (n0 : Nat) (v : Option Value) (h : Heap) (L : List Loc) : Prop := v = some (.int (own_f1_0 p1.toInt)) ∧ Fr n0 L ∧ h = h0
set_option maxRecDepth 65536 in
set_option maxHeartbeats 40000000 in
theorem rm1 (l : Launch) (Z : State) (a0 : Array Value) (hw : ∀ d ∈ tables_1, d.before a0 Z = true) (ws : List Jvm.Cond) (p1 : Int32) (h0 : Heap) (n0 : Nat) (Z0 : n0 ≤ h0.size) :
    MetFree l site_111 (head1 (Jvm.Cond.code site_111 prog_216_method_5_code 1 (some .boolean) :: ws) ({ frames := 0, cells := 0, slots := 0, locals := 0 } : Room)) (fun a U => a = #[(.int p1)] ∧ Z.Warmed39 U.vm ∧ U.heap = h0) (fun _ _ _ _ _ => True) (fun _ U o U' => ∃ v L, o = .returned v ∧ Q1 p1 h0 n0 v U'.heap L ∧ FrameEnd U o U' L ({ frames := 0, cells := 0, slots := 0, locals := 0 } : Room).cells ({ frames := 0, cells := 0, slots := 0, locals := 0 } : Room).slots) := by
  refine MetFree.of_bodySF (plainFor_of_name pn_1) hisR ?_
  intro p e s m args below meth c s₁ Bd hml0 hP hK
  obtain ⟨rfl, hZ, hh⟩ := hP
  have hx := Bd.exec
  have hby := Bd.bytes
  have hml : c.maxLocals = 1 := hml0
  have hown : s.vm.findClass site_111.cls = some m.cls := (findClass_of_methodNamed Bd.named :)
  have X0 : Stand p l e ({ frames := 0, cells := 0, slots := 0, locals := 0 } : Room) s m #[(.int p1)] below meth c s₁ [] 0 0 := Stand.of_body Bd
  have e0 : s₁.heap = h0 := by rw [← hh, Bd.state]; rfl
  have N0 := Fr.nil n0
  have pre0 : ∀ t, Steps p.tables e below (s₁.setTop (mkF m 0 #[.val (.int p1)] [])) t → Steps p.tables e below (s₁.setTop (entryFrame m #[(.int p1)] 1)) t := fun t k => castTop (ef_1 m p1) k
  obtain ⟨fs, hr, hrun, hended, hW, hsame⟩ := X0.leave (v := some (.int (own_f1_0 p1.toInt))) (fun h => by rw [Bd.returns] at h; cases h)
  refine ⟨_, _, pre0 _ ?_, hrun, hended, _, _, rfl, ?_, ⟨_, rfl⟩, hW, hsame.mono (by decide) (by decide)⟩
  · exact own_b1_0 X0 hx hZ hw hby hown Bd.returns p1 _ rfl hr
  · show Q1 p1 h0 n0 _ s₁.heap _
    rw [e0]
    exact ⟨rfl, N0, rfl⟩
theorem d2_0 : decode method_2_code 0 = .ok (.iload_n 0, 1) := by decide +kernel
theorem d2_1 : decode method_2_code 1 = .ok (.ifCond .ge 5, 3) := by decide +kernel
theorem d2_4 : decode method_2_code 4 = .ok (.iconst 1, 1) := by decide +kernel
theorem d2_5 : decode method_2_code 5 = .ok (.ireturn, 1) := by decide +kernel
theorem d2_6 : decode method_2_code 6 = .ok (.iload_n 0, 1) := by decide +kernel
theorem d2_7 : decode method_2_code 7 = .ok (.bipush 8, 2) := by decide +kernel
theorem d2_9 : decode method_2_code 9 = .ok (.if_icmp .gt 5, 3) := by decide +kernel
theorem d2_12 : decode method_2_code 12 = .ok (.iconst 1, 1) := by decide +kernel
theorem d2_13 : decode method_2_code 13 = .ok (.ireturn, 1) := by decide +kernel
theorem d2_14 : decode method_2_code 14 = .ok (.iload_n 0, 1) := by decide +kernel
theorem d2_15 : decode method_2_code 15 = .ok (.bipush 11, 2) := by decide +kernel
theorem d2_17 : decode method_2_code 17 = .ok (.if_icmp .eq 9, 3) := by decide +kernel
theorem d2_20 : decode method_2_code 20 = .ok (.iload_n 0, 1) := by decide +kernel
theorem d2_21 : decode method_2_code 21 = .ok (.bipush 12, 2) := by decide +kernel
theorem d2_23 : decode method_2_code 23 = .ok (.if_icmp .ne 5, 3) := by decide +kernel
theorem d2_26 : decode method_2_code 26 = .ok (.iconst 1, 1) := by decide +kernel
theorem d2_27 : decode method_2_code 27 = .ok (.ireturn, 1) := by decide +kernel
theorem d2_28 : decode method_2_code 28 = .ok (.iload_n 0, 1) := by decide +kernel
theorem d2_29 : decode method_2_code 29 = .ok (.bipush 14, 2) := by decide +kernel
theorem d2_31 : decode method_2_code 31 = .ok (.if_icmp .lt 11, 3) := by decide +kernel
theorem d2_34 : decode method_2_code 34 = .ok (.iload_n 0, 1) := by decide +kernel
theorem d2_35 : decode method_2_code 35 = .ok (.bipush 31, 2) := by decide +kernel
theorem d2_37 : decode method_2_code 37 = .ok (.if_icmp .gt 5, 3) := by decide +kernel
theorem d2_40 : decode method_2_code 40 = .ok (.iconst 1, 1) := by decide +kernel
theorem d2_41 : decode method_2_code 41 = .ok (.ireturn, 1) := by decide +kernel
theorem d2_42 : decode method_2_code 42 = .ok (.iload_n 0, 1) := by decide +kernel
theorem d2_43 : decode method_2_code 43 = .ok (.ldc 7, 2) := by decide +kernel
theorem d2_45 : decode method_2_code 45 = .ok (.if_icmp .lt 11, 3) := by decide +kernel
theorem d2_48 : decode method_2_code 48 = .ok (.iload_n 0, 1) := by decide +kernel
theorem d2_49 : decode method_2_code 49 = .ok (.ldc 8, 2) := by decide +kernel
theorem d2_51 : decode method_2_code 51 = .ok (.if_icmp .gt 5, 3) := by decide +kernel
theorem d2_54 : decode method_2_code 54 = .ok (.iconst 1, 1) := by decide +kernel
theorem d2_55 : decode method_2_code 55 = .ok (.ireturn, 1) := by decide +kernel
theorem d2_56 : decode method_2_code 56 = .ok (.iload_n 0, 1) := by decide +kernel
theorem d2_57 : decode method_2_code 57 = .ok (.ldc 9, 2) := by decide +kernel
theorem d2_59 : decode method_2_code 59 = .ok (.if_icmp .eq 9, 3) := by decide +kernel
theorem d2_62 : decode method_2_code 62 = .ok (.iload_n 0, 1) := by decide +kernel
theorem d2_63 : decode method_2_code 63 = .ok (.ldc 10, 2) := by decide +kernel
theorem d2_65 : decode method_2_code 65 = .ok (.if_icmp .ne 5, 3) := by decide +kernel
theorem d2_68 : decode method_2_code 68 = .ok (.iconst 1, 1) := by decide +kernel
theorem d2_69 : decode method_2_code 69 = .ok (.ireturn, 1) := by decide +kernel
theorem d2_70 : decode method_2_code 70 = .ok (.iload_n 0, 1) := by decide +kernel
theorem d2_71 : decode method_2_code 71 = .ok (.ldc 11, 2) := by decide +kernel
theorem d2_73 : decode method_2_code 73 = .ok (.if_icmp .le 7, 3) := by decide +kernel
theorem d2_76 : decode method_2_code 76 = .ok (.iconst 1, 1) := by decide +kernel
theorem d2_77 : decode method_2_code 77 = .ok (.goto 4, 3) := by decide +kernel
theorem d2_80 : decode method_2_code 80 = .ok (.iconst 0, 1) := by decide +kernel
theorem d2_81 : decode method_2_code 81 = .ok (.ireturn, 1) := by decide +kernel
def own_f2_80 (z : Int) : Int32 := 0
def own_f2_76 (z : Int) : Int32 := 1
def own_f2_70 (z : Int) : Int32 := if 1114111 < z then own_f2_76 z else own_f2_80 z
def own_f2_68 (z : Int) : Int32 := 1
def own_f2_62 (z : Int) : Int32 := if z = 65535 then own_f2_68 z else own_f2_70 z
def own_f2_56 (z : Int) : Int32 := if z = 65534 then own_f2_68 z else own_f2_62 z
def own_f2_54 (z : Int) : Int32 := 1
def own_f2_48 (z : Int) : Int32 := if 57343 < z then own_f2_56 z else own_f2_54 z
def own_f2_42 (z : Int) : Int32 := if z < 55296 then own_f2_56 z else own_f2_48 z
def own_f2_40 (z : Int) : Int32 := 1
def own_f2_34 (z : Int) : Int32 := if 31 < z then own_f2_42 z else own_f2_40 z
def own_f2_28 (z : Int) : Int32 := if z < 14 then own_f2_42 z else own_f2_34 z
def own_f2_26 (z : Int) : Int32 := 1
def own_f2_20 (z : Int) : Int32 := if z = 12 then own_f2_26 z else own_f2_28 z
def own_f2_14 (z : Int) : Int32 := if z = 11 then own_f2_26 z else own_f2_20 z
def own_f2_12 (z : Int) : Int32 := 1
def own_f2_6 (z : Int) : Int32 := if 8 < z then own_f2_14 z else own_f2_12 z
def own_f2_4 (z : Int) : Int32 := 1
def own_f2_0 (z : Int) : Int32 := if z < 0 then own_f2_4 z else own_f2_6 z
theorem own_o2_76 (z : Int) : (own_f2_76 z = 1 ∧ True) ∨ (own_f2_76 z = 0 ∧ ¬ True) := Or.inl ⟨rfl, trivial⟩
theorem own_m2_70 (z : Int) : own_f2_70 z = if (¬ 1114111 < z) then 0 else own_f2_76 z := by
  by_cases h : (¬ 1114111 < z)
  · rw [if_pos h, own_f2_70, if_neg h]; rfl
  · rw [if_neg h, own_f2_70, if_pos (Decidable.not_not.mp h)]
theorem own_o2_70 (z : Int) : (own_f2_70 z = 1 ∧ (¬ (¬ 1114111 < z))) ∨ (own_f2_70 z = 0 ∧ ¬ (¬ (¬ 1114111 < z))) := by
  rw [own_m2_70]
  by_cases h : (¬ 1114111 < z)
  · rw [if_pos h]; exact Or.inr ⟨rfl, fun q => q h⟩
  · rw [if_neg h]; exact Or.inl ⟨rfl, h⟩
theorem own_m2_62 (z : Int) : own_f2_62 z = if (z = 65535) then 1 else own_f2_70 z := by
  by_cases h : (z = 65535)
  · rw [if_pos h, own_f2_62, if_pos h]; rfl
  · rw [if_neg h, own_f2_62, if_neg h]
theorem own_o2_62 (z : Int) : (own_f2_62 z = 1 ∧ ((z = 65535) ∨ (¬ (¬ 1114111 < z)))) ∨ (own_f2_62 z = 0 ∧ ¬ ((z = 65535) ∨ (¬ (¬ 1114111 < z)))) := by
  rw [own_m2_62]
  by_cases h : (z = 65535)
  · rw [if_pos h]; exact Or.inl ⟨rfl, Or.inl h⟩
  · rw [if_neg h]
    rcases own_o2_70 z with ⟨a, b⟩ | ⟨a, b⟩
    · exact Or.inl ⟨a, Or.inr b⟩
    · exact Or.inr ⟨a, fun q => q.elim h b⟩
theorem own_m2_56 (z : Int) : own_f2_56 z = if (z = 65534) then 1 else own_f2_62 z := by
  by_cases h : (z = 65534)
  · rw [if_pos h, own_f2_56, if_pos h]; rfl
  · rw [if_neg h, own_f2_56, if_neg h]
theorem own_o2_56 (z : Int) : (own_f2_56 z = 1 ∧ ((z = 65534) ∨ ((z = 65535) ∨ (¬ (¬ 1114111 < z))))) ∨ (own_f2_56 z = 0 ∧ ¬ ((z = 65534) ∨ ((z = 65535) ∨ (¬ (¬ 1114111 < z))))) := by
  rw [own_m2_56]
  by_cases h : (z = 65534)
  · rw [if_pos h]; exact Or.inl ⟨rfl, Or.inl h⟩
  · rw [if_neg h]
    rcases own_o2_62 z with ⟨a, b⟩ | ⟨a, b⟩
    · exact Or.inl ⟨a, Or.inr b⟩
    · exact Or.inr ⟨a, fun q => q.elim h b⟩
theorem own_m2_42 (z : Int) : own_f2_42 z = if (¬ z < 55296 ∧ ¬ 57343 < z) then 1 else own_f2_56 z := by
  by_cases h : (¬ z < 55296 ∧ ¬ 57343 < z)
  · obtain ⟨h0, h1⟩ := id h
    rw [if_pos h, own_f2_42, if_neg h0, own_f2_48, if_neg h1]; rfl
  · rw [if_neg h]
    by_cases h0 : z < 55296
    · rw [own_f2_42, if_pos h0]
    · rw [own_f2_42, if_neg h0, own_f2_48, if_pos (Decidable.not_not.mp (fun q => h ⟨h0, q⟩))]
theorem own_o2_42 (z : Int) : (own_f2_42 z = 1 ∧ ((¬ z < 55296 ∧ ¬ 57343 < z) ∨ ((z = 65534) ∨ ((z = 65535) ∨ (¬ (¬ 1114111 < z)))))) ∨ (own_f2_42 z = 0 ∧ ¬ ((¬ z < 55296 ∧ ¬ 57343 < z) ∨ ((z = 65534) ∨ ((z = 65535) ∨ (¬ (¬ 1114111 < z)))))) := by
  rw [own_m2_42]
  by_cases h : (¬ z < 55296 ∧ ¬ 57343 < z)
  · rw [if_pos h]; exact Or.inl ⟨rfl, Or.inl h⟩
  · rw [if_neg h]
    rcases own_o2_56 z with ⟨a, b⟩ | ⟨a, b⟩
    · exact Or.inl ⟨a, Or.inr b⟩
    · exact Or.inr ⟨a, fun q => q.elim h b⟩
theorem own_m2_28 (z : Int) : own_f2_28 z = if (¬ z < 14 ∧ ¬ 31 < z) then 1 else own_f2_42 z := by
  by_cases h : (¬ z < 14 ∧ ¬ 31 < z)
  · obtain ⟨h0, h1⟩ := id h
    rw [if_pos h, own_f2_28, if_neg h0, own_f2_34, if_neg h1]; rfl
  · rw [if_neg h]
    by_cases h0 : z < 14
    · rw [own_f2_28, if_pos h0]
    · rw [own_f2_28, if_neg h0, own_f2_34, if_pos (Decidable.not_not.mp (fun q => h ⟨h0, q⟩))]
theorem own_o2_28 (z : Int) : (own_f2_28 z = 1 ∧ ((¬ z < 14 ∧ ¬ 31 < z) ∨ ((¬ z < 55296 ∧ ¬ 57343 < z) ∨ ((z = 65534) ∨ ((z = 65535) ∨ (¬ (¬ 1114111 < z))))))) ∨ (own_f2_28 z = 0 ∧ ¬ ((¬ z < 14 ∧ ¬ 31 < z) ∨ ((¬ z < 55296 ∧ ¬ 57343 < z) ∨ ((z = 65534) ∨ ((z = 65535) ∨ (¬ (¬ 1114111 < z))))))) := by
  rw [own_m2_28]
  by_cases h : (¬ z < 14 ∧ ¬ 31 < z)
  · rw [if_pos h]; exact Or.inl ⟨rfl, Or.inl h⟩
  · rw [if_neg h]
    rcases own_o2_42 z with ⟨a, b⟩ | ⟨a, b⟩
    · exact Or.inl ⟨a, Or.inr b⟩
    · exact Or.inr ⟨a, fun q => q.elim h b⟩
theorem own_m2_20 (z : Int) : own_f2_20 z = if (z = 12) then 1 else own_f2_28 z := by
  by_cases h : (z = 12)
  · rw [if_pos h, own_f2_20, if_pos h]; rfl
  · rw [if_neg h, own_f2_20, if_neg h]
theorem own_o2_20 (z : Int) : (own_f2_20 z = 1 ∧ ((z = 12) ∨ ((¬ z < 14 ∧ ¬ 31 < z) ∨ ((¬ z < 55296 ∧ ¬ 57343 < z) ∨ ((z = 65534) ∨ ((z = 65535) ∨ (¬ (¬ 1114111 < z)))))))) ∨ (own_f2_20 z = 0 ∧ ¬ ((z = 12) ∨ ((¬ z < 14 ∧ ¬ 31 < z) ∨ ((¬ z < 55296 ∧ ¬ 57343 < z) ∨ ((z = 65534) ∨ ((z = 65535) ∨ (¬ (¬ 1114111 < z)))))))) := by
  rw [own_m2_20]
  by_cases h : (z = 12)
  · rw [if_pos h]; exact Or.inl ⟨rfl, Or.inl h⟩
  · rw [if_neg h]
    rcases own_o2_28 z with ⟨a, b⟩ | ⟨a, b⟩
    · exact Or.inl ⟨a, Or.inr b⟩
    · exact Or.inr ⟨a, fun q => q.elim h b⟩
theorem own_m2_14 (z : Int) : own_f2_14 z = if (z = 11) then 1 else own_f2_20 z := by
  by_cases h : (z = 11)
  · rw [if_pos h, own_f2_14, if_pos h]; rfl
  · rw [if_neg h, own_f2_14, if_neg h]
theorem own_o2_14 (z : Int) : (own_f2_14 z = 1 ∧ ((z = 11) ∨ ((z = 12) ∨ ((¬ z < 14 ∧ ¬ 31 < z) ∨ ((¬ z < 55296 ∧ ¬ 57343 < z) ∨ ((z = 65534) ∨ ((z = 65535) ∨ (¬ (¬ 1114111 < z))))))))) ∨ (own_f2_14 z = 0 ∧ ¬ ((z = 11) ∨ ((z = 12) ∨ ((¬ z < 14 ∧ ¬ 31 < z) ∨ ((¬ z < 55296 ∧ ¬ 57343 < z) ∨ ((z = 65534) ∨ ((z = 65535) ∨ (¬ (¬ 1114111 < z))))))))) := by
  rw [own_m2_14]
  by_cases h : (z = 11)
  · rw [if_pos h]; exact Or.inl ⟨rfl, Or.inl h⟩
  · rw [if_neg h]
    rcases own_o2_20 z with ⟨a, b⟩ | ⟨a, b⟩
    · exact Or.inl ⟨a, Or.inr b⟩
    · exact Or.inr ⟨a, fun q => q.elim h b⟩
theorem own_m2_6 (z : Int) : own_f2_6 z = if (¬ 8 < z) then 1 else own_f2_14 z := by
  by_cases h : (¬ 8 < z)
  · rw [if_pos h, own_f2_6, if_neg h]; rfl
  · rw [if_neg h, own_f2_6, if_pos (Decidable.not_not.mp h)]
theorem own_o2_6 (z : Int) : (own_f2_6 z = 1 ∧ ((¬ 8 < z) ∨ ((z = 11) ∨ ((z = 12) ∨ ((¬ z < 14 ∧ ¬ 31 < z) ∨ ((¬ z < 55296 ∧ ¬ 57343 < z) ∨ ((z = 65534) ∨ ((z = 65535) ∨ (¬ (¬ 1114111 < z)))))))))) ∨ (own_f2_6 z = 0 ∧ ¬ ((¬ 8 < z) ∨ ((z = 11) ∨ ((z = 12) ∨ ((¬ z < 14 ∧ ¬ 31 < z) ∨ ((¬ z < 55296 ∧ ¬ 57343 < z) ∨ ((z = 65534) ∨ ((z = 65535) ∨ (¬ (¬ 1114111 < z)))))))))) := by
  rw [own_m2_6]
  by_cases h : (¬ 8 < z)
  · rw [if_pos h]; exact Or.inl ⟨rfl, Or.inl h⟩
  · rw [if_neg h]
    rcases own_o2_14 z with ⟨a, b⟩ | ⟨a, b⟩
    · exact Or.inl ⟨a, Or.inr b⟩
    · exact Or.inr ⟨a, fun q => q.elim h b⟩
theorem own_m2_0 (z : Int) : own_f2_0 z = if (z < 0) then 1 else own_f2_6 z := by
  by_cases h : (z < 0)
  · rw [if_pos h, own_f2_0, if_pos h]; rfl
  · rw [if_neg h, own_f2_0, if_neg h]
theorem own_o2_0 (z : Int) : (own_f2_0 z = 1 ∧ ((z < 0) ∨ ((¬ 8 < z) ∨ ((z = 11) ∨ ((z = 12) ∨ ((¬ z < 14 ∧ ¬ 31 < z) ∨ ((¬ z < 55296 ∧ ¬ 57343 < z) ∨ ((z = 65534) ∨ ((z = 65535) ∨ (¬ (¬ 1114111 < z))))))))))) ∨ (own_f2_0 z = 0 ∧ ¬ ((z < 0) ∨ ((¬ 8 < z) ∨ ((z = 11) ∨ ((z = 12) ∨ ((¬ z < 14 ∧ ¬ 31 < z) ∨ ((¬ z < 55296 ∧ ¬ 57343 < z) ∨ ((z = 65534) ∨ ((z = 65535) ∨ (¬ (¬ 1114111 < z))))))))))) := by
  rw [own_m2_0]
  by_cases h : (z < 0)
  · rw [if_pos h]; exact Or.inl ⟨rfl, Or.inl h⟩
  · rw [if_neg h]
    rcases own_o2_6 z with ⟨a, b⟩ | ⟨a, b⟩
    · exact Or.inl ⟨a, Or.inr b⟩
    · exact Or.inr ⟨a, fun q => q.elim h b⟩
set_option maxRecDepth 65536 in
set_option maxHeartbeats 40000000 in
theorem own_b2_80 {p : Program} {l : Launch} {e : Env} {R : Room} {s : State} {m : MethodId} {args : Array Value} {below : List Frame} {meth : Method} {c : Code} {T : State} {locs : List Loc} {cells slots : Nat} {Z : State} {a0 : Array Value}
    (X : Stand p l e R s m args below meth c T locs cells slots) (hx : p.tables.exec = Jvm.exec) (hZ : Z.Warmed39 s.vm) (hw : ∀ d ∈ tables_1, d.before a0 Z = true) (hby : c.code = method_2_code) (hown : s.vm.findClass x.cls = some m.cls) (hret : meth.sig.returnType = some .boolean) (z v : Int32) (hv : own_f2_80 z.toInt = v) {fs : List Frame}
    (hr : ∀ (f : JFrame) (acts : List Action), f.method = m → f.locked = none → f.entered = [] → (doReturn e (T.setTop f) acts (some (.int v))).1 = T.setFrames fs) :
    Steps p.tables e below (T.setTop (mkF m 80 #[.val (.int z)] [])) (T.setFrames fs) := by
  obtain rfl : v = (0 : Int32) := hv.symm
  refine XT.iconstV X.here hx rfl (0 : Int32) (hb hby d2_80) (by decide) ?_
  show Steps p.tables e below (T.setTop (mkF m 81 #[.val (.int z)] [(.int (0 : Int32))])) _
  exact retN X hx (t := .boolean) hret (by simp) (hb hby d2_81) hr
set_option maxRecDepth 65536 in
set_option maxHeartbeats 40000000 in
theorem own_b2_76 {p : Program} {l : Launch} {e : Env} {R : Room} {s : State} {m : MethodId} {args : Array Value} {below : List Frame} {meth : Method} {c : Code} {T : State} {locs : List Loc} {cells slots : Nat} {Z : State} {a0 : Array Value}
    (X : Stand p l e R s m args below meth c T locs cells slots) (hx : p.tables.exec = Jvm.exec) (hZ : Z.Warmed39 s.vm) (hw : ∀ d ∈ tables_1, d.before a0 Z = true) (hby : c.code = method_2_code) (hown : s.vm.findClass x.cls = some m.cls) (hret : meth.sig.returnType = some .boolean) (z v : Int32) (hv : own_f2_76 z.toInt = v) {fs : List Frame}
    (hr : ∀ (f : JFrame) (acts : List Action), f.method = m → f.locked = none → f.entered = [] → (doReturn e (T.setTop f) acts (some (.int v))).1 = T.setFrames fs) :
    Steps p.tables e below (T.setTop (mkF m 76 #[.val (.int z)] [])) (T.setFrames fs) := by
  obtain rfl : v = (1 : Int32) := hv.symm
  refine XT.iconstV X.here hx rfl (1 : Int32) (hb hby d2_76) (by decide) ?_
  show Steps p.tables e below (T.setTop (mkF m 77 #[.val (.int z)] [(.int (1 : Int32))])) _
  refine XS.goto X.here hx rfl (pc0 := 77) (pc' := 81) rfl (hb hby d2_77) (by decide) (by decide) ?_
  show Steps p.tables e below (T.setTop (mkF m 81 #[.val (.int z)] [(.int (1 : Int32))])) _
  exact retN X hx (t := .boolean) hret (by simp) (hb hby d2_81) hr
set_option maxRecDepth 65536 in
set_option maxHeartbeats 40000000 in
theorem own_b2_70 {p : Program} {l : Launch} {e : Env} {R : Room} {s : State} {m : MethodId} {args : Array Value} {below : List Frame} {meth : Method} {c : Code} {T : State} {locs : List Loc} {cells slots : Nat} {Z : State} {a0 : Array Value}
    (X : Stand p l e R s m args below meth c T locs cells slots) (hx : p.tables.exec = Jvm.exec) (hZ : Z.Warmed39 s.vm) (hw : ∀ d ∈ tables_1, d.before a0 Z = true) (hby : c.code = method_2_code) (hown : s.vm.findClass x.cls = some m.cls) (hret : meth.sig.returnType = some .boolean) (z v : Int32) (hv : own_f2_70 z.toInt = v) {fs : List Frame}
    (hr : ∀ (f : JFrame) (acts : List Action), f.method = m → f.locked = none → f.entered = [] → (doReturn e (T.setTop f) acts (some (.int v))).1 = T.setFrames fs) :
    Steps p.tables e below (T.setTop (mkF m 70 #[.val (.int z)] [])) (T.setFrames fs) := by
  refine XS.iloadN X.here hx rfl (hb hby d2_70) rfl ?_
  show Steps p.tables e below (T.setTop (mkF m 71 #[.val (.int z)] [(.int z)])) _
  refine X.ldcI hx hown (v := (1114111 : Int32)) (mvT hZ (hw _ (List.mem_of_getElem? (i := 7) rfl))) rfl (hb hby d2_71) ?_
  show Steps p.tables e below (T.setTop (mkF m 73 #[.val (.int z)] [(.int (1114111 : Int32)), (.int z)])) _
  by_cases h : 1114111 < z.toInt
  · have h' : (1114111 : Int32) < z := (own_gt32 (k := (1114111 : Int32)) (n := 1114111) (by decide)).mpr h
    refine XS.icmpNo X.here hx rfl (hb hby d2_73) rfl (tlt h').2.2.2 ?_
    exact own_b2_76 X hx hZ hw hby hown hret z v (by rw [own_f2_70, if_pos h] at hv; exact hv) hr
  · have h' : ¬ (1114111 : Int32) < z := fun q => h ((own_gt32 (k := (1114111 : Int32)) (n := 1114111) (by decide)).mp q)
    refine XS.icmpYes X.here hx rfl (pc0 := 73) (pc' := 80) rfl (hb hby d2_73) rfl (flt h').2.2.2 (by decide) (by decide) ?_
    exact own_b2_80 X hx hZ hw hby hown hret z v (by rw [own_f2_70, if_neg h] at hv; exact hv) hr
set_option maxRecDepth 65536 in
set_option maxHeartbeats 40000000 in
theorem own_b2_68 {p : Program} {l : Launch} {e : Env} {R : Room} {s : State} {m : MethodId} {args : Array Value} {below : List Frame} {meth : Method} {c : Code} {T : State} {locs : List Loc} {cells slots : Nat} {Z : State} {a0 : Array Value}
    (X : Stand p l e R s m args below meth c T locs cells slots) (hx : p.tables.exec = Jvm.exec) (hZ : Z.Warmed39 s.vm) (hw : ∀ d ∈ tables_1, d.before a0 Z = true) (hby : c.code = method_2_code) (hown : s.vm.findClass x.cls = some m.cls) (hret : meth.sig.returnType = some .boolean) (z v : Int32) (hv : own_f2_68 z.toInt = v) {fs : List Frame}
    (hr : ∀ (f : JFrame) (acts : List Action), f.method = m → f.locked = none → f.entered = [] → (doReturn e (T.setTop f) acts (some (.int v))).1 = T.setFrames fs) :
    Steps p.tables e below (T.setTop (mkF m 68 #[.val (.int z)] [])) (T.setFrames fs) := by
  obtain rfl : v = (1 : Int32) := hv.symm
  refine XT.iconstV X.here hx rfl (1 : Int32) (hb hby d2_68) (by decide) ?_
  show Steps p.tables e below (T.setTop (mkF m 69 #[.val (.int z)] [(.int (1 : Int32))])) _
  exact retN X hx (t := .boolean) hret (by simp) (hb hby d2_69) hr
set_option maxRecDepth 65536 in
set_option maxHeartbeats 40000000 in
theorem own_b2_62 {p : Program} {l : Launch} {e : Env} {R : Room} {s : State} {m : MethodId} {args : Array Value} {below : List Frame} {meth : Method} {c : Code} {T : State} {locs : List Loc} {cells slots : Nat} {Z : State} {a0 : Array Value}
    (X : Stand p l e R s m args below meth c T locs cells slots) (hx : p.tables.exec = Jvm.exec) (hZ : Z.Warmed39 s.vm) (hw : ∀ d ∈ tables_1, d.before a0 Z = true) (hby : c.code = method_2_code) (hown : s.vm.findClass x.cls = some m.cls) (hret : meth.sig.returnType = some .boolean) (z v : Int32) (hv : own_f2_62 z.toInt = v) {fs : List Frame}
    (hr : ∀ (f : JFrame) (acts : List Action), f.method = m → f.locked = none → f.entered = [] → (doReturn e (T.setTop f) acts (some (.int v))).1 = T.setFrames fs) :
    Steps p.tables e below (T.setTop (mkF m 62 #[.val (.int z)] [])) (T.setFrames fs) := by
  refine XS.iloadN X.here hx rfl (hb hby d2_62) rfl ?_
  show Steps p.tables e below (T.setTop (mkF m 63 #[.val (.int z)] [(.int z)])) _
  refine X.ldcI hx hown (v := (65535 : Int32)) (mvT hZ (hw _ (List.mem_of_getElem? (i := 23) rfl))) rfl (hb hby d2_63) ?_
  show Steps p.tables e below (T.setTop (mkF m 65 #[.val (.int z)] [(.int (65535 : Int32)), (.int z)])) _
  by_cases h : z.toInt = 65535
  · have h' : z = (65535 : Int32) := (own_eq32 (k := (65535 : Int32)) (n := 65535) (by decide)).mpr h
    refine XS.icmpNo X.here hx rfl (hb hby d2_65) rfl (teq h').2 ?_
    exact own_b2_68 X hx hZ hw hby hown hret z v (by rw [own_f2_62, if_pos h] at hv; exact hv) hr
  · have h' : ¬ z = (65535 : Int32) := fun q => h ((own_eq32 (k := (65535 : Int32)) (n := 65535) (by decide)).mp q)
    refine XS.icmpYes X.here hx rfl (pc0 := 65) (pc' := 70) rfl (hb hby d2_65) rfl (feq h').2 (by decide) (by decide) ?_
    exact own_b2_70 X hx hZ hw hby hown hret z v (by rw [own_f2_62, if_neg h] at hv; exact hv) hr
set_option maxRecDepth 65536 in
set_option maxHeartbeats 40000000 in
theorem own_b2_56 {p : Program} {l : Launch} {e : Env} {R : Room} {s : State} {m : MethodId} {args : Array Value} {below : List Frame} {meth : Method} {c : Code} {T : State} {locs : List Loc} {cells slots : Nat} {Z : State} {a0 : Array Value}
    (X : Stand p l e R s m args below meth c T locs cells slots) (hx : p.tables.exec = Jvm.exec) (hZ : Z.Warmed39 s.vm) (hw : ∀ d ∈ tables_1, d.before a0 Z = true) (hby : c.code = method_2_code) (hown : s.vm.findClass x.cls = some m.cls) (hret : meth.sig.returnType = some .boolean) (z v : Int32) (hv : own_f2_56 z.toInt = v) {fs : List Frame}
    (hr : ∀ (f : JFrame) (acts : List Action), f.method = m → f.locked = none → f.entered = [] → (doReturn e (T.setTop f) acts (some (.int v))).1 = T.setFrames fs) :
    Steps p.tables e below (T.setTop (mkF m 56 #[.val (.int z)] [])) (T.setFrames fs) := by
  refine XS.iloadN X.here hx rfl (hb hby d2_56) rfl ?_
  show Steps p.tables e below (T.setTop (mkF m 57 #[.val (.int z)] [(.int z)])) _
  refine X.ldcI hx hown (v := (65534 : Int32)) (mvT hZ (hw _ (List.mem_of_getElem? (i := 22) rfl))) rfl (hb hby d2_57) ?_
  show Steps p.tables e below (T.setTop (mkF m 59 #[.val (.int z)] [(.int (65534 : Int32)), (.int z)])) _
  by_cases h : z.toInt = 65534
  · have h' : z = (65534 : Int32) := (own_eq32 (k := (65534 : Int32)) (n := 65534) (by decide)).mpr h
    refine XS.icmpYes X.here hx rfl (pc0 := 59) (pc' := 68) rfl (hb hby d2_59) rfl (teq h').1 (by decide) (by decide) ?_
    exact own_b2_68 X hx hZ hw hby hown hret z v (by rw [own_f2_56, if_pos h] at hv; exact hv) hr
  · have h' : ¬ z = (65534 : Int32) := fun q => h ((own_eq32 (k := (65534 : Int32)) (n := 65534) (by decide)).mp q)
    refine XS.icmpNo X.here hx rfl (hb hby d2_59) rfl (feq h').1 ?_
    exact own_b2_62 X hx hZ hw hby hown hret z v (by rw [own_f2_56, if_neg h] at hv; exact hv) hr
set_option maxRecDepth 65536 in
set_option maxHeartbeats 40000000 in
theorem own_b2_54 {p : Program} {l : Launch} {e : Env} {R : Room} {s : State} {m : MethodId} {args : Array Value} {below : List Frame} {meth : Method} {c : Code} {T : State} {locs : List Loc} {cells slots : Nat} {Z : State} {a0 : Array Value}
    (X : Stand p l e R s m args below meth c T locs cells slots) (hx : p.tables.exec = Jvm.exec) (hZ : Z.Warmed39 s.vm) (hw : ∀ d ∈ tables_1, d.before a0 Z = true) (hby : c.code = method_2_code) (hown : s.vm.findClass x.cls = some m.cls) (hret : meth.sig.returnType = some .boolean) (z v : Int32) (hv : own_f2_54 z.toInt = v) {fs : List Frame}
    (hr : ∀ (f : JFrame) (acts : List Action), f.method = m → f.locked = none → f.entered = [] → (doReturn e (T.setTop f) acts (some (.int v))).1 = T.setFrames fs) :
    Steps p.tables e below (T.setTop (mkF m 54 #[.val (.int z)] [])) (T.setFrames fs) := by
  obtain rfl : v = (1 : Int32) := hv.symm
  refine XT.iconstV X.here hx rfl (1 : Int32) (hb hby d2_54) (by decide) ?_
  show Steps p.tables e below (T.setTop (mkF m 55 #[.val (.int z)] [(.int (1 : Int32))])) _
  exact retN X hx (t := .boolean) hret (by simp) (hb hby d2_55) hr
set_option maxRecDepth 65536 in
set_option maxHeartbeats 40000000 in
theorem own_b2_48 {p : Program} {l : Launch} {e : Env} {R : Room} {s : State} {m : MethodId} {args : Array Value} {below : List Frame} {meth : Method} {c : Code} {T : State} {locs : List Loc} {cells slots : Nat} {Z : State} {a0 : Array Value}
    (X : Stand p l e R s m args below meth c T locs cells slots) (hx : p.tables.exec = Jvm.exec) (hZ : Z.Warmed39 s.vm) (hw : ∀ d ∈ tables_1, d.before a0 Z = true) (hby : c.code = method_2_code) (hown : s.vm.findClass x.cls = some m.cls) (hret : meth.sig.returnType = some .boolean) (z v : Int32) (hv : own_f2_48 z.toInt = v) {fs : List Frame}
    (hr : ∀ (f : JFrame) (acts : List Action), f.method = m → f.locked = none → f.entered = [] → (doReturn e (T.setTop f) acts (some (.int v))).1 = T.setFrames fs) :
    Steps p.tables e below (T.setTop (mkF m 48 #[.val (.int z)] [])) (T.setFrames fs) := by
  refine XS.iloadN X.here hx rfl (hb hby d2_48) rfl ?_
  show Steps p.tables e below (T.setTop (mkF m 49 #[.val (.int z)] [(.int z)])) _
  refine X.ldcI hx hown (v := (57343 : Int32)) (mvT hZ (hw _ (List.mem_of_getElem? (i := 3) rfl))) rfl (hb hby d2_49) ?_
  show Steps p.tables e below (T.setTop (mkF m 51 #[.val (.int z)] [(.int (57343 : Int32)), (.int z)])) _
  by_cases h : 57343 < z.toInt
  · have h' : (57343 : Int32) < z := (own_gt32 (k := (57343 : Int32)) (n := 57343) (by decide)).mpr h
    refine XS.icmpYes X.here hx rfl (pc0 := 51) (pc' := 56) rfl (hb hby d2_51) rfl (tlt h').2.2.1 (by decide) (by decide) ?_
    exact own_b2_56 X hx hZ hw hby hown hret z v (by rw [own_f2_48, if_pos h] at hv; exact hv) hr
  · have h' : ¬ (57343 : Int32) < z := fun q => h ((own_gt32 (k := (57343 : Int32)) (n := 57343) (by decide)).mp q)
    refine XS.icmpNo X.here hx rfl (hb hby d2_51) rfl (flt h').2.2.1 ?_
    exact own_b2_54 X hx hZ hw hby hown hret z v (by rw [own_f2_48, if_neg h] at hv; exact hv) hr
set_option maxRecDepth 65536 in
set_option maxHeartbeats 40000000 in
theorem own_b2_42 {p : Program} {l : Launch} {e : Env} {R : Room} {s : State} {m : MethodId} {args : Array Value} {below : List Frame} {meth : Method} {c : Code} {T : State} {locs : List Loc} {cells slots : Nat} {Z : State} {a0 : Array Value}
    (X : Stand p l e R s m args below meth c T locs cells slots) (hx : p.tables.exec = Jvm.exec) (hZ : Z.Warmed39 s.vm) (hw : ∀ d ∈ tables_1, d.before a0 Z = true) (hby : c.code = method_2_code) (hown : s.vm.findClass x.cls = some m.cls) (hret : meth.sig.returnType = some .boolean) (z v : Int32) (hv : own_f2_42 z.toInt = v) {fs : List Frame}
    (hr : ∀ (f : JFrame) (acts : List Action), f.method = m → f.locked = none → f.entered = [] → (doReturn e (T.setTop f) acts (some (.int v))).1 = T.setFrames fs) :
    Steps p.tables e below (T.setTop (mkF m 42 #[.val (.int z)] [])) (T.setFrames fs) := by
  refine XS.iloadN X.here hx rfl (hb hby d2_42) rfl ?_
  show Steps p.tables e below (T.setTop (mkF m 43 #[.val (.int z)] [(.int z)])) _
  refine X.ldcI hx hown (v := (55296 : Int32)) (mvT hZ (hw _ (List.mem_of_getElem? (i := 2) rfl))) rfl (hb hby d2_43) ?_
  show Steps p.tables e below (T.setTop (mkF m 45 #[.val (.int z)] [(.int (55296 : Int32)), (.int z)])) _
  by_cases h : z.toInt < 55296
  · have h' : z < (55296 : Int32) := (own_lt32 (k := (55296 : Int32)) (n := 55296) (by decide)).mpr h
    refine XS.icmpYes X.here hx rfl (pc0 := 45) (pc' := 56) rfl (hb hby d2_45) rfl (tlt h').1 (by decide) (by decide) ?_
    exact own_b2_56 X hx hZ hw hby hown hret z v (by rw [own_f2_42, if_pos h] at hv; exact hv) hr
  · have h' : ¬ z < (55296 : Int32) := fun q => h ((own_lt32 (k := (55296 : Int32)) (n := 55296) (by decide)).mp q)
    refine XS.icmpNo X.here hx rfl (hb hby d2_45) rfl (flt h').1 ?_
    exact own_b2_48 X hx hZ hw hby hown hret z v (by rw [own_f2_42, if_neg h] at hv; exact hv) hr
set_option maxRecDepth 65536 in
set_option maxHeartbeats 40000000 in
theorem own_b2_40 {p : Program} {l : Launch} {e : Env} {R : Room} {s : State} {m : MethodId} {args : Array Value} {below : List Frame} {meth : Method} {c : Code} {T : State} {locs : List Loc} {cells slots : Nat} {Z : State} {a0 : Array Value}
    (X : Stand p l e R s m args below meth c T locs cells slots) (hx : p.tables.exec = Jvm.exec) (hZ : Z.Warmed39 s.vm) (hw : ∀ d ∈ tables_1, d.before a0 Z = true) (hby : c.code = method_2_code) (hown : s.vm.findClass x.cls = some m.cls) (hret : meth.sig.returnType = some .boolean) (z v : Int32) (hv : own_f2_40 z.toInt = v) {fs : List Frame}
    (hr : ∀ (f : JFrame) (acts : List Action), f.method = m → f.locked = none → f.entered = [] → (doReturn e (T.setTop f) acts (some (.int v))).1 = T.setFrames fs) :
    Steps p.tables e below (T.setTop (mkF m 40 #[.val (.int z)] [])) (T.setFrames fs) := by
  obtain rfl : v = (1 : Int32) := hv.symm
  refine XT.iconstV X.here hx rfl (1 : Int32) (hb hby d2_40) (by decide) ?_
  show Steps p.tables e below (T.setTop (mkF m 41 #[.val (.int z)] [(.int (1 : Int32))])) _
  exact retN X hx (t := .boolean) hret (by simp) (hb hby d2_41) hr
set_option maxRecDepth 65536 in
set_option maxHeartbeats 40000000 in
theorem own_b2_34 {p : Program} {l : Launch} {e : Env} {R : Room} {s : State} {m : MethodId} {args : Array Value} {below : List Frame} {meth : Method} {c : Code} {T : State} {locs : List Loc} {cells slots : Nat} {Z : State} {a0 : Array Value}
    (X : Stand p l e R s m args below meth c T locs cells slots) (hx : p.tables.exec = Jvm.exec) (hZ : Z.Warmed39 s.vm) (hw : ∀ d ∈ tables_1, d.before a0 Z = true) (hby : c.code = method_2_code) (hown : s.vm.findClass x.cls = some m.cls) (hret : meth.sig.returnType = some .boolean) (z v : Int32) (hv : own_f2_34 z.toInt = v) {fs : List Frame}
    (hr : ∀ (f : JFrame) (acts : List Action), f.method = m → f.locked = none → f.entered = [] → (doReturn e (T.setTop f) acts (some (.int v))).1 = T.setFrames fs) :
    Steps p.tables e below (T.setTop (mkF m 34 #[.val (.int z)] [])) (T.setFrames fs) := by
  refine XS.iloadN X.here hx rfl (hb hby d2_34) rfl ?_
  show Steps p.tables e below (T.setTop (mkF m 35 #[.val (.int z)] [(.int z)])) _
  refine XT.bipushV X.here hx rfl (31 : Int32) (hb hby d2_35) (by decide) ?_
  show Steps p.tables e below (T.setTop (mkF m 37 #[.val (.int z)] [(.int (31 : Int32)), (.int z)])) _
  by_cases h : 31 < z.toInt
  · have h' : (31 : Int32) < z := (own_gt32 (k := (31 : Int32)) (n := 31) (by decide)).mpr h
    refine XS.icmpYes X.here hx rfl (pc0 := 37) (pc' := 42) rfl (hb hby d2_37) rfl (tlt h').2.2.1 (by decide) (by decide) ?_
    exact own_b2_42 X hx hZ hw hby hown hret z v (by rw [own_f2_34, if_pos h] at hv; exact hv) hr
  · have h' : ¬ (31 : Int32) < z := fun q => h ((own_gt32 (k := (31 : Int32)) (n := 31) (by decide)).mp q)
    refine XS.icmpNo X.here hx rfl (hb hby d2_37) rfl (flt h').2.2.1 ?_
    exact own_b2_40 X hx hZ hw hby hown hret z v (by rw [own_f2_34, if_neg h] at hv; exact hv) hr
set_option maxRecDepth 65536 in
set_option maxHeartbeats 40000000 in
theorem own_b2_28 {p : Program} {l : Launch} {e : Env} {R : Room} {s : State} {m : MethodId} {args : Array Value} {below : List Frame} {meth : Method} {c : Code} {T : State} {locs : List Loc} {cells slots : Nat} {Z : State} {a0 : Array Value}
    (X : Stand p l e R s m args below meth c T locs cells slots) (hx : p.tables.exec = Jvm.exec) (hZ : Z.Warmed39 s.vm) (hw : ∀ d ∈ tables_1, d.before a0 Z = true) (hby : c.code = method_2_code) (hown : s.vm.findClass x.cls = some m.cls) (hret : meth.sig.returnType = some .boolean) (z v : Int32) (hv : own_f2_28 z.toInt = v) {fs : List Frame}
    (hr : ∀ (f : JFrame) (acts : List Action), f.method = m → f.locked = none → f.entered = [] → (doReturn e (T.setTop f) acts (some (.int v))).1 = T.setFrames fs) :
    Steps p.tables e below (T.setTop (mkF m 28 #[.val (.int z)] [])) (T.setFrames fs) := by
  refine XS.iloadN X.here hx rfl (hb hby d2_28) rfl ?_
  show Steps p.tables e below (T.setTop (mkF m 29 #[.val (.int z)] [(.int z)])) _
  refine XT.bipushV X.here hx rfl (14 : Int32) (hb hby d2_29) (by decide) ?_
  show Steps p.tables e below (T.setTop (mkF m 31 #[.val (.int z)] [(.int (14 : Int32)), (.int z)])) _
  by_cases h : z.toInt < 14
  · have h' : z < (14 : Int32) := (own_lt32 (k := (14 : Int32)) (n := 14) (by decide)).mpr h
    refine XS.icmpYes X.here hx rfl (pc0 := 31) (pc' := 42) rfl (hb hby d2_31) rfl (tlt h').1 (by decide) (by decide) ?_
    exact own_b2_42 X hx hZ hw hby hown hret z v (by rw [own_f2_28, if_pos h] at hv; exact hv) hr
  · have h' : ¬ z < (14 : Int32) := fun q => h ((own_lt32 (k := (14 : Int32)) (n := 14) (by decide)).mp q)
    refine XS.icmpNo X.here hx rfl (hb hby d2_31) rfl (flt h').1 ?_
    exact own_b2_34 X hx hZ hw hby hown hret z v (by rw [own_f2_28, if_neg h] at hv; exact hv) hr
set_option maxRecDepth 65536 in
set_option maxHeartbeats 40000000 in
theorem own_b2_26 {p : Program} {l : Launch} {e : Env} {R : Room} {s : State} {m : MethodId} {args : Array Value} {below : List Frame} {meth : Method} {c : Code} {T : State} {locs : List Loc} {cells slots : Nat} {Z : State} {a0 : Array Value}
    (X : Stand p l e R s m args below meth c T locs cells slots) (hx : p.tables.exec = Jvm.exec) (hZ : Z.Warmed39 s.vm) (hw : ∀ d ∈ tables_1, d.before a0 Z = true) (hby : c.code = method_2_code) (hown : s.vm.findClass x.cls = some m.cls) (hret : meth.sig.returnType = some .boolean) (z v : Int32) (hv : own_f2_26 z.toInt = v) {fs : List Frame}
    (hr : ∀ (f : JFrame) (acts : List Action), f.method = m → f.locked = none → f.entered = [] → (doReturn e (T.setTop f) acts (some (.int v))).1 = T.setFrames fs) :
    Steps p.tables e below (T.setTop (mkF m 26 #[.val (.int z)] [])) (T.setFrames fs) := by
  obtain rfl : v = (1 : Int32) := hv.symm
  refine XT.iconstV X.here hx rfl (1 : Int32) (hb hby d2_26) (by decide) ?_
  show Steps p.tables e below (T.setTop (mkF m 27 #[.val (.int z)] [(.int (1 : Int32))])) _
  exact retN X hx (t := .boolean) hret (by simp) (hb hby d2_27) hr
set_option maxRecDepth 65536 in
set_option maxHeartbeats 40000000 in
theorem own_b2_20 {p : Program} {l : Launch} {e : Env} {R : Room} {s : State} {m : MethodId} {args : Array Value} {below : List Frame} {meth : Method} {c : Code} {T : State} {locs : List Loc} {cells slots : Nat} {Z : State} {a0 : Array Value}
    (X : Stand p l e R s m args below meth c T locs cells slots) (hx : p.tables.exec = Jvm.exec) (hZ : Z.Warmed39 s.vm) (hw : ∀ d ∈ tables_1, d.before a0 Z = true) (hby : c.code = method_2_code) (hown : s.vm.findClass x.cls = some m.cls) (hret : meth.sig.returnType = some .boolean) (z v : Int32) (hv : own_f2_20 z.toInt = v) {fs : List Frame}
    (hr : ∀ (f : JFrame) (acts : List Action), f.method = m → f.locked = none → f.entered = [] → (doReturn e (T.setTop f) acts (some (.int v))).1 = T.setFrames fs) :
    Steps p.tables e below (T.setTop (mkF m 20 #[.val (.int z)] [])) (T.setFrames fs) := by
  refine XS.iloadN X.here hx rfl (hb hby d2_20) rfl ?_
  show Steps p.tables e below (T.setTop (mkF m 21 #[.val (.int z)] [(.int z)])) _
  refine XT.bipushV X.here hx rfl (12 : Int32) (hb hby d2_21) (by decide) ?_
  show Steps p.tables e below (T.setTop (mkF m 23 #[.val (.int z)] [(.int (12 : Int32)), (.int z)])) _
  by_cases h : z.toInt = 12
  · have h' : z = (12 : Int32) := (own_eq32 (k := (12 : Int32)) (n := 12) (by decide)).mpr h
    refine XS.icmpNo X.here hx rfl (hb hby d2_23) rfl (teq h').2 ?_
    exact own_b2_26 X hx hZ hw hby hown hret z v (by rw [own_f2_20, if_pos h] at hv; exact hv) hr
  · have h' : ¬ z = (12 : Int32) := fun q => h ((own_eq32 (k := (12 : Int32)) (n := 12) (by decide)).mp q)
    refine XS.icmpYes X.here hx rfl (pc0 := 23) (pc' := 28) rfl (hb hby d2_23) rfl (feq h').2 (by decide) (by decide) ?_
    exact own_b2_28 X hx hZ hw hby hown hret z v (by rw [own_f2_20, if_neg h] at hv; exact hv) hr
set_option maxRecDepth 65536 in
set_option maxHeartbeats 40000000 in
theorem own_b2_14 {p : Program} {l : Launch} {e : Env} {R : Room} {s : State} {m : MethodId} {args : Array Value} {below : List Frame} {meth : Method} {c : Code} {T : State} {locs : List Loc} {cells slots : Nat} {Z : State} {a0 : Array Value}
    (X : Stand p l e R s m args below meth c T locs cells slots) (hx : p.tables.exec = Jvm.exec) (hZ : Z.Warmed39 s.vm) (hw : ∀ d ∈ tables_1, d.before a0 Z = true) (hby : c.code = method_2_code) (hown : s.vm.findClass x.cls = some m.cls) (hret : meth.sig.returnType = some .boolean) (z v : Int32) (hv : own_f2_14 z.toInt = v) {fs : List Frame}
    (hr : ∀ (f : JFrame) (acts : List Action), f.method = m → f.locked = none → f.entered = [] → (doReturn e (T.setTop f) acts (some (.int v))).1 = T.setFrames fs) :
    Steps p.tables e below (T.setTop (mkF m 14 #[.val (.int z)] [])) (T.setFrames fs) := by
  refine XS.iloadN X.here hx rfl (hb hby d2_14) rfl ?_
  show Steps p.tables e below (T.setTop (mkF m 15 #[.val (.int z)] [(.int z)])) _
  refine XT.bipushV X.here hx rfl (11 : Int32) (hb hby d2_15) (by decide) ?_
  show Steps p.tables e below (T.setTop (mkF m 17 #[.val (.int z)] [(.int (11 : Int32)), (.int z)])) _
  by_cases h : z.toInt = 11
  · have h' : z = (11 : Int32) := (own_eq32 (k := (11 : Int32)) (n := 11) (by decide)).mpr h
    refine XS.icmpYes X.here hx rfl (pc0 := 17) (pc' := 26) rfl (hb hby d2_17) rfl (teq h').1 (by decide) (by decide) ?_
    exact own_b2_26 X hx hZ hw hby hown hret z v (by rw [own_f2_14, if_pos h] at hv; exact hv) hr
  · have h' : ¬ z = (11 : Int32) := fun q => h ((own_eq32 (k := (11 : Int32)) (n := 11) (by decide)).mp q)
    refine XS.icmpNo X.here hx rfl (hb hby d2_17) rfl (feq h').1 ?_
    exact own_b2_20 X hx hZ hw hby hown hret z v (by rw [own_f2_14, if_neg h] at hv; exact hv) hr
set_option maxRecDepth 65536 in
set_option maxHeartbeats 40000000 in
theorem own_b2_12 {p : Program} {l : Launch} {e : Env} {R : Room} {s : State} {m : MethodId} {args : Array Value} {below : List Frame} {meth : Method} {c : Code} {T : State} {locs : List Loc} {cells slots : Nat} {Z : State} {a0 : Array Value}
    (X : Stand p l e R s m args below meth c T locs cells slots) (hx : p.tables.exec = Jvm.exec) (hZ : Z.Warmed39 s.vm) (hw : ∀ d ∈ tables_1, d.before a0 Z = true) (hby : c.code = method_2_code) (hown : s.vm.findClass x.cls = some m.cls) (hret : meth.sig.returnType = some .boolean) (z v : Int32) (hv : own_f2_12 z.toInt = v) {fs : List Frame}
    (hr : ∀ (f : JFrame) (acts : List Action), f.method = m → f.locked = none → f.entered = [] → (doReturn e (T.setTop f) acts (some (.int v))).1 = T.setFrames fs) :
    Steps p.tables e below (T.setTop (mkF m 12 #[.val (.int z)] [])) (T.setFrames fs) := by
  obtain rfl : v = (1 : Int32) := hv.symm
  refine XT.iconstV X.here hx rfl (1 : Int32) (hb hby d2_12) (by decide) ?_
  show Steps p.tables e below (T.setTop (mkF m 13 #[.val (.int z)] [(.int (1 : Int32))])) _
  exact retN X hx (t := .boolean) hret (by simp) (hb hby d2_13) hr
set_option maxRecDepth 65536 in
set_option maxHeartbeats 40000000 in
theorem own_b2_6 {p : Program} {l : Launch} {e : Env} {R : Room} {s : State} {m : MethodId} {args : Array Value} {below : List Frame} {meth : Method} {c : Code} {T : State} {locs : List Loc} {cells slots : Nat} {Z : State} {a0 : Array Value}
    (X : Stand p l e R s m args below meth c T locs cells slots) (hx : p.tables.exec = Jvm.exec) (hZ : Z.Warmed39 s.vm) (hw : ∀ d ∈ tables_1, d.before a0 Z = true) (hby : c.code = method_2_code) (hown : s.vm.findClass x.cls = some m.cls) (hret : meth.sig.returnType = some .boolean) (z v : Int32) (hv : own_f2_6 z.toInt = v) {fs : List Frame}
    (hr : ∀ (f : JFrame) (acts : List Action), f.method = m → f.locked = none → f.entered = [] → (doReturn e (T.setTop f) acts (some (.int v))).1 = T.setFrames fs) :
    Steps p.tables e below (T.setTop (mkF m 6 #[.val (.int z)] [])) (T.setFrames fs) := by
  refine XS.iloadN X.here hx rfl (hb hby d2_6) rfl ?_
  show Steps p.tables e below (T.setTop (mkF m 7 #[.val (.int z)] [(.int z)])) _
  refine XT.bipushV X.here hx rfl (8 : Int32) (hb hby d2_7) (by decide) ?_
  show Steps p.tables e below (T.setTop (mkF m 9 #[.val (.int z)] [(.int (8 : Int32)), (.int z)])) _
  by_cases h : 8 < z.toInt
  · have h' : (8 : Int32) < z := (own_gt32 (k := (8 : Int32)) (n := 8) (by decide)).mpr h
    refine XS.icmpYes X.here hx rfl (pc0 := 9) (pc' := 14) rfl (hb hby d2_9) rfl (tlt h').2.2.1 (by decide) (by decide) ?_
    exact own_b2_14 X hx hZ hw hby hown hret z v (by rw [own_f2_6, if_pos h] at hv; exact hv) hr
  · have h' : ¬ (8 : Int32) < z := fun q => h ((own_gt32 (k := (8 : Int32)) (n := 8) (by decide)).mp q)
    refine XS.icmpNo X.here hx rfl (hb hby d2_9) rfl (flt h').2.2.1 ?_
    exact own_b2_12 X hx hZ hw hby hown hret z v (by rw [own_f2_6, if_neg h] at hv; exact hv) hr
set_option maxRecDepth 65536 in
set_option maxHeartbeats 40000000 in
theorem own_b2_4 {p : Program} {l : Launch} {e : Env} {R : Room} {s : State} {m : MethodId} {args : Array Value} {below : List Frame} {meth : Method} {c : Code} {T : State} {locs : List Loc} {cells slots : Nat} {Z : State} {a0 : Array Value}
    (X : Stand p l e R s m args below meth c T locs cells slots) (hx : p.tables.exec = Jvm.exec) (hZ : Z.Warmed39 s.vm) (hw : ∀ d ∈ tables_1, d.before a0 Z = true) (hby : c.code = method_2_code) (hown : s.vm.findClass x.cls = some m.cls) (hret : meth.sig.returnType = some .boolean) (z v : Int32) (hv : own_f2_4 z.toInt = v) {fs : List Frame}
    (hr : ∀ (f : JFrame) (acts : List Action), f.method = m → f.locked = none → f.entered = [] → (doReturn e (T.setTop f) acts (some (.int v))).1 = T.setFrames fs) :
    Steps p.tables e below (T.setTop (mkF m 4 #[.val (.int z)] [])) (T.setFrames fs) := by
  obtain rfl : v = (1 : Int32) := hv.symm
  refine XT.iconstV X.here hx rfl (1 : Int32) (hb hby d2_4) (by decide) ?_
  show Steps p.tables e below (T.setTop (mkF m 5 #[.val (.int z)] [(.int (1 : Int32))])) _
  exact retN X hx (t := .boolean) hret (by simp) (hb hby d2_5) hr
set_option maxRecDepth 65536 in
set_option maxHeartbeats 40000000 in
theorem own_b2_0 {p : Program} {l : Launch} {e : Env} {R : Room} {s : State} {m : MethodId} {args : Array Value} {below : List Frame} {meth : Method} {c : Code} {T : State} {locs : List Loc} {cells slots : Nat} {Z : State} {a0 : Array Value}
    (X : Stand p l e R s m args below meth c T locs cells slots) (hx : p.tables.exec = Jvm.exec) (hZ : Z.Warmed39 s.vm) (hw : ∀ d ∈ tables_1, d.before a0 Z = true) (hby : c.code = method_2_code) (hown : s.vm.findClass x.cls = some m.cls) (hret : meth.sig.returnType = some .boolean) (z v : Int32) (hv : own_f2_0 z.toInt = v) {fs : List Frame}
    (hr : ∀ (f : JFrame) (acts : List Action), f.method = m → f.locked = none → f.entered = [] → (doReturn e (T.setTop f) acts (some (.int v))).1 = T.setFrames fs) :
    Steps p.tables e below (T.setTop (mkF m 0 #[.val (.int z)] [])) (T.setFrames fs) := by
  refine XS.iloadN X.here hx rfl (hb hby d2_0) rfl ?_
  show Steps p.tables e below (T.setTop (mkF m 1 #[.val (.int z)] [(.int z)])) _
  by_cases h : z.toInt < 0
  · have h' : z < (0 : Int32) := (own_lt32 (k := (0 : Int32)) (n := 0) (by decide)).mpr h
    refine XS.ifNo X.here hx rfl (hb hby d2_1) rfl ((if0 _ _).trans (tlt h').2.1) ?_
    exact own_b2_4 X hx hZ hw hby hown hret z v (by rw [own_f2_0, if_pos h] at hv; exact hv) hr
  · have h' : ¬ z < (0 : Int32) := fun q => h ((own_lt32 (k := (0 : Int32)) (n := 0) (by decide)).mp q)
    refine XS.ifYes X.here hx rfl (pc0 := 1) (pc' := 6) rfl (hb hby d2_1) rfl ((if0 _ _).trans (flt h').2.1) (by decide) (by decide) ?_
    exact own_b2_6 X hx hZ hw hby hown hret z v (by rw [own_f2_0, if_neg h] at hv; exact hv) hr
theorem pn_2 : plainName x.cls = true := by first | (simp [plainName, overriddenIn]; done) | decide +kernel
theorem ef_2 (m : MethodId) (x0 : Int32) : entryFrame m #[(.int x0)] 1 = mkF m 0 #[.val (.int x0)] [] := by first | (simp [entryFrame, mkF, argsToLocals, Value.category]; done) | rfl
def Q2 (p1 : Int32) (h0 : Heap) (n0 : Nat) (v : Option Value) (h : Heap) (L : List Loc) : Prop := v = some (.int (own_f2_0 p1.toInt)) ∧ Fr n0 L ∧ h = h0
set_option maxRecDepth 65536 in
set_option maxHeartbeats 40000000 in
theorem rm2 (l : Launch) (Z : State) (a0 : Array Value) (hw : ∀ d ∈ tables_1, d.before a0 Z = true) (ws : List Jvm.Cond) (p1 : Int32) (h0 : Heap) (n0 : Nat) (Z0 : n0 ≤ h0.size) :
    MetFree l site_115 (head1 (Jvm.Cond.code site_115 method_2_code 1 (some .boolean) :: ws) ({ frames := 0, cells := 0, slots := 0, locals := 0 } : Room)) (fun a U => a = #[(.int p1)] ∧ Z.Warmed39 U.vm ∧ U.heap = h0) (fun _ _ _ _ _ => True) (fun _ U o U' => ∃ v L, o = .returned v ∧ Q2 p1 h0 n0 v U'.heap L ∧ FrameEnd U o U' L ({ frames := 0, cells := 0, slots := 0, locals := 0 } : Room).cells ({ frames := 0, cells := 0, slots := 0, locals := 0 } : Room).slots) := by
  refine MetFree.of_bodySF (plainFor_of_name pn_2) hisR ?_
  intro p e s m args below meth c s₁ Bd hml0 hP hK
  obtain ⟨rfl, hZ, hh⟩ := hP
  have hx := Bd.exec
  have hby := Bd.bytes
  have hml : c.maxLocals = 1 := hml0
  have hown : s.vm.findClass x.cls = some m.cls := (findClass_of_methodNamed Bd.named :)
  have X0 : Stand p l e ({ frames := 0, cells := 0, slots := 0, locals := 0 } : Room) s m #[(.int p1)] below meth c s₁ [] 0 0 := Stand.of_body Bd
  have e0 : s₁.heap = h0 := by rw [← hh, Bd.state]; rfl
  have N0 := Fr.nil n0
  have pre0 : ∀ t, Steps p.tables e below (s₁.setTop (mkF m 0 #[.val (.int p1)] [])) t → Steps p.tables e below (s₁.setTop (entryFrame m #[(.int p1)] 1)) t := fun t k => castTop (ef_2 m p1) k
  obtain ⟨fs, hr, hrun, hended, hW, hsame⟩ := X0.leave (v := some (.int (own_f2_0 p1.toInt))) (fun h => by rw [Bd.returns] at h; cases h)
  refine ⟨_, _, pre0 _ ?_, hrun, hended, _, _, rfl, ?_, ⟨_, rfl⟩, hW, hsame.mono (by decide) (by decide)⟩
  · exact own_b2_0 X0 hx hZ hw hby hown Bd.returns p1 _ rfl hr
  · show Q2 p1 h0 n0 _ s₁.heap _
    rw [e0]
    exact ⟨rfl, N0, rfl⟩
theorem own_opp (z : Int) : (own_f1_0 z = 1 ∧ own_f2_0 z = 0) ∨ (own_f1_0 z = 0 ∧ own_f2_0 z = 1) := by
  rcases own_o1_0 z with ⟨a, b⟩ | ⟨a, b⟩ <;> rcases own_o2_0 z with ⟨c, d⟩ | ⟨c, d⟩
  · exfalso; clear a c; omega
  · exact Or.inl ⟨a, c⟩
  · exact Or.inr ⟨a, c⟩
  · exfalso; clear a c; omega
theorem own_ix (k : Int32) : ¬ (k &&& (15 : Int32)) < 0 ∧ (k &&& (15 : Int32)) < (16 : Int32) := by
  have h1 := c_and k (15 : Int32) (by decide)
  have h2 : (15 : Int32).toInt = 15 := by decide
  rw [own_lt32 (k := (0 : Int32)) (n := 0) (by decide), own_lt32 (k := (16 : Int32)) (n := 16) (by decide)]
  omega
set_option maxRecDepth 65536 in
set_option maxHeartbeats 40000000 in
theorem own_s0_mk {p : Program} {l : Launch} {e : Env} {s : State} {m : MethodId} {args : Array Value} {below : List Frame} {meth : Method} {c : Code} {T0 : State} {locs : List Loc} {Z : State} {a0 : Array Value} {h0 : Heap} {n0 : Nat} (p0 p1 p2 : Int32)
    (X0 : Stand p l e room_1 s m args below meth c T0 locs 0 0) (hx : p.tables.exec = Jvm.exec) (hZ : Z.Warmed39 s.vm) (hw : ∀ d ∈ tables_1, d.before a0 Z = true) (hby : c.code = code) (hml : c.maxLocals = 7) (hown : s.vm.findClass x.cls = some m.cls) (e0 : T0.heap = h0) (Z0 : n0 ≤ h0.size) (N0 : Fr n0 locs) :
    ∃ (T' : State) (h' : Heap) (locs' : List Loc) (a1 : Addr) (cl : Cell), Stand p l e room_1 s m args below meth c T' locs' 1 16 ∧ T'.heap = h' ∧ n0 ≤ h'.size ∧ Fr n0 locs' ∧ own_IA Z h' a1 (16 : Int32) cl ∧
      ∀ target, Steps p.tables e below (T'.setTop (mkF m 93 #[.val (.int p0), .val (.int p1), .val (.int p2), .unset, .unset, .unset, .unset] [(.ref a1)])) target → Steps p.tables e below (T0.setTop (mkF m 0 #[.val (.int p0), .val (.int p1), .val (.int p2), .unset, .unset, .unset, .unset] [])) target := by
  obtain ⟨T1, h1, k1, X1, e1, E1, A1, st1⟩ := newP X0 hx hZ (hw _ (List.mem_of_getElem? (i := 0) rfl)) e0 (g := (mkF m 2 #[.val (.int p0), .val (.int p1), .val (.int p2), .unset, .unset, .unset, .unset] [(.int (16 : Int32))])) rfl (hb hby at_2) rfl (by decide : ¬ ((16 : Int32) < (0 : Int32))) (cap := 16) (by decide : ((16 : Int32)).toNatClampNeg ≤ 16) (by decide) (by decide) (by decide)
  obtain ⟨a1, g1⟩ : ∃ z, z = h0.size := ⟨_, rfl⟩
  rw [← g1] at A1 st1
  have q1 : n0 ≤ a1 := Nat.le_trans Z0 (Nat.le_of_eq g1.symm)
  have Z1 : n0 ≤ h1.size := Nat.le_trans Z0 E1.1
  have I1 := own_IA_new A1
  obtain ⟨T2, h2, X2, e2, W2, st2⟩ := stI X1 hx hZ e1 I1.1 (j := (0 : Int32)) (inb_of I1.2.1 ⟨(by decide : ¬ ((0 : Int32) < (0 : Int32))), (by decide : (0 : Int32) < (16 : Int32))⟩) (g := (mkF m 7 #[.val (.int p0), .val (.int p1), .val (.int p2), .unset, .unset, .unset, .unset] [(.int (0 : Int32)), (.int (0 : Int32)), (.ref a1), (.ref a1)])) rfl rfl (hb hby at_7)
  have N2 := Fr.snoc X2 N0 q1
  have Z2 : n0 ≤ h2.size := Nat.le_trans Z1 (Keep.of_wr W2).1
  have I2 := own_IA_set I1 W2
  obtain ⟨T3, h3, X3, e3, W3, st3⟩ := stI X2 hx hZ e2 I2.1 (j := (1 : Int32)) (inb_of I2.2.1 ⟨(by decide : ¬ ((1 : Int32) < (0 : Int32))), (by decide : (1 : Int32) < (16 : Int32))⟩) (g := (mkF m 12 #[.val (.int p0), .val (.int p1), .val (.int p2), .unset, .unset, .unset, .unset] [(.int (9 : Int32)), (.int (1 : Int32)), (.ref a1), (.ref a1)])) rfl rfl (hb hby at_12)
  have N3 := Fr.snoc X3 N2 q1
  have Z3 : n0 ≤ h3.size := Nat.le_trans Z2 (Keep.of_wr W3).1
  have I3 := own_IA_set I2 W3
  obtain ⟨T4, h4, X4, e4, W4, st4⟩ := stI X3 hx hZ e3 I3.1 (j := (2 : Int32)) (inb_of I3.2.1 ⟨(by decide : ¬ ((2 : Int32) < (0 : Int32))), (by decide : (2 : Int32) < (16 : Int32))⟩) (g := (mkF m 17 #[.val (.int p0), .val (.int p1), .val (.int p2), .unset, .unset, .unset, .unset] [(.int (10 : Int32)), (.int (2 : Int32)), (.ref a1), (.ref a1)])) rfl rfl (hb hby at_17)
  have N4 := Fr.snoc X4 N3 q1
  have Z4 : n0 ≤ h4.size := Nat.le_trans Z3 (Keep.of_wr W4).1
  have I4 := own_IA_set I3 W4
  obtain ⟨T5, h5, X5, e5, W5, st5⟩ := stI X4 hx hZ e4 I4.1 (j := (3 : Int32)) (inb_of I4.2.1 ⟨(by decide : ¬ ((3 : Int32) < (0 : Int32))), (by decide : (3 : Int32) < (16 : Int32))⟩) (g := (mkF m 22 #[.val (.int p0), .val (.int p1), .val (.int p2), .unset, .unset, .unset, .unset] [(.int (11 : Int32)), (.int (3 : Int32)), (.ref a1), (.ref a1)])) rfl rfl (hb hby at_22)
  have N5 := Fr.snoc X5 N4 q1
  have Z5 : n0 ≤ h5.size := Nat.le_trans Z4 (Keep.of_wr W5).1
  have I5 := own_IA_set I4 W5
  obtain ⟨T6, h6, X6, e6, W6, st6⟩ := stI X5 hx hZ e5 I5.1 (j := (4 : Int32)) (inb_of I5.2.1 ⟨(by decide : ¬ ((4 : Int32) < (0 : Int32))), (by decide : (4 : Int32) < (16 : Int32))⟩) (g := (mkF m 27 #[.val (.int p0), .val (.int p1), .val (.int p2), .unset, .unset, .unset, .unset] [(.int (13 : Int32)), (.int (4 : Int32)), (.ref a1), (.ref a1)])) rfl rfl (hb hby at_27)
  have N6 := Fr.snoc X6 N5 q1
  have Z6 : n0 ≤ h6.size := Nat.le_trans Z5 (Keep.of_wr W6).1
  have I6 := own_IA_set I5 W6
  obtain ⟨T7, h7, X7, e7, W7, st7⟩ := stI X6 hx hZ e6 I6.1 (j := (5 : Int32)) (inb_of I6.2.1 ⟨(by decide : ¬ ((5 : Int32) < (0 : Int32))), (by decide : (5 : Int32) < (16 : Int32))⟩) (g := (mkF m 32 #[.val (.int p0), .val (.int p1), .val (.int p2), .unset, .unset, .unset, .unset] [(.int (14 : Int32)), (.int (5 : Int32)), (.ref a1), (.ref a1)])) rfl rfl (hb hby at_32)
  have N7 := Fr.snoc X7 N6 q1
  have Z7 : n0 ≤ h7.size := Nat.le_trans Z6 (Keep.of_wr W7).1
  have I7 := own_IA_set I6 W7
  obtain ⟨T8, h8, X8, e8, W8, st8⟩ := stI X7 hx hZ e7 I7.1 (j := (6 : Int32)) (inb_of I7.2.1 ⟨(by decide : ¬ ((6 : Int32) < (0 : Int32))), (by decide : (6 : Int32) < (16 : Int32))⟩) (g := (mkF m 38 #[.val (.int p0), .val (.int p1), .val (.int p2), .unset, .unset, .unset, .unset] [(.int (32 : Int32)), (.int (6 : Int32)), (.ref a1), (.ref a1)])) rfl rfl (hb hby at_38)
  have N8 := Fr.snoc X8 N7 q1
  have Z8 : n0 ≤ h8.size := Nat.le_trans Z7 (Keep.of_wr W8).1
  have I8 := own_IA_set I7 W8
  obtain ⟨T9, h9, X9, e9, W9, st9⟩ := stI X8 hx hZ e8 I8.1 (j := (7 : Int32)) (inb_of I8.2.1 ⟨(by decide : ¬ ((7 : Int32) < (0 : Int32))), (by decide : (7 : Int32) < (16 : Int32))⟩) (g := (mkF m 44 #[.val (.int p0), .val (.int p1), .val (.int p2), .unset, .unset, .unset, .unset] [(.int (55295 : Int32)), (.int (7 : Int32)), (.ref a1), (.ref a1)])) rfl rfl (hb hby at_44)
  have N9 := Fr.snoc X9 N8 q1
  have Z9 : n0 ≤ h9.size := Nat.le_trans Z8 (Keep.of_wr W9).1
  have I9 := own_IA_set I8 W9
  obtain ⟨T10, h10, X10, e10, W10, st10⟩ := stI X9 hx hZ e9 I9.1 (j := (8 : Int32)) (inb_of I9.2.1 ⟨(by decide : ¬ ((8 : Int32) < (0 : Int32))), (by decide : (8 : Int32) < (16 : Int32))⟩) (g := (mkF m 50 #[.val (.int p0), .val (.int p1), .val (.int p2), .unset, .unset, .unset, .unset] [(.int (55296 : Int32)), (.int (8 : Int32)), (.ref a1), (.ref a1)])) rfl rfl (hb hby at_50)
  have N10 := Fr.snoc X10 N9 q1
  have Z10 : n0 ≤ h10.size := Nat.le_trans Z9 (Keep.of_wr W10).1
  have I10 := own_IA_set I9 W10
  obtain ⟨T11, h11, X11, e11, W11, st11⟩ := stI X10 hx hZ e10 I10.1 (j := (9 : Int32)) (inb_of I10.2.1 ⟨(by decide : ¬ ((9 : Int32) < (0 : Int32))), (by decide : (9 : Int32) < (16 : Int32))⟩) (g := (mkF m 56 #[.val (.int p0), .val (.int p1), .val (.int p2), .unset, .unset, .unset, .unset] [(.int (57343 : Int32)), (.int (9 : Int32)), (.ref a1), (.ref a1)])) rfl rfl (hb hby at_56)
  have N11 := Fr.snoc X11 N10 q1
  have Z11 : n0 ≤ h11.size := Nat.le_trans Z10 (Keep.of_wr W11).1
  have I11 := own_IA_set I10 W11
  obtain ⟨T12, h12, X12, e12, W12, st12⟩ := stI X11 hx hZ e11 I11.1 (j := (10 : Int32)) (inb_of I11.2.1 ⟨(by decide : ¬ ((10 : Int32) < (0 : Int32))), (by decide : (10 : Int32) < (16 : Int32))⟩) (g := (mkF m 62 #[.val (.int p0), .val (.int p1), .val (.int p2), .unset, .unset, .unset, .unset] [(.int (57344 : Int32)), (.int (10 : Int32)), (.ref a1), (.ref a1)])) rfl rfl (hb hby at_62)
  have N12 := Fr.snoc X12 N11 q1
  have Z12 : n0 ≤ h12.size := Nat.le_trans Z11 (Keep.of_wr W12).1
  have I12 := own_IA_set I11 W12
  obtain ⟨T13, h13, X13, e13, W13, st13⟩ := stI X12 hx hZ e12 I12.1 (j := (11 : Int32)) (inb_of I12.2.1 ⟨(by decide : ¬ ((11 : Int32) < (0 : Int32))), (by decide : (11 : Int32) < (16 : Int32))⟩) (g := (mkF m 68 #[.val (.int p0), .val (.int p1), .val (.int p2), .unset, .unset, .unset, .unset] [(.int (65533 : Int32)), (.int (11 : Int32)), (.ref a1), (.ref a1)])) rfl rfl (hb hby at_68)
  have N13 := Fr.snoc X13 N12 q1
  have Z13 : n0 ≤ h13.size := Nat.le_trans Z12 (Keep.of_wr W13).1
  have I13 := own_IA_set I12 W13
  obtain ⟨T14, h14, X14, e14, W14, st14⟩ := stI X13 hx hZ e13 I13.1 (j := (12 : Int32)) (inb_of I13.2.1 ⟨(by decide : ¬ ((12 : Int32) < (0 : Int32))), (by decide : (12 : Int32) < (16 : Int32))⟩) (g := (mkF m 74 #[.val (.int p0), .val (.int p1), .val (.int p2), .unset, .unset, .unset, .unset] [(.int (65536 : Int32)), (.int (12 : Int32)), (.ref a1), (.ref a1)])) rfl rfl (hb hby at_74)
  have N14 := Fr.snoc X14 N13 q1
  have Z14 : n0 ≤ h14.size := Nat.le_trans Z13 (Keep.of_wr W14).1
  have I14 := own_IA_set I13 W14
  obtain ⟨T15, h15, X15, e15, W15, st15⟩ := stI X14 hx hZ e14 I14.1 (j := (13 : Int32)) (inb_of I14.2.1 ⟨(by decide : ¬ ((13 : Int32) < (0 : Int32))), (by decide : (13 : Int32) < (16 : Int32))⟩) (g := (mkF m 80 #[.val (.int p0), .val (.int p1), .val (.int p2), .unset, .unset, .unset, .unset] [(.int (1114111 : Int32)), (.int (13 : Int32)), (.ref a1), (.ref a1)])) rfl rfl (hb hby at_80)
  have N15 := Fr.snoc X15 N14 q1
  have Z15 : n0 ≤ h15.size := Nat.le_trans Z14 (Keep.of_wr W15).1
  have I15 := own_IA_set I14 W15
  obtain ⟨T16, h16, X16, e16, W16, st16⟩ := stI X15 hx hZ e15 I15.1 (j := (14 : Int32)) (inb_of I15.2.1 ⟨(by decide : ¬ ((14 : Int32) < (0 : Int32))), (by decide : (14 : Int32) < (16 : Int32))⟩) (g := (mkF m 86 #[.val (.int p0), .val (.int p1), .val (.int p2), .unset, .unset, .unset, .unset] [(.int (-2147483648 : Int32)), (.int (14 : Int32)), (.ref a1), (.ref a1)])) rfl rfl (hb hby at_86)
  have N16 := Fr.snoc X16 N15 q1
  have Z16 : n0 ≤ h16.size := Nat.le_trans Z15 (Keep.of_wr W16).1
  have I16 := own_IA_set I15 W16
  obtain ⟨T17, h17, X17, e17, W17, st17⟩ := stI X16 hx hZ e16 I16.1 (j := (15 : Int32)) (inb_of I16.2.1 ⟨(by decide : ¬ ((15 : Int32) < (0 : Int32))), (by decide : (15 : Int32) < (16 : Int32))⟩) (g := (mkF m 92 #[.val (.int p0), .val (.int p1), .val (.int p2), .unset, .unset, .unset, .unset] [(.int (2147483647 : Int32)), (.int (15 : Int32)), (.ref a1), (.ref a1)])) rfl rfl (hb hby at_92)
  have N17 := Fr.snoc X17 N16 q1
  have Z17 : n0 ≤ h17.size := Nat.le_trans Z16 (Keep.of_wr W17).1
  have I17 := own_IA_set I16 W17
  refine ⟨T17, _, _, a1, _, X17, e17, Z17, N17, I17, fun target kt => ?_⟩
  show Steps p.tables e below (T0.setTop (mkF m 0 #[.val (.int p0), .val (.int p1), .val (.int p2), .unset, .unset, .unset, .unset] [])) _
  refine XT.bipushV X0.here hx rfl (16 : Int32) (hb hby at_0) (by decide) ?_
  show Steps p.tables e below (T0.setTop (mkF m 2 #[.val (.int p0), .val (.int p1), .val (.int p2), .unset, .unset, .unset, .unset] [(.int (16 : Int32))])) _
  refine st1 _ ?_
  show Steps p.tables e below (T1.setTop (mkF m 4 #[.val (.int p0), .val (.int p1), .val (.int p2), .unset, .unset, .unset, .unset] [(.ref a1)])) _
  refine XS.dup X1.here hx rfl (hb hby at_4) rfl rfl ?_
  show Steps p.tables e below (T1.setTop (mkF m 5 #[.val (.int p0), .val (.int p1), .val (.int p2), .unset, .unset, .unset, .unset] [(.ref a1), (.ref a1)])) _
  refine XT.iconstV X1.here hx rfl (0 : Int32) (hb hby at_5) (by decide) ?_
  show Steps p.tables e below (T1.setTop (mkF m 6 #[.val (.int p0), .val (.int p1), .val (.int p2), .unset, .unset, .unset, .unset] [(.int (0 : Int32)), (.ref a1), (.ref a1)])) _
  refine XT.iconstV X1.here hx rfl (0 : Int32) (hb hby at_6) (by decide) ?_
  show Steps p.tables e below (T1.setTop (mkF m 7 #[.val (.int p0), .val (.int p1), .val (.int p2), .unset, .unset, .unset, .unset] [(.int (0 : Int32)), (.int (0 : Int32)), (.ref a1), (.ref a1)])) _
  refine st2 _ ?_
  show Steps p.tables e below (T2.setTop (mkF m 8 #[.val (.int p0), .val (.int p1), .val (.int p2), .unset, .unset, .unset, .unset] [(.ref a1)])) _
  refine XS.dup X2.here hx rfl (hb hby at_8) rfl rfl ?_
  show Steps p.tables e below (T2.setTop (mkF m 9 #[.val (.int p0), .val (.int p1), .val (.int p2), .unset, .unset, .unset, .unset] [(.ref a1), (.ref a1)])) _
  refine XT.iconstV X2.here hx rfl (1 : Int32) (hb hby at_9) (by decide) ?_
  show Steps p.tables e below (T2.setTop (mkF m 10 #[.val (.int p0), .val (.int p1), .val (.int p2), .unset, .unset, .unset, .unset] [(.int (1 : Int32)), (.ref a1), (.ref a1)])) _
  refine XT.bipushV X2.here hx rfl (9 : Int32) (hb hby at_10) (by decide) ?_
  show Steps p.tables e below (T2.setTop (mkF m 12 #[.val (.int p0), .val (.int p1), .val (.int p2), .unset, .unset, .unset, .unset] [(.int (9 : Int32)), (.int (1 : Int32)), (.ref a1), (.ref a1)])) _
  refine st3 _ ?_
  show Steps p.tables e below (T3.setTop (mkF m 13 #[.val (.int p0), .val (.int p1), .val (.int p2), .unset, .unset, .unset, .unset] [(.ref a1)])) _
  refine XS.dup X3.here hx rfl (hb hby at_13) rfl rfl ?_
  show Steps p.tables e below (T3.setTop (mkF m 14 #[.val (.int p0), .val (.int p1), .val (.int p2), .unset, .unset, .unset, .unset] [(.ref a1), (.ref a1)])) _
  refine XT.iconstV X3.here hx rfl (2 : Int32) (hb hby at_14) (by decide) ?_
  show Steps p.tables e below (T3.setTop (mkF m 15 #[.val (.int p0), .val (.int p1), .val (.int p2), .unset, .unset, .unset, .unset] [(.int (2 : Int32)), (.ref a1), (.ref a1)])) _
  refine XT.bipushV X3.here hx rfl (10 : Int32) (hb hby at_15) (by decide) ?_
  show Steps p.tables e below (T3.setTop (mkF m 17 #[.val (.int p0), .val (.int p1), .val (.int p2), .unset, .unset, .unset, .unset] [(.int (10 : Int32)), (.int (2 : Int32)), (.ref a1), (.ref a1)])) _
  refine st4 _ ?_
  show Steps p.tables e below (T4.setTop (mkF m 18 #[.val (.int p0), .val (.int p1), .val (.int p2), .unset, .unset, .unset, .unset] [(.ref a1)])) _
  refine XS.dup X4.here hx rfl (hb hby at_18) rfl rfl ?_
  show Steps p.tables e below (T4.setTop (mkF m 19 #[.val (.int p0), .val (.int p1), .val (.int p2), .unset, .unset, .unset, .unset] [(.ref a1), (.ref a1)])) _
  refine XT.iconstV X4.here hx rfl (3 : Int32) (hb hby at_19) (by decide) ?_
  show Steps p.tables e below (T4.setTop (mkF m 20 #[.val (.int p0), .val (.int p1), .val (.int p2), .unset, .unset, .unset, .unset] [(.int (3 : Int32)), (.ref a1), (.ref a1)])) _
  refine XT.bipushV X4.here hx rfl (11 : Int32) (hb hby at_20) (by decide) ?_
  show Steps p.tables e below (T4.setTop (mkF m 22 #[.val (.int p0), .val (.int p1), .val (.int p2), .unset, .unset, .unset, .unset] [(.int (11 : Int32)), (.int (3 : Int32)), (.ref a1), (.ref a1)])) _
  refine st5 _ ?_
  show Steps p.tables e below (T5.setTop (mkF m 23 #[.val (.int p0), .val (.int p1), .val (.int p2), .unset, .unset, .unset, .unset] [(.ref a1)])) _
  refine XS.dup X5.here hx rfl (hb hby at_23) rfl rfl ?_
  show Steps p.tables e below (T5.setTop (mkF m 24 #[.val (.int p0), .val (.int p1), .val (.int p2), .unset, .unset, .unset, .unset] [(.ref a1), (.ref a1)])) _
  refine XT.iconstV X5.here hx rfl (4 : Int32) (hb hby at_24) (by decide) ?_
  show Steps p.tables e below (T5.setTop (mkF m 25 #[.val (.int p0), .val (.int p1), .val (.int p2), .unset, .unset, .unset, .unset] [(.int (4 : Int32)), (.ref a1), (.ref a1)])) _
  refine XT.bipushV X5.here hx rfl (13 : Int32) (hb hby at_25) (by decide) ?_
  show Steps p.tables e below (T5.setTop (mkF m 27 #[.val (.int p0), .val (.int p1), .val (.int p2), .unset, .unset, .unset, .unset] [(.int (13 : Int32)), (.int (4 : Int32)), (.ref a1), (.ref a1)])) _
  refine st6 _ ?_
  show Steps p.tables e below (T6.setTop (mkF m 28 #[.val (.int p0), .val (.int p1), .val (.int p2), .unset, .unset, .unset, .unset] [(.ref a1)])) _
  refine XS.dup X6.here hx rfl (hb hby at_28) rfl rfl ?_
  show Steps p.tables e below (T6.setTop (mkF m 29 #[.val (.int p0), .val (.int p1), .val (.int p2), .unset, .unset, .unset, .unset] [(.ref a1), (.ref a1)])) _
  refine XT.iconstV X6.here hx rfl (5 : Int32) (hb hby at_29) (by decide) ?_
  show Steps p.tables e below (T6.setTop (mkF m 30 #[.val (.int p0), .val (.int p1), .val (.int p2), .unset, .unset, .unset, .unset] [(.int (5 : Int32)), (.ref a1), (.ref a1)])) _
  refine XT.bipushV X6.here hx rfl (14 : Int32) (hb hby at_30) (by decide) ?_
  show Steps p.tables e below (T6.setTop (mkF m 32 #[.val (.int p0), .val (.int p1), .val (.int p2), .unset, .unset, .unset, .unset] [(.int (14 : Int32)), (.int (5 : Int32)), (.ref a1), (.ref a1)])) _
  refine st7 _ ?_
  show Steps p.tables e below (T7.setTop (mkF m 33 #[.val (.int p0), .val (.int p1), .val (.int p2), .unset, .unset, .unset, .unset] [(.ref a1)])) _
  refine XS.dup X7.here hx rfl (hb hby at_33) rfl rfl ?_
  show Steps p.tables e below (T7.setTop (mkF m 34 #[.val (.int p0), .val (.int p1), .val (.int p2), .unset, .unset, .unset, .unset] [(.ref a1), (.ref a1)])) _
  refine XT.bipushV X7.here hx rfl (6 : Int32) (hb hby at_34) (by decide) ?_
  show Steps p.tables e below (T7.setTop (mkF m 36 #[.val (.int p0), .val (.int p1), .val (.int p2), .unset, .unset, .unset, .unset] [(.int (6 : Int32)), (.ref a1), (.ref a1)])) _
  refine XT.bipushV X7.here hx rfl (32 : Int32) (hb hby at_36) (by decide) ?_
  show Steps p.tables e below (T7.setTop (mkF m 38 #[.val (.int p0), .val (.int p1), .val (.int p2), .unset, .unset, .unset, .unset] [(.int (32 : Int32)), (.int (6 : Int32)), (.ref a1), (.ref a1)])) _
  refine st8 _ ?_
  show Steps p.tables e below (T8.setTop (mkF m 39 #[.val (.int p0), .val (.int p1), .val (.int p2), .unset, .unset, .unset, .unset] [(.ref a1)])) _
  refine XS.dup X8.here hx rfl (hb hby at_39) rfl rfl ?_
  show Steps p.tables e below (T8.setTop (mkF m 40 #[.val (.int p0), .val (.int p1), .val (.int p2), .unset, .unset, .unset, .unset] [(.ref a1), (.ref a1)])) _
  refine XT.bipushV X8.here hx rfl (7 : Int32) (hb hby at_40) (by decide) ?_
  show Steps p.tables e below (T8.setTop (mkF m 42 #[.val (.int p0), .val (.int p1), .val (.int p2), .unset, .unset, .unset, .unset] [(.int (7 : Int32)), (.ref a1), (.ref a1)])) _
  refine X8.ldcI hx hown (v := (55295 : Int32)) (mvT hZ (hw _ (List.mem_of_getElem? (i := 1) rfl))) rfl (hb hby at_42) ?_
  show Steps p.tables e below (T8.setTop (mkF m 44 #[.val (.int p0), .val (.int p1), .val (.int p2), .unset, .unset, .unset, .unset] [(.int (55295 : Int32)), (.int (7 : Int32)), (.ref a1), (.ref a1)])) _
  refine st9 _ ?_
  show Steps p.tables e below (T9.setTop (mkF m 45 #[.val (.int p0), .val (.int p1), .val (.int p2), .unset, .unset, .unset, .unset] [(.ref a1)])) _
  refine XS.dup X9.here hx rfl (hb hby at_45) rfl rfl ?_
  show Steps p.tables e below (T9.setTop (mkF m 46 #[.val (.int p0), .val (.int p1), .val (.int p2), .unset, .unset, .unset, .unset] [(.ref a1), (.ref a1)])) _
  refine XT.bipushV X9.here hx rfl (8 : Int32) (hb hby at_46) (by decide) ?_
  show Steps p.tables e below (T9.setTop (mkF m 48 #[.val (.int p0), .val (.int p1), .val (.int p2), .unset, .unset, .unset, .unset] [(.int (8 : Int32)), (.ref a1), (.ref a1)])) _
  refine X9.ldcI hx hown (v := (55296 : Int32)) (mvT hZ (hw _ (List.mem_of_getElem? (i := 2) rfl))) rfl (hb hby at_48) ?_
  show Steps p.tables e below (T9.setTop (mkF m 50 #[.val (.int p0), .val (.int p1), .val (.int p2), .unset, .unset, .unset, .unset] [(.int (55296 : Int32)), (.int (8 : Int32)), (.ref a1), (.ref a1)])) _
  refine st10 _ ?_
  show Steps p.tables e below (T10.setTop (mkF m 51 #[.val (.int p0), .val (.int p1), .val (.int p2), .unset, .unset, .unset, .unset] [(.ref a1)])) _
  refine XS.dup X10.here hx rfl (hb hby at_51) rfl rfl ?_
  show Steps p.tables e below (T10.setTop (mkF m 52 #[.val (.int p0), .val (.int p1), .val (.int p2), .unset, .unset, .unset, .unset] [(.ref a1), (.ref a1)])) _
  refine XT.bipushV X10.here hx rfl (9 : Int32) (hb hby at_52) (by decide) ?_
  show Steps p.tables e below (T10.setTop (mkF m 54 #[.val (.int p0), .val (.int p1), .val (.int p2), .unset, .unset, .unset, .unset] [(.int (9 : Int32)), (.ref a1), (.ref a1)])) _
  refine X10.ldcI hx hown (v := (57343 : Int32)) (mvT hZ (hw _ (List.mem_of_getElem? (i := 3) rfl))) rfl (hb hby at_54) ?_
  show Steps p.tables e below (T10.setTop (mkF m 56 #[.val (.int p0), .val (.int p1), .val (.int p2), .unset, .unset, .unset, .unset] [(.int (57343 : Int32)), (.int (9 : Int32)), (.ref a1), (.ref a1)])) _
  refine st11 _ ?_
  show Steps p.tables e below (T11.setTop (mkF m 57 #[.val (.int p0), .val (.int p1), .val (.int p2), .unset, .unset, .unset, .unset] [(.ref a1)])) _
  refine XS.dup X11.here hx rfl (hb hby at_57) rfl rfl ?_
  show Steps p.tables e below (T11.setTop (mkF m 58 #[.val (.int p0), .val (.int p1), .val (.int p2), .unset, .unset, .unset, .unset] [(.ref a1), (.ref a1)])) _
  refine XT.bipushV X11.here hx rfl (10 : Int32) (hb hby at_58) (by decide) ?_
  show Steps p.tables e below (T11.setTop (mkF m 60 #[.val (.int p0), .val (.int p1), .val (.int p2), .unset, .unset, .unset, .unset] [(.int (10 : Int32)), (.ref a1), (.ref a1)])) _
  refine X11.ldcI hx hown (v := (57344 : Int32)) (mvT hZ (hw _ (List.mem_of_getElem? (i := 4) rfl))) rfl (hb hby at_60) ?_
  show Steps p.tables e below (T11.setTop (mkF m 62 #[.val (.int p0), .val (.int p1), .val (.int p2), .unset, .unset, .unset, .unset] [(.int (57344 : Int32)), (.int (10 : Int32)), (.ref a1), (.ref a1)])) _
  refine st12 _ ?_
  show Steps p.tables e below (T12.setTop (mkF m 63 #[.val (.int p0), .val (.int p1), .val (.int p2), .unset, .unset, .unset, .unset] [(.ref a1)])) _
  refine XS.dup X12.here hx rfl (hb hby at_63) rfl rfl ?_
  show Steps p.tables e below (T12.setTop (mkF m 64 #[.val (.int p0), .val (.int p1), .val (.int p2), .unset, .unset, .unset, .unset] [(.ref a1), (.ref a1)])) _
  refine XT.bipushV X12.here hx rfl (11 : Int32) (hb hby at_64) (by decide) ?_
  show Steps p.tables e below (T12.setTop (mkF m 66 #[.val (.int p0), .val (.int p1), .val (.int p2), .unset, .unset, .unset, .unset] [(.int (11 : Int32)), (.ref a1), (.ref a1)])) _
  refine X12.ldcI hx hown (v := (65533 : Int32)) (mvT hZ (hw _ (List.mem_of_getElem? (i := 5) rfl))) rfl (hb hby at_66) ?_
  show Steps p.tables e below (T12.setTop (mkF m 68 #[.val (.int p0), .val (.int p1), .val (.int p2), .unset, .unset, .unset, .unset] [(.int (65533 : Int32)), (.int (11 : Int32)), (.ref a1), (.ref a1)])) _
  refine st13 _ ?_
  show Steps p.tables e below (T13.setTop (mkF m 69 #[.val (.int p0), .val (.int p1), .val (.int p2), .unset, .unset, .unset, .unset] [(.ref a1)])) _
  refine XS.dup X13.here hx rfl (hb hby at_69) rfl rfl ?_
  show Steps p.tables e below (T13.setTop (mkF m 70 #[.val (.int p0), .val (.int p1), .val (.int p2), .unset, .unset, .unset, .unset] [(.ref a1), (.ref a1)])) _
  refine XT.bipushV X13.here hx rfl (12 : Int32) (hb hby at_70) (by decide) ?_
  show Steps p.tables e below (T13.setTop (mkF m 72 #[.val (.int p0), .val (.int p1), .val (.int p2), .unset, .unset, .unset, .unset] [(.int (12 : Int32)), (.ref a1), (.ref a1)])) _
  refine X13.ldcI hx hown (v := (65536 : Int32)) (mvT hZ (hw _ (List.mem_of_getElem? (i := 6) rfl))) rfl (hb hby at_72) ?_
  show Steps p.tables e below (T13.setTop (mkF m 74 #[.val (.int p0), .val (.int p1), .val (.int p2), .unset, .unset, .unset, .unset] [(.int (65536 : Int32)), (.int (12 : Int32)), (.ref a1), (.ref a1)])) _
  refine st14 _ ?_
  show Steps p.tables e below (T14.setTop (mkF m 75 #[.val (.int p0), .val (.int p1), .val (.int p2), .unset, .unset, .unset, .unset] [(.ref a1)])) _
  refine XS.dup X14.here hx rfl (hb hby at_75) rfl rfl ?_
  show Steps p.tables e below (T14.setTop (mkF m 76 #[.val (.int p0), .val (.int p1), .val (.int p2), .unset, .unset, .unset, .unset] [(.ref a1), (.ref a1)])) _
  refine XT.bipushV X14.here hx rfl (13 : Int32) (hb hby at_76) (by decide) ?_
  show Steps p.tables e below (T14.setTop (mkF m 78 #[.val (.int p0), .val (.int p1), .val (.int p2), .unset, .unset, .unset, .unset] [(.int (13 : Int32)), (.ref a1), (.ref a1)])) _
  refine X14.ldcI hx hown (v := (1114111 : Int32)) (mvT hZ (hw _ (List.mem_of_getElem? (i := 7) rfl))) rfl (hb hby at_78) ?_
  show Steps p.tables e below (T14.setTop (mkF m 80 #[.val (.int p0), .val (.int p1), .val (.int p2), .unset, .unset, .unset, .unset] [(.int (1114111 : Int32)), (.int (13 : Int32)), (.ref a1), (.ref a1)])) _
  refine st15 _ ?_
  show Steps p.tables e below (T15.setTop (mkF m 81 #[.val (.int p0), .val (.int p1), .val (.int p2), .unset, .unset, .unset, .unset] [(.ref a1)])) _
  refine XS.dup X15.here hx rfl (hb hby at_81) rfl rfl ?_
  show Steps p.tables e below (T15.setTop (mkF m 82 #[.val (.int p0), .val (.int p1), .val (.int p2), .unset, .unset, .unset, .unset] [(.ref a1), (.ref a1)])) _
  refine XT.bipushV X15.here hx rfl (14 : Int32) (hb hby at_82) (by decide) ?_
  show Steps p.tables e below (T15.setTop (mkF m 84 #[.val (.int p0), .val (.int p1), .val (.int p2), .unset, .unset, .unset, .unset] [(.int (14 : Int32)), (.ref a1), (.ref a1)])) _
  refine X15.ldcI hx hown (v := (-2147483648 : Int32)) (mvT hZ (hw _ (List.mem_of_getElem? (i := 8) rfl))) rfl (hb hby at_84) ?_
  show Steps p.tables e below (T15.setTop (mkF m 86 #[.val (.int p0), .val (.int p1), .val (.int p2), .unset, .unset, .unset, .unset] [(.int (-2147483648 : Int32)), (.int (14 : Int32)), (.ref a1), (.ref a1)])) _
  refine st16 _ ?_
  show Steps p.tables e below (T16.setTop (mkF m 87 #[.val (.int p0), .val (.int p1), .val (.int p2), .unset, .unset, .unset, .unset] [(.ref a1)])) _
  refine XS.dup X16.here hx rfl (hb hby at_87) rfl rfl ?_
  show Steps p.tables e below (T16.setTop (mkF m 88 #[.val (.int p0), .val (.int p1), .val (.int p2), .unset, .unset, .unset, .unset] [(.ref a1), (.ref a1)])) _
  refine XT.bipushV X16.here hx rfl (15 : Int32) (hb hby at_88) (by decide) ?_
  show Steps p.tables e below (T16.setTop (mkF m 90 #[.val (.int p0), .val (.int p1), .val (.int p2), .unset, .unset, .unset, .unset] [(.int (15 : Int32)), (.ref a1), (.ref a1)])) _
  refine X16.ldcI hx hown (v := (2147483647 : Int32)) (mvT hZ (hw _ (List.mem_of_getElem? (i := 9) rfl))) rfl (hb hby at_90) ?_
  show Steps p.tables e below (T16.setTop (mkF m 92 #[.val (.int p0), .val (.int p1), .val (.int p2), .unset, .unset, .unset, .unset] [(.int (2147483647 : Int32)), (.int (15 : Int32)), (.ref a1), (.ref a1)])) _
  refine st17 _ ?_
  exact kt
set_option maxRecDepth 65536 in
set_option maxHeartbeats 40000000 in
theorem own_s0_rd {p : Program} {l : Launch} {e : Env} {s : State} {m : MethodId} {args : Array Value} {below : List Frame} {meth : Method} {c : Code} {T0 : State} {locs : List Loc} {cells slots : Nat} {Z : State} {a0 : Array Value} {h0 : Heap} {n0 : Nat} (p0 p1 p2 : Int32) (a1 : Addr) (cl : Cell)
    (X0 : Stand p l e room_1 s m args below meth c T0 locs cells slots) (hx : p.tables.exec = Jvm.exec) (hZ : Z.Warmed39 s.vm) (hw : ∀ d ∈ tables_1, d.before a0 Z = true) (hby : c.code = code) (hml : c.maxLocals = 7) (hown : s.vm.findClass x.cls = some m.cls) (e0 : T0.heap = h0) (Z0 : n0 ≤ h0.size) (N0 : Fr n0 locs) (hcl : cells ≤ room_1.cells) (hsl : slots ≤ room_1.slots) (I0 : own_IA Z h0 a1 (16 : Int32) cl) :
    ∃ (T' : State) (h' : Heap) (locs' : List Loc) (w : Int32), Stand p l e room_1 s m args below meth c T' locs' cells slots ∧ T'.heap = h' ∧ n0 ≤ h'.size ∧ Fr n0 locs' ∧
      ∀ target, Steps p.tables e below (T'.setTop (mkF m 110 #[.val (.int p0), .val (.int p1), .val (.int p2), .val (.ref a1), .val (.int (w + ((p2 &&& (15 : Int32)) - (8 : Int32)))), .unset, .unset] [])) target → Steps p.tables e below (T0.setTop (mkF m 93 #[.val (.int p0), .val (.int p1), .val (.int p2), .unset, .unset, .unset, .unset] [(.ref a1)])) target := by
  obtain ⟨hin, w, hat⟩ := own_IA_at I0 (j := (p1 &&& (15 : Int32))) (own_ix p1)
  refine ⟨T0, _, _, w, X0, e0, Z0, N0, fun target kt => ?_⟩
  show Steps p.tables e below (T0.setTop (mkF m 93 #[.val (.int p0), .val (.int p1), .val (.int p2), .unset, .unset, .unset, .unset] [(.ref a1)])) _
  refine XS.astoreN X0.here hx rfl (hb hby at_93) rfl rfl (l' := #[.val (.int p0), .val (.int p1), .val (.int p2), .val (.ref a1), .unset, .unset, .unset]) rfl ?_
  show Steps p.tables e below (T0.setTop (mkF m 94 #[.val (.int p0), .val (.int p1), .val (.int p2), .val (.ref a1), .unset, .unset, .unset] [])) _
  refine XS.aloadN X0.here hx rfl (hb hby at_94) rfl rfl ?_
  show Steps p.tables e below (T0.setTop (mkF m 95 #[.val (.int p0), .val (.int p1), .val (.int p2), .val (.ref a1), .unset, .unset, .unset] [(.ref a1)])) _
  refine XS.iloadN X0.here hx rfl (hb hby at_95) rfl ?_
  show Steps p.tables e below (T0.setTop (mkF m 96 #[.val (.int p0), .val (.int p1), .val (.int p2), .val (.ref a1), .unset, .unset, .unset] [(.int p1), (.ref a1)])) _
  refine XT.bipushV X0.here hx rfl (15 : Int32) (hb hby at_96) (by decide) ?_
  show Steps p.tables e below (T0.setTop (mkF m 98 #[.val (.int p0), .val (.int p1), .val (.int p2), .val (.ref a1), .unset, .unset, .unset] [(.int (15 : Int32)), (.int p1), (.ref a1)])) _
  refine XS.iand X0.here hx rfl (hb hby at_98) rfl ?_
  show Steps p.tables e below (T0.setTop (mkF m 99 #[.val (.int p0), .val (.int p1), .val (.int p2), .val (.ref a1), .unset, .unset, .unset] [(.int (p1 &&& (15 : Int32))), (.ref a1)])) _
  refine X0.iaload hx (j := (p1 &&& (15 : Int32))) (v := (.int w)) (by rw [e0]; exact I0.1.1) (State.isArrayOf_alike hZ.alike I0.1.2.1) I0.1.2.2 hin hat (g := (mkF m 99 #[.val (.int p0), .val (.int p1), .val (.int p2), .val (.ref a1), .unset, .unset, .unset] [(.int (p1 &&& (15 : Int32))), (.ref a1)])) rfl rfl (hb hby at_99) _ ?_
  show Steps p.tables e below (T0.setTop (mkF m 100 #[.val (.int p0), .val (.int p1), .val (.int p2), .val (.ref a1), .unset, .unset, .unset] [(.int w)])) _
  refine XS.iloadN X0.here hx rfl (hb hby at_100) rfl ?_
  show Steps p.tables e below (T0.setTop (mkF m 101 #[.val (.int p0), .val (.int p1), .val (.int p2), .val (.ref a1), .unset, .unset, .unset] [(.int p2), (.int w)])) _
  refine XT.bipushV X0.here hx rfl (15 : Int32) (hb hby at_101) (by decide) ?_
  show Steps p.tables e below (T0.setTop (mkF m 103 #[.val (.int p0), .val (.int p1), .val (.int p2), .val (.ref a1), .unset, .unset, .unset] [(.int (15 : Int32)), (.int p2), (.int w)])) _
  refine XS.iand X0.here hx rfl (hb hby at_103) rfl ?_
  show Steps p.tables e below (T0.setTop (mkF m 104 #[.val (.int p0), .val (.int p1), .val (.int p2), .val (.ref a1), .unset, .unset, .unset] [(.int (p2 &&& (15 : Int32))), (.int w)])) _
  refine XT.bipushV X0.here hx rfl (8 : Int32) (hb hby at_104) (by decide) ?_
  show Steps p.tables e below (T0.setTop (mkF m 106 #[.val (.int p0), .val (.int p1), .val (.int p2), .val (.ref a1), .unset, .unset, .unset] [(.int (8 : Int32)), (.int (p2 &&& (15 : Int32))), (.int w)])) _
  refine XS.isub X0.here hx rfl (hb hby at_106) rfl ?_
  show Steps p.tables e below (T0.setTop (mkF m 107 #[.val (.int p0), .val (.int p1), .val (.int p2), .val (.ref a1), .unset, .unset, .unset] [(.int ((p2 &&& (15 : Int32)) - (8 : Int32))), (.int w)])) _
  refine XS.iadd X0.here hx rfl (hb hby at_107) rfl ?_
  show Steps p.tables e below (T0.setTop (mkF m 108 #[.val (.int p0), .val (.int p1), .val (.int p2), .val (.ref a1), .unset, .unset, .unset] [(.int (w + ((p2 &&& (15 : Int32)) - (8 : Int32))))])) _
  refine XS.istore X0.here hx rfl (hb hby at_108) rfl (l' := #[.val (.int p0), .val (.int p1), .val (.int p2), .val (.ref a1), .val (.int (w + ((p2 &&& (15 : Int32)) - (8 : Int32)))), .unset, .unset]) rfl ?_
  exact kt
set_option maxRecDepth 65536 in
set_option maxHeartbeats 40000000 in
theorem own_j0_x {p : Program} {l : Launch} {e : Env} {R : Room} {s : State} {m : MethodId} {args : Array Value} {below : List Frame} {meth : Method} {c : Code} {T0 : State} {locs : List Loc} {cells slots : Nat} (v0 v1 v2 v3 v4 v5 v6 : Slot) (a b : Int32)
    (X0 : Stand p l e R s m args below meth c T0 locs cells slots) (hx : p.tables.exec = Jvm.exec) (hby : c.code = code) (h : (a = 1 ∧ b = 0) ∨ (a = 0 ∧ b = 1)) :
    ∀ target, Steps p.tables e below (T0.setTop (mkF m 134 #[v0, v1, v2, v3, v4, v5, v6] [(.int (1 : Int32))])) target → Steps p.tables e below (T0.setTop (mkF m 118 #[v0, v1, v2, v3, v4, v5, v6] [(.int b), (.int a)])) target := by
  intro target kt
  rcases h with ⟨rfl, rfl⟩ | ⟨rfl, rfl⟩
  · show Steps p.tables e below (T0.setTop (mkF m 118 #[v0, v1, v2, v3, v4, v5, v6] [(.int (0 : Int32)), (.int (1 : Int32))])) _
    refine XS.ifNo X0.here hx rfl (hb hby at_118) rfl ((if0 _ _).trans (teq rfl).2) ?_
    show Steps p.tables e below (T0.setTop (mkF m 121 #[v0, v1, v2, v3, v4, v5, v6] [(.int (1 : Int32))])) _
    refine XT.iconstV X0.here hx rfl (1 : Int32) (hb hby at_121) (by decide) ?_
    show Steps p.tables e below (T0.setTop (mkF m 122 #[v0, v1, v2, v3, v4, v5, v6] [(.int (1 : Int32)), (.int (1 : Int32))])) _
    refine XS.goto X0.here hx rfl (pc0 := 122) (pc' := 126) rfl (hb hby at_122) (by decide) (by decide) ?_
    show Steps p.tables e below (T0.setTop (mkF m 126 #[v0, v1, v2, v3, v4, v5, v6] [(.int (1 : Int32)), (.int (1 : Int32))])) _
    refine XS.icmpNo X0.here hx rfl (hb hby at_126) rfl (teq rfl).2 ?_
    show Steps p.tables e below (T0.setTop (mkF m 129 #[v0, v1, v2, v3, v4, v5, v6] [])) _
    refine XT.iconstV X0.here hx rfl (1 : Int32) (hb hby at_129) (by decide) ?_
    show Steps p.tables e below (T0.setTop (mkF m 130 #[v0, v1, v2, v3, v4, v5, v6] [(.int (1 : Int32))])) _
    refine XS.goto X0.here hx rfl (pc0 := 130) (pc' := 134) rfl (hb hby at_130) (by decide) (by decide) ?_
    exact kt
  · show Steps p.tables e below (T0.setTop (mkF m 118 #[v0, v1, v2, v3, v4, v5, v6] [(.int (1 : Int32)), (.int (0 : Int32))])) _
    refine XS.ifYes X0.here hx rfl (pc0 := 118) (pc' := 125) rfl (hb hby at_118) rfl ((if0 _ _).trans (feq own_n10).2) (by decide) (by decide) ?_
    show Steps p.tables e below (T0.setTop (mkF m 125 #[v0, v1, v2, v3, v4, v5, v6] [(.int (0 : Int32))])) _
    refine XT.iconstV X0.here hx rfl (0 : Int32) (hb hby at_125) (by decide) ?_
    show Steps p.tables e below (T0.setTop (mkF m 126 #[v0, v1, v2, v3, v4, v5, v6] [(.int (0 : Int32)), (.int (0 : Int32))])) _
    refine XS.icmpNo X0.here hx rfl (hb hby at_126) rfl (teq rfl).2 ?_
    show Steps p.tables e below (T0.setTop (mkF m 129 #[v0, v1, v2, v3, v4, v5, v6] [])) _
    refine XT.iconstV X0.here hx rfl (1 : Int32) (hb hby at_129) (by decide) ?_
    show Steps p.tables e below (T0.setTop (mkF m 130 #[v0, v1, v2, v3, v4, v5, v6] [(.int (1 : Int32))])) _
    refine XS.goto X0.here hx rfl (pc0 := 130) (pc' := 134) rfl (hb hby at_130) (by decide) (by decide) ?_
    exact kt
set_option maxRecDepth 65536 in
set_option maxHeartbeats 40000000 in
theorem own_j0_y {p : Program} {l : Launch} {e : Env} {R : Room} {s : State} {m : MethodId} {args : Array Value} {below : List Frame} {meth : Method} {c : Code} {T0 : State} {locs : List Loc} {cells slots : Nat} (v0 v1 v2 v3 v4 v5 v6 : Slot) (a b : Int32)
    (X0 : Stand p l e R s m args below meth c T0 locs cells slots) (hx : p.tables.exec = Jvm.exec) (hby : c.code = code) (h : (a = 1 ∧ b = 0) ∨ (a = 0 ∧ b = 1)) :
    ∀ target, Steps p.tables e below (T0.setTop (mkF m 162 #[v0, v1, v2, v3, v4, v5, v6] [(.int (1 : Int32))])) target → Steps p.tables e below (T0.setTop (mkF m 146 #[v0, v1, v2, v3, v4, v5, v6] [(.int b), (.int a)])) target := by
  intro target kt
  rcases h with ⟨rfl, rfl⟩ | ⟨rfl, rfl⟩
  · show Steps p.tables e below (T0.setTop (mkF m 146 #[v0, v1, v2, v3, v4, v5, v6] [(.int (0 : Int32)), (.int (1 : Int32))])) _
    refine XS.ifNo X0.here hx rfl (hb hby at_146) rfl ((if0 _ _).trans (teq rfl).2) ?_
    show Steps p.tables e below (T0.setTop (mkF m 149 #[v0, v1, v2, v3, v4, v5, v6] [(.int (1 : Int32))])) _
    refine XT.iconstV X0.here hx rfl (1 : Int32) (hb hby at_149) (by decide) ?_
    show Steps p.tables e below (T0.setTop (mkF m 150 #[v0, v1, v2, v3, v4, v5, v6] [(.int (1 : Int32)), (.int (1 : Int32))])) _
    refine XS.goto X0.here hx rfl (pc0 := 150) (pc' := 154) rfl (hb hby at_150) (by decide) (by decide) ?_
    show Steps p.tables e below (T0.setTop (mkF m 154 #[v0, v1, v2, v3, v4, v5, v6] [(.int (1 : Int32)), (.int (1 : Int32))])) _
    refine XS.icmpNo X0.here hx rfl (hb hby at_154) rfl (teq rfl).2 ?_
    show Steps p.tables e below (T0.setTop (mkF m 157 #[v0, v1, v2, v3, v4, v5, v6] [])) _
    refine XT.iconstV X0.here hx rfl (1 : Int32) (hb hby at_157) (by decide) ?_
    show Steps p.tables e below (T0.setTop (mkF m 158 #[v0, v1, v2, v3, v4, v5, v6] [(.int (1 : Int32))])) _
    refine XS.goto X0.here hx rfl (pc0 := 158) (pc' := 162) rfl (hb hby at_158) (by decide) (by decide) ?_
    exact kt
  · show Steps p.tables e below (T0.setTop (mkF m 146 #[v0, v1, v2, v3, v4, v5, v6] [(.int (1 : Int32)), (.int (0 : Int32))])) _
    refine XS.ifYes X0.here hx rfl (pc0 := 146) (pc' := 153) rfl (hb hby at_146) rfl ((if0 _ _).trans (feq own_n10).2) (by decide) (by decide) ?_
    show Steps p.tables e below (T0.setTop (mkF m 153 #[v0, v1, v2, v3, v4, v5, v6] [(.int (0 : Int32))])) _
    refine XT.iconstV X0.here hx rfl (0 : Int32) (hb hby at_153) (by decide) ?_
    show Steps p.tables e below (T0.setTop (mkF m 154 #[v0, v1, v2, v3, v4, v5, v6] [(.int (0 : Int32)), (.int (0 : Int32))])) _
    refine XS.icmpNo X0.here hx rfl (hb hby at_154) rfl (teq rfl).2 ?_
    show Steps p.tables e below (T0.setTop (mkF m 157 #[v0, v1, v2, v3, v4, v5, v6] [])) _
    refine XT.iconstV X0.here hx rfl (1 : Int32) (hb hby at_157) (by decide) ?_
    show Steps p.tables e below (T0.setTop (mkF m 158 #[v0, v1, v2, v3, v4, v5, v6] [(.int (1 : Int32))])) _
    refine XS.goto X0.here hx rfl (pc0 := 158) (pc' := 162) rfl (hb hby at_158) (by decide) (by decide) ?_
    exact kt
set_option maxRecDepth 65536 in
set_option maxHeartbeats 40000000 in
theorem own_s0_cx {p : Program} {l : Launch} {e : Env} {s : State} {m : MethodId} {args : Array Value} {below : List Frame} {meth : Method} {c : Code} {T0 : State} {locs : List Loc} {cells slots : Nat} {Z : State} {a0 : Array Value} {h0 : Heap} {n0 : Nat} (p0 p1 p2 : Int32) (a1 : Addr) (z : Int32)
    (X0 : Stand p l e room_1 s m args below meth c T0 locs cells slots) (hx : p.tables.exec = Jvm.exec) (hZ : Z.Warmed39 s.vm) (hw : ∀ d ∈ tables_1, d.before a0 Z = true) (hby : c.code = code) (hml : c.maxLocals = 7) (hown : s.vm.findClass x.cls = some m.cls) (e0 : T0.heap = h0) (Z0 : n0 ≤ h0.size) (N0 : Fr n0 locs) (hcl : cells ≤ room_1.cells) (hsl : slots ≤ room_1.slots) :
    ∃ (T' : State) (h' : Heap) (locs' : List Loc), Stand p l e room_1 s m args below meth c T' locs' cells slots ∧ T'.heap = h' ∧ n0 ≤ h'.size ∧ Fr n0 locs' ∧
      ∀ target, Steps p.tables e below (T'.setTop (mkF m 118 #[.val (.int p0), .val (.int p1), .val (.int p2), .val (.ref a1), .val (.int z), .unset, .unset] [(.int (own_f2_0 (p0).toInt)), (.int (own_f1_0 (p0).toInt))])) target → Steps p.tables e below (T0.setTop (mkF m 110 #[.val (.int p0), .val (.int p1), .val (.int p2), .val (.ref a1), .val (.int z), .unset, .unset] [])) target := by
  obtain ⟨_, _, ⟨T1, L1, k1, n1⟩, -, X1, ⟨Lc1, hQ1, l1, y1, z1⟩, st1⟩ := Jvm.LawKit.callS X0 hx (y := site_111) hown (mvT hZ (hw _ (List.mem_of_getElem? (i := 10) rfl))) (mvT hZ (hw _ (List.mem_of_getElem? (i := 11) rfl))) (mvT hZ (hw _ (List.mem_of_getElem? (i := 12) rfl))) (mvT hZ (hw _ (List.mem_of_getElem? (i := 13) rfl))) (by decide) (backOf (W := 0) (rm1 l Z a0 hw [] (p0) h0 n0 Z0) hZ (hw _ (List.mem_of_getElem? (i := 13) rfl)) (hw _ (List.mem_of_getElem? (i := 12) rfl)) (by decide) (by decide)) (g := (mkF m 111 #[.val (.int p0), .val (.int p1), .val (.int p2), .val (.ref a1), .val (.int z), .unset, .unset] [(.int p0)])) rfl (by rw [hml]; rfl) (argsL := [(.int (p0))]) (rest := []) (lenOf own_pdI rfl) rfl (by show 2 * 0 + _ ≤ _; exact Nat.le_of_eq rfl) (hb hby at_111) (fun _ _ => ⟨rfl, e0, hcl, hsl⟩)
  dsimp only [Pt.U, Pt.locs, Pt.cells, Pt.slots] at X1 l1 y1 z1 st1 hQ1
  subst l1 y1 z1
  obtain ⟨rfl, M1, e1⟩ := hQ1
  have N1 := Fr.app N0 M1
  obtain ⟨_, _, ⟨T2, L2, k2, n2⟩, -, X2, ⟨Lc2, hQ2, l2, y2, z2⟩, st2⟩ := Jvm.LawKit.callS X1 hx (y := site_115) hown (mvT hZ (hw _ (List.mem_of_getElem? (i := 16) rfl))) (mvT hZ (hw _ (List.mem_of_getElem? (i := 17) rfl))) (mvT hZ (hw _ (List.mem_of_getElem? (i := 18) rfl))) (mvT hZ (hw _ (List.mem_of_getElem? (i := 19) rfl))) (by decide) (backOf (W := 1) (rm2 l Z a0 hw [] (p0) h0 n0 Z0) hZ (hw _ (List.mem_of_getElem? (i := 19) rfl)) (hw _ (List.mem_of_getElem? (i := 18) rfl)) (by decide) (by decide)) (g := (mkF m 115 #[.val (.int p0), .val (.int p1), .val (.int p2), .val (.ref a1), .val (.int z), .unset, .unset] [(.int p0), (.int (own_f1_0 (p0).toInt))])) rfl (by rw [hml]; rfl) (argsL := [(.int (p0))]) (rest := [(.int (own_f1_0 (p0).toInt))]) (lenOf own_pdI rfl) rfl (by show 2 * 0 + _ ≤ _; exact Nat.le_of_eq rfl) (hb hby at_115) (fun _ _ => ⟨rfl, e1, hcl, hsl⟩)
  dsimp only [Pt.U, Pt.locs, Pt.cells, Pt.slots] at X2 l2 y2 z2 st2 hQ2
  subst l2 y2 z2
  obtain ⟨rfl, M2, e2⟩ := hQ2
  have N2 := Fr.app N1 M2
  refine ⟨T2, _, _, X2, e2, Z0, N2, fun target kt => ?_⟩
  show Steps p.tables e below (T0.setTop (mkF m 110 #[.val (.int p0), .val (.int p1), .val (.int p2), .val (.ref a1), .val (.int z), .unset, .unset] [])) _
  refine XS.iloadN X0.here hx rfl (hb hby at_110) rfl ?_
  show Steps p.tables e below (T0.setTop (mkF m 111 #[.val (.int p0), .val (.int p1), .val (.int p2), .val (.ref a1), .val (.int z), .unset, .unset] [(.int p0)])) _
  refine st1 _ ?_
  show Steps p.tables e below (T1.setTop (mkF m 114 #[.val (.int p0), .val (.int p1), .val (.int p2), .val (.ref a1), .val (.int z), .unset, .unset] [(.int (own_f1_0 (p0).toInt))])) _
  refine XS.iloadN X1.here hx rfl (hb hby at_114) rfl ?_
  show Steps p.tables e below (T1.setTop (mkF m 115 #[.val (.int p0), .val (.int p1), .val (.int p2), .val (.ref a1), .val (.int z), .unset, .unset] [(.int p0), (.int (own_f1_0 (p0).toInt))])) _
  refine st2 _ ?_
  exact kt
set_option maxRecDepth 65536 in
set_option maxHeartbeats 40000000 in
theorem own_s0_cy {p : Program} {l : Launch} {e : Env} {s : State} {m : MethodId} {args : Array Value} {below : List Frame} {meth : Method} {c : Code} {T0 : State} {locs : List Loc} {cells slots : Nat} {Z : State} {a0 : Array Value} {h0 : Heap} {n0 : Nat} (p0 p1 p2 : Int32) (a1 : Addr) (z : Int32)
    (X0 : Stand p l e room_1 s m args below meth c T0 locs cells slots) (hx : p.tables.exec = Jvm.exec) (hZ : Z.Warmed39 s.vm) (hw : ∀ d ∈ tables_1, d.before a0 Z = true) (hby : c.code = code) (hml : c.maxLocals = 7) (hown : s.vm.findClass x.cls = some m.cls) (e0 : T0.heap = h0) (Z0 : n0 ≤ h0.size) (N0 : Fr n0 locs) (hcl : cells ≤ room_1.cells) (hsl : slots ≤ room_1.slots) :
    ∃ (T' : State) (h' : Heap) (locs' : List Loc), Stand p l e room_1 s m args below meth c T' locs' cells slots ∧ T'.heap = h' ∧ n0 ≤ h'.size ∧ Fr n0 locs' ∧
      ∀ target, Steps p.tables e below (T'.setTop (mkF m 146 #[.val (.int p0), .val (.int p1), .val (.int p2), .val (.ref a1), .val (.int z), .val (.int (1 : Int32)), .unset] [(.int (own_f2_0 (z).toInt)), (.int (own_f1_0 (z).toInt))])) target → Steps p.tables e below (T0.setTop (mkF m 134 #[.val (.int p0), .val (.int p1), .val (.int p2), .val (.ref a1), .val (.int z), .unset, .unset] [(.int (1 : Int32))])) target := by
  obtain ⟨_, _, ⟨T1, L1, k1, n1⟩, -, X1, ⟨Lc1, hQ1, l1, y1, z1⟩, st1⟩ := Jvm.LawKit.callS X0 hx (y := site_111) hown (mvT hZ (hw _ (List.mem_of_getElem? (i := 10) rfl))) (mvT hZ (hw _ (List.mem_of_getElem? (i := 11) rfl))) (mvT hZ (hw _ (List.mem_of_getElem? (i := 12) rfl))) (mvT hZ (hw _ (List.mem_of_getElem? (i := 13) rfl))) (by decide) (backOf (W := 0) (rm1 l Z a0 hw [] (z) h0 n0 Z0) hZ (hw _ (List.mem_of_getElem? (i := 13) rfl)) (hw _ (List.mem_of_getElem? (i := 12) rfl)) (by decide) (by decide)) (g := (mkF m 138 #[.val (.int p0), .val (.int p1), .val (.int p2), .val (.ref a1), .val (.int z), .val (.int (1 : Int32)), .unset] [(.int z)])) rfl (by rw [hml]; rfl) (argsL := [(.int (z))]) (rest := []) (lenOf own_pdI rfl) rfl (by show 2 * 0 + _ ≤ _; exact Nat.le_of_eq rfl) (hb hby at_138) (fun _ _ => ⟨rfl, e0, hcl, hsl⟩)
  dsimp only [Pt.U, Pt.locs, Pt.cells, Pt.slots] at X1 l1 y1 z1 st1 hQ1
  subst l1 y1 z1
  obtain ⟨rfl, M1, e1⟩ := hQ1
  have N1 := Fr.app N0 M1
  obtain ⟨_, _, ⟨T2, L2, k2, n2⟩, -, X2, ⟨Lc2, hQ2, l2, y2, z2⟩, st2⟩ := Jvm.LawKit.callS X1 hx (y := site_115) hown (mvT hZ (hw _ (List.mem_of_getElem? (i := 16) rfl))) (mvT hZ (hw _ (List.mem_of_getElem? (i := 17) rfl))) (mvT hZ (hw _ (List.mem_of_getElem? (i := 18) rfl))) (mvT hZ (hw _ (List.mem_of_getElem? (i := 19) rfl))) (by decide) (backOf (W := 1) (rm2 l Z a0 hw [] (z) h0 n0 Z0) hZ (hw _ (List.mem_of_getElem? (i := 19) rfl)) (hw _ (List.mem_of_getElem? (i := 18) rfl)) (by decide) (by decide)) (g := (mkF m 143 #[.val (.int p0), .val (.int p1), .val (.int p2), .val (.ref a1), .val (.int z), .val (.int (1 : Int32)), .unset] [(.int z), (.int (own_f1_0 (z).toInt))])) rfl (by rw [hml]; rfl) (argsL := [(.int (z))]) (rest := [(.int (own_f1_0 (z).toInt))]) (lenOf own_pdI rfl) rfl (by show 2 * 0 + _ ≤ _; exact Nat.le_of_eq rfl) (hb hby at_143) (fun _ _ => ⟨rfl, e1, hcl, hsl⟩)
  dsimp only [Pt.U, Pt.locs, Pt.cells, Pt.slots] at X2 l2 y2 z2 st2 hQ2
  subst l2 y2 z2
  obtain ⟨rfl, M2, e2⟩ := hQ2
  have N2 := Fr.app N1 M2
  refine ⟨T2, _, _, X2, e2, Z0, N2, fun target kt => ?_⟩
  show Steps p.tables e below (T0.setTop (mkF m 134 #[.val (.int p0), .val (.int p1), .val (.int p2), .val (.ref a1), .val (.int z), .unset, .unset] [(.int (1 : Int32))])) _
  refine XS.istore X0.here hx rfl (hb hby at_134) rfl (l' := #[.val (.int p0), .val (.int p1), .val (.int p2), .val (.ref a1), .val (.int z), .val (.int (1 : Int32)), .unset]) rfl ?_
  show Steps p.tables e below (T0.setTop (mkF m 136 #[.val (.int p0), .val (.int p1), .val (.int p2), .val (.ref a1), .val (.int z), .val (.int (1 : Int32)), .unset] [])) _
  refine XS.iload X0.here hx rfl (hb hby at_136) rfl ?_
  show Steps p.tables e below (T0.setTop (mkF m 138 #[.val (.int p0), .val (.int p1), .val (.int p2), .val (.ref a1), .val (.int z), .val (.int (1 : Int32)), .unset] [(.int z)])) _
  refine st1 _ ?_
  show Steps p.tables e below (T1.setTop (mkF m 141 #[.val (.int p0), .val (.int p1), .val (.int p2), .val (.ref a1), .val (.int z), .val (.int (1 : Int32)), .unset] [(.int (own_f1_0 (z).toInt))])) _
  refine XS.iload X1.here hx rfl (hb hby at_141) rfl ?_
  show Steps p.tables e below (T1.setTop (mkF m 143 #[.val (.int p0), .val (.int p1), .val (.int p2), .val (.ref a1), .val (.int z), .val (.int (1 : Int32)), .unset] [(.int z), (.int (own_f1_0 (z).toInt))])) _
  refine st2 _ ?_
  exact kt
set_option maxRecDepth 65536 in
set_option maxHeartbeats 40000000 in
theorem own_s0_out {p : Program} {l : Launch} {e : Env} {s : State} {m : MethodId} {args : Array Value} {below : List Frame} {meth : Method} {c : Code} {T0 : State} {locs : List Loc} {cells slots : Nat} {Z : State} {a0 : Array Value} {h0 : Heap} {n0 : Nat} (p0 p1 p2 : Int32) (a1 : Addr) (z : Int32)
    (X0 : Stand p l e room_1 s m args below meth c T0 locs cells slots) (hx : p.tables.exec = Jvm.exec) (hZ : Z.Warmed39 s.vm) (hw : ∀ d ∈ tables_1, d.before a0 Z = true) (hby : c.code = code) (hml : c.maxLocals = 7) (hown : s.vm.findClass x.cls = some m.cls) (e0 : T0.heap = h0) (Z0 : n0 ≤ h0.size) (N0 : Fr n0 locs) (hcl : cells ≤ room_1.cells) (hsl : slots ≤ room_1.slots) :
    ∃ (T' : State) (h' : Heap) (locs' : List Loc), Stand p l e room_1 s m args below meth c T' locs' cells slots ∧ T'.heap = h' ∧ n0 ≤ h'.size ∧ Fr n0 locs' ∧
      ∀ target, Steps p.tables e below (T'.setTop (mkF m 179 #[.val (.int p0), .val (.int p1), .val (.int p2), .val (.ref a1), .val (.int z), .val (.int (1 : Int32)), .val (.int (1 : Int32))] [(.int (1 : Int32))])) target → Steps p.tables e below (T0.setTop (mkF m 162 #[.val (.int p0), .val (.int p1), .val (.int p2), .val (.ref a1), .val (.int z), .val (.int (1 : Int32)), .unset] [(.int (1 : Int32))])) target := by
  refine ⟨T0, _, _, X0, e0, Z0, N0, fun target kt => ?_⟩
  show Steps p.tables e below (T0.setTop (mkF m 162 #[.val (.int p0), .val (.int p1), .val (.int p2), .val (.ref a1), .val (.int z), .val (.int (1 : Int32)), .unset] [(.int (1 : Int32))])) _
  refine XS.istore X0.here hx rfl (hb hby at_162) rfl (l' := #[.val (.int p0), .val (.int p1), .val (.int p2), .val (.ref a1), .val (.int z), .val (.int (1 : Int32)), .val (.int (1 : Int32))]) rfl ?_
  show Steps p.tables e below (T0.setTop (mkF m 164 #[.val (.int p0), .val (.int p1), .val (.int p2), .val (.ref a1), .val (.int z), .val (.int (1 : Int32)), .val (.int (1 : Int32))] [])) _
  refine XS.iload X0.here hx rfl (hb hby at_164) rfl ?_
  show Steps p.tables e below (T0.setTop (mkF m 166 #[.val (.int p0), .val (.int p1), .val (.int p2), .val (.ref a1), .val (.int z), .val (.int (1 : Int32)), .val (.int (1 : Int32))] [(.int (1 : Int32))])) _
  refine XS.ifNo X0.here hx rfl (hb hby at_166) rfl ((if0 _ _).trans (feq own_n10).1) ?_
  show Steps p.tables e below (T0.setTop (mkF m 169 #[.val (.int p0), .val (.int p1), .val (.int p2), .val (.ref a1), .val (.int z), .val (.int (1 : Int32)), .val (.int (1 : Int32))] [])) _
  refine XS.iload X0.here hx rfl (hb hby at_169) rfl ?_
  show Steps p.tables e below (T0.setTop (mkF m 171 #[.val (.int p0), .val (.int p1), .val (.int p2), .val (.ref a1), .val (.int z), .val (.int (1 : Int32)), .val (.int (1 : Int32))] [(.int (1 : Int32))])) _
  refine XS.ifNo X0.here hx rfl (hb hby at_171) rfl ((if0 _ _).trans (feq own_n10).1) ?_
  show Steps p.tables e below (T0.setTop (mkF m 174 #[.val (.int p0), .val (.int p1), .val (.int p2), .val (.ref a1), .val (.int z), .val (.int (1 : Int32)), .val (.int (1 : Int32))] [])) _
  refine XT.iconstV X0.here hx rfl (1 : Int32) (hb hby at_174) (by decide) ?_
  show Steps p.tables e below (T0.setTop (mkF m 175 #[.val (.int p0), .val (.int p1), .val (.int p2), .val (.ref a1), .val (.int z), .val (.int (1 : Int32)), .val (.int (1 : Int32))] [(.int (1 : Int32))])) _
  refine XS.goto X0.here hx rfl (pc0 := 175) (pc' := 179) rfl (hb hby at_175) (by decide) (by decide) ?_
  exact kt
theorem pn_0 : plainName x.cls = true := by first | (simp [plainName, overriddenIn]; done) | decide +kernel
theorem ef_0 (m : MethodId) (p0 : Int32) (p1 : Int32) (p2 : Int32) : entryFrame m #[(.int p0), (.int p1), (.int p2)] maxLocals = mkF m 0 #[.val (.int p0), .val (.int p1), .val (.int p2), .unset, .unset, .unset, .unset] [] := by first | (simp [entryFrame, mkF, argsToLocals, Value.category, maxLocals]; done) | rfl
def Q0 (n0 : Nat) (v : Option Value) (h : Heap) (L : List Loc) : Prop := v = some (.int (1 : Int32)) ∧ Fr n0 L
set_option maxRecDepth 65536 in
set_option maxHeartbeats 40000000 in
theorem rm0 (l : Launch) (Z : State) (a0 : Array Value) (hw : ∀ d ∈ tables_1, d.before a0 Z = true) (ws : List Jvm.Cond) (p0 : Int32) (p1 : Int32) (p2 : Int32) (h0 : Heap) (n0 : Nat) (Z0 : n0 ≤ h0.size) :
    MetFree l x (head1 (Jvm.Cond.code x code maxLocals ret :: ws) room_1) (fun a U => a = #[(.int p0), (.int p1), (.int p2)] ∧ Z.Warmed39 U.vm ∧ U.heap = h0) (fun _ _ _ _ _ => True) (fun _ U o U' => ∃ v L, o = .returned v ∧ Q0 n0 v U'.heap L ∧ FrameEnd U o U' L room_1.cells room_1.slots) := by
  refine MetFree.of_bodySF (plainFor_of_name pn_0) hisR ?_
  intro p e s m args below meth c s₁ Bd hml0 hP hK
  obtain ⟨rfl, hZ, hh⟩ := hP
  have hx := Bd.exec
  have hby := Bd.bytes
  have hml : c.maxLocals = 7 := hml0
  have hown : s.vm.findClass x.cls = some m.cls := (findClass_of_methodNamed Bd.named :)
  have X0 : Stand p l e room_1 s m #[(.int p0), (.int p1), (.int p2)] below meth c s₁ [] 0 0 := Stand.of_body Bd
  have e0 : s₁.heap = h0 := by rw [← hh, Bd.state]; rfl
  have N0 := Fr.nil n0
  have pre0 : ∀ t, Steps p.tables e below (s₁.setTop (mkF m 0 #[.val (.int p0), .val (.int p1), .val (.int p2), .unset, .unset, .unset, .unset] [])) t → Steps p.tables e below (s₁.setTop (entryFrame m #[(.int p0), (.int p1), (.int p2)] maxLocals)) t := fun t k => castTop (ef_0 m p0 p1 p2) k
  obtain ⟨T1, h1, L1, a1, cl, X1, e1, Z1, N1, I1, st1⟩ := own_s0_mk p0 p1 p2 X0 hx hZ hw hby hml hown e0 Z0 N0
  obtain ⟨T2, h2, L2, w, X2, e2, Z2, N2, st2⟩ := own_s0_rd p0 p1 p2 a1 cl X1 hx hZ hw hby hml hown e1 Z1 N1 (by decide) (by decide) I1
  obtain ⟨T3, h3, L3, X3, e3, Z3, N3, st3⟩ := own_s0_cx p0 p1 p2 a1 (w + ((p2 &&& (15 : Int32)) - (8 : Int32))) X2 hx hZ hw hby hml hown e2 Z2 N2 (by decide) (by decide)
  have st4 := own_j0_x (.val (.int p0)) (.val (.int p1)) (.val (.int p2)) (.val (.ref a1)) (.val (.int (w + ((p2 &&& (15 : Int32)) - (8 : Int32))))) .unset .unset _ _ X3 hx hby (own_opp p0.toInt)
  obtain ⟨T5, h5, L5, X5, e5, Z5, N5, st5⟩ := own_s0_cy p0 p1 p2 a1 (w + ((p2 &&& (15 : Int32)) - (8 : Int32))) X3 hx hZ hw hby hml hown e3 Z3 N3 (by decide) (by decide)
  have st6 := own_j0_y (.val (.int p0)) (.val (.int p1)) (.val (.int p2)) (.val (.ref a1)) (.val (.int (w + ((p2 &&& (15 : Int32)) - (8 : Int32))))) (.val (.int (1 : Int32))) .unset _ _ X5 hx hby (own_opp (w + ((p2 &&& (15 : Int32)) - (8 : Int32))).toInt)
  obtain ⟨T7, h7, L7, X7, e7, Z7, N7, st7⟩ := own_s0_out p0 p1 p2 a1 (w + ((p2 &&& (15 : Int32)) - (8 : Int32))) X5 hx hZ hw hby hml hown e5 Z5 N5 (by decide) (by decide)
  obtain ⟨fs, hr, hrun, hended, hW, hsame⟩ := X7.leave (v := some (.int (1 : Int32))) (fun h => by rw [Bd.returns] at h; cases h)
  refine ⟨_, _, pre0 _ ?_, hrun, hended, _, _, rfl, ?_, ⟨_, rfl⟩, hW, hsame.mono (by decide) (by decide)⟩
  · refine st1 _ ?_
    refine st2 _ ?_
    refine st3 _ ?_
    refine st4 _ ?_
    refine st5 _ ?_
    refine st6 _ ?_
    refine st7 _ ?_
    exact retN X7 hx (t := .boolean) Bd.returns (by simp) (hb hby at_179) hr
  · exact ⟨rfl, N7⟩
set_option maxRecDepth 65536 in
set_option maxHeartbeats 40000000 in
theorem comes_1 {Post : Tables → Env → Array Value → State → Outcome → State → Prop} (hpost : ∀ tb e args s v u, (limb_1_1.after args s (.returned v) u = true ∧ limb_1_2.after args s (.returned v) u = true ∧ True) → FrameEnd s (.returned v) u (Jvm.fieldLocs frame_1_writes args s ++ Jvm.arrayLocs frame_1_arrays args s ++ Jvm.staticLocs frame_1_statics s) 16 128 → Post tb e args s (.returned v) u) :
    ArmFor flags0 classFile x code maxLocals ret World_1 tables_1 room_1 Calls_1 rest_1 Pre_1 Post := by
  intro l hfl _ _ p e ha hc hk s m args below hf hA hF happ hP
  obtain ⟨hcalls, hrest, hpre⟩ := hP
  obtain ⟨-, -, -, hnamed, -, -, -, hat⟩ := (Spec.applies_iff hf).mp happ
  obtain ⟨hg, hn⟩ := and_e (Cond.before_iff.mp (show (Jvm.Cond.and given_1 narrow_1).before args s = true from hpre))
  obtain ⟨gc, r0⟩ := and_e hg
  obtain ⟨g0, r1⟩ := and_e r0
  obtain ⟨g1, r2⟩ := and_e r1
  obtain ⟨w0, w1, w2, rfl⟩ : ∃ w0 w1 w2 : Value, args = #[w0, w1, w2] := by
    have hs : args.size = 3 := by simpa [Cond.value, given_1] using gc
    obtain ⟨L⟩ := args
    match L, hs with
    | [w0, w1, w2], _ => exact ⟨w0, w1, w2, rfl⟩
  have hw := fun d (hd : d ∈ tables_1) => atoms_spec (ws := Jvm.Cond.code x code maxLocals ret :: tables_1) hat d (List.mem_cons_of_mem _ hd)
  obtain ⟨i0, ei0⟩ := is_v g0
  obtain rfl : w0 = (.int i0) := Option.some.inj ei0
  obtain ⟨i1, ei1⟩ := is_v g1
  obtain rfl : w1 = (.int i1) := Option.some.inj ei1
  obtain ⟨i2, ei2⟩ := is_v r2
  obtain rfl : w2 = (.int i2) := Option.some.inj ei2
  obtain ⟨n, o, h1, h2, h3, _, L, rfl, ⟨rfl, N⟩, hq⟩ := rm0 l s _ hw tables_1 i0 i1 i2 s.heap s.heap.size (Nat.le_refl _) p e ha hc hk s m _ below hf ((Spec.applies_iff_loose hf).mp happ).1 ⟨rfl, State.Warmed39.refl s, rfl⟩ trivial
  refine ⟨n, _, h1, h2, h3, hpost _ _ _ _ _ _ ⟨Cond.after_iff.mpr rfl, Cond.after_iff.mpr (eq_i res_at (Term.int_eval (1)) rfl), trivial⟩ ⟨hq.1, hq.2.1, (hq.2.2.sift fun y hy => Or.inr (N y hy)).mono (by decide) (by decide)⟩⟩
theorem main_1_1 : Claimed_1_1 := comes_1 fun _ _ _ _ _ _ h hF => ⟨h.1, hF⟩
theorem main_1_2 : Claimed_1_2 := comes_1 fun _ _ _ _ _ _ h hF => ⟨h.2.1, hF⟩
end Jvm.Pilot.@@N@@
namespace Jvm.Pilot.@@N@@
open Jvm Jvm.ClassFile Sem Op Lib Jvm.Free Jvm.Stand Jvm.Pilot.@@N@@.Jvm.D
/-! MADE BY PROGRAM (witnessworld.py) out of the Statement's table words and the real class files: 9 classes; the members and pool entries that the words name. The judged class is class 1, her method 2. -/
namespace start1
open Jvm.ClassFile
def u (s : String) : CpInfo := .utf8 (stringToUtf16 s)
/-- a pool by its gaps: so many unusable entries, then the entry; so many at the end -/
def gap : Nat → List CpInfo → List CpInfo
  | 0, r => r
  | n + 1, r => .unusable :: gap n r
def poolList (es : List (Nat × CpInfo)) (last : Nat) : List CpInfo := es.foldr (fun e r => gap e.1 (e.2 :: r)) (gap last [])
def pool (es : List (Nat × CpInfo)) (last : Nat) : Array CpInfo := ⟨poolList es last⟩
def fileOf (pool : Array CpInfo) (this : Nat) (attrs : Array Attribute := #[]) (ms : Array MethodInfo := #[]) (fl : Nat := 33) (sup : Nat := 0) (ifs : Array Nat := #[]) (fds : Array FieldInfo := #[]) : ClassFile where
  minorVersion := 0
  majorVersion := 65
  constantPool := pool
  accessFlags := fl
  thisClass := this
  superClass := sup
  interfaces := ifs
  fields := fds
  methods := ms
  attributes := attrs
def plain (name : String) (sup : Option ClassId) : Class where
  name := name
  kind := .ordinary
  loader := none
  accessFlags := 33
  super := sup
  interfaces := #[]
  cf := none
  fields := #[]
  methods := #[]
  instanceTypes := #[]
  staticTypes := #[]
  resolved := #[]
  callSites := []
  init := .initialized
  statics := none
  mirror := none

def pool0 : Array CpInfo := pool [(5, u "<init>"), (0, u "()V"), (1, .class_ 10), (1, u "java/lang/Object")] 113

def k0m0 : Method := { name := "<init>", desc := "()V", sig := { parameters := [], returnType := none }, accessFlags := 1, code := none }
/-- java/lang/Object -/
def k0 : Class := { plain "java/lang/Object" none with
  accessFlags := 33
  interfaces := #[]
  cf := some (fileOf pool0 8 #[] #[{ accessFlags := 1, nameIndex := 5, descriptorIndex := 6, attributes := #[] }] 33 0 #[] #[])
  fields := #[]
  methods := #[k0m0]
  instanceTypes := #[]
  staticTypes := #[]
  resolved := Array.replicate 124 none
  statics := none }

def pool1 : Array CpInfo := pool [(2, .class_ 4), (1, u "java/lang/Object"), (0, u "<init>"), (0, u "()V"), (0, .integer 55296), (0, .integer 57343), (0, .integer 65534), (0, .integer 65535), (0, .integer 1114111), (0, .integer 55295), (0, .integer 57344), (0, .integer 65533), (0, .integer 65536), (2, .integer 2147483648), (0, .integer 2147483647), (0, .methodref 21 22), (0, .class_ 23), (0, .nameAndType 24 25), (0, u site_111.cls), (0, u "isXmlCharacter"), (0, u "(I)Z"), (0, .methodref 27 28), (0, .class_ 29), (0, .nameAndType 30 25), (0, u x.cls), (0, u "forbidden"), (3, u "law"), (0, u "(III)Z")] 4

def k1m0 : Method := { name := "<init>", desc := "()V", sig := { parameters := [], returnType := none }, accessFlags := 2, code := none }
def k1c1 : Code := { maxStack := 2, maxLocals := 1, code := method_2_code, exceptionTable := #[], attributes := #[] }
def k1m1 : Method := { name := "forbidden", desc := "(I)Z", sig := { parameters := [.int], returnType := some .boolean }, accessFlags := 10, code := some k1c1 }
def k1c2 : Code := { maxStack := 4, maxLocals := 7, code := code, exceptionTable := #[], attributes := #[] }
def k1m2 : Method := { name := "law", desc := "(III)Z", sig := { parameters := [.int, .int, .int], returnType := some .boolean }, accessFlags := 9, code := some k1c2 }
def k1 : Class := { plain x.cls (some 0) with
  accessFlags := 49
  interfaces := #[]
  cf := some (fileOf pool1 27 #[] #[{ accessFlags := 2, nameIndex := 5, descriptorIndex := 6, attributes := #[] }, { accessFlags := 10, nameIndex := 30, descriptorIndex := 25, attributes := #[] }, { accessFlags := 9, nameIndex := 34, descriptorIndex := 35, attributes := #[] }] 49 2 #[] #[])
  fields := #[]
  methods := #[k1m0, k1m1, k1m2]
  instanceTypes := #[]
  staticTypes := #[]
  resolved := Array.replicate 40 none
  statics := none }

def pool2 : Array CpInfo := pool [(2, .class_ 4), (1, u "java/lang/Object"), (0, u "<init>"), (0, u "()V"), (31, .class_ 40), (1, u site_111.cls), (39, u "isXmlCharacter"), (0, u "(I)Z"), (16, u "PREDEFINED_ENTITIES"), (0, u "Ljava/util/Map;"), (6, .integer 55295), (0, .integer 57344), (0, .integer 65533), (0, .integer 65536), (0, .integer 1114111)] 49

def k2m0 : Method := { name := "<init>", desc := "()V", sig := { parameters := [], returnType := none }, accessFlags := 2, code := none }
def k2c1 : Code := { maxStack := 2, maxLocals := 1, code := prog_216_method_5_code, exceptionTable := #[], attributes := #[] }
def k2m1 : Method := { name := "isXmlCharacter", desc := "(I)Z", sig := { parameters := [.int], returnType := some .boolean }, accessFlags := 8, code := some k2c1 }
def k2 : Class := { plain site_111.cls (some 0) with
  accessFlags := 32
  interfaces := #[]
  cf := some (fileOf pool2 38 #[] #[{ accessFlags := 2, nameIndex := 5, descriptorIndex := 6, attributes := #[] }, { accessFlags := 8, nameIndex := 80, descriptorIndex := 81, attributes := #[] }] 32 2 #[] #[{ accessFlags := 26, nameIndex := 98, descriptorIndex := 99, attributes := #[] }])
  fields := #[{ name := "PREDEFINED_ENTITIES", type := (.object "java/util/Map"), accessFlags := 26, slot := 0, constantValue := 0 }]
  methods := #[k2m0, k2m1]
  instanceTypes := #[]
  staticTypes := #[(.object "java/util/Map")]
  resolved := Array.replicate 160 none
  statics := none }

def pool3 : Array CpInfo := pool [(1, u "java/lang/Cloneable"), (0, .class_ 1), (0, u "java/lang/Object"), (0, .class_ 3)] 3

/-- java/lang/Cloneable -/
def k3 : Class := { plain "java/lang/Cloneable" (some 0) with
  accessFlags := 1537
  interfaces := #[]
  cf := some (fileOf pool3 2 #[] #[] 1537 4 #[] #[])
  fields := #[]
  methods := #[]
  instanceTypes := #[]
  staticTypes := #[]
  resolved := Array.replicate 8 none
  statics := none }

def pool4 : Array CpInfo := pool [(1, u "java/io/Serializable"), (0, .class_ 1), (0, u "java/lang/Object"), (0, .class_ 3)] 3

/-- java/io/Serializable -/
def k4 : Class := { plain "java/io/Serializable" (some 0) with
  accessFlags := 1537
  interfaces := #[]
  cf := some (fileOf pool4 2 #[] #[] 1537 4 #[] #[])
  fields := #[]
  methods := #[]
  instanceTypes := #[]
  staticTypes := #[]
  resolved := Array.replicate 8 none
  statics := none }

/-- the primitive byte -/
def k5 : Class := { plain "byte" none with kind := .primitive 'B', accessFlags := 0x411 }
/-- [B -/
def k6 : Class := { plain "[B" (some 0) with kind := .array 5 .byte, interfaces := #[3, 4], accessFlags := 1041 }

/-- the primitive int -/
def k7 : Class := { plain "int" none with kind := .primitive 'I', accessFlags := 0x411 }
/-- [I -/
def k8 : Class := { plain "[I" (some 0) with kind := .array 7 .int, interfaces := #[3, 4], accessFlags := 1041 }

def heap : Heap := #[]
def classes : Array Class := #[k0, k1, k2, k3, k4, k5, k6, k7, k8]
def interned : List (Array UInt16 × Addr) := []
def slotsUsed : Nat := 0
def theMethod : MethodId := ⟨1, 2⟩
def args0 : Array Value := #[.int 65, .int 3, .int 1]
def aboutOver (below : List Frame) : State where
  vm := { classes := classes, interned := interned.toArray }
  heap := heap
  slotsUsed := slotsUsed
  threads := #[{ frames := .invoking theMethod args0 :: below }]
def below0 : List Frame := [.native { method := ⟨0, 0⟩, args := #[] }]
def about1 : State := aboutOver below0
def p0 : Program := .bare "" "" ""
def e0 : Env := launch0.env 0 0 0
theorem w_frames : about1.frames = Frame.invoking theMethod args0 :: below0 := rfl
set_option maxRecDepth 65536 in
theorem w_args : argsFit about1.vm theMethod args0 = true := by decide +kernel
set_option maxRecDepth 65536 in
theorem w_heap : heapFits about1 = true := by decide +kernel
set_option maxRecDepth 65536 in
theorem w_runnable : about1.curStatus? = some .runnable := by decide +kernel
set_option maxRecDepth 65536 in
theorem w_alone : about1.alone = true := by decide +kernel
set_option maxRecDepth 65536 in
theorem w_named : about1.methodNamed? x = some theMethod := by decide +kernel
set_option maxRecDepth 65536 in
theorem w_hears : about1.hears theMethod below0 = true := by decide +kernel
set_option maxRecDepth 65536 in
theorem w_ripe : about1.ripe theMethod args0 below0 = true := by decide +kernel
theorem w_running : about1.status = .running := rfl
set_option maxRecDepth 65536 in
theorem w_room : about1.hasRoom e0.platform room_1 = true :=
  launch0.hasRoom_least _ room_1 (by decide +kernel) (by decide +kernel) (by decide +kernel) (by decide +kernel) (by decide +kernel) (by decide +kernel)
theorem allAtoms_all (ts : List Jvm.Cond) (a : Array Jvm.Value) (st : Jvm.State) : (allAtoms ts).before a st = ts.all (fun c => c.before a st) := by
  induction ts with
  | nil => rfl
  | cons c t ih =>
    show (Jvm.Cond.and c (allAtoms t)).before a st = _
    rw [Jvm.Cond.before_and, ih, List.all_cons]
def words1 : List Jvm.Cond := Jvm.Cond.code x code maxLocals ret :: tables_1
/-- a 'code' word, met by the world's own term for the bytes: nothing is compared byte by byte -/
theorem code_word {y : MethodName} {bytes : ByteArray} {mx : Nat} {rt : Option FieldType} {a : Array Value} {s : State} {m : MethodId} {meth : Method} {c : Code} (h1 : s.methodNamed? y = some m) (h2 : s.vm.method? m = some meth) (h3 : meth.code = some c) (h4 : c.code = bytes)
    (h5 : (c.maxLocals == mx && c.exceptionTable.isEmpty && decide (c.maxStack ≤ mostOperands) && decide (meth.sig.returnType = rt) && !meth.locks && decide (parseMethodDescriptor y.desc = some meth.sig)) = true) : (Jvm.Cond.code y bytes mx rt).before a s = true := by
  simp only [Bool.and_eq_true, beq_iff_eq, Bool.not_eq_true', decide_eq_true_eq] at h5
  obtain ⟨⟨⟨⟨⟨g1, g2⟩, g3⟩, g4⟩, g5⟩, g6⟩ := h5
  simp [Cond.before, Cond.holds, Cond.value, h1, h2, h3, h4, g1, g2, g3, g4, g5, g6]
def isCode : Jvm.Cond → Bool
  | .code _ _ _ _ => true
  | _ => false
theorem all_split {L : List Jvm.Cond} {P : Jvm.Cond → Bool} (h1 : L.all (fun c => isCode c || P c) = true) (h2 : ∀ c ∈ L.filter isCode, P c = true) : L.all P = true := by
  refine List.all_eq_true.mpr fun c hc => ?_
  have h := List.all_eq_true.mp h1 c hc
  rcases Bool.eq_false_or_eq_true (isCode c) with hi | hi
  · exact h2 c (List.mem_filter.mpr ⟨hc, hi⟩)
  · simpa [hi] using h
set_option maxRecDepth 65536 in
theorem w_c0 : (Jvm.Cond.code x code maxLocals ret).before args0 about1 = true := code_word (m := ⟨1, 2⟩) (meth := k1m2) (c := k1c2) (by decide +kernel) rfl rfl rfl (by decide +kernel)
set_option maxRecDepth 65536 in
theorem w_c1 : (Jvm.Cond.code ({ cls := site_111.cls, name := "isXmlCharacter", desc := "(I)Z" } : Jvm.MethodName) prog_216_method_5_code (1 : Nat) (Option.some Jvm.ClassFile.FieldType.boolean)).before args0 about1 = true := code_word (m := ⟨2, 1⟩) (meth := k2m1) (c := k2c1) (by decide +kernel) rfl rfl rfl (by decide +kernel)
set_option maxRecDepth 65536 in
theorem w_c2 : (Jvm.Cond.code ({ cls := x.cls, name := "forbidden", desc := "(I)Z" } : Jvm.MethodName) method_2_code (1 : Nat) (Option.some Jvm.ClassFile.FieldType.boolean)).before args0 about1 = true := code_word (m := ⟨1, 1⟩) (meth := k1m1) (c := k1c1) (by decide +kernel) rfl rfl rfl (by decide +kernel)
def codes1 : List Jvm.Cond := [Jvm.Cond.code x code maxLocals ret, Jvm.Cond.code ({ cls := site_111.cls, name := "isXmlCharacter", desc := "(I)Z" } : Jvm.MethodName) prog_216_method_5_code (1 : Nat) (Option.some Jvm.ClassFile.FieldType.boolean), Jvm.Cond.code ({ cls := x.cls, name := "forbidden", desc := "(I)Z" } : Jvm.MethodName) method_2_code (1 : Nat) (Option.some Jvm.ClassFile.FieldType.boolean)]
set_option maxRecDepth 65536 in
theorem codes_eq : words1.filter isCode = codes1 := rfl
theorem w_codes : ∀ c ∈ words1.filter isCode, c.before args0 about1 = true := by
  rw [codes_eq]
  intro c hc
  simp only [codes1, List.mem_cons, List.not_mem_nil, or_false] at hc
  rcases hc with rfl | rfl | rfl
  · exact w_c0
  · exact w_c1
  · exact w_c2
set_option maxRecDepth 65536 in
theorem w_t1 : (words1.take 24).all (fun c => isCode c || c.before args0 about1) = true := by decide +kernel
set_option maxRecDepth 65536 in
theorem w_t2 : (words1.drop 24).all (fun c => isCode c || c.before args0 about1) = true := by decide +kernel
theorem w_tables : (allAtoms (Jvm.Cond.code x code maxLocals ret :: tables_1)).before args0 about1 = true := by
  rw [allAtoms_all]
  show words1.all (fun c => c.before args0 about1) = true
  refine all_split ?_ w_codes
  rw [← List.take_append_drop 24 words1, List.all_append, w_t1, w_t2]
  rfl
set_option maxRecDepth 65536 in
theorem w_case : (Jvm.Cond.and given_1 narrow_1).before args0 about1 = true := by decide +kernel
theorem w_applies : (headSpec (Jvm.Cond.code x code maxLocals ret :: tables_1) room_1).applies x e0.platform about1 = true :=
  (Spec.applies_iff w_frames).mpr ⟨w_running, w_runnable, w_alone, w_named, w_hears, w_ripe, w_room, w_tables⟩
theorem atStart : AtStart classFile x code maxLocals ret World_1 tables_1 room_1 Calls_1 rest_1 Pre_1 launch0 p0 e0 about1 theMethod args0 below0 :=
  ⟨lists_1, trivial, launch0.admits_env _ _ _, launch0.least_env, fairChoices_fair.cas, fairChoices_fair.clock, w_frames, w_args, w_heap, w_applies, trivial, trivial, w_case⟩
end start1
theorem witness_1 : WitnessClaimed_1 := ⟨start1.p0, start1.e0, start1.about1, start1.theMethod, start1.args0, start1.below0, start1.atStart⟩
end Jvm.Pilot.@@N@@
