import JvmDerived
import JvmDerived.Pilot.@@N@@Statement
import JvmDerived.Pilot.@@N@@Code
set_option linter.unusedVariables false
set_option linter.unusedSimpArgs false
namespace Jvm.Pilot.@@N@@
open Jvm Jvm.ClassFile Sem Op Lib Jvm.Free Jvm.Stand Jvm.LawKit Jvm.RoadKit Bundle Jvm.Pilot.@@N@@.Jvm.D
theorem own_lt32 {c k : Int32} {n : Int} (hk : k.toInt = n) : c < k ↔ c.toInt < n := by rw [Int32.lt_iff_toInt_lt, hk]
theorem own_gt32 {c k : Int32} {n : Int} (hk : k.toInt = n) : k < c ↔ n < c.toInt := by rw [Int32.lt_iff_toInt_lt, hk]
theorem own_eq32 {c k : Int32} {n : Int} (hk : k.toInt = n) : c = k ↔ c.toInt = n := by rw [← hk, Int32.toInt_inj]
theorem d1_0 : decode prog_5_method_2_code 0 = .ok (.iload_n 0, 1) := by decide +kernel
theorem d1_1 : decode prog_5_method_2_code 1 = .ok (.bipush 32, 2) := by decide +kernel
theorem d1_3 : decode prog_5_method_2_code 3 = .ok (.if_icmp .eq 21, 3) := by decide +kernel
theorem d1_6 : decode prog_5_method_2_code 6 = .ok (.iload_n 0, 1) := by decide +kernel
theorem d1_7 : decode prog_5_method_2_code 7 = .ok (.bipush 9, 2) := by decide +kernel
theorem d1_9 : decode prog_5_method_2_code 9 = .ok (.if_icmp .eq 15, 3) := by decide +kernel
theorem d1_12 : decode prog_5_method_2_code 12 = .ok (.iload_n 0, 1) := by decide +kernel
theorem d1_13 : decode prog_5_method_2_code 13 = .ok (.bipush 10, 2) := by decide +kernel
theorem d1_15 : decode prog_5_method_2_code 15 = .ok (.if_icmp .eq 9, 3) := by decide +kernel
theorem d1_18 : decode prog_5_method_2_code 18 = .ok (.iload_n 0, 1) := by decide +kernel
theorem d1_19 : decode prog_5_method_2_code 19 = .ok (.bipush 13, 2) := by decide +kernel
theorem d1_21 : decode prog_5_method_2_code 21 = .ok (.if_icmp .ne 7, 3) := by decide +kernel
theorem d1_24 : decode prog_5_method_2_code 24 = .ok (.iconst 1, 1) := by decide +kernel
theorem d1_25 : decode prog_5_method_2_code 25 = .ok (.goto 4, 3) := by decide +kernel
theorem d1_28 : decode prog_5_method_2_code 28 = .ok (.iconst 0, 1) := by decide +kernel
theorem d1_29 : decode prog_5_method_2_code 29 = .ok (.ireturn, 1) := by decide +kernel
def own_f1_28 (z : Int) : Int32 := 0
def own_f1_24 (z : Int) : Int32 := 1
def own_f1_18 (z : Int) : Int32 := if z = 13 then own_f1_24 z else own_f1_28 z
def own_f1_12 (z : Int) : Int32 := if z = 10 then own_f1_24 z else own_f1_18 z
def own_f1_6 (z : Int) : Int32 := if z = 9 then own_f1_24 z else own_f1_12 z
def own_f1_0 (z : Int) : Int32 := if z = 32 then own_f1_24 z else own_f1_6 z
theorem own_o1_24 (z : Int) : (own_f1_24 z = 1 ∧ True) ∨ (own_f1_24 z = 0 ∧ ¬ True) := Or.inl ⟨rfl, trivial⟩
theorem own_m1_0 (z : Int) : own_f1_0 z = if (¬ z = 32 ∧ ¬ z = 9 ∧ ¬ z = 10 ∧ ¬ z = 13) then 0 else own_f1_24 z := by
  by_cases h : (¬ z = 32 ∧ ¬ z = 9 ∧ ¬ z = 10 ∧ ¬ z = 13)
  · obtain ⟨h0, h1, h2, h3⟩ := id h
    rw [if_pos h, own_f1_0, if_neg h0, own_f1_6, if_neg h1, own_f1_12, if_neg h2, own_f1_18, if_neg h3]; rfl
  · rw [if_neg h]
    by_cases h0 : z = 32
    · rw [own_f1_0, if_pos h0]
    · by_cases h1 : z = 9
      · rw [own_f1_0, if_neg h0, own_f1_6, if_pos h1]
      · by_cases h2 : z = 10
        · rw [own_f1_0, if_neg h0, own_f1_6, if_neg h1, own_f1_12, if_pos h2]
        · rw [own_f1_0, if_neg h0, own_f1_6, if_neg h1, own_f1_12, if_neg h2, own_f1_18, if_pos (Decidable.not_not.mp (fun q => h ⟨h0, h1, h2, q⟩))]
theorem own_o1_0 (z : Int) : (own_f1_0 z = 1 ∧ (¬ (¬ z = 32 ∧ ¬ z = 9 ∧ ¬ z = 10 ∧ ¬ z = 13))) ∨ (own_f1_0 z = 0 ∧ ¬ (¬ (¬ z = 32 ∧ ¬ z = 9 ∧ ¬ z = 10 ∧ ¬ z = 13))) := by
  rw [own_m1_0]
  by_cases h : (¬ z = 32 ∧ ¬ z = 9 ∧ ¬ z = 10 ∧ ¬ z = 13)
  · rw [if_pos h]; exact Or.inr ⟨rfl, fun q => q h⟩
  · rw [if_neg h]; exact Or.inl ⟨rfl, h⟩
set_option maxRecDepth 65536 in
set_option maxHeartbeats 40000000 in
theorem own_b1_28 {p : Program} {l : Launch} {e : Env} {R : Room} {s : State} {m : MethodId} {args : Array Value} {below : List Frame} {meth : Method} {c : Code} {T : State} {locs : List Loc} {cells slots : Nat} {Z : State} {a0 : Array Value}
    (X : Stand p l e R s m args below meth c T locs cells slots) (hx : p.tables.exec = Jvm.exec) (hZ : Z.Warmed39 s.vm) (hw : ∀ d ∈ tables_1, d.before a0 Z = true) (hby : c.code = prog_5_method_2_code) (hown : s.vm.findClass "com/example/staircase/staircase/Whitespace" = some m.cls) (hret : meth.sig.returnType = some .boolean) (z v : Int32) (hv : own_f1_28 z.toInt = v) {fs : List Frame}
    (hr : ∀ (f : JFrame) (acts : List Action), f.method = m → f.locked = none → f.entered = [] → (doReturn e (T.setTop f) acts (some (.int v))).1 = T.setFrames fs) :
    Steps p.tables e below (T.setTop (mkF m 28 #[.val (.int z)] [])) (T.setFrames fs) := by
  obtain rfl : v = (0 : Int32) := hv.symm
  refine XT.iconstV X.here hx rfl (0 : Int32) (hb hby d1_28) (by decide) ?_
  show Steps p.tables e below (T.setTop (mkF m 29 #[.val (.int z)] [(.int (0 : Int32))])) _
  exact retN X hx (t := .boolean) hret (by simp) (hb hby d1_29) hr
set_option maxRecDepth 65536 in
set_option maxHeartbeats 40000000 in
theorem own_b1_24 {p : Program} {l : Launch} {e : Env} {R : Room} {s : State} {m : MethodId} {args : Array Value} {below : List Frame} {meth : Method} {c : Code} {T : State} {locs : List Loc} {cells slots : Nat} {Z : State} {a0 : Array Value}
    (X : Stand p l e R s m args below meth c T locs cells slots) (hx : p.tables.exec = Jvm.exec) (hZ : Z.Warmed39 s.vm) (hw : ∀ d ∈ tables_1, d.before a0 Z = true) (hby : c.code = prog_5_method_2_code) (hown : s.vm.findClass "com/example/staircase/staircase/Whitespace" = some m.cls) (hret : meth.sig.returnType = some .boolean) (z v : Int32) (hv : own_f1_24 z.toInt = v) {fs : List Frame}
    (hr : ∀ (f : JFrame) (acts : List Action), f.method = m → f.locked = none → f.entered = [] → (doReturn e (T.setTop f) acts (some (.int v))).1 = T.setFrames fs) :
    Steps p.tables e below (T.setTop (mkF m 24 #[.val (.int z)] [])) (T.setFrames fs) := by
  obtain rfl : v = (1 : Int32) := hv.symm
  refine XT.iconstV X.here hx rfl (1 : Int32) (hb hby d1_24) (by decide) ?_
  show Steps p.tables e below (T.setTop (mkF m 25 #[.val (.int z)] [(.int (1 : Int32))])) _
  refine XS.goto X.here hx rfl (pc0 := 25) (pc' := 29) rfl (hb hby d1_25) (by decide) (by decide) ?_
  show Steps p.tables e below (T.setTop (mkF m 29 #[.val (.int z)] [(.int (1 : Int32))])) _
  exact retN X hx (t := .boolean) hret (by simp) (hb hby d1_29) hr
set_option maxRecDepth 65536 in
set_option maxHeartbeats 40000000 in
theorem own_b1_18 {p : Program} {l : Launch} {e : Env} {R : Room} {s : State} {m : MethodId} {args : Array Value} {below : List Frame} {meth : Method} {c : Code} {T : State} {locs : List Loc} {cells slots : Nat} {Z : State} {a0 : Array Value}
    (X : Stand p l e R s m args below meth c T locs cells slots) (hx : p.tables.exec = Jvm.exec) (hZ : Z.Warmed39 s.vm) (hw : ∀ d ∈ tables_1, d.before a0 Z = true) (hby : c.code = prog_5_method_2_code) (hown : s.vm.findClass "com/example/staircase/staircase/Whitespace" = some m.cls) (hret : meth.sig.returnType = some .boolean) (z v : Int32) (hv : own_f1_18 z.toInt = v) {fs : List Frame}
    (hr : ∀ (f : JFrame) (acts : List Action), f.method = m → f.locked = none → f.entered = [] → (doReturn e (T.setTop f) acts (some (.int v))).1 = T.setFrames fs) :
    Steps p.tables e below (T.setTop (mkF m 18 #[.val (.int z)] [])) (T.setFrames fs) := by
  refine XS.iloadN X.here hx rfl (hb hby d1_18) rfl ?_
  show Steps p.tables e below (T.setTop (mkF m 19 #[.val (.int z)] [(.int z)])) _
  refine XT.bipushV X.here hx rfl (13 : Int32) (hb hby d1_19) (by decide) ?_
  show Steps p.tables e below (T.setTop (mkF m 21 #[.val (.int z)] [(.int (13 : Int32)), (.int z)])) _
  by_cases h : z.toInt = 13
  · have h' : z = (13 : Int32) := (own_eq32 (k := (13 : Int32)) (n := 13) (by decide)).mpr h
    refine XS.icmpNo X.here hx rfl (hb hby d1_21) rfl (teq h').2 ?_
    exact own_b1_24 X hx hZ hw hby hown hret z v (by rw [own_f1_18, if_pos h] at hv; exact hv) hr
  · have h' : ¬ z = (13 : Int32) := fun q => h ((own_eq32 (k := (13 : Int32)) (n := 13) (by decide)).mp q)
    refine XS.icmpYes X.here hx rfl (pc0 := 21) (pc' := 28) rfl (hb hby d1_21) rfl (feq h').2 (by decide) (by decide) ?_
    exact own_b1_28 X hx hZ hw hby hown hret z v (by rw [own_f1_18, if_neg h] at hv; exact hv) hr
set_option maxRecDepth 65536 in
set_option maxHeartbeats 40000000 in
theorem own_b1_12 {p : Program} {l : Launch} {e : Env} {R : Room} {s : State} {m : MethodId} {args : Array Value} {below : List Frame} {meth : Method} {c : Code} {T : State} {locs : List Loc} {cells slots : Nat} {Z : State} {a0 : Array Value}
    (X : Stand p l e R s m args below meth c T locs cells slots) (hx : p.tables.exec = Jvm.exec) (hZ : Z.Warmed39 s.vm) (hw : ∀ d ∈ tables_1, d.before a0 Z = true) (hby : c.code = prog_5_method_2_code) (hown : s.vm.findClass "com/example/staircase/staircase/Whitespace" = some m.cls) (hret : meth.sig.returnType = some .boolean) (z v : Int32) (hv : own_f1_12 z.toInt = v) {fs : List Frame}
    (hr : ∀ (f : JFrame) (acts : List Action), f.method = m → f.locked = none → f.entered = [] → (doReturn e (T.setTop f) acts (some (.int v))).1 = T.setFrames fs) :
    Steps p.tables e below (T.setTop (mkF m 12 #[.val (.int z)] [])) (T.setFrames fs) := by
  refine XS.iloadN X.here hx rfl (hb hby d1_12) rfl ?_
  show Steps p.tables e below (T.setTop (mkF m 13 #[.val (.int z)] [(.int z)])) _
  refine XT.bipushV X.here hx rfl (10 : Int32) (hb hby d1_13) (by decide) ?_
  show Steps p.tables e below (T.setTop (mkF m 15 #[.val (.int z)] [(.int (10 : Int32)), (.int z)])) _
  by_cases h : z.toInt = 10
  · have h' : z = (10 : Int32) := (own_eq32 (k := (10 : Int32)) (n := 10) (by decide)).mpr h
    refine XS.icmpYes X.here hx rfl (pc0 := 15) (pc' := 24) rfl (hb hby d1_15) rfl (teq h').1 (by decide) (by decide) ?_
    exact own_b1_24 X hx hZ hw hby hown hret z v (by rw [own_f1_12, if_pos h] at hv; exact hv) hr
  · have h' : ¬ z = (10 : Int32) := fun q => h ((own_eq32 (k := (10 : Int32)) (n := 10) (by decide)).mp q)
    refine XS.icmpNo X.here hx rfl (hb hby d1_15) rfl (feq h').1 ?_
    exact own_b1_18 X hx hZ hw hby hown hret z v (by rw [own_f1_12, if_neg h] at hv; exact hv) hr
set_option maxRecDepth 65536 in
set_option maxHeartbeats 40000000 in
theorem own_b1_6 {p : Program} {l : Launch} {e : Env} {R : Room} {s : State} {m : MethodId} {args : Array Value} {below : List Frame} {meth : Method} {c : Code} {T : State} {locs : List Loc} {cells slots : Nat} {Z : State} {a0 : Array Value}
    (X : Stand p l e R s m args below meth c T locs cells slots) (hx : p.tables.exec = Jvm.exec) (hZ : Z.Warmed39 s.vm) (hw : ∀ d ∈ tables_1, d.before a0 Z = true) (hby : c.code = prog_5_method_2_code) (hown : s.vm.findClass "com/example/staircase/staircase/Whitespace" = some m.cls) (hret : meth.sig.returnType = some .boolean) (z v : Int32) (hv : own_f1_6 z.toInt = v) {fs : List Frame}
    (hr : ∀ (f : JFrame) (acts : List Action), f.method = m → f.locked = none → f.entered = [] → (doReturn e (T.setTop f) acts (some (.int v))).1 = T.setFrames fs) :
    Steps p.tables e below (T.setTop (mkF m 6 #[.val (.int z)] [])) (T.setFrames fs) := by
  refine XS.iloadN X.here hx rfl (hb hby d1_6) rfl ?_
  show Steps p.tables e below (T.setTop (mkF m 7 #[.val (.int z)] [(.int z)])) _
  refine XT.bipushV X.here hx rfl (9 : Int32) (hb hby d1_7) (by decide) ?_
  show Steps p.tables e below (T.setTop (mkF m 9 #[.val (.int z)] [(.int (9 : Int32)), (.int z)])) _
  by_cases h : z.toInt = 9
  · have h' : z = (9 : Int32) := (own_eq32 (k := (9 : Int32)) (n := 9) (by decide)).mpr h
    refine XS.icmpYes X.here hx rfl (pc0 := 9) (pc' := 24) rfl (hb hby d1_9) rfl (teq h').1 (by decide) (by decide) ?_
    exact own_b1_24 X hx hZ hw hby hown hret z v (by rw [own_f1_6, if_pos h] at hv; exact hv) hr
  · have h' : ¬ z = (9 : Int32) := fun q => h ((own_eq32 (k := (9 : Int32)) (n := 9) (by decide)).mp q)
    refine XS.icmpNo X.here hx rfl (hb hby d1_9) rfl (feq h').1 ?_
    exact own_b1_12 X hx hZ hw hby hown hret z v (by rw [own_f1_6, if_neg h] at hv; exact hv) hr
set_option maxRecDepth 65536 in
set_option maxHeartbeats 40000000 in
theorem own_b1_0 {p : Program} {l : Launch} {e : Env} {R : Room} {s : State} {m : MethodId} {args : Array Value} {below : List Frame} {meth : Method} {c : Code} {T : State} {locs : List Loc} {cells slots : Nat} {Z : State} {a0 : Array Value}
    (X : Stand p l e R s m args below meth c T locs cells slots) (hx : p.tables.exec = Jvm.exec) (hZ : Z.Warmed39 s.vm) (hw : ∀ d ∈ tables_1, d.before a0 Z = true) (hby : c.code = prog_5_method_2_code) (hown : s.vm.findClass "com/example/staircase/staircase/Whitespace" = some m.cls) (hret : meth.sig.returnType = some .boolean) (z v : Int32) (hv : own_f1_0 z.toInt = v) {fs : List Frame}
    (hr : ∀ (f : JFrame) (acts : List Action), f.method = m → f.locked = none → f.entered = [] → (doReturn e (T.setTop f) acts (some (.int v))).1 = T.setFrames fs) :
    Steps p.tables e below (T.setTop (mkF m 0 #[.val (.int z)] [])) (T.setFrames fs) := by
  refine XS.iloadN X.here hx rfl (hb hby d1_0) rfl ?_
  show Steps p.tables e below (T.setTop (mkF m 1 #[.val (.int z)] [(.int z)])) _
  refine XT.bipushV X.here hx rfl (32 : Int32) (hb hby d1_1) (by decide) ?_
  show Steps p.tables e below (T.setTop (mkF m 3 #[.val (.int z)] [(.int (32 : Int32)), (.int z)])) _
  by_cases h : z.toInt = 32
  · have h' : z = (32 : Int32) := (own_eq32 (k := (32 : Int32)) (n := 32) (by decide)).mpr h
    refine XS.icmpYes X.here hx rfl (pc0 := 3) (pc' := 24) rfl (hb hby d1_3) rfl (teq h').1 (by decide) (by decide) ?_
    exact own_b1_24 X hx hZ hw hby hown hret z v (by rw [own_f1_0, if_pos h] at hv; exact hv) hr
  · have h' : ¬ z = (32 : Int32) := fun q => h ((own_eq32 (k := (32 : Int32)) (n := 32) (by decide)).mp q)
    refine XS.icmpNo X.here hx rfl (hb hby d1_3) rfl (feq h').1 ?_
    exact own_b1_6 X hx hZ hw hby hown hret z v (by rw [own_f1_0, if_neg h] at hv; exact hv) hr
theorem pn_1 : plainName "com/example/staircase/staircase/Whitespace" = true := by first | (simp [plainName, overriddenIn]; done) | decide +kernel
theorem ef_1 (m : MethodId) (x0 : Int32) : entryFrame m #[(.int x0)] 1 = mkF m 0 #[.val (.int x0)] [] := by first | (simp [entryFrame, mkF, argsToLocals, Value.category]; done) | rfl
def Q1 (p1 : Int32) (h0 : Heap) (n0 : Nat) (v : Option Value) (h : Heap) (L : List Loc) : Prop := v = some (.int (own_f1_0 p1.toInt)) ∧ Fr n0 L ∧ h = h0
set_option maxRecDepth 65536 in
set_option maxHeartbeats 40000000 in
theorem rm1 (l : Launch) (Z : State) (a0 : Array Value) (hw : ∀ d ∈ tables_1, d.before a0 Z = true) (ws : List Jvm.Cond) (p1 : Int32) (h0 : Heap) (n0 : Nat) (Z0 : n0 ≤ h0.size) :
    MetFree l (⟨"com/example/staircase/staircase/Whitespace", "isWhitespace", "(C)Z"⟩ : MethodName) (head1 (Jvm.Cond.code (⟨"com/example/staircase/staircase/Whitespace", "isWhitespace", "(C)Z"⟩ : MethodName) prog_5_method_2_code 1 (some .boolean) :: ws) ({ frames := 0, cells := 0, slots := 0, locals := 0 } : Room)) (fun a U => a = #[(.int p1)] ∧ Z.Warmed39 U.vm ∧ U.heap = h0) (fun _ _ _ _ _ => True) (fun _ U o U' => ∃ v L, o = .returned v ∧ Q1 p1 h0 n0 v U'.heap L ∧ FrameEnd U o U' L ({ frames := 0, cells := 0, slots := 0, locals := 0 } : Room).cells ({ frames := 0, cells := 0, slots := 0, locals := 0 } : Room).slots) := by
  refine MetFree.of_bodySF (plainFor_of_name pn_1) hisR ?_
  intro p e s m args below meth c s₁ Bd hml0 hP hK
  obtain ⟨rfl, hZ, hh⟩ := hP
  have hx := Bd.exec
  have hby := Bd.bytes
  have hml : c.maxLocals = 1 := hml0
  have hown : s.vm.findClass "com/example/staircase/staircase/Whitespace" = some m.cls := findClass_of_methodNamed Bd.named
  have X0 : Stand p l e ({ frames := 0, cells := 0, slots := 0, locals := 0 } : Room) s m #[(.int p1)] below meth c s₁ [] 0 0 := Stand.of_body Bd
  have e0 : s₁.heap = h0 := by rw [← hh, Bd.state]; rfl
  have N0 := Fr.nil n0
  have pre0 : ∀ t, Steps p.tables e below (s₁.setTop (mkF m 0 #[.val (.int p1)] [])) t → Steps p.tables e below (s₁.setTop (entryFrame m #[(.int p1)] 1)) t := fun t k => castTop (ef_1 m p1) k
  obtain ⟨fs, hr, hrun, hended, hW, hsame⟩ := X0.leave (v := some (.int (own_f1_0 p1.toInt))) (fun h => by rw [Bd.returns] at h; cases h)
  refine ⟨_, _, pre0 _ ?_, hrun, hended, _, _, rfl, ?_, ⟨_, rfl⟩, hW, hsame.mono (by decide) (by decide)⟩
  · exact own_b1_0 X0 hx hZ hw hby hown Bd.returns p1 _ rfl hr
  · show Q1 p1 h0 n0 _ s₁.heap _
    rw [e0]
    exact ⟨rfl, N0, rfl⟩
theorem own_pdC : parseMethodDescriptor "(C)Z" = some ⟨[.char], some .boolean⟩ := by decide +kernel
def own_exp (t : Int32) : Int32 := if t < (64 : Int32) then (if XT.cmpL ((XT.ushrL (4294977024 : Int64) t) &&& (1 : Int64)) (0 : Int64) = 0 then 0 else 1) else 0
set_option maxRecDepth 65536 in
theorem own_tab : ∀ n : Fin 64, own_f1_0 (Int32.ofNat n.1).toInt = own_exp (Int32.ofNat n.1) := by decide +kernel
theorem own_ws (t : Int32) (h0 : 0 ≤ t.toInt) (h1 : t.toInt < 65536) : own_f1_0 t.toInt = own_exp t := by
  by_cases h : t < (64 : Int32)
  · have h2 : t.toInt < 64 := (own_lt32 (k := (64 : Int32)) (n := 64) (by decide)).mp h
    have e : t = Int32.ofNat t.toInt.toNat := by
      apply Int32.toInt_inj.mp
      rw [Int32.toInt_ofNat_of_lt (by omega)]
      omega
    have q : own_f1_0 (Int32.ofNat t.toInt.toNat).toInt = own_exp (Int32.ofNat t.toInt.toNat) := own_tab ⟨t.toInt.toNat, by omega⟩
    rw [← e] at q
    exact q
  · have h2 : ¬ t.toInt < 64 := fun q => h ((own_lt32 (k := (64 : Int32)) (n := 64) (by decide)).mpr q)
    rw [own_exp, if_neg h]
    rcases own_o1_0 t.toInt with ⟨a, b⟩ | ⟨a, b⟩
    · exfalso; clear a; omega
    · exact a
set_option maxRecDepth 65536 in
set_option maxHeartbeats 40000000 in
theorem own_s0_exp {p : Program} {l : Launch} {e : Env} {R : Room} {s : State} {m : MethodId} {args : Array Value} {below : List Frame} {meth : Method} {c : Code} {T0 : State} {locs : List Loc} {cells slots : Nat} {Z : State} {a0 : Array Value} (p0 t : Int32)
    (X0 : Stand p l e R s m args below meth c T0 locs cells slots) (hx : p.tables.exec = Jvm.exec) (hZ : Z.Warmed39 s.vm) (hw : ∀ d ∈ tables_1, d.before a0 Z = true) (hby : c.code = code) (hown : s.vm.findClass "com/example/staircase/staircase/WhitespaceIsWhitespacePinLaw" = some m.cls) :
    ∀ target, Steps p.tables e below (T0.setTop (mkF m 29 #[.val (.int p0), .val (.int t), .unset] [(.int (own_exp t))])) target → Steps p.tables e below (T0.setTop (mkF m 6 #[.val (.int p0), .val (.int t), .unset] [])) target := by
  intro target kt
  show Steps p.tables e below (T0.setTop (mkF m 6 #[.val (.int p0), .val (.int t), .unset] [])) _
  refine XS.iloadN X0.here hx rfl (hb hby at_6) rfl ?_
  show Steps p.tables e below (T0.setTop (mkF m 7 #[.val (.int p0), .val (.int t), .unset] [(.int t)])) _
  refine XT.bipushV X0.here hx rfl (64 : Int32) (hb hby at_7) (by decide) ?_
  show Steps p.tables e below (T0.setTop (mkF m 9 #[.val (.int p0), .val (.int t), .unset] [(.int (64 : Int32)), (.int t)])) _
  by_cases h : t < (64 : Int32)
  · refine XS.icmpNo X0.here hx rfl (hb hby at_9) rfl (tlt h).2.1 ?_
    show Steps p.tables e below (T0.setTop (mkF m 12 #[.val (.int p0), .val (.int t), .unset] [])) _
    refine X0.ldc2J hx hown (v := (4294977024 : Int64)) (mvT hZ (hw _ (List.mem_of_getElem? (i := 1) rfl))) rfl (hb hby at_12) ?_
    show Steps p.tables e below (T0.setTop (mkF m 15 #[.val (.int p0), .val (.int t), .unset] [(.long (4294977024 : Int64))])) _
    refine XS.iloadN X0.here hx rfl (hb hby at_15) rfl ?_
    show Steps p.tables e below (T0.setTop (mkF m 16 #[.val (.int p0), .val (.int t), .unset] [(.int t), (.long (4294977024 : Int64))])) _
    refine XT.lushr X0.here hx rfl (hb hby at_16) rfl ?_
    show Steps p.tables e below (T0.setTop (mkF m 17 #[.val (.int p0), .val (.int t), .unset] [(.long (XT.ushrL (4294977024 : Int64) t))])) _
    refine XT.lconstV X0.here hx rfl (1 : Int64) (hb hby at_17) (by decide) ?_
    show Steps p.tables e below (T0.setTop (mkF m 18 #[.val (.int p0), .val (.int t), .unset] [(.long (1 : Int64)), (.long (XT.ushrL (4294977024 : Int64) t))])) _
    refine XT.land X0.here hx rfl (hb hby at_18) rfl ?_
    show Steps p.tables e below (T0.setTop (mkF m 19 #[.val (.int p0), .val (.int t), .unset] [(.long ((XT.ushrL (4294977024 : Int64) t) &&& (1 : Int64)))])) _
    refine XT.lconstV X0.here hx rfl (0 : Int64) (hb hby at_19) (by decide) ?_
    show Steps p.tables e below (T0.setTop (mkF m 20 #[.val (.int p0), .val (.int t), .unset] [(.long (0 : Int64)), (.long ((XT.ushrL (4294977024 : Int64) t) &&& (1 : Int64)))])) _
    refine XT.lcmp X0.here hx rfl (hb hby at_20) rfl ?_
    show Steps p.tables e below (T0.setTop (mkF m 21 #[.val (.int p0), .val (.int t), .unset] [(.int (XT.cmpL ((XT.ushrL (4294977024 : Int64) t) &&& (1 : Int64)) (0 : Int64)))])) _
    by_cases g : XT.cmpL ((XT.ushrL (4294977024 : Int64) t) &&& (1 : Int64)) (0 : Int64) = 0
    · refine XS.ifYes X0.here hx rfl (pc0 := 21) (pc' := 28) rfl (hb hby at_21) rfl ((if0 _ _).trans (teq g).1) (by decide) (by decide) ?_
      show Steps p.tables e below (T0.setTop (mkF m 28 #[.val (.int p0), .val (.int t), .unset] [])) _
      refine XT.iconstV X0.here hx rfl (0 : Int32) (hb hby at_28) (by decide) ?_
      rw [own_exp, if_pos h, if_pos g] at kt
      exact kt
    · refine XS.ifNo X0.here hx rfl (hb hby at_21) rfl ((if0 _ _).trans (feq g).1) ?_
      show Steps p.tables e below (T0.setTop (mkF m 24 #[.val (.int p0), .val (.int t), .unset] [])) _
      refine XT.iconstV X0.here hx rfl (1 : Int32) (hb hby at_24) (by decide) ?_
      show Steps p.tables e below (T0.setTop (mkF m 25 #[.val (.int p0), .val (.int t), .unset] [(.int (1 : Int32))])) _
      refine XS.goto X0.here hx rfl (pc0 := 25) (pc' := 29) rfl (hb hby at_25) (by decide) (by decide) ?_
      rw [own_exp, if_pos h, if_neg g] at kt
      exact kt
  · refine XS.icmpYes X0.here hx rfl (pc0 := 9) (pc' := 28) rfl (hb hby at_9) rfl (flt h).2.1 (by decide) (by decide) ?_
    show Steps p.tables e below (T0.setTop (mkF m 28 #[.val (.int p0), .val (.int t), .unset] [])) _
    refine XT.iconstV X0.here hx rfl (0 : Int32) (hb hby at_28) (by decide) ?_
    rw [own_exp, if_neg h] at kt
    exact kt
set_option maxRecDepth 65536 in
set_option maxHeartbeats 40000000 in
theorem own_s0_in {p : Program} {l : Launch} {e : Env} {s : State} {m : MethodId} {args : Array Value} {below : List Frame} {meth : Method} {c : Code} {T0 : State} {locs : List Loc} {cells slots : Nat} {Z : State} {a0 : Array Value} {h0 : Heap} {n0 : Nat} (p0 : Int32)
    (X0 : Stand p l e room_1 s m args below meth c T0 locs cells slots) (hx : p.tables.exec = Jvm.exec) (hZ : Z.Warmed39 s.vm) (hw : ∀ d ∈ tables_1, d.before a0 Z = true) (hby : c.code = code) (hml : c.maxLocals = 3) (hown : s.vm.findClass "com/example/staircase/staircase/WhitespaceIsWhitespacePinLaw" = some m.cls) (e0 : T0.heap = h0) (Z0 : n0 ≤ h0.size) (N0 : Fr n0 locs) (hcl : cells ≤ room_1.cells) (hsl : slots ≤ room_1.slots) :
    ∃ (T' : State) (h' : Heap) (locs' : List Loc), Stand p l e room_1 s m args below meth c T' locs' cells slots ∧ T'.heap = h' ∧ n0 ≤ h'.size ∧ Fr n0 locs' ∧
      ∀ target, Steps p.tables e below (T'.setTop (mkF m 6 #[.val (.int p0), .val (.int ((p0 &&& (65535 : Int32)).toUInt32.toUInt16.toUInt32.toInt32)), .unset] [])) target → Steps p.tables e below (T0.setTop (mkF m 0 #[.val (.int p0), .unset, .unset] [])) target := by
  refine ⟨T0, _, _, X0, e0, Z0, N0, fun target kt => ?_⟩
  show Steps p.tables e below (T0.setTop (mkF m 0 #[.val (.int p0), .unset, .unset] [])) _
  refine XS.iloadN X0.here hx rfl (hb hby at_0) rfl ?_
  show Steps p.tables e below (T0.setTop (mkF m 1 #[.val (.int p0), .unset, .unset] [(.int p0)])) _
  refine X0.ldcI hx hown (v := (65535 : Int32)) (mvT hZ (hw _ (List.mem_of_getElem? (i := 0) rfl))) rfl (hb hby at_1) ?_
  show Steps p.tables e below (T0.setTop (mkF m 3 #[.val (.int p0), .unset, .unset] [(.int (65535 : Int32)), (.int p0)])) _
  refine XS.iand X0.here hx rfl (hb hby at_3) rfl ?_
  show Steps p.tables e below (T0.setTop (mkF m 4 #[.val (.int p0), .unset, .unset] [(.int (p0 &&& (65535 : Int32)))])) _
  refine XT.i2c X0.here hx rfl (hb hby at_4) rfl ?_
  show Steps p.tables e below (T0.setTop (mkF m 5 #[.val (.int p0), .unset, .unset] [(.int ((p0 &&& (65535 : Int32)).toUInt32.toUInt16.toUInt32.toInt32))])) _
  refine XS.istoreN X0.here hx rfl (hb hby at_5) rfl (l' := #[.val (.int p0), .val (.int ((p0 &&& (65535 : Int32)).toUInt32.toUInt16.toUInt32.toInt32)), .unset]) rfl ?_
  exact kt
set_option maxRecDepth 65536 in
set_option maxHeartbeats 40000000 in
theorem own_s0_out {p : Program} {l : Launch} {e : Env} {s : State} {m : MethodId} {args : Array Value} {below : List Frame} {meth : Method} {c : Code} {T0 : State} {locs : List Loc} {cells slots : Nat} {Z : State} {a0 : Array Value} {h0 : Heap} {n0 : Nat} (p0 t : Int32)
    (X0 : Stand p l e room_1 s m args below meth c T0 locs cells slots) (hx : p.tables.exec = Jvm.exec) (hZ : Z.Warmed39 s.vm) (hw : ∀ d ∈ tables_1, d.before a0 Z = true) (hby : c.code = code) (hml : c.maxLocals = 3) (hown : s.vm.findClass "com/example/staircase/staircase/WhitespaceIsWhitespacePinLaw" = some m.cls) (e0 : T0.heap = h0) (Z0 : n0 ≤ h0.size) (N0 : Fr n0 locs) (hcl : cells ≤ room_1.cells) (hsl : slots ≤ room_1.slots) (hq : own_f1_0 (t).toInt = own_exp t) :
    ∃ (T' : State) (h' : Heap) (locs' : List Loc), Stand p l e room_1 s m args below meth c T' locs' cells slots ∧ T'.heap = h' ∧ n0 ≤ h'.size ∧ Fr n0 locs' ∧
      ∀ target, Steps p.tables e below (T'.setTop (mkF m 43 #[.val (.int p0), .val (.int t), .val (.int (own_exp t))] [(.int (1 : Int32))])) target → Steps p.tables e below (T0.setTop (mkF m 29 #[.val (.int p0), .val (.int t), .unset] [(.int (own_exp t))])) target := by
  obtain ⟨_, _, ⟨T1, L1, k1, n1⟩, -, X1, ⟨Lc1, hQ1, l1, y1, z1⟩, st1⟩ := Jvm.LawKit.callS X0 hx (y := (⟨"com/example/staircase/staircase/Whitespace", "isWhitespace", "(C)Z"⟩ : MethodName)) hown (mvT hZ (hw _ (List.mem_of_getElem? (i := 2) rfl))) (mvT hZ (hw _ (List.mem_of_getElem? (i := 3) rfl))) (mvT hZ (hw _ (List.mem_of_getElem? (i := 4) rfl))) (mvT hZ (hw _ (List.mem_of_getElem? (i := 5) rfl))) (by decide) (backOf (W := 0) (rm1 l Z a0 hw [] (t) h0 n0 Z0) hZ (hw _ (List.mem_of_getElem? (i := 5) rfl)) (hw _ (List.mem_of_getElem? (i := 4) rfl)) (by decide) (by decide)) (g := (mkF m 31 #[.val (.int p0), .val (.int t), .val (.int (own_exp t))] [(.int t)])) rfl (by rw [hml]; rfl) (argsL := [(.int (t))]) (rest := []) (lenOf own_pdC rfl) rfl (by show 2 * 0 + _ ≤ _; exact Nat.le_of_eq rfl) (hb hby at_31) (fun _ _ => ⟨rfl, e0, hcl, hsl⟩)
  dsimp only [Pt.U, Pt.locs, Pt.cells, Pt.slots] at X1 l1 y1 z1 st1 hQ1
  subst l1 y1 z1
  obtain ⟨rfl, M1, e1⟩ := hQ1
  have N1 := Fr.app N0 M1
  refine ⟨T1, _, _, X1, e1, Z0, N1, fun target kt => ?_⟩
  show Steps p.tables e below (T0.setTop (mkF m 29 #[.val (.int p0), .val (.int t), .unset] [(.int (own_exp t))])) _
  refine XS.istoreN X0.here hx rfl (hb hby at_29) rfl (l' := #[.val (.int p0), .val (.int t), .val (.int (own_exp t))]) rfl ?_
  show Steps p.tables e below (T0.setTop (mkF m 30 #[.val (.int p0), .val (.int t), .val (.int (own_exp t))] [])) _
  refine XS.iloadN X0.here hx rfl (hb hby at_30) rfl ?_
  show Steps p.tables e below (T0.setTop (mkF m 31 #[.val (.int p0), .val (.int t), .val (.int (own_exp t))] [(.int t)])) _
  refine st1 _ ?_
  show Steps p.tables e below (T1.setTop (mkF m 34 #[.val (.int p0), .val (.int t), .val (.int (own_exp t))] [(.int (own_f1_0 (t).toInt))])) _
  refine XS.iloadN X1.here hx rfl (hb hby at_34) rfl ?_
  show Steps p.tables e below (T1.setTop (mkF m 35 #[.val (.int p0), .val (.int t), .val (.int (own_exp t))] [(.int (own_exp t)), (.int (own_f1_0 (t).toInt))])) _
  refine XS.icmpNo X1.here hx rfl (hb hby at_35) rfl (teq hq).2 ?_
  show Steps p.tables e below (T1.setTop (mkF m 38 #[.val (.int p0), .val (.int t), .val (.int (own_exp t))] [])) _
  refine XT.iconstV X1.here hx rfl (1 : Int32) (hb hby at_38) (by decide) ?_
  show Steps p.tables e below (T1.setTop (mkF m 39 #[.val (.int p0), .val (.int t), .val (.int (own_exp t))] [(.int (1 : Int32))])) _
  refine XS.goto X1.here hx rfl (pc0 := 39) (pc' := 43) rfl (hb hby at_39) (by decide) (by decide) ?_
  exact kt
theorem pn_0 : plainName "com/example/staircase/staircase/WhitespaceIsWhitespacePinLaw" = true := by first | (simp [plainName, overriddenIn]; done) | decide +kernel
theorem ef_0 (m : MethodId) (p0 : Int32) : entryFrame m #[(.int p0)] maxLocals = mkF m 0 #[.val (.int p0), .unset, .unset] [] := by first | (simp [entryFrame, mkF, argsToLocals, Value.category, maxLocals]; done) | rfl
def Q0 (n0 : Nat) (v : Option Value) (h : Heap) (L : List Loc) : Prop := v = some (.int (1 : Int32)) ∧ Fr n0 L
set_option maxRecDepth 65536 in
set_option maxHeartbeats 40000000 in
theorem rm0 (l : Launch) (Z : State) (a0 : Array Value) (hw : ∀ d ∈ tables_1, d.before a0 Z = true) (ws : List Jvm.Cond) (p0 : Int32) (h0 : Heap) (n0 : Nat) (Z0 : n0 ≤ h0.size) :
    MetFree l x (head1 (Jvm.Cond.code x code maxLocals ret :: ws) room_1) (fun a U => a = #[(.int p0)] ∧ Z.Warmed39 U.vm ∧ U.heap = h0) (fun _ _ _ _ _ => True) (fun _ U o U' => ∃ v L, o = .returned v ∧ Q0 n0 v U'.heap L ∧ FrameEnd U o U' L room_1.cells room_1.slots) := by
  refine MetFree.of_bodySF (plainFor_of_name pn_0) hisR ?_
  intro p e s m args below meth c s₁ Bd hml0 hP hK
  obtain ⟨rfl, hZ, hh⟩ := hP
  have hx := Bd.exec
  have hby := Bd.bytes
  have hml : c.maxLocals = 3 := hml0
  have hown : s.vm.findClass "com/example/staircase/staircase/WhitespaceIsWhitespacePinLaw" = some m.cls := findClass_of_methodNamed Bd.named
  have X0 : Stand p l e room_1 s m #[(.int p0)] below meth c s₁ [] 0 0 := Stand.of_body Bd
  have e0 : s₁.heap = h0 := by rw [← hh, Bd.state]; rfl
  have N0 := Fr.nil n0
  have pre0 : ∀ t, Steps p.tables e below (s₁.setTop (mkF m 0 #[.val (.int p0), .unset, .unset] [])) t → Steps p.tables e below (s₁.setTop (entryFrame m #[(.int p0)] maxLocals)) t := fun t k => castTop (ef_0 m p0) k
  obtain ⟨T1, h1, L1, X1, e1, Z1, N1, st1⟩ := own_s0_in p0 X0 hx hZ hw hby hml hown e0 Z0 N0 (by decide) (by decide)
  have st2 := own_s0_exp p0 ((p0 &&& (65535 : Int32)).toUInt32.toUInt16.toUInt32.toInt32) X1 hx hZ hw hby hown
  have hq := own_ws ((p0 &&& (65535 : Int32)).toUInt32.toUInt16.toUInt32.toInt32) (c_i2c _).2.1 (c_i2c _).2.2
  obtain ⟨T3, h3, L3, X3, e3, Z3, N3, st3⟩ := own_s0_out p0 ((p0 &&& (65535 : Int32)).toUInt32.toUInt16.toUInt32.toInt32) X1 hx hZ hw hby hml hown e1 Z1 N1 (by decide) (by decide) hq
  obtain ⟨fs, hr, hrun, hended, hW, hsame⟩ := X3.leave (v := some (.int (1 : Int32))) (fun h => by rw [Bd.returns] at h; cases h)
  refine ⟨_, _, pre0 _ ?_, hrun, hended, _, _, rfl, ?_, ⟨_, rfl⟩, hW, hsame.mono (by decide) (by decide)⟩
  · refine st1 _ ?_
    refine st2 _ ?_
    refine st3 _ ?_
    exact retN X3 hx (t := .boolean) Bd.returns (by simp) (hb hby at_43) hr
  · exact ⟨rfl, N3⟩
set_option maxRecDepth 65536 in
set_option maxHeartbeats 40000000 in
theorem comes_1 {Post : Tables → Env → Array Value → State → Outcome → State → Prop} (hpost : ∀ tb e args s v u, (limb_1_1.after args s (.returned v) u = true ∧ limb_1_2.after args s (.returned v) u = true ∧ True) → FrameEnd s (.returned v) u (Jvm.fieldLocs frame_1_writes args s ++ Jvm.arrayLocs frame_1_arrays args s ++ Jvm.staticLocs frame_1_statics s) 0 0 → Post tb e args s (.returned v) u) :
    ArmFor flags0 classFile x code maxLocals ret World_1 tables_1 room_1 Calls_1 rest_1 Pre_1 Post := by
  intro l hfl _ _ p e ha hc hk s m args below hf hA hF happ hP
  obtain ⟨hcalls, hrest, hpre⟩ := hP
  obtain ⟨-, -, -, hnamed, -, -, -, hat⟩ := (Spec.applies_iff hf).mp happ
  obtain ⟨hg, hn⟩ := and_e (Cond.before_iff.mp (show (Jvm.Cond.and given_1 narrow_1).before args s = true from hpre))
  obtain ⟨gc, r0⟩ := and_e hg
  obtain ⟨w0, rfl⟩ : ∃ w0 : Value, args = #[w0] := by
    have hs : args.size = 1 := by simpa [Cond.value, given_1] using gc
    obtain ⟨L⟩ := args
    match L, hs with
    | [w0], _ => exact ⟨w0, rfl⟩
  have hw := fun d (hd : d ∈ tables_1) => atoms_spec (ws := Jvm.Cond.code x code maxLocals ret :: tables_1) hat d (List.mem_cons_of_mem _ hd)
  obtain ⟨i0, ei0⟩ := is_v r0
  obtain rfl : w0 = (.int i0) := Option.some.inj ei0
  obtain ⟨n, o, h1, h2, h3, _, L, rfl, ⟨rfl, N⟩, hq⟩ := rm0 l s _ hw tables_1 i0 s.heap s.heap.size (Nat.le_refl _) p e ha hc hk s m _ below hf ((Spec.applies_iff_loose hf).mp happ).1 ⟨rfl, State.Warmed39.refl s, rfl⟩ trivial
  refine ⟨n, _, h1, h2, h3, hpost _ _ _ _ _ _ ⟨Cond.after_iff.mpr rfl, Cond.after_iff.mpr (eq_i res_at (Term.int_eval (1)) rfl), trivial⟩ ⟨hq.1, hq.2.1, (hq.2.2.sift fun y hy => Or.inr (N y hy)).mono (by decide) (by decide)⟩⟩
theorem main_1_1 : Claimed_1_1 := comes_1 fun _ _ _ _ _ _ h hF => ⟨h.1, hF⟩
theorem main_1_2 : Claimed_1_2 := comes_1 fun _ _ _ _ _ _ h hF => ⟨h.2.1, hF⟩
end Jvm.Pilot.@@N@@
namespace Jvm.Pilot.@@N@@
open Jvm Jvm.ClassFile Sem Op Lib Jvm.Free Jvm.Stand Jvm.Pilot.@@N@@.Jvm.D
/-! MADE BY PROGRAM (witnessworld.py) out of the Statement's table words and the real class files: 7 classes; the members and pool entries that the words name. The judged class is class 1, her method 1. -/
namespace start1
open Jvm.ClassFile
def u (s : String) : CpInfo := .utf8 (stringToUtf16 s)
/-- a pool by its gaps: so many unusable entries, then the entry; so many at the end -/
def gap : Nat → List CpInfo → List CpInfo
  | 0, r => r
  | n + 1, r => .unusable :: gap n r
def poolList (es : List (Nat × CpInfo)) (last : Nat) : List CpInfo := es.foldr (fun e r => gap e.1 (e.2 :: r)) (gap last [])
def pool (es : List (Nat × CpInfo)) (last : Nat) : Array CpInfo := ⟨poolList es last⟩
def fileOf (pool : Array CpInfo) (this : Nat) (attrs : Array Attribute := #[]) (ms : Array MethodInfo := #[]) (fl : Nat := 33) (sup : Nat := 0) (ifs : Array Nat := #[]) (fds : Array FieldInfo := #[]) : ClassFile where
  minorVersion := 0
  majorVersion := 65
  constantPool := pool
  accessFlags := fl
  thisClass := this
  superClass := sup
  interfaces := ifs
  fields := fds
  methods := ms
  attributes := attrs
def plain (name : String) (sup : Option ClassId) : Class where
  name := name
  kind := .ordinary
  loader := none
  accessFlags := 33
  super := sup
  interfaces := #[]
  cf := none
  fields := #[]
  methods := #[]
  instanceTypes := #[]
  staticTypes := #[]
  resolved := #[]
  callSites := []
  init := .initialized
  statics := none
  mirror := none

def pool0 : Array CpInfo := pool [(5, u "<init>"), (0, u "()V"), (1, .class_ 10), (1, u "java/lang/Object")] 113

def k0m0 : Method := { name := "<init>", desc := "()V", sig := { parameters := [], returnType := none }, accessFlags := 1, code := none }
/-- java/lang/Object -/
def k0 : Class := { plain "java/lang/Object" none with
  accessFlags := 33
  interfaces := #[]
  cf := some (fileOf pool0 8 #[] #[{ accessFlags := 1, nameIndex := 5, descriptorIndex := 6, attributes := #[] }] 33 0 #[] #[])
  fields := #[]
  methods := #[k0m0]
  instanceTypes := #[]
  staticTypes := #[]
  resolved := Array.replicate 124 none
  statics := none }

def pool1 : Array CpInfo := pool [(2, .class_ 4), (1, u "java/lang/Object"), (0, u "<init>"), (0, u "()V"), (0, .integer 65535), (0, .class_ 9), (0, u "com/example/staircase/staircase/WhitespaceIsWhitespacePinLaw"), (0, .long 4294977024), (1, .methodref 13 14), (0, .class_ 15), (0, .nameAndType 16 17), (0, u "com/example/staircase/staircase/Whitespace"), (0, u "isWhitespace"), (0, u "(C)Z"), (0, u "XML_WS_MASK"), (0, u "J"), (3, u "law"), (0, u "(I)Z")] 3

def k1m0 : Method := { name := "<init>", desc := "()V", sig := { parameters := [], returnType := none }, accessFlags := 2, code := none }
def k1c1 : Code := { maxStack := 4, maxLocals := 3, code := code, exceptionTable := #[], attributes := #[] }
def k1m1 : Method := { name := "law", desc := "(I)Z", sig := { parameters := [.int], returnType := some .boolean }, accessFlags := 9, code := some k1c1 }
/-- com/example/staircase/staircase/WhitespaceIsWhitespacePinLaw -/
def k1 : Class := { plain "com/example/staircase/staircase/WhitespaceIsWhitespacePinLaw" (some 0) with
  accessFlags := 49
  interfaces := #[]
  cf := some (fileOf pool1 8 #[] #[{ accessFlags := 2, nameIndex := 5, descriptorIndex := 6, attributes := #[] }, { accessFlags := 9, nameIndex := 23, descriptorIndex := 24, attributes := #[] }] 49 2 #[] #[{ accessFlags := 26, nameIndex := 18, descriptorIndex := 19, attributes := #[] }])
  fields := #[{ name := "XML_WS_MASK", type := .long, accessFlags := 26, slot := 0, constantValue := 0 }]
  methods := #[k1m0, k1m1]
  instanceTypes := #[]
  staticTypes := #[.long]
  resolved := Array.replicate 28 none
  statics := none }

def pool2 : Array CpInfo := pool [(2, .class_ 4), (1, u "java/lang/Object"), (0, u "<init>"), (0, u "()V"), (11, .class_ 20), (1, u "com/example/staircase/staircase/Whitespace"), (0, u "isWhitespace"), (0, u "(C)Z")] 30

def k2m0 : Method := { name := "<init>", desc := "()V", sig := { parameters := [], returnType := none }, accessFlags := 2, code := none }
def k2c1 : Code := { maxStack := 2, maxLocals := 1, code := prog_5_method_2_code, exceptionTable := #[], attributes := #[] }
def k2m1 : Method := { name := "isWhitespace", desc := "(C)Z", sig := { parameters := [.char], returnType := some .boolean }, accessFlags := 9, code := some k2c1 }
/-- com/example/staircase/staircase/Whitespace -/
def k2 : Class := { plain "com/example/staircase/staircase/Whitespace" (some 0) with
  accessFlags := 33
  interfaces := #[]
  cf := some (fileOf pool2 18 #[] #[{ accessFlags := 2, nameIndex := 5, descriptorIndex := 6, attributes := #[] }, { accessFlags := 9, nameIndex := 21, descriptorIndex := 22, attributes := #[] }] 33 2 #[] #[])
  fields := #[]
  methods := #[k2m0, k2m1]
  instanceTypes := #[]
  staticTypes := #[]
  resolved := Array.replicate 53 none
  statics := none }

def pool3 : Array CpInfo := pool [(1, u "java/lang/Cloneable"), (0, .class_ 1), (0, u "java/lang/Object"), (0, .class_ 3)] 3

/-- java/lang/Cloneable -/
def k3 : Class := { plain "java/lang/Cloneable" (some 0) with
  accessFlags := 1537
  interfaces := #[]
  cf := some (fileOf pool3 2 #[] #[] 1537 4 #[] #[])
  fields := #[]
  methods := #[]
  instanceTypes := #[]
  staticTypes := #[]
  resolved := Array.replicate 8 none
  statics := none }

def pool4 : Array CpInfo := pool [(1, u "java/io/Serializable"), (0, .class_ 1), (0, u "java/lang/Object"), (0, .class_ 3)] 3

/-- java/io/Serializable -/
def k4 : Class := { plain "java/io/Serializable" (some 0) with
  accessFlags := 1537
  interfaces := #[]
  cf := some (fileOf pool4 2 #[] #[] 1537 4 #[] #[])
  fields := #[]
  methods := #[]
  instanceTypes := #[]
  staticTypes := #[]
  resolved := Array.replicate 8 none
  statics := none }

/-- the primitive byte -/
def k5 : Class := { plain "byte" none with kind := .primitive 'B', accessFlags := 0x411 }
/-- [B -/
def k6 : Class := { plain "[B" (some 0) with kind := .array 5 .byte, interfaces := #[3, 4], accessFlags := 1041 }

def heap : Heap := #[]
def classes : Array Class := #[k0, k1, k2, k3, k4, k5, k6]
def interned : List (Array UInt16 × Addr) := []
def slotsUsed : Nat := 0
def theMethod : MethodId := ⟨1, 1⟩
def args0 : Array Value := #[.int 5]
def aboutOver (below : List Frame) : State where
  vm := { classes := classes, interned := interned.toArray }
  heap := heap
  slotsUsed := slotsUsed
  threads := #[{ frames := .invoking theMethod args0 :: below }]
def below0 : List Frame := [.native { method := ⟨0, 0⟩, args := #[] }]
def about1 : State := aboutOver below0
def p0 : Program := .bare "" "" ""
def e0 : Env := launch0.env 0 0 0
theorem w_frames : about1.frames = Frame.invoking theMethod args0 :: below0 := rfl
set_option maxRecDepth 65536 in
theorem w_args : argsFit about1.vm theMethod args0 = true := by decide +kernel
set_option maxRecDepth 65536 in
theorem w_heap : heapFits about1 = true := by decide +kernel
set_option maxRecDepth 65536 in
theorem w_runnable : about1.curStatus? = some .runnable := by decide +kernel
set_option maxRecDepth 65536 in
theorem w_alone : about1.alone = true := by decide +kernel
set_option maxRecDepth 65536 in
theorem w_named : about1.methodNamed? x = some theMethod := by decide +kernel
set_option maxRecDepth 65536 in
theorem w_hears : about1.hears theMethod below0 = true := by decide +kernel
set_option maxRecDepth 65536 in
theorem w_ripe : about1.ripe theMethod args0 below0 = true := by decide +kernel
theorem w_running : about1.status = .running := rfl
set_option maxRecDepth 65536 in
theorem w_room : about1.hasRoom e0.platform room_1 = true :=
  launch0.hasRoom_least _ room_1 (by decide +kernel) (by decide +kernel) (by decide +kernel) (by decide +kernel) (by decide +kernel) (by decide +kernel)
theorem allAtoms_all (ts : List Jvm.Cond) (a : Array Jvm.Value) (st : Jvm.State) : (allAtoms ts).before a st = ts.all (fun c => c.before a st) := by
  induction ts with
  | nil => rfl
  | cons c t ih =>
    show (Jvm.Cond.and c (allAtoms t)).before a st = _
    rw [Jvm.Cond.before_and, ih, List.all_cons]
def words1 : List Jvm.Cond := Jvm.Cond.code x code maxLocals ret :: tables_1
/-- a 'code' word, met by the world's own term for the bytes: nothing is compared byte by byte -/
theorem code_word {y : MethodName} {bytes : ByteArray} {mx : Nat} {rt : Option FieldType} {a : Array Value} {s : State} {m : MethodId} {meth : Method} {c : Code} (h1 : s.methodNamed? y = some m) (h2 : s.vm.method? m = some meth) (h3 : meth.code = some c) (h4 : c.code = bytes)
    (h5 : (c.maxLocals == mx && c.exceptionTable.isEmpty && decide (c.maxStack ≤ mostOperands) && decide (meth.sig.returnType = rt) && !meth.locks && decide (parseMethodDescriptor y.desc = some meth.sig)) = true) : (Jvm.Cond.code y bytes mx rt).before a s = true := by
  simp only [Bool.and_eq_true, beq_iff_eq, Bool.not_eq_true', decide_eq_true_eq] at h5
  obtain ⟨⟨⟨⟨⟨g1, g2⟩, g3⟩, g4⟩, g5⟩, g6⟩ := h5
  simp [Cond.before, Cond.holds, Cond.value, h1, h2, h3, h4, g1, g2, g3, g4, g5, g6]
def isCode : Jvm.Cond → Bool
  | .code _ _ _ _ => true
  | _ => false
theorem all_split {L : List Jvm.Cond} {P : Jvm.Cond → Bool} (h1 : L.all (fun c => isCode c || P c) = true) (h2 : ∀ c ∈ L.filter isCode, P c = true) : L.all P = true := by
  refine List.all_eq_true.mpr fun c hc => ?_
  have h := List.all_eq_true.mp h1 c hc
  rcases Bool.eq_false_or_eq_true (isCode c) with hi | hi
  · exact h2 c (List.mem_filter.mpr ⟨hc, hi⟩)
  · simpa [hi] using h
set_option maxRecDepth 65536 in
theorem w_c0 : (Jvm.Cond.code x code maxLocals ret).before args0 about1 = true := code_word (m := ⟨1, 1⟩) (meth := k1m1) (c := k1c1) (by decide +kernel) rfl rfl rfl (by decide +kernel)
set_option maxRecDepth 65536 in
theorem w_c1 : (Jvm.Cond.code ({ cls := "com/example/staircase/staircase/Whitespace", name := "isWhitespace", desc := "(C)Z" } : Jvm.MethodName) prog_5_method_2_code (1 : Nat) (Option.some Jvm.ClassFile.FieldType.boolean)).before args0 about1 = true := code_word (m := ⟨2, 1⟩) (meth := k2m1) (c := k2c1) (by decide +kernel) rfl rfl rfl (by decide +kernel)
def codes1 : List Jvm.Cond := [Jvm.Cond.code x code maxLocals ret, Jvm.Cond.code ({ cls := "com/example/staircase/staircase/Whitespace", name := "isWhitespace", desc := "(C)Z" } : Jvm.MethodName) prog_5_method_2_code (1 : Nat) (Option.some Jvm.ClassFile.FieldType.boolean)]
set_option maxRecDepth 65536 in
theorem codes_eq : words1.filter isCode = codes1 := rfl
theorem w_codes : ∀ c ∈ words1.filter isCode, c.before args0 about1 = true := by
  rw [codes_eq]
  intro c hc
  simp only [codes1, List.mem_cons, List.not_mem_nil, or_false] at hc
  rcases hc with rfl | rfl
  · exact w_c0
  · exact w_c1
set_option maxRecDepth 65536 in
theorem w_t1 : words1.all (fun c => isCode c || c.before args0 about1) = true := by decide +kernel
theorem w_tables : (allAtoms (Jvm.Cond.code x code maxLocals ret :: tables_1)).before args0 about1 = true := by
  rw [allAtoms_all]
  show words1.all (fun c => c.before args0 about1) = true
  refine all_split ?_ w_codes
  rw [w_t1]
set_option maxRecDepth 65536 in
theorem w_case : (Jvm.Cond.and given_1 narrow_1).before args0 about1 = true := by decide +kernel
theorem w_applies : (headSpec (Jvm.Cond.code x code maxLocals ret :: tables_1) room_1).applies x e0.platform about1 = true :=
  (Spec.applies_iff w_frames).mpr ⟨w_running, w_runnable, w_alone, w_named, w_hears, w_ripe, w_room, w_tables⟩
theorem atStart : AtStart classFile x code maxLocals ret World_1 tables_1 room_1 Calls_1 rest_1 Pre_1 launch0 p0 e0 about1 theMethod args0 below0 :=
  ⟨lists_1, trivial, launch0.admits_env _ _ _, launch0.least_env, fairChoices_fair.cas, fairChoices_fair.clock, w_frames, w_args, w_heap, w_applies, trivial, trivial, w_case⟩
end start1
theorem witness_1 : WitnessClaimed_1 := ⟨start1.p0, start1.e0, start1.about1, start1.theMethod, start1.args0, start1.below0, start1.atStart⟩
end Jvm.Pilot.@@N@@
