import JvmDerived
import JvmDerived.Pilot.@@N@@Statement
import JvmDerived.Pilot.@@N@@Code
set_option linter.unusedVariables false
set_option linter.unusedSimpArgs false
@@BLOCK:NumsL.lean.txt@@
namespace Jvm.RoadKit
open Sem ClassFile Op Lib Jvm.Stand Jvm.Free Jvm.LawKit
section New
variable {p : Program} {l : Launch} {e : Env} {R : Room} {s : State} {m : MethodId} {args : Array Value} {below : List Frame} {meth : Method} {c : Code} {T : State} {locs : List Loc} {cells slots : Nat}
theorem retI (X : Stand p l e R s m args below meth c T locs cells slots) (hx : p.tables.exec = Jvm.exec) {pc : Nat} {Ls : Array Slot} {z : Int32} {rest : List Value} (hret : meth.sig.returnType = some .int) (hd : decode c.code pc = .ok (.ireturn, 1)) {fs : List Frame}
    (hl : ∀ (f : JFrame) (acts : List Action), f.method = m → f.locked = none → f.entered = [] → (doReturn e (T.setTop f) acts (some (.int z))).1 = T.setFrames fs) : Steps p.tables e below (T.setTop (mkF m pc Ls (.int z :: rest))) (T.setFrames fs) := by
  have hm' : T.vm.method? m = some meth := X.method'
  have hn : narrow .int (.int z) = .int z := rfl
  show Steps p.tables e below (T.setTop { method := m, pc := pc, locals := Ls, stack := _ :: rest, locked := none }) _
  jvm_step X.here [X.here.top, hx, hd, hm', hret, hn]
  first | (intro acts; rw [hl _ acts rfl rfl rfl]) | rw [hl _ _ rfl rfl rfl]
  exact Steps.refl _
end New
end Jvm.RoadKit
namespace Jvm.Pilot.@@N@@
open Jvm Jvm.ClassFile Sem Op Lib Jvm.Free Jvm.Stand Jvm.LawKit Jvm.RoadKit Bundle Jvm.Pilot.@@N@@.Jvm.D
theorem d1_0 : decode prog_35_method_6_code 0 = .ok (.aload_n 0, 1) := by decide +kernel
theorem d1_1 : decode prog_35_method_6_code 1 = .ok (.getfield 81, 3) := by decide +kernel
theorem d1_4 : decode prog_35_method_6_code 4 = .ok (.ifCond .le 7, 3) := by decide +kernel
theorem d1_7 : decode prog_35_method_6_code 7 = .ok (.iconst 1, 1) := by decide +kernel
theorem d1_8 : decode prog_35_method_6_code 8 = .ok (.goto 4, 3) := by decide +kernel
theorem d1_12 : decode prog_35_method_6_code 12 = .ok (.ireturn, 1) := by decide +kernel
theorem pn_1 : plainName "com/example/stubwright/stubwright/model/BasicType" = true := by first | (simp [plainName, overriddenIn]; done) | decide +kernel
theorem ef_1 (m : MethodId) (x0 : Addr) : entryFrame m #[(.ref x0)] 1 = mkF m 0 #[.val (.ref x0)] [] := by first | (simp [entryFrame, mkF, argsToLocals, Value.category]; done) | rfl
def Q1_1 (Z : State) (a1 : Addr) (w2 : Int32) (h0 : Heap) (n0 : Nat) (v : Option Value) (h : Heap) (L : List Loc) : Prop := v = some (.int (1 : Int32)) ∧ Fr n0 L ∧ h = h0
set_option maxRecDepth 65536 in
set_option maxHeartbeats 40000000 in
theorem rm1_1 (l : Launch) (Z : State) (a0 : Array Value) (hw : ∀ d ∈ tables_1, d.before a0 Z = true) (ws : List Jvm.Cond) (a1 : Addr) (w2 : Int32) (h0 : Heap) (n0 : Nat) (Z0 : n0 ≤ h0.size) (F_integerBits_a1 : Fld Z h0 a1 "com/example/stubwright/stubwright/model/BasicType" "integerBits" "I" (.int w2)) (hc4 : (0 : Int32) < w2) :
    MetFree l (⟨"com/example/stubwright/stubwright/model/BasicType", "isInteger", "()Z"⟩ : MethodName) (head1 (Jvm.Cond.code (⟨"com/example/stubwright/stubwright/model/BasicType", "isInteger", "()Z"⟩ : MethodName) prog_35_method_6_code 1 (some .boolean) :: ws) ({ frames := 0, cells := 0, slots := 0, locals := 0 } : Room)) (fun a U => a = #[(.ref a1)] ∧ Z.Warmed39 U.vm ∧ U.heap = h0) (fun _ _ _ _ _ => True) (fun _ U o U' => ∃ v L, o = .returned v ∧ Q1_1 Z a1 w2 h0 n0 v U'.heap L ∧ FrameEnd U o U' L ({ frames := 0, cells := 0, slots := 0, locals := 0 } : Room).cells ({ frames := 0, cells := 0, slots := 0, locals := 0 } : Room).slots) := by
  refine MetFree.of_bodySF (plainFor_of_name pn_1) hisR ?_
  intro p e s m args below meth c s₁ Bd hml0 hP hK
  obtain ⟨rfl, hZ, hh⟩ := hP
  have hx := Bd.exec
  have hby := Bd.bytes
  have hml : c.maxLocals = 1 := hml0
  have hown : s.vm.findClass "com/example/stubwright/stubwright/model/BasicType" = some m.cls := findClass_of_methodNamed Bd.named
  have hnm := (name_of_methodNamed Bd.named Bd.method).1
  have X0 : Stand p l e ({ frames := 0, cells := 0, slots := 0, locals := 0 } : Room) s m #[(.ref a1)] below meth c s₁ [] 0 0 := Stand.of_body Bd
  have e0 : s₁.heap = h0 := by rw [← hh, Bd.state]; rfl
  have N0 := Fr.nil n0
  have pre0 : ∀ t, Steps p.tables e below (s₁.setTop (mkF m 0 #[.val (.ref a1)] [])) t → Steps p.tables e below (s₁.setTop (entryFrame m #[(.ref a1)] 1)) t := fun t k => castTop (ef_1 m a1) k
  obtain ⟨T3, X3, e3, st3⟩ := getF X0 hx hZ hown (host := "") (Or.inl (hw _ (List.mem_of_getElem? (i := 44) rfl))) Via.refl e0 F_integerBits_a1 (g := (mkF m 1 #[.val (.ref a1)] [(.ref a1)])) rfl rfl (hb hby d1_1)
  obtain ⟨fs, hr, hrun, hended, hW, hsame⟩ := X3.leave (v := some (.int (1 : Int32))) (fun h => by rw [Bd.returns] at h; cases h)
  refine ⟨_, _, pre0 _ ?_, hrun, hended, _, _, rfl, ?_, ⟨_, rfl⟩, hW, hsame.mono (by decide) (by decide)⟩
  · show Steps p.tables e below (s₁.setTop (mkF m 0 #[.val (.ref a1)] [])) _
    refine XS.aloadN X0.here hx rfl (hb hby d1_0) rfl rfl ?_
    show Steps p.tables e below (s₁.setTop (mkF m 1 #[.val (.ref a1)] [(.ref a1)])) _
    refine st3 _ ?_
    show Steps p.tables e below (T3.setTop (mkF m 4 #[.val (.ref a1)] [(.int w2)])) _
    refine XS.ifNo X3.here hx rfl (hb hby d1_4) rfl ((if0 _ _).trans (tlt hc4).2.2.2) ?_
    show Steps p.tables e below (T3.setTop (mkF m 7 #[.val (.ref a1)] [])) _
    refine XS.iconst X3.here hx rfl (hb hby d1_7) ?_
    show Steps p.tables e below (T3.setTop (mkF m 8 #[.val (.ref a1)] [(.int (1 : Int32))])) _
    refine XS.goto X3.here hx rfl (pc0 := 8) (pc' := 12) rfl (hb hby d1_8) (by decide) (by decide) ?_
    show Steps p.tables e below (T3.setTop (mkF m 12 #[.val (.ref a1)] [(.int (1 : Int32))])) _
    exact retN X3 hx (t := .boolean) Bd.returns (by simp) (hb hby d1_12) hr
  · show Q1_1 Z a1 w2 h0 n0 _ T3.heap _
    rw [e3]
    exact ⟨rfl, N0, rfl⟩
theorem d1_11 : decode prog_35_method_6_code 11 = .ok (.iconst 0, 1) := by decide +kernel
def Q1_0 (Z : State) (a1 : Addr) (w2 : Int32) (h0 : Heap) (n0 : Nat) (v : Option Value) (h : Heap) (L : List Loc) : Prop := v = some (.int (0 : Int32)) ∧ Fr n0 L ∧ h = h0
set_option maxRecDepth 65536 in
set_option maxHeartbeats 40000000 in
theorem rm1_0 (l : Launch) (Z : State) (a0 : Array Value) (hw : ∀ d ∈ tables_1, d.before a0 Z = true) (ws : List Jvm.Cond) (a1 : Addr) (w2 : Int32) (h0 : Heap) (n0 : Nat) (Z0 : n0 ≤ h0.size) (F_integerBits_a1 : Fld Z h0 a1 "com/example/stubwright/stubwright/model/BasicType" "integerBits" "I" (.int w2)) (hc4 : ¬ ((0 : Int32) < w2)) :
    MetFree l (⟨"com/example/stubwright/stubwright/model/BasicType", "isInteger", "()Z"⟩ : MethodName) (head1 (Jvm.Cond.code (⟨"com/example/stubwright/stubwright/model/BasicType", "isInteger", "()Z"⟩ : MethodName) prog_35_method_6_code 1 (some .boolean) :: ws) ({ frames := 0, cells := 0, slots := 0, locals := 0 } : Room)) (fun a U => a = #[(.ref a1)] ∧ Z.Warmed39 U.vm ∧ U.heap = h0) (fun _ _ _ _ _ => True) (fun _ U o U' => ∃ v L, o = .returned v ∧ Q1_0 Z a1 w2 h0 n0 v U'.heap L ∧ FrameEnd U o U' L ({ frames := 0, cells := 0, slots := 0, locals := 0 } : Room).cells ({ frames := 0, cells := 0, slots := 0, locals := 0 } : Room).slots) := by
  refine MetFree.of_bodySF (plainFor_of_name pn_1) hisR ?_
  intro p e s m args below meth c s₁ Bd hml0 hP hK
  obtain ⟨rfl, hZ, hh⟩ := hP
  have hx := Bd.exec
  have hby := Bd.bytes
  have hml : c.maxLocals = 1 := hml0
  have hown : s.vm.findClass "com/example/stubwright/stubwright/model/BasicType" = some m.cls := findClass_of_methodNamed Bd.named
  have hnm := (name_of_methodNamed Bd.named Bd.method).1
  have X0 : Stand p l e ({ frames := 0, cells := 0, slots := 0, locals := 0 } : Room) s m #[(.ref a1)] below meth c s₁ [] 0 0 := Stand.of_body Bd
  have e0 : s₁.heap = h0 := by rw [← hh, Bd.state]; rfl
  have N0 := Fr.nil n0
  have pre0 : ∀ t, Steps p.tables e below (s₁.setTop (mkF m 0 #[.val (.ref a1)] [])) t → Steps p.tables e below (s₁.setTop (entryFrame m #[(.ref a1)] 1)) t := fun t k => castTop (ef_1 m a1) k
  obtain ⟨T3, X3, e3, st3⟩ := getF X0 hx hZ hown (host := "") (Or.inl (hw _ (List.mem_of_getElem? (i := 44) rfl))) Via.refl e0 F_integerBits_a1 (g := (mkF m 1 #[.val (.ref a1)] [(.ref a1)])) rfl rfl (hb hby d1_1)
  obtain ⟨fs, hr, hrun, hended, hW, hsame⟩ := X3.leave (v := some (.int (0 : Int32))) (fun h => by rw [Bd.returns] at h; cases h)
  refine ⟨_, _, pre0 _ ?_, hrun, hended, _, _, rfl, ?_, ⟨_, rfl⟩, hW, hsame.mono (by decide) (by decide)⟩
  · show Steps p.tables e below (s₁.setTop (mkF m 0 #[.val (.ref a1)] [])) _
    refine XS.aloadN X0.here hx rfl (hb hby d1_0) rfl rfl ?_
    show Steps p.tables e below (s₁.setTop (mkF m 1 #[.val (.ref a1)] [(.ref a1)])) _
    refine st3 _ ?_
    show Steps p.tables e below (T3.setTop (mkF m 4 #[.val (.ref a1)] [(.int w2)])) _
    refine XS.ifYes X3.here hx rfl (pc0 := 4) (pc' := 11) rfl (hb hby d1_4) rfl ((if0 _ _).trans (flt hc4).2.2.2) (by decide) (by decide) ?_
    show Steps p.tables e below (T3.setTop (mkF m 11 #[.val (.ref a1)] [])) _
    refine XS.iconst X3.here hx rfl (hb hby d1_11) ?_
    show Steps p.tables e below (T3.setTop (mkF m 12 #[.val (.ref a1)] [(.int (0 : Int32))])) _
    exact retN X3 hx (t := .boolean) Bd.returns (by simp) (hb hby d1_12) hr
  · show Q1_0 Z a1 w2 h0 n0 _ T3.heap _
    rw [e3]
    exact ⟨rfl, N0, rfl⟩
theorem own_stk {Z : State} {h0 h : Heap} {C n d : String} {v : Value} (K : Keep h0 h []) (S : Sta Z h0 C n d v) : Sta Z h C n d v := by
  obtain ⟨cf, i, k, f, st, cell, h1, h2, h3, h4, h5, h6, h7⟩ := S
  exact ⟨cf, i, k, f, st, cell, h1, h2, h3, h4, K.2.1 st cell h5 nin0, h6, h7⟩
theorem pn_0 : plainName "com/example/stubwright/stubwright/model/BasicTypeIsIntegerPinLaw" = true := by first | (simp [plainName, overriddenIn]; done) | decide +kernel
theorem pd_0_0 : parseMethodDescriptor "()Z" = some ⟨[], some .boolean⟩ := by decide +kernel
theorem ef_0 (m : MethodId) (x0 : Int32) : entryFrame m #[(.int x0)] maxLocals = mkF m 0 #[.val (.int x0), .unset, .unset, .unset, .unset] [] := by first | (simp [entryFrame, mkF, argsToLocals, Value.category, maxLocals]; done) | rfl
def Q0_m (Z : State) (p1 : Int32) (w3 : Addr) (w6 : Addr) (w9 : Addr) (w12 : Addr) (w15 : Addr) (w18 : Addr) (w21 : Addr) (w24 : Addr) (w27 : Addr) (w30 : Addr) (w33 : Addr) (w36 : Addr) (w39 : Addr) (w42 : Addr) (w45 : Addr) (w48 : Addr) (w51 : Addr) (w54 : Addr) (h0 : Heap) (n0 : Nat) (v : Option Value) (h : Heap) (L : List Loc) : Prop := v = some (.int (1 : Int32)) ∧ Fr n0 L
set_option maxRecDepth 65536 in
set_option maxHeartbeats 40000000 in
theorem rm0_m (l : Launch) (Z : State) (a0 : Array Value) (hw : ∀ d ∈ tables_1, d.before a0 Z = true) (ws : List Jvm.Cond) (bits : Int32) (p1 : Int32) (w3 : Addr) (w6 : Addr) (w9 : Addr) (w12 : Addr) (w15 : Addr) (w18 : Addr) (w21 : Addr) (w24 : Addr) (w27 : Addr) (w30 : Addr) (w33 : Addr) (w36 : Addr) (w39 : Addr) (w42 : Addr) (w45 : Addr) (w48 : Addr) (w51 : Addr) (w54 : Addr) (h0 : Heap) (n0 : Nat) (Z0 : n0 ≤ h0.size) (S_VOID : Sta Z h0 "com/example/stubwright/stubwright/model/BasicType" "VOID" "Lcom/example/stubwright/stubwright/model/BasicType;" (.ref w3)) (E_VOID : Exa Z h0 w3 "com/example/stubwright/stubwright/model/BasicType") (S_SHORT : Sta Z h0 "com/example/stubwright/stubwright/model/BasicType" "SHORT" "Lcom/example/stubwright/stubwright/model/BasicType;" (.ref w6)) (E_SHORT : Exa Z h0 w6 "com/example/stubwright/stubwright/model/BasicType") (S_LONG : Sta Z h0 "com/example/stubwright/stubwright/model/BasicType" "LONG" "Lcom/example/stubwright/stubwright/model/BasicType;" (.ref w9)) (E_LONG : Exa Z h0 w9 "com/example/stubwright/stubwright/model/BasicType") (S_LONG_LONG : Sta Z h0 "com/example/stubwright/stubwright/model/BasicType" "LONG_LONG" "Lcom/example/stubwright/stubwright/model/BasicType;" (.ref w12)) (E_LONG_LONG : Exa Z h0 w12 "com/example/stubwright/stubwright/model/BasicType") (S_UNSIGNED_SHORT : Sta Z h0 "com/example/stubwright/stubwright/model/BasicType" "UNSIGNED_SHORT" "Lcom/example/stubwright/stubwright/model/BasicType;" (.ref w15)) (E_UNSIGNED_SHORT : Exa Z h0 w15 "com/example/stubwright/stubwright/model/BasicType") (S_UNSIGNED_LONG : Sta Z h0 "com/example/stubwright/stubwright/model/BasicType" "UNSIGNED_LONG" "Lcom/example/stubwright/stubwright/model/BasicType;" (.ref w18)) (E_UNSIGNED_LONG : Exa Z h0 w18 "com/example/stubwright/stubwright/model/BasicType") (S_UNSIGNED_LONG_LONG : Sta Z h0 "com/example/stubwright/stubwright/model/BasicType" "UNSIGNED_LONG_LONG" "Lcom/example/stubwright/stubwright/model/BasicType;" (.ref w21)) (E_UNSIGNED_LONG_LONG : Exa Z h0 w21 "com/example/stubwright/stubwright/model/BasicType") (S_FLOAT : Sta Z h0 "com/example/stubwright/stubwright/model/BasicType" "FLOAT" "Lcom/example/stubwright/stubwright/model/BasicType;" (.ref w24)) (E_FLOAT : Exa Z h0 w24 "com/example/stubwright/stubwright/model/BasicType") (S_DOUBLE : Sta Z h0 "com/example/stubwright/stubwright/model/BasicType" "DOUBLE" "Lcom/example/stubwright/stubwright/model/BasicType;" (.ref w27)) (E_DOUBLE : Exa Z h0 w27 "com/example/stubwright/stubwright/model/BasicType") (S_CHAR : Sta Z h0 "com/example/stubwright/stubwright/model/BasicType" "CHAR" "Lcom/example/stubwright/stubwright/model/BasicType;" (.ref w30)) (E_CHAR : Exa Z h0 w30 "com/example/stubwright/stubwright/model/BasicType") (S_WCHAR : Sta Z h0 "com/example/stubwright/stubwright/model/BasicType" "WCHAR" "Lcom/example/stubwright/stubwright/model/BasicType;" (.ref w33)) (E_WCHAR : Exa Z h0 w33 "com/example/stubwright/stubwright/model/BasicType") (S_BOOLEAN : Sta Z h0 "com/example/stubwright/stubwright/model/BasicType" "BOOLEAN" "Lcom/example/stubwright/stubwright/model/BasicType;" (.ref w36)) (E_BOOLEAN : Exa Z h0 w36 "com/example/stubwright/stubwright/model/BasicType") (S_OCTET : Sta Z h0 "com/example/stubwright/stubwright/model/BasicType" "OCTET" "Lcom/example/stubwright/stubwright/model/BasicType;" (.ref w39)) (E_OCTET : Exa Z h0 w39 "com/example/stubwright/stubwright/model/BasicType") (S_ANY : Sta Z h0 "com/example/stubwright/stubwright/model/BasicType" "ANY" "Lcom/example/stubwright/stubwright/model/BasicType;" (.ref w42)) (E_ANY : Exa Z h0 w42 "com/example/stubwright/stubwright/model/BasicType") (S_STRING : Sta Z h0 "com/example/stubwright/stubwright/model/BasicType" "STRING" "Lcom/example/stubwright/stubwright/model/BasicType;" (.ref w45)) (E_STRING : Exa Z h0 w45 "com/example/stubwright/stubwright/model/BasicType") (S_WSTRING : Sta Z h0 "com/example/stubwright/stubwright/model/BasicType" "WSTRING" "Lcom/example/stubwright/stubwright/model/BasicType;" (.ref w48)) (E_WSTRING : Exa Z h0 w48 "com/example/stubwright/stubwright/model/BasicType") (S_OBJECT : Sta Z h0 "com/example/stubwright/stubwright/model/BasicType" "OBJECT" "Lcom/example/stubwright/stubwright/model/BasicType;" (.ref w51)) (E_OBJECT : Exa Z h0 w51 "com/example/stubwright/stubwright/model/BasicType") (E_w54 : Exa Z h0 w54 "com/example/stubwright/stubwright/model/BasicType") (F_aa : Fld Z h0 w54 "com/example/stubwright/stubwright/model/BasicType" "integerBits" "I" (.int bits)) (hbits : (0 : Int32) < bits) (hKK : ¬ ((p1 &&& (2147483647 : Int32)) % (17 : Int32)) < 0 ∧ ((p1 &&& (2147483647 : Int32)) % (17 : Int32)) < 17) (hat : ([(.ref w3), (.ref w6), (.ref w9), (.ref w12), (.ref w15), (.ref w18), (.ref w21), (.ref w24), (.ref w27), (.ref w30), (.ref w33), (.ref w36), (.ref w39), (.ref w42), (.ref w45), (.ref w48), (.ref w51)] : List Value).getD ((p1 &&& (2147483647 : Int32)) % (17 : Int32)).toNatClampNeg .null = .ref w54) (hc133 : ¬ (((p1 &&& (2147483647 : Int32)) % (17 : Int32)) < (1 : Int32))) (hc139 : ¬ ((6 : Int32) < ((p1 &&& (2147483647 : Int32)) % (17 : Int32)))) :
    MetFree l x (head1 (Jvm.Cond.code x code maxLocals ret :: ws) room_1) (fun a U => a = #[(.int p1)] ∧ Z.Warmed39 U.vm ∧ U.heap = h0) (fun _ _ _ _ _ => True) (fun _ U o U' => ∃ v L, o = .returned v ∧ Q0_m Z p1 w3 w6 w9 w12 w15 w18 w21 w24 w27 w30 w33 w36 w39 w42 w45 w48 w51 w54 h0 n0 v U'.heap L ∧ FrameEnd U o U' L room_1.cells room_1.slots) := by
  refine MetFree.of_bodySF (plainFor_of_name pn_0) hisR ?_
  intro p e s m args below meth c s₁ Bd hml0 hP hK
  obtain ⟨rfl, hZ, hh⟩ := hP
  have hx := Bd.exec
  have hby := Bd.bytes
  have hml : c.maxLocals = 5 := hml0
  have hown : s.vm.findClass "com/example/stubwright/stubwright/model/BasicTypeIsIntegerPinLaw" = some m.cls := findClass_of_methodNamed Bd.named
  have hnm := (name_of_methodNamed Bd.named Bd.method).1
  have X0 : Stand p l e room_1 s m #[(.int p1)] below meth c s₁ [] 0 0 := Stand.of_body Bd
  have e0 : s₁.heap = h0 := by rw [← hh, Bd.state]; rfl
  have N0 := Fr.nil n0
  have pre0 : ∀ t, Steps p.tables e below (s₁.setTop (mkF m 0 #[.val (.int p1), .unset, .unset, .unset, .unset] [])) t → Steps p.tables e below (s₁.setTop (entryFrame m #[(.int p1)] maxLocals)) t := fun t k => castTop (ef_0 m p1) k
  obtain ⟨T2, h2, k2, X2, e2, E2, A2, O2, st2⟩ := newR X0 hx hZ hown (hw _ (List.mem_of_getElem? (i := 0) rfl)) (hw _ (List.mem_of_getElem? (i := 1) rfl)) e0 (g := (mkF m 2 #[.val (.int p1), .unset, .unset, .unset, .unset] [(.int (17 : Int32))])) rfl (hb hby at_2) rfl (by decide) (cap := 17) (by decide) (by decide) (by decide) (by decide)
  obtain ⟨b2, g2⟩ : ∃ z, z = h0.size := ⟨_, rfl⟩      -- the fresh array's address
  rw [← g2] at A2 st2
  have V2 : Arv Z h2 b2 k2 (.object "com/example/stubwright/stubwright/model/BasicType") (17 : Int32) [.null, .null, .null, .null, .null, .null, .null, .null, .null, .null, .null, .null, .null, .null, .null, .null, .null] .null := (Arv.new A2 (by decide)).pad (pad_rep [] .null 17)
  have g_b2 : n0 ≤ b2 := Nat.le_trans Z0 (Nat.le_of_eq g2.symm)
  have sz_b2 : h0.size ≤ b2 := (Nat.le_trans (Keep.refl h0 []).1 (Nat.le_of_eq g2.symm))
  have K2 : Keep h0 h2 [] := (Keep.refl h0 []).ext E2
  obtain ⟨T4, X4, e4, st4⟩ := getS2 X2 hx hZ hown (host := "") (Or.inl (hw _ (List.mem_of_getElem? (i := 2) rfl))) Via.refl e2 (own_stk K2 S_VOID) (g := (mkF m 7 #[.val (.int p1), .unset, .unset, .unset, .unset] [(.int (0 : Int32)), (.ref b2), (.ref b2)])) rfl (hb hby at_7)
  obtain ⟨cl_10, Ar_10, q_10, S_10, N_10, H_10, G_10⟩ := V2
  have hin10 : ¬ ((0 : Int32) < 0 ∨ cl_10.slots.size ≤ (0 : Int32).toNatClampNeg) := inb_of S_10 ⟨by decide, by decide⟩
  have Sto10 : Sto Z h2 b2 (.ref w3) := Sto.of Ar_10 (q_10.symm ▸ O2) (Ins.self (E_VOID.keep K2))
  obtain ⟨T5, h5, X5, e5, W5, st5⟩ := stR X4 hx hZ e4 Ar_10 (j := (0 : Int32)) hin10 rfl Sto10 (g := (mkF m 10 #[.val (.int p1), .unset, .unset, .unset, .unset] [(.ref w3), (.int (0 : Int32)), (.ref b2), (.ref b2)])) rfl rfl (hb hby at_10)
  have V5 : Arv Z h5 b2 k2 (.object "com/example/stubwright/stubwright/model/BasicType") (17 : Int32) [(.ref w3), .null, .null, .null, .null, .null, .null, .null, .null, .null, .null, .null, .null, .null, .null, .null, .null] .null := Arv.set Ar_10 q_10 S_10 N_10 H_10 G_10 rfl W5 0 rfl (Nat.le_of_ble_eq_true rfl)
  have N5 := Fr.snoc X5 N0 g_b2
  have K5 : Keep h0 h5 [] := K2.wr W5 (Or.inr sz_b2)
  obtain ⟨T7, X7, e7, st7⟩ := getS2 X5 hx hZ hown (host := "") (Or.inl (hw _ (List.mem_of_getElem? (i := 6) rfl))) Via.refl e5 (own_stk K5 S_SHORT) (g := (mkF m 13 #[.val (.int p1), .unset, .unset, .unset, .unset] [(.int (1 : Int32)), (.ref b2), (.ref b2)])) rfl (hb hby at_13)
  obtain ⟨cl_16, Ar_16, q_16, S_16, N_16, H_16, G_16⟩ := V5
  have hin16 : ¬ ((1 : Int32) < 0 ∨ cl_16.slots.size ≤ (1 : Int32).toNatClampNeg) := inb_of S_16 ⟨by decide, by decide⟩
  have Sto16 : Sto Z h5 b2 (.ref w6) := Sto.of Ar_16 (q_16.symm ▸ O2) (Ins.self (E_SHORT.keep K5))
  obtain ⟨T8, h8, X8, e8, W8, st8⟩ := stR X7 hx hZ e7 Ar_16 (j := (1 : Int32)) hin16 rfl Sto16 (g := (mkF m 16 #[.val (.int p1), .unset, .unset, .unset, .unset] [(.ref w6), (.int (1 : Int32)), (.ref b2), (.ref b2)])) rfl rfl (hb hby at_16)
  have V8 : Arv Z h8 b2 k2 (.object "com/example/stubwright/stubwright/model/BasicType") (17 : Int32) [(.ref w3), (.ref w6), .null, .null, .null, .null, .null, .null, .null, .null, .null, .null, .null, .null, .null, .null, .null] .null := Arv.set Ar_16 q_16 S_16 N_16 H_16 G_16 rfl W8 1 rfl (Nat.le_of_ble_eq_true rfl)
  have N8 := Fr.snoc X8 N5 g_b2
  have K8 : Keep h0 h8 [] := K5.wr W8 (Or.inr sz_b2)
  obtain ⟨T10, X10, e10, st10⟩ := getS2 X8 hx hZ hown (host := "") (Or.inl (hw _ (List.mem_of_getElem? (i := 8) rfl))) Via.refl e8 (own_stk K8 S_LONG) (g := (mkF m 19 #[.val (.int p1), .unset, .unset, .unset, .unset] [(.int (2 : Int32)), (.ref b2), (.ref b2)])) rfl (hb hby at_19)
  obtain ⟨cl_22, Ar_22, q_22, S_22, N_22, H_22, G_22⟩ := V8
  have hin22 : ¬ ((2 : Int32) < 0 ∨ cl_22.slots.size ≤ (2 : Int32).toNatClampNeg) := inb_of S_22 ⟨by decide, by decide⟩
  have Sto22 : Sto Z h8 b2 (.ref w9) := Sto.of Ar_22 (q_22.symm ▸ O2) (Ins.self (E_LONG.keep K8))
  obtain ⟨T11, h11, X11, e11, W11, st11⟩ := stR X10 hx hZ e10 Ar_22 (j := (2 : Int32)) hin22 rfl Sto22 (g := (mkF m 22 #[.val (.int p1), .unset, .unset, .unset, .unset] [(.ref w9), (.int (2 : Int32)), (.ref b2), (.ref b2)])) rfl rfl (hb hby at_22)
  have V11 : Arv Z h11 b2 k2 (.object "com/example/stubwright/stubwright/model/BasicType") (17 : Int32) [(.ref w3), (.ref w6), (.ref w9), .null, .null, .null, .null, .null, .null, .null, .null, .null, .null, .null, .null, .null, .null] .null := Arv.set Ar_22 q_22 S_22 N_22 H_22 G_22 rfl W11 2 rfl (Nat.le_of_ble_eq_true rfl)
  have N11 := Fr.snoc X11 N8 g_b2
  have K11 : Keep h0 h11 [] := K8.wr W11 (Or.inr sz_b2)
  obtain ⟨T13, X13, e13, st13⟩ := getS2 X11 hx hZ hown (host := "") (Or.inl (hw _ (List.mem_of_getElem? (i := 10) rfl))) Via.refl e11 (own_stk K11 S_LONG_LONG) (g := (mkF m 25 #[.val (.int p1), .unset, .unset, .unset, .unset] [(.int (3 : Int32)), (.ref b2), (.ref b2)])) rfl (hb hby at_25)
  obtain ⟨cl_28, Ar_28, q_28, S_28, N_28, H_28, G_28⟩ := V11
  have hin28 : ¬ ((3 : Int32) < 0 ∨ cl_28.slots.size ≤ (3 : Int32).toNatClampNeg) := inb_of S_28 ⟨by decide, by decide⟩
  have Sto28 : Sto Z h11 b2 (.ref w12) := Sto.of Ar_28 (q_28.symm ▸ O2) (Ins.self (E_LONG_LONG.keep K11))
  obtain ⟨T14, h14, X14, e14, W14, st14⟩ := stR X13 hx hZ e13 Ar_28 (j := (3 : Int32)) hin28 rfl Sto28 (g := (mkF m 28 #[.val (.int p1), .unset, .unset, .unset, .unset] [(.ref w12), (.int (3 : Int32)), (.ref b2), (.ref b2)])) rfl rfl (hb hby at_28)
  have V14 : Arv Z h14 b2 k2 (.object "com/example/stubwright/stubwright/model/BasicType") (17 : Int32) [(.ref w3), (.ref w6), (.ref w9), (.ref w12), .null, .null, .null, .null, .null, .null, .null, .null, .null, .null, .null, .null, .null] .null := Arv.set Ar_28 q_28 S_28 N_28 H_28 G_28 rfl W14 3 rfl (Nat.le_of_ble_eq_true rfl)
  have N14 := Fr.snoc X14 N11 g_b2
  have K14 : Keep h0 h14 [] := K11.wr W14 (Or.inr sz_b2)
  obtain ⟨T16, X16, e16, st16⟩ := getS2 X14 hx hZ hown (host := "") (Or.inl (hw _ (List.mem_of_getElem? (i := 12) rfl))) Via.refl e14 (own_stk K14 S_UNSIGNED_SHORT) (g := (mkF m 31 #[.val (.int p1), .unset, .unset, .unset, .unset] [(.int (4 : Int32)), (.ref b2), (.ref b2)])) rfl (hb hby at_31)
  obtain ⟨cl_34, Ar_34, q_34, S_34, N_34, H_34, G_34⟩ := V14
  have hin34 : ¬ ((4 : Int32) < 0 ∨ cl_34.slots.size ≤ (4 : Int32).toNatClampNeg) := inb_of S_34 ⟨by decide, by decide⟩
  have Sto34 : Sto Z h14 b2 (.ref w15) := Sto.of Ar_34 (q_34.symm ▸ O2) (Ins.self (E_UNSIGNED_SHORT.keep K14))
  obtain ⟨T17, h17, X17, e17, W17, st17⟩ := stR X16 hx hZ e16 Ar_34 (j := (4 : Int32)) hin34 rfl Sto34 (g := (mkF m 34 #[.val (.int p1), .unset, .unset, .unset, .unset] [(.ref w15), (.int (4 : Int32)), (.ref b2), (.ref b2)])) rfl rfl (hb hby at_34)
  have V17 : Arv Z h17 b2 k2 (.object "com/example/stubwright/stubwright/model/BasicType") (17 : Int32) [(.ref w3), (.ref w6), (.ref w9), (.ref w12), (.ref w15), .null, .null, .null, .null, .null, .null, .null, .null, .null, .null, .null, .null] .null := Arv.set Ar_34 q_34 S_34 N_34 H_34 G_34 rfl W17 4 rfl (Nat.le_of_ble_eq_true rfl)
  have N17 := Fr.snoc X17 N14 g_b2
  have K17 : Keep h0 h17 [] := K14.wr W17 (Or.inr sz_b2)
  obtain ⟨T19, X19, e19, st19⟩ := getS2 X17 hx hZ hown (host := "") (Or.inl (hw _ (List.mem_of_getElem? (i := 14) rfl))) Via.refl e17 (own_stk K17 S_UNSIGNED_LONG) (g := (mkF m 37 #[.val (.int p1), .unset, .unset, .unset, .unset] [(.int (5 : Int32)), (.ref b2), (.ref b2)])) rfl (hb hby at_37)
  obtain ⟨cl_40, Ar_40, q_40, S_40, N_40, H_40, G_40⟩ := V17
  have hin40 : ¬ ((5 : Int32) < 0 ∨ cl_40.slots.size ≤ (5 : Int32).toNatClampNeg) := inb_of S_40 ⟨by decide, by decide⟩
  have Sto40 : Sto Z h17 b2 (.ref w18) := Sto.of Ar_40 (q_40.symm ▸ O2) (Ins.self (E_UNSIGNED_LONG.keep K17))
  obtain ⟨T20, h20, X20, e20, W20, st20⟩ := stR X19 hx hZ e19 Ar_40 (j := (5 : Int32)) hin40 rfl Sto40 (g := (mkF m 40 #[.val (.int p1), .unset, .unset, .unset, .unset] [(.ref w18), (.int (5 : Int32)), (.ref b2), (.ref b2)])) rfl rfl (hb hby at_40)
  have V20 : Arv Z h20 b2 k2 (.object "com/example/stubwright/stubwright/model/BasicType") (17 : Int32) [(.ref w3), (.ref w6), (.ref w9), (.ref w12), (.ref w15), (.ref w18), .null, .null, .null, .null, .null, .null, .null, .null, .null, .null, .null] .null := Arv.set Ar_40 q_40 S_40 N_40 H_40 G_40 rfl W20 5 rfl (Nat.le_of_ble_eq_true rfl)
  have N20 := Fr.snoc X20 N17 g_b2
  have K20 : Keep h0 h20 [] := K17.wr W20 (Or.inr sz_b2)
  obtain ⟨T22, X22, e22, st22⟩ := getS2 X20 hx hZ hown (host := "") (Or.inl (hw _ (List.mem_of_getElem? (i := 16) rfl))) Via.refl e20 (own_stk K20 S_UNSIGNED_LONG_LONG) (g := (mkF m 44 #[.val (.int p1), .unset, .unset, .unset, .unset] [(.int (6 : Int32)), (.ref b2), (.ref b2)])) rfl (hb hby at_44)
  obtain ⟨cl_47, Ar_47, q_47, S_47, N_47, H_47, G_47⟩ := V20
  have hin47 : ¬ ((6 : Int32) < 0 ∨ cl_47.slots.size ≤ (6 : Int32).toNatClampNeg) := inb_of S_47 ⟨by decide, by decide⟩
  have Sto47 : Sto Z h20 b2 (.ref w21) := Sto.of Ar_47 (q_47.symm ▸ O2) (Ins.self (E_UNSIGNED_LONG_LONG.keep K20))
  obtain ⟨T23, h23, X23, e23, W23, st23⟩ := stR X22 hx hZ e22 Ar_47 (j := (6 : Int32)) hin47 rfl Sto47 (g := (mkF m 47 #[.val (.int p1), .unset, .unset, .unset, .unset] [(.ref w21), (.int (6 : Int32)), (.ref b2), (.ref b2)])) rfl rfl (hb hby at_47)
  have V23 : Arv Z h23 b2 k2 (.object "com/example/stubwright/stubwright/model/BasicType") (17 : Int32) [(.ref w3), (.ref w6), (.ref w9), (.ref w12), (.ref w15), (.ref w18), (.ref w21), .null, .null, .null, .null, .null, .null, .null, .null, .null, .null] .null := Arv.set Ar_47 q_47 S_47 N_47 H_47 G_47 rfl W23 6 rfl (Nat.le_of_ble_eq_true rfl)
  have N23 := Fr.snoc X23 N20 g_b2
  have K23 : Keep h0 h23 [] := K20.wr W23 (Or.inr sz_b2)
  obtain ⟨T25, X25, e25, st25⟩ := getS2 X23 hx hZ hown (host := "") (Or.inl (hw _ (List.mem_of_getElem? (i := 18) rfl))) Via.refl e23 (own_stk K23 S_FLOAT) (g := (mkF m 51 #[.val (.int p1), .unset, .unset, .unset, .unset] [(.int (7 : Int32)), (.ref b2), (.ref b2)])) rfl (hb hby at_51)
  obtain ⟨cl_54, Ar_54, q_54, S_54, N_54, H_54, G_54⟩ := V23
  have hin54 : ¬ ((7 : Int32) < 0 ∨ cl_54.slots.size ≤ (7 : Int32).toNatClampNeg) := inb_of S_54 ⟨by decide, by decide⟩
  have Sto54 : Sto Z h23 b2 (.ref w24) := Sto.of Ar_54 (q_54.symm ▸ O2) (Ins.self (E_FLOAT.keep K23))
  obtain ⟨T26, h26, X26, e26, W26, st26⟩ := stR X25 hx hZ e25 Ar_54 (j := (7 : Int32)) hin54 rfl Sto54 (g := (mkF m 54 #[.val (.int p1), .unset, .unset, .unset, .unset] [(.ref w24), (.int (7 : Int32)), (.ref b2), (.ref b2)])) rfl rfl (hb hby at_54)
  have V26 : Arv Z h26 b2 k2 (.object "com/example/stubwright/stubwright/model/BasicType") (17 : Int32) [(.ref w3), (.ref w6), (.ref w9), (.ref w12), (.ref w15), (.ref w18), (.ref w21), (.ref w24), .null, .null, .null, .null, .null, .null, .null, .null, .null] .null := Arv.set Ar_54 q_54 S_54 N_54 H_54 G_54 rfl W26 7 rfl (Nat.le_of_ble_eq_true rfl)
  have N26 := Fr.snoc X26 N23 g_b2
  have K26 : Keep h0 h26 [] := K23.wr W26 (Or.inr sz_b2)
  obtain ⟨T28, X28, e28, st28⟩ := getS2 X26 hx hZ hown (host := "") (Or.inl (hw _ (List.mem_of_getElem? (i := 20) rfl))) Via.refl e26 (own_stk K26 S_DOUBLE) (g := (mkF m 58 #[.val (.int p1), .unset, .unset, .unset, .unset] [(.int (8 : Int32)), (.ref b2), (.ref b2)])) rfl (hb hby at_58)
  obtain ⟨cl_61, Ar_61, q_61, S_61, N_61, H_61, G_61⟩ := V26
  have hin61 : ¬ ((8 : Int32) < 0 ∨ cl_61.slots.size ≤ (8 : Int32).toNatClampNeg) := inb_of S_61 ⟨by decide, by decide⟩
  have Sto61 : Sto Z h26 b2 (.ref w27) := Sto.of Ar_61 (q_61.symm ▸ O2) (Ins.self (E_DOUBLE.keep K26))
  obtain ⟨T29, h29, X29, e29, W29, st29⟩ := stR X28 hx hZ e28 Ar_61 (j := (8 : Int32)) hin61 rfl Sto61 (g := (mkF m 61 #[.val (.int p1), .unset, .unset, .unset, .unset] [(.ref w27), (.int (8 : Int32)), (.ref b2), (.ref b2)])) rfl rfl (hb hby at_61)
  have V29 : Arv Z h29 b2 k2 (.object "com/example/stubwright/stubwright/model/BasicType") (17 : Int32) [(.ref w3), (.ref w6), (.ref w9), (.ref w12), (.ref w15), (.ref w18), (.ref w21), (.ref w24), (.ref w27), .null, .null, .null, .null, .null, .null, .null, .null] .null := Arv.set Ar_61 q_61 S_61 N_61 H_61 G_61 rfl W29 8 rfl (Nat.le_of_ble_eq_true rfl)
  have N29 := Fr.snoc X29 N26 g_b2
  have K29 : Keep h0 h29 [] := K26.wr W29 (Or.inr sz_b2)
  obtain ⟨T31, X31, e31, st31⟩ := getS2 X29 hx hZ hown (host := "") (Or.inl (hw _ (List.mem_of_getElem? (i := 22) rfl))) Via.refl e29 (own_stk K29 S_CHAR) (g := (mkF m 65 #[.val (.int p1), .unset, .unset, .unset, .unset] [(.int (9 : Int32)), (.ref b2), (.ref b2)])) rfl (hb hby at_65)
  obtain ⟨cl_68, Ar_68, q_68, S_68, N_68, H_68, G_68⟩ := V29
  have hin68 : ¬ ((9 : Int32) < 0 ∨ cl_68.slots.size ≤ (9 : Int32).toNatClampNeg) := inb_of S_68 ⟨by decide, by decide⟩
  have Sto68 : Sto Z h29 b2 (.ref w30) := Sto.of Ar_68 (q_68.symm ▸ O2) (Ins.self (E_CHAR.keep K29))
  obtain ⟨T32, h32, X32, e32, W32, st32⟩ := stR X31 hx hZ e31 Ar_68 (j := (9 : Int32)) hin68 rfl Sto68 (g := (mkF m 68 #[.val (.int p1), .unset, .unset, .unset, .unset] [(.ref w30), (.int (9 : Int32)), (.ref b2), (.ref b2)])) rfl rfl (hb hby at_68)
  have V32 : Arv Z h32 b2 k2 (.object "com/example/stubwright/stubwright/model/BasicType") (17 : Int32) [(.ref w3), (.ref w6), (.ref w9), (.ref w12), (.ref w15), (.ref w18), (.ref w21), (.ref w24), (.ref w27), (.ref w30), .null, .null, .null, .null, .null, .null, .null] .null := Arv.set Ar_68 q_68 S_68 N_68 H_68 G_68 rfl W32 9 rfl (Nat.le_of_ble_eq_true rfl)
  have N32 := Fr.snoc X32 N29 g_b2
  have K32 : Keep h0 h32 [] := K29.wr W32 (Or.inr sz_b2)
  obtain ⟨T34, X34, e34, st34⟩ := getS2 X32 hx hZ hown (host := "") (Or.inl (hw _ (List.mem_of_getElem? (i := 24) rfl))) Via.refl e32 (own_stk K32 S_WCHAR) (g := (mkF m 72 #[.val (.int p1), .unset, .unset, .unset, .unset] [(.int (10 : Int32)), (.ref b2), (.ref b2)])) rfl (hb hby at_72)
  obtain ⟨cl_75, Ar_75, q_75, S_75, N_75, H_75, G_75⟩ := V32
  have hin75 : ¬ ((10 : Int32) < 0 ∨ cl_75.slots.size ≤ (10 : Int32).toNatClampNeg) := inb_of S_75 ⟨by decide, by decide⟩
  have Sto75 : Sto Z h32 b2 (.ref w33) := Sto.of Ar_75 (q_75.symm ▸ O2) (Ins.self (E_WCHAR.keep K32))
  obtain ⟨T35, h35, X35, e35, W35, st35⟩ := stR X34 hx hZ e34 Ar_75 (j := (10 : Int32)) hin75 rfl Sto75 (g := (mkF m 75 #[.val (.int p1), .unset, .unset, .unset, .unset] [(.ref w33), (.int (10 : Int32)), (.ref b2), (.ref b2)])) rfl rfl (hb hby at_75)
  have V35 : Arv Z h35 b2 k2 (.object "com/example/stubwright/stubwright/model/BasicType") (17 : Int32) [(.ref w3), (.ref w6), (.ref w9), (.ref w12), (.ref w15), (.ref w18), (.ref w21), (.ref w24), (.ref w27), (.ref w30), (.ref w33), .null, .null, .null, .null, .null, .null] .null := Arv.set Ar_75 q_75 S_75 N_75 H_75 G_75 rfl W35 10 rfl (Nat.le_of_ble_eq_true rfl)
  have N35 := Fr.snoc X35 N32 g_b2
  have K35 : Keep h0 h35 [] := K32.wr W35 (Or.inr sz_b2)
  obtain ⟨T37, X37, e37, st37⟩ := getS2 X35 hx hZ hown (host := "") (Or.inl (hw _ (List.mem_of_getElem? (i := 26) rfl))) Via.refl e35 (own_stk K35 S_BOOLEAN) (g := (mkF m 79 #[.val (.int p1), .unset, .unset, .unset, .unset] [(.int (11 : Int32)), (.ref b2), (.ref b2)])) rfl (hb hby at_79)
  obtain ⟨cl_82, Ar_82, q_82, S_82, N_82, H_82, G_82⟩ := V35
  have hin82 : ¬ ((11 : Int32) < 0 ∨ cl_82.slots.size ≤ (11 : Int32).toNatClampNeg) := inb_of S_82 ⟨by decide, by decide⟩
  have Sto82 : Sto Z h35 b2 (.ref w36) := Sto.of Ar_82 (q_82.symm ▸ O2) (Ins.self (E_BOOLEAN.keep K35))
  obtain ⟨T38, h38, X38, e38, W38, st38⟩ := stR X37 hx hZ e37 Ar_82 (j := (11 : Int32)) hin82 rfl Sto82 (g := (mkF m 82 #[.val (.int p1), .unset, .unset, .unset, .unset] [(.ref w36), (.int (11 : Int32)), (.ref b2), (.ref b2)])) rfl rfl (hb hby at_82)
  have V38 : Arv Z h38 b2 k2 (.object "com/example/stubwright/stubwright/model/BasicType") (17 : Int32) [(.ref w3), (.ref w6), (.ref w9), (.ref w12), (.ref w15), (.ref w18), (.ref w21), (.ref w24), (.ref w27), (.ref w30), (.ref w33), (.ref w36), .null, .null, .null, .null, .null] .null := Arv.set Ar_82 q_82 S_82 N_82 H_82 G_82 rfl W38 11 rfl (Nat.le_of_ble_eq_true rfl)
  have N38 := Fr.snoc X38 N35 g_b2
  have K38 : Keep h0 h38 [] := K35.wr W38 (Or.inr sz_b2)
  obtain ⟨T40, X40, e40, st40⟩ := getS2 X38 hx hZ hown (host := "") (Or.inl (hw _ (List.mem_of_getElem? (i := 28) rfl))) Via.refl e38 (own_stk K38 S_OCTET) (g := (mkF m 86 #[.val (.int p1), .unset, .unset, .unset, .unset] [(.int (12 : Int32)), (.ref b2), (.ref b2)])) rfl (hb hby at_86)
  obtain ⟨cl_89, Ar_89, q_89, S_89, N_89, H_89, G_89⟩ := V38
  have hin89 : ¬ ((12 : Int32) < 0 ∨ cl_89.slots.size ≤ (12 : Int32).toNatClampNeg) := inb_of S_89 ⟨by decide, by decide⟩
  have Sto89 : Sto Z h38 b2 (.ref w39) := Sto.of Ar_89 (q_89.symm ▸ O2) (Ins.self (E_OCTET.keep K38))
  obtain ⟨T41, h41, X41, e41, W41, st41⟩ := stR X40 hx hZ e40 Ar_89 (j := (12 : Int32)) hin89 rfl Sto89 (g := (mkF m 89 #[.val (.int p1), .unset, .unset, .unset, .unset] [(.ref w39), (.int (12 : Int32)), (.ref b2), (.ref b2)])) rfl rfl (hb hby at_89)
  have V41 : Arv Z h41 b2 k2 (.object "com/example/stubwright/stubwright/model/BasicType") (17 : Int32) [(.ref w3), (.ref w6), (.ref w9), (.ref w12), (.ref w15), (.ref w18), (.ref w21), (.ref w24), (.ref w27), (.ref w30), (.ref w33), (.ref w36), (.ref w39), .null, .null, .null, .null] .null := Arv.set Ar_89 q_89 S_89 N_89 H_89 G_89 rfl W41 12 rfl (Nat.le_of_ble_eq_true rfl)
  have N41 := Fr.snoc X41 N38 g_b2
  have K41 : Keep h0 h41 [] := K38.wr W41 (Or.inr sz_b2)
  obtain ⟨T43, X43, e43, st43⟩ := getS2 X41 hx hZ hown (host := "") (Or.inl (hw _ (List.mem_of_getElem? (i := 30) rfl))) Via.refl e41 (own_stk K41 S_ANY) (g := (mkF m 93 #[.val (.int p1), .unset, .unset, .unset, .unset] [(.int (13 : Int32)), (.ref b2), (.ref b2)])) rfl (hb hby at_93)
  obtain ⟨cl_96, Ar_96, q_96, S_96, N_96, H_96, G_96⟩ := V41
  have hin96 : ¬ ((13 : Int32) < 0 ∨ cl_96.slots.size ≤ (13 : Int32).toNatClampNeg) := inb_of S_96 ⟨by decide, by decide⟩
  have Sto96 : Sto Z h41 b2 (.ref w42) := Sto.of Ar_96 (q_96.symm ▸ O2) (Ins.self (E_ANY.keep K41))
  obtain ⟨T44, h44, X44, e44, W44, st44⟩ := stR X43 hx hZ e43 Ar_96 (j := (13 : Int32)) hin96 rfl Sto96 (g := (mkF m 96 #[.val (.int p1), .unset, .unset, .unset, .unset] [(.ref w42), (.int (13 : Int32)), (.ref b2), (.ref b2)])) rfl rfl (hb hby at_96)
  have V44 : Arv Z h44 b2 k2 (.object "com/example/stubwright/stubwright/model/BasicType") (17 : Int32) [(.ref w3), (.ref w6), (.ref w9), (.ref w12), (.ref w15), (.ref w18), (.ref w21), (.ref w24), (.ref w27), (.ref w30), (.ref w33), (.ref w36), (.ref w39), (.ref w42), .null, .null, .null] .null := Arv.set Ar_96 q_96 S_96 N_96 H_96 G_96 rfl W44 13 rfl (Nat.le_of_ble_eq_true rfl)
  have N44 := Fr.snoc X44 N41 g_b2
  have K44 : Keep h0 h44 [] := K41.wr W44 (Or.inr sz_b2)
  obtain ⟨T46, X46, e46, st46⟩ := getS2 X44 hx hZ hown (host := "") (Or.inl (hw _ (List.mem_of_getElem? (i := 32) rfl))) Via.refl e44 (own_stk K44 S_STRING) (g := (mkF m 100 #[.val (.int p1), .unset, .unset, .unset, .unset] [(.int (14 : Int32)), (.ref b2), (.ref b2)])) rfl (hb hby at_100)
  obtain ⟨cl_103, Ar_103, q_103, S_103, N_103, H_103, G_103⟩ := V44
  have hin103 : ¬ ((14 : Int32) < 0 ∨ cl_103.slots.size ≤ (14 : Int32).toNatClampNeg) := inb_of S_103 ⟨by decide, by decide⟩
  have Sto103 : Sto Z h44 b2 (.ref w45) := Sto.of Ar_103 (q_103.symm ▸ O2) (Ins.self (E_STRING.keep K44))
  obtain ⟨T47, h47, X47, e47, W47, st47⟩ := stR X46 hx hZ e46 Ar_103 (j := (14 : Int32)) hin103 rfl Sto103 (g := (mkF m 103 #[.val (.int p1), .unset, .unset, .unset, .unset] [(.ref w45), (.int (14 : Int32)), (.ref b2), (.ref b2)])) rfl rfl (hb hby at_103)
  have V47 : Arv Z h47 b2 k2 (.object "com/example/stubwright/stubwright/model/BasicType") (17 : Int32) [(.ref w3), (.ref w6), (.ref w9), (.ref w12), (.ref w15), (.ref w18), (.ref w21), (.ref w24), (.ref w27), (.ref w30), (.ref w33), (.ref w36), (.ref w39), (.ref w42), (.ref w45), .null, .null] .null := Arv.set Ar_103 q_103 S_103 N_103 H_103 G_103 rfl W47 14 rfl (Nat.le_of_ble_eq_true rfl)
  have N47 := Fr.snoc X47 N44 g_b2
  have K47 : Keep h0 h47 [] := K44.wr W47 (Or.inr sz_b2)
  obtain ⟨T49, X49, e49, st49⟩ := getS2 X47 hx hZ hown (host := "") (Or.inl (hw _ (List.mem_of_getElem? (i := 34) rfl))) Via.refl e47 (own_stk K47 S_WSTRING) (g := (mkF m 107 #[.val (.int p1), .unset, .unset, .unset, .unset] [(.int (15 : Int32)), (.ref b2), (.ref b2)])) rfl (hb hby at_107)
  obtain ⟨cl_110, Ar_110, q_110, S_110, N_110, H_110, G_110⟩ := V47
  have hin110 : ¬ ((15 : Int32) < 0 ∨ cl_110.slots.size ≤ (15 : Int32).toNatClampNeg) := inb_of S_110 ⟨by decide, by decide⟩
  have Sto110 : Sto Z h47 b2 (.ref w48) := Sto.of Ar_110 (q_110.symm ▸ O2) (Ins.self (E_WSTRING.keep K47))
  obtain ⟨T50, h50, X50, e50, W50, st50⟩ := stR X49 hx hZ e49 Ar_110 (j := (15 : Int32)) hin110 rfl Sto110 (g := (mkF m 110 #[.val (.int p1), .unset, .unset, .unset, .unset] [(.ref w48), (.int (15 : Int32)), (.ref b2), (.ref b2)])) rfl rfl (hb hby at_110)
  have V50 : Arv Z h50 b2 k2 (.object "com/example/stubwright/stubwright/model/BasicType") (17 : Int32) [(.ref w3), (.ref w6), (.ref w9), (.ref w12), (.ref w15), (.ref w18), (.ref w21), (.ref w24), (.ref w27), (.ref w30), (.ref w33), (.ref w36), (.ref w39), (.ref w42), (.ref w45), (.ref w48), .null] .null := Arv.set Ar_110 q_110 S_110 N_110 H_110 G_110 rfl W50 15 rfl (Nat.le_of_ble_eq_true rfl)
  have N50 := Fr.snoc X50 N47 g_b2
  have K50 : Keep h0 h50 [] := K47.wr W50 (Or.inr sz_b2)
  obtain ⟨T52, X52, e52, st52⟩ := getS2 X50 hx hZ hown (host := "") (Or.inl (hw _ (List.mem_of_getElem? (i := 36) rfl))) Via.refl e50 (own_stk K50 S_OBJECT) (g := (mkF m 114 #[.val (.int p1), .unset, .unset, .unset, .unset] [(.int (16 : Int32)), (.ref b2), (.ref b2)])) rfl (hb hby at_114)
  obtain ⟨cl_117, Ar_117, q_117, S_117, N_117, H_117, G_117⟩ := V50
  have hin117 : ¬ ((16 : Int32) < 0 ∨ cl_117.slots.size ≤ (16 : Int32).toNatClampNeg) := inb_of S_117 ⟨by decide, by decide⟩
  have Sto117 : Sto Z h50 b2 (.ref w51) := Sto.of Ar_117 (q_117.symm ▸ O2) (Ins.self (E_OBJECT.keep K50))
  obtain ⟨T53, h53, X53, e53, W53, st53⟩ := stR X52 hx hZ e52 Ar_117 (j := (16 : Int32)) hin117 rfl Sto117 (g := (mkF m 117 #[.val (.int p1), .unset, .unset, .unset, .unset] [(.ref w51), (.int (16 : Int32)), (.ref b2), (.ref b2)])) rfl rfl (hb hby at_117)
  have V53 : Arv Z h53 b2 k2 (.object "com/example/stubwright/stubwright/model/BasicType") (17 : Int32) [(.ref w3), (.ref w6), (.ref w9), (.ref w12), (.ref w15), (.ref w18), (.ref w21), (.ref w24), (.ref w27), (.ref w30), (.ref w33), (.ref w36), (.ref w39), (.ref w42), (.ref w45), (.ref w48), (.ref w51)] .null := Arv.set Ar_117 q_117 S_117 N_117 H_117 G_117 rfl W53 16 rfl (Nat.le_of_ble_eq_true rfl)
  have N53 := Fr.snoc X53 N50 g_b2
  have K53 : Keep h0 h53 [] := K50.wr W53 (Or.inr sz_b2)
  obtain ⟨cl_b, Ar_b2, q_b, S_b, N_b, H_b, G_b⟩ := V53
  have hin129 : ¬ (((p1 &&& (2147483647 : Int32)) % (17 : Int32)) < 0 ∨ cl_b.slots.size ≤ ((p1 &&& (2147483647 : Int32)) % (17 : Int32)).toNatClampNeg) := inb_of S_b hKK
  have hat129 : cl_b.slots[((p1 &&& (2147483647 : Int32)) % (17 : Int32)).toNatClampNeg]? = some (.ref w54) := by rw [H_b _ (Nat.lt_of_not_le fun q => hin129 (Or.inr q)), hat]
  obtain ⟨cq55, kq55, q55a, q55b, q55c⟩ := isOf hZ e53 (E_w54.keep K53)
  obtain ⟨_, _, ⟨T55, L55, k55, n55⟩, -, X55, ⟨Lc55, hQ55, l55, y55, z55⟩, st55⟩ := X53.virtualBack hx (y := (⟨"com/example/stubwright/stubwright/model/BasicType", "isInteger", "()Z"⟩ : MethodName)) (z := (⟨"com/example/stubwright/stubwright/model/BasicType", "isInteger", "()Z"⟩ : MethodName)) hown (mvT hZ (hw _ (List.mem_of_getElem? (i := 39) rfl))) (mvT hZ (hw _ (List.mem_of_getElem? (i := 40) rfl))) (notFace_of_selects (args := #[]) (mvT hZ (hw _ (List.mem_of_getElem? (i := 42) rfl)))) (mvT hZ (hw _ (List.mem_of_getElem? (i := 42) rfl))) (mvT hZ (hw _ (List.mem_of_getElem? (i := 41) rfl))) (by decide) (backOf (W := 0) (rm1_1 l Z a0 hw [] w54 bits h53 n0 (Nat.le_trans Z0 K53.1) (F_aa.keep K53 nin0) hbits) hZ (hw _ (List.mem_of_getElem? (i := 43) rfl)) (hw _ (List.mem_of_getElem? (i := 3) rfl)) (by decide) (by decide)) q55a q55c (g := (mkF m 150 #[.val (.int p1), .val (.ref b2), .val (.int ((p1 &&& (2147483647 : Int32)) % (17 : Int32))), .val (.ref w54), .val (.int (1 : Int32))] [(.ref w54)])) rfl (by rw [hml]; rfl) (Steps.refl _) (argsL := []) (rest := []) (lenOf pd_0_0 rfl) rfl (by show 2 * 0 + _ ≤ _; exact Nat.le_of_eq rfl) (hb hby at_150) (fun _ _ => ⟨rfl, e53, (by decide : 1 + 0 ≤ _), (by decide : 17 + 0 ≤ _)⟩)
  dsimp only [Pt.U, Pt.locs, Pt.cells, Pt.slots] at X55 l55 y55 z55 st55 hQ55
  subst l55 y55 z55
  obtain ⟨rfl, N55q, hE55⟩ := hQ55      -- what it returned, that it wrote nothing old, and the rest of your Q1
  have N55 := Fr.app N53 N55q
  obtain ⟨fs, hr, hrun, hended, hW, hsame⟩ := X55.leave (v := some (.int (1 : Int32))) (fun h => by rw [Bd.returns] at h; cases h)
  refine ⟨_, _, pre0 _ ?_, hrun, hended, _, _, rfl, ?_, ⟨_, rfl⟩, hW, hsame.mono (by decide) (by decide)⟩
  · show Steps p.tables e below (s₁.setTop (mkF m 0 #[.val (.int p1), .unset, .unset, .unset, .unset] [])) _
    refine XS.bipush X0.here hx rfl (hb hby at_0) ?_
    show Steps p.tables e below (s₁.setTop (mkF m 2 #[.val (.int p1), .unset, .unset, .unset, .unset] [(.int (17 : Int32))])) _
    refine st2 _ ?_
    show Steps p.tables e below (T2.setTop (mkF m 5 #[.val (.int p1), .unset, .unset, .unset, .unset] [(.ref b2)])) _
    refine XS.dup X2.here hx rfl (hb hby at_5) rfl rfl ?_
    show Steps p.tables e below (T2.setTop (mkF m 6 #[.val (.int p1), .unset, .unset, .unset, .unset] [(.ref b2), (.ref b2)])) _
    refine XS.iconst X2.here hx rfl (hb hby at_6) ?_
    show Steps p.tables e below (T2.setTop (mkF m 7 #[.val (.int p1), .unset, .unset, .unset, .unset] [(.int (0 : Int32)), (.ref b2), (.ref b2)])) _
    refine st4 _ ?_
    show Steps p.tables e below (T4.setTop (mkF m 10 #[.val (.int p1), .unset, .unset, .unset, .unset] [(.ref w3), (.int (0 : Int32)), (.ref b2), (.ref b2)])) _
    refine st5 _ ?_
    show Steps p.tables e below (T5.setTop (mkF m 11 #[.val (.int p1), .unset, .unset, .unset, .unset] [(.ref b2)])) _
    refine XS.dup X5.here hx rfl (hb hby at_11) rfl rfl ?_
    show Steps p.tables e below (T5.setTop (mkF m 12 #[.val (.int p1), .unset, .unset, .unset, .unset] [(.ref b2), (.ref b2)])) _
    refine XS.iconst X5.here hx rfl (hb hby at_12) ?_
    show Steps p.tables e below (T5.setTop (mkF m 13 #[.val (.int p1), .unset, .unset, .unset, .unset] [(.int (1 : Int32)), (.ref b2), (.ref b2)])) _
    refine st7 _ ?_
    show Steps p.tables e below (T7.setTop (mkF m 16 #[.val (.int p1), .unset, .unset, .unset, .unset] [(.ref w6), (.int (1 : Int32)), (.ref b2), (.ref b2)])) _
    refine st8 _ ?_
    show Steps p.tables e below (T8.setTop (mkF m 17 #[.val (.int p1), .unset, .unset, .unset, .unset] [(.ref b2)])) _
    refine XS.dup X8.here hx rfl (hb hby at_17) rfl rfl ?_
    show Steps p.tables e below (T8.setTop (mkF m 18 #[.val (.int p1), .unset, .unset, .unset, .unset] [(.ref b2), (.ref b2)])) _
    refine XS.iconst X8.here hx rfl (hb hby at_18) ?_
    show Steps p.tables e below (T8.setTop (mkF m 19 #[.val (.int p1), .unset, .unset, .unset, .unset] [(.int (2 : Int32)), (.ref b2), (.ref b2)])) _
    refine st10 _ ?_
    show Steps p.tables e below (T10.setTop (mkF m 22 #[.val (.int p1), .unset, .unset, .unset, .unset] [(.ref w9), (.int (2 : Int32)), (.ref b2), (.ref b2)])) _
    refine st11 _ ?_
    show Steps p.tables e below (T11.setTop (mkF m 23 #[.val (.int p1), .unset, .unset, .unset, .unset] [(.ref b2)])) _
    refine XS.dup X11.here hx rfl (hb hby at_23) rfl rfl ?_
    show Steps p.tables e below (T11.setTop (mkF m 24 #[.val (.int p1), .unset, .unset, .unset, .unset] [(.ref b2), (.ref b2)])) _
    refine XS.iconst X11.here hx rfl (hb hby at_24) ?_
    show Steps p.tables e below (T11.setTop (mkF m 25 #[.val (.int p1), .unset, .unset, .unset, .unset] [(.int (3 : Int32)), (.ref b2), (.ref b2)])) _
    refine st13 _ ?_
    show Steps p.tables e below (T13.setTop (mkF m 28 #[.val (.int p1), .unset, .unset, .unset, .unset] [(.ref w12), (.int (3 : Int32)), (.ref b2), (.ref b2)])) _
    refine st14 _ ?_
    show Steps p.tables e below (T14.setTop (mkF m 29 #[.val (.int p1), .unset, .unset, .unset, .unset] [(.ref b2)])) _
    refine XS.dup X14.here hx rfl (hb hby at_29) rfl rfl ?_
    show Steps p.tables e below (T14.setTop (mkF m 30 #[.val (.int p1), .unset, .unset, .unset, .unset] [(.ref b2), (.ref b2)])) _
    refine XS.iconst X14.here hx rfl (hb hby at_30) ?_
    show Steps p.tables e below (T14.setTop (mkF m 31 #[.val (.int p1), .unset, .unset, .unset, .unset] [(.int (4 : Int32)), (.ref b2), (.ref b2)])) _
    refine st16 _ ?_
    show Steps p.tables e below (T16.setTop (mkF m 34 #[.val (.int p1), .unset, .unset, .unset, .unset] [(.ref w15), (.int (4 : Int32)), (.ref b2), (.ref b2)])) _
    refine st17 _ ?_
    show Steps p.tables e below (T17.setTop (mkF m 35 #[.val (.int p1), .unset, .unset, .unset, .unset] [(.ref b2)])) _
    refine XS.dup X17.here hx rfl (hb hby at_35) rfl rfl ?_
    show Steps p.tables e below (T17.setTop (mkF m 36 #[.val (.int p1), .unset, .unset, .unset, .unset] [(.ref b2), (.ref b2)])) _
    refine XS.iconst X17.here hx rfl (hb hby at_36) ?_
    show Steps p.tables e below (T17.setTop (mkF m 37 #[.val (.int p1), .unset, .unset, .unset, .unset] [(.int (5 : Int32)), (.ref b2), (.ref b2)])) _
    refine st19 _ ?_
    show Steps p.tables e below (T19.setTop (mkF m 40 #[.val (.int p1), .unset, .unset, .unset, .unset] [(.ref w18), (.int (5 : Int32)), (.ref b2), (.ref b2)])) _
    refine st20 _ ?_
    show Steps p.tables e below (T20.setTop (mkF m 41 #[.val (.int p1), .unset, .unset, .unset, .unset] [(.ref b2)])) _
    refine XS.dup X20.here hx rfl (hb hby at_41) rfl rfl ?_
    show Steps p.tables e below (T20.setTop (mkF m 42 #[.val (.int p1), .unset, .unset, .unset, .unset] [(.ref b2), (.ref b2)])) _
    refine XS.bipush X20.here hx rfl (hb hby at_42) ?_
    show Steps p.tables e below (T20.setTop (mkF m 44 #[.val (.int p1), .unset, .unset, .unset, .unset] [(.int (6 : Int32)), (.ref b2), (.ref b2)])) _
    refine st22 _ ?_
    show Steps p.tables e below (T22.setTop (mkF m 47 #[.val (.int p1), .unset, .unset, .unset, .unset] [(.ref w21), (.int (6 : Int32)), (.ref b2), (.ref b2)])) _
    refine st23 _ ?_
    show Steps p.tables e below (T23.setTop (mkF m 48 #[.val (.int p1), .unset, .unset, .unset, .unset] [(.ref b2)])) _
    refine XS.dup X23.here hx rfl (hb hby at_48) rfl rfl ?_
    show Steps p.tables e below (T23.setTop (mkF m 49 #[.val (.int p1), .unset, .unset, .unset, .unset] [(.ref b2), (.ref b2)])) _
    refine XS.bipush X23.here hx rfl (hb hby at_49) ?_
    show Steps p.tables e below (T23.setTop (mkF m 51 #[.val (.int p1), .unset, .unset, .unset, .unset] [(.int (7 : Int32)), (.ref b2), (.ref b2)])) _
    refine st25 _ ?_
    show Steps p.tables e below (T25.setTop (mkF m 54 #[.val (.int p1), .unset, .unset, .unset, .unset] [(.ref w24), (.int (7 : Int32)), (.ref b2), (.ref b2)])) _
    refine st26 _ ?_
    show Steps p.tables e below (T26.setTop (mkF m 55 #[.val (.int p1), .unset, .unset, .unset, .unset] [(.ref b2)])) _
    refine XS.dup X26.here hx rfl (hb hby at_55) rfl rfl ?_
    show Steps p.tables e below (T26.setTop (mkF m 56 #[.val (.int p1), .unset, .unset, .unset, .unset] [(.ref b2), (.ref b2)])) _
    refine XS.bipush X26.here hx rfl (hb hby at_56) ?_
    show Steps p.tables e below (T26.setTop (mkF m 58 #[.val (.int p1), .unset, .unset, .unset, .unset] [(.int (8 : Int32)), (.ref b2), (.ref b2)])) _
    refine st28 _ ?_
    show Steps p.tables e below (T28.setTop (mkF m 61 #[.val (.int p1), .unset, .unset, .unset, .unset] [(.ref w27), (.int (8 : Int32)), (.ref b2), (.ref b2)])) _
    refine st29 _ ?_
    show Steps p.tables e below (T29.setTop (mkF m 62 #[.val (.int p1), .unset, .unset, .unset, .unset] [(.ref b2)])) _
    refine XS.dup X29.here hx rfl (hb hby at_62) rfl rfl ?_
    show Steps p.tables e below (T29.setTop (mkF m 63 #[.val (.int p1), .unset, .unset, .unset, .unset] [(.ref b2), (.ref b2)])) _
    refine XS.bipush X29.here hx rfl (hb hby at_63) ?_
    show Steps p.tables e below (T29.setTop (mkF m 65 #[.val (.int p1), .unset, .unset, .unset, .unset] [(.int (9 : Int32)), (.ref b2), (.ref b2)])) _
    refine st31 _ ?_
    show Steps p.tables e below (T31.setTop (mkF m 68 #[.val (.int p1), .unset, .unset, .unset, .unset] [(.ref w30), (.int (9 : Int32)), (.ref b2), (.ref b2)])) _
    refine st32 _ ?_
    show Steps p.tables e below (T32.setTop (mkF m 69 #[.val (.int p1), .unset, .unset, .unset, .unset] [(.ref b2)])) _
    refine XS.dup X32.here hx rfl (hb hby at_69) rfl rfl ?_
    show Steps p.tables e below (T32.setTop (mkF m 70 #[.val (.int p1), .unset, .unset, .unset, .unset] [(.ref b2), (.ref b2)])) _
    refine XS.bipush X32.here hx rfl (hb hby at_70) ?_
    show Steps p.tables e below (T32.setTop (mkF m 72 #[.val (.int p1), .unset, .unset, .unset, .unset] [(.int (10 : Int32)), (.ref b2), (.ref b2)])) _
    refine st34 _ ?_
    show Steps p.tables e below (T34.setTop (mkF m 75 #[.val (.int p1), .unset, .unset, .unset, .unset] [(.ref w33), (.int (10 : Int32)), (.ref b2), (.ref b2)])) _
    refine st35 _ ?_
    show Steps p.tables e below (T35.setTop (mkF m 76 #[.val (.int p1), .unset, .unset, .unset, .unset] [(.ref b2)])) _
    refine XS.dup X35.here hx rfl (hb hby at_76) rfl rfl ?_
    show Steps p.tables e below (T35.setTop (mkF m 77 #[.val (.int p1), .unset, .unset, .unset, .unset] [(.ref b2), (.ref b2)])) _
    refine XS.bipush X35.here hx rfl (hb hby at_77) ?_
    show Steps p.tables e below (T35.setTop (mkF m 79 #[.val (.int p1), .unset, .unset, .unset, .unset] [(.int (11 : Int32)), (.ref b2), (.ref b2)])) _
    refine st37 _ ?_
    show Steps p.tables e below (T37.setTop (mkF m 82 #[.val (.int p1), .unset, .unset, .unset, .unset] [(.ref w36), (.int (11 : Int32)), (.ref b2), (.ref b2)])) _
    refine st38 _ ?_
    show Steps p.tables e below (T38.setTop (mkF m 83 #[.val (.int p1), .unset, .unset, .unset, .unset] [(.ref b2)])) _
    refine XS.dup X38.here hx rfl (hb hby at_83) rfl rfl ?_
    show Steps p.tables e below (T38.setTop (mkF m 84 #[.val (.int p1), .unset, .unset, .unset, .unset] [(.ref b2), (.ref b2)])) _
    refine XS.bipush X38.here hx rfl (hb hby at_84) ?_
    show Steps p.tables e below (T38.setTop (mkF m 86 #[.val (.int p1), .unset, .unset, .unset, .unset] [(.int (12 : Int32)), (.ref b2), (.ref b2)])) _
    refine st40 _ ?_
    show Steps p.tables e below (T40.setTop (mkF m 89 #[.val (.int p1), .unset, .unset, .unset, .unset] [(.ref w39), (.int (12 : Int32)), (.ref b2), (.ref b2)])) _
    refine st41 _ ?_
    show Steps p.tables e below (T41.setTop (mkF m 90 #[.val (.int p1), .unset, .unset, .unset, .unset] [(.ref b2)])) _
    refine XS.dup X41.here hx rfl (hb hby at_90) rfl rfl ?_
    show Steps p.tables e below (T41.setTop (mkF m 91 #[.val (.int p1), .unset, .unset, .unset, .unset] [(.ref b2), (.ref b2)])) _
    refine XS.bipush X41.here hx rfl (hb hby at_91) ?_
    show Steps p.tables e below (T41.setTop (mkF m 93 #[.val (.int p1), .unset, .unset, .unset, .unset] [(.int (13 : Int32)), (.ref b2), (.ref b2)])) _
    refine st43 _ ?_
    show Steps p.tables e below (T43.setTop (mkF m 96 #[.val (.int p1), .unset, .unset, .unset, .unset] [(.ref w42), (.int (13 : Int32)), (.ref b2), (.ref b2)])) _
    refine st44 _ ?_
    show Steps p.tables e below (T44.setTop (mkF m 97 #[.val (.int p1), .unset, .unset, .unset, .unset] [(.ref b2)])) _
    refine XS.dup X44.here hx rfl (hb hby at_97) rfl rfl ?_
    show Steps p.tables e below (T44.setTop (mkF m 98 #[.val (.int p1), .unset, .unset, .unset, .unset] [(.ref b2), (.ref b2)])) _
    refine XS.bipush X44.here hx rfl (hb hby at_98) ?_
    show Steps p.tables e below (T44.setTop (mkF m 100 #[.val (.int p1), .unset, .unset, .unset, .unset] [(.int (14 : Int32)), (.ref b2), (.ref b2)])) _
    refine st46 _ ?_
    show Steps p.tables e below (T46.setTop (mkF m 103 #[.val (.int p1), .unset, .unset, .unset, .unset] [(.ref w45), (.int (14 : Int32)), (.ref b2), (.ref b2)])) _
    refine st47 _ ?_
    show Steps p.tables e below (T47.setTop (mkF m 104 #[.val (.int p1), .unset, .unset, .unset, .unset] [(.ref b2)])) _
    refine XS.dup X47.here hx rfl (hb hby at_104) rfl rfl ?_
    show Steps p.tables e below (T47.setTop (mkF m 105 #[.val (.int p1), .unset, .unset, .unset, .unset] [(.ref b2), (.ref b2)])) _
    refine XS.bipush X47.here hx rfl (hb hby at_105) ?_
    show Steps p.tables e below (T47.setTop (mkF m 107 #[.val (.int p1), .unset, .unset, .unset, .unset] [(.int (15 : Int32)), (.ref b2), (.ref b2)])) _
    refine st49 _ ?_
    show Steps p.tables e below (T49.setTop (mkF m 110 #[.val (.int p1), .unset, .unset, .unset, .unset] [(.ref w48), (.int (15 : Int32)), (.ref b2), (.ref b2)])) _
    refine st50 _ ?_
    show Steps p.tables e below (T50.setTop (mkF m 111 #[.val (.int p1), .unset, .unset, .unset, .unset] [(.ref b2)])) _
    refine XS.dup X50.here hx rfl (hb hby at_111) rfl rfl ?_
    show Steps p.tables e below (T50.setTop (mkF m 112 #[.val (.int p1), .unset, .unset, .unset, .unset] [(.ref b2), (.ref b2)])) _
    refine XS.bipush X50.here hx rfl (hb hby at_112) ?_
    show Steps p.tables e below (T50.setTop (mkF m 114 #[.val (.int p1), .unset, .unset, .unset, .unset] [(.int (16 : Int32)), (.ref b2), (.ref b2)])) _
    refine st52 _ ?_
    show Steps p.tables e below (T52.setTop (mkF m 117 #[.val (.int p1), .unset, .unset, .unset, .unset] [(.ref w51), (.int (16 : Int32)), (.ref b2), (.ref b2)])) _
    refine st53 _ ?_
    show Steps p.tables e below (T53.setTop (mkF m 118 #[.val (.int p1), .unset, .unset, .unset, .unset] [(.ref b2)])) _
    refine XS.astoreN X53.here hx rfl (hb hby at_118) rfl rfl (l' := #[.val (.int p1), .val (.ref b2), .unset, .unset, .unset]) rfl ?_
    show Steps p.tables e below (T53.setTop (mkF m 119 #[.val (.int p1), .val (.ref b2), .unset, .unset, .unset] [])) _
    refine XS.iloadN X53.here hx rfl (hb hby at_119) rfl ?_
    show Steps p.tables e below (T53.setTop (mkF m 120 #[.val (.int p1), .val (.ref b2), .unset, .unset, .unset] [(.int p1)])) _
    refine X53.ldcInt hx hown (mvT hZ (hw _ (List.mem_of_getElem? (i := 38) rfl))) (g := (mkF m 120 #[.val (.int p1), .val (.ref b2), .unset, .unset, .unset] [(.int p1)])) rfl (hb hby at_120) _ ?_
    show Steps p.tables e below (T53.setTop (mkF m 122 #[.val (.int p1), .val (.ref b2), .unset, .unset, .unset] [(.int (2147483647 : Int32)), (.int p1)])) _
    refine XS.iand X53.here hx rfl (hb hby at_122) rfl ?_
    show Steps p.tables e below (T53.setTop (mkF m 123 #[.val (.int p1), .val (.ref b2), .unset, .unset, .unset] [(.int (p1 &&& (2147483647 : Int32)))])) _
    refine XS.bipush X53.here hx rfl (hb hby at_123) ?_
    show Steps p.tables e below (T53.setTop (mkF m 125 #[.val (.int p1), .val (.ref b2), .unset, .unset, .unset] [(.int (17 : Int32)), (.int (p1 &&& (2147483647 : Int32)))])) _
    refine iremM X53 hx rfl (hb hby at_125) rfl (by decide) ?_
    show Steps p.tables e below (T53.setTop (mkF m 126 #[.val (.int p1), .val (.ref b2), .unset, .unset, .unset] [(.int ((p1 &&& (2147483647 : Int32)) % (17 : Int32)))])) _
    refine XS.istoreN X53.here hx rfl (hb hby at_126) rfl (l' := #[.val (.int p1), .val (.ref b2), .val (.int ((p1 &&& (2147483647 : Int32)) % (17 : Int32))), .unset, .unset]) rfl ?_
    show Steps p.tables e below (T53.setTop (mkF m 127 #[.val (.int p1), .val (.ref b2), .val (.int ((p1 &&& (2147483647 : Int32)) % (17 : Int32))), .unset, .unset] [])) _
    refine XS.aloadN X53.here hx rfl (hb hby at_127) rfl rfl ?_
    show Steps p.tables e below (T53.setTop (mkF m 128 #[.val (.int p1), .val (.ref b2), .val (.int ((p1 &&& (2147483647 : Int32)) % (17 : Int32))), .unset, .unset] [(.ref b2)])) _
    refine XS.iloadN X53.here hx rfl (hb hby at_128) rfl ?_
    show Steps p.tables e below (T53.setTop (mkF m 129 #[.val (.int p1), .val (.ref b2), .val (.int ((p1 &&& (2147483647 : Int32)) % (17 : Int32))), .unset, .unset] [(.int ((p1 &&& (2147483647 : Int32)) % (17 : Int32))), (.ref b2)])) _
    refine X53.aaload hx (j := ((p1 &&& (2147483647 : Int32)) % (17 : Int32))) (v := (.ref w54)) (by rw [e53]; exact Ar_b2.1) (State.isArrayOf_alike hZ.alike Ar_b2.2.1) rfl Ar_b2.2.2 hin129 hat129 (g := (mkF m 129 #[.val (.int p1), .val (.ref b2), .val (.int ((p1 &&& (2147483647 : Int32)) % (17 : Int32))), .unset, .unset] [(.int ((p1 &&& (2147483647 : Int32)) % (17 : Int32))), (.ref b2)])) rfl rfl (hb hby at_129) _ ?_
    show Steps p.tables e below (T53.setTop (mkF m 130 #[.val (.int p1), .val (.ref b2), .val (.int ((p1 &&& (2147483647 : Int32)) % (17 : Int32))), .unset, .unset] [(.ref w54)])) _
    refine XS.astoreN X53.here hx rfl (hb hby at_130) rfl rfl (l' := #[.val (.int p1), .val (.ref b2), .val (.int ((p1 &&& (2147483647 : Int32)) % (17 : Int32))), .val (.ref w54), .unset]) rfl ?_
    show Steps p.tables e below (T53.setTop (mkF m 131 #[.val (.int p1), .val (.ref b2), .val (.int ((p1 &&& (2147483647 : Int32)) % (17 : Int32))), .val (.ref w54), .unset] [])) _
    refine XS.iloadN X53.here hx rfl (hb hby at_131) rfl ?_
    show Steps p.tables e below (T53.setTop (mkF m 132 #[.val (.int p1), .val (.ref b2), .val (.int ((p1 &&& (2147483647 : Int32)) % (17 : Int32))), .val (.ref w54), .unset] [(.int ((p1 &&& (2147483647 : Int32)) % (17 : Int32)))])) _
    refine XS.iconst X53.here hx rfl (hb hby at_132) ?_
    show Steps p.tables e below (T53.setTop (mkF m 133 #[.val (.int p1), .val (.ref b2), .val (.int ((p1 &&& (2147483647 : Int32)) % (17 : Int32))), .val (.ref w54), .unset] [(.int (1 : Int32)), (.int ((p1 &&& (2147483647 : Int32)) % (17 : Int32)))])) _
    refine XS.icmpNo X53.here hx rfl (hb hby at_133) rfl (flt hc133).1 ?_
    show Steps p.tables e below (T53.setTop (mkF m 136 #[.val (.int p1), .val (.ref b2), .val (.int ((p1 &&& (2147483647 : Int32)) % (17 : Int32))), .val (.ref w54), .unset] [])) _
    refine XS.iloadN X53.here hx rfl (hb hby at_136) rfl ?_
    show Steps p.tables e below (T53.setTop (mkF m 137 #[.val (.int p1), .val (.ref b2), .val (.int ((p1 &&& (2147483647 : Int32)) % (17 : Int32))), .val (.ref w54), .unset] [(.int ((p1 &&& (2147483647 : Int32)) % (17 : Int32)))])) _
    refine XS.bipush X53.here hx rfl (hb hby at_137) ?_
    show Steps p.tables e below (T53.setTop (mkF m 139 #[.val (.int p1), .val (.ref b2), .val (.int ((p1 &&& (2147483647 : Int32)) % (17 : Int32))), .val (.ref w54), .unset] [(.int (6 : Int32)), (.int ((p1 &&& (2147483647 : Int32)) % (17 : Int32)))])) _
    refine XS.icmpNo X53.here hx rfl (hb hby at_139) rfl (flt hc139).2.2.1 ?_
    show Steps p.tables e below (T53.setTop (mkF m 142 #[.val (.int p1), .val (.ref b2), .val (.int ((p1 &&& (2147483647 : Int32)) % (17 : Int32))), .val (.ref w54), .unset] [])) _
    refine XS.iconst X53.here hx rfl (hb hby at_142) ?_
    show Steps p.tables e below (T53.setTop (mkF m 143 #[.val (.int p1), .val (.ref b2), .val (.int ((p1 &&& (2147483647 : Int32)) % (17 : Int32))), .val (.ref w54), .unset] [(.int (1 : Int32))])) _
    refine XS.goto X53.here hx rfl (pc0 := 143) (pc' := 147) rfl (hb hby at_143) (by decide) (by decide) ?_
    show Steps p.tables e below (T53.setTop (mkF m 147 #[.val (.int p1), .val (.ref b2), .val (.int ((p1 &&& (2147483647 : Int32)) % (17 : Int32))), .val (.ref w54), .unset] [(.int (1 : Int32))])) _
    refine XS.istore X53.here hx rfl (hb hby at_147) rfl (l' := #[.val (.int p1), .val (.ref b2), .val (.int ((p1 &&& (2147483647 : Int32)) % (17 : Int32))), .val (.ref w54), .val (.int (1 : Int32))]) rfl ?_
    show Steps p.tables e below (T53.setTop (mkF m 149 #[.val (.int p1), .val (.ref b2), .val (.int ((p1 &&& (2147483647 : Int32)) % (17 : Int32))), .val (.ref w54), .val (.int (1 : Int32))] [])) _
    refine XS.aloadN X53.here hx rfl (hb hby at_149) rfl rfl ?_
    show Steps p.tables e below (T53.setTop (mkF m 150 #[.val (.int p1), .val (.ref b2), .val (.int ((p1 &&& (2147483647 : Int32)) % (17 : Int32))), .val (.ref w54), .val (.int (1 : Int32))] [(.ref w54)])) _
    refine st55.trans ?_
    show Steps p.tables e below (T55.setTop (mkF m 153 #[.val (.int p1), .val (.ref b2), .val (.int ((p1 &&& (2147483647 : Int32)) % (17 : Int32))), .val (.ref w54), .val (.int (1 : Int32))] [(.int (1 : Int32))])) _
    refine XS.iload X55.here hx rfl (hb hby at_153) rfl ?_
    show Steps p.tables e below (T55.setTop (mkF m 155 #[.val (.int p1), .val (.ref b2), .val (.int ((p1 &&& (2147483647 : Int32)) % (17 : Int32))), .val (.ref w54), .val (.int (1 : Int32))] [(.int (1 : Int32)), (.int (1 : Int32))])) _
    refine XS.icmpNo X55.here hx rfl (hb hby at_155) rfl (teq (rfl : (1 : Int32) = (1 : Int32))).2 ?_
    show Steps p.tables e below (T55.setTop (mkF m 158 #[.val (.int p1), .val (.ref b2), .val (.int ((p1 &&& (2147483647 : Int32)) % (17 : Int32))), .val (.ref w54), .val (.int (1 : Int32))] [])) _
    refine XS.iconst X55.here hx rfl (hb hby at_158) ?_
    show Steps p.tables e below (T55.setTop (mkF m 159 #[.val (.int p1), .val (.ref b2), .val (.int ((p1 &&& (2147483647 : Int32)) % (17 : Int32))), .val (.ref w54), .val (.int (1 : Int32))] [(.int (1 : Int32))])) _
    refine XS.goto X55.here hx rfl (pc0 := 159) (pc' := 163) rfl (hb hby at_159) (by decide) (by decide) ?_
    show Steps p.tables e below (T55.setTop (mkF m 163 #[.val (.int p1), .val (.ref b2), .val (.int ((p1 &&& (2147483647 : Int32)) % (17 : Int32))), .val (.ref w54), .val (.int (1 : Int32))] [(.int (1 : Int32))])) _
    exact retN X55 hx (t := .boolean) Bd.returns (by simp) (hb hby at_163) hr
  · show Q0_m Z p1 w3 w6 w9 w12 w15 w18 w21 w24 w27 w30 w33 w36 w39 w42 w45 w48 w51 w54 h0 n0 _ T55.heap _
    exact ⟨rfl, N55⟩
def Q0_l (Z : State) (p1 : Int32) (w3 : Addr) (w6 : Addr) (w9 : Addr) (w12 : Addr) (w15 : Addr) (w18 : Addr) (w21 : Addr) (w24 : Addr) (w27 : Addr) (w30 : Addr) (w33 : Addr) (w36 : Addr) (w39 : Addr) (w42 : Addr) (w45 : Addr) (w48 : Addr) (w51 : Addr) (w54 : Addr) (h0 : Heap) (n0 : Nat) (v : Option Value) (h : Heap) (L : List Loc) : Prop := v = some (.int (1 : Int32)) ∧ Fr n0 L
set_option maxRecDepth 65536 in
set_option maxHeartbeats 40000000 in
theorem rm0_l (l : Launch) (Z : State) (a0 : Array Value) (hw : ∀ d ∈ tables_1, d.before a0 Z = true) (ws : List Jvm.Cond) (bits : Int32) (p1 : Int32) (w3 : Addr) (w6 : Addr) (w9 : Addr) (w12 : Addr) (w15 : Addr) (w18 : Addr) (w21 : Addr) (w24 : Addr) (w27 : Addr) (w30 : Addr) (w33 : Addr) (w36 : Addr) (w39 : Addr) (w42 : Addr) (w45 : Addr) (w48 : Addr) (w51 : Addr) (w54 : Addr) (h0 : Heap) (n0 : Nat) (Z0 : n0 ≤ h0.size) (S_VOID : Sta Z h0 "com/example/stubwright/stubwright/model/BasicType" "VOID" "Lcom/example/stubwright/stubwright/model/BasicType;" (.ref w3)) (E_VOID : Exa Z h0 w3 "com/example/stubwright/stubwright/model/BasicType") (S_SHORT : Sta Z h0 "com/example/stubwright/stubwright/model/BasicType" "SHORT" "Lcom/example/stubwright/stubwright/model/BasicType;" (.ref w6)) (E_SHORT : Exa Z h0 w6 "com/example/stubwright/stubwright/model/BasicType") (S_LONG : Sta Z h0 "com/example/stubwright/stubwright/model/BasicType" "LONG" "Lcom/example/stubwright/stubwright/model/BasicType;" (.ref w9)) (E_LONG : Exa Z h0 w9 "com/example/stubwright/stubwright/model/BasicType") (S_LONG_LONG : Sta Z h0 "com/example/stubwright/stubwright/model/BasicType" "LONG_LONG" "Lcom/example/stubwright/stubwright/model/BasicType;" (.ref w12)) (E_LONG_LONG : Exa Z h0 w12 "com/example/stubwright/stubwright/model/BasicType") (S_UNSIGNED_SHORT : Sta Z h0 "com/example/stubwright/stubwright/model/BasicType" "UNSIGNED_SHORT" "Lcom/example/stubwright/stubwright/model/BasicType;" (.ref w15)) (E_UNSIGNED_SHORT : Exa Z h0 w15 "com/example/stubwright/stubwright/model/BasicType") (S_UNSIGNED_LONG : Sta Z h0 "com/example/stubwright/stubwright/model/BasicType" "UNSIGNED_LONG" "Lcom/example/stubwright/stubwright/model/BasicType;" (.ref w18)) (E_UNSIGNED_LONG : Exa Z h0 w18 "com/example/stubwright/stubwright/model/BasicType") (S_UNSIGNED_LONG_LONG : Sta Z h0 "com/example/stubwright/stubwright/model/BasicType" "UNSIGNED_LONG_LONG" "Lcom/example/stubwright/stubwright/model/BasicType;" (.ref w21)) (E_UNSIGNED_LONG_LONG : Exa Z h0 w21 "com/example/stubwright/stubwright/model/BasicType") (S_FLOAT : Sta Z h0 "com/example/stubwright/stubwright/model/BasicType" "FLOAT" "Lcom/example/stubwright/stubwright/model/BasicType;" (.ref w24)) (E_FLOAT : Exa Z h0 w24 "com/example/stubwright/stubwright/model/BasicType") (S_DOUBLE : Sta Z h0 "com/example/stubwright/stubwright/model/BasicType" "DOUBLE" "Lcom/example/stubwright/stubwright/model/BasicType;" (.ref w27)) (E_DOUBLE : Exa Z h0 w27 "com/example/stubwright/stubwright/model/BasicType") (S_CHAR : Sta Z h0 "com/example/stubwright/stubwright/model/BasicType" "CHAR" "Lcom/example/stubwright/stubwright/model/BasicType;" (.ref w30)) (E_CHAR : Exa Z h0 w30 "com/example/stubwright/stubwright/model/BasicType") (S_WCHAR : Sta Z h0 "com/example/stubwright/stubwright/model/BasicType" "WCHAR" "Lcom/example/stubwright/stubwright/model/BasicType;" (.ref w33)) (E_WCHAR : Exa Z h0 w33 "com/example/stubwright/stubwright/model/BasicType") (S_BOOLEAN : Sta Z h0 "com/example/stubwright/stubwright/model/BasicType" "BOOLEAN" "Lcom/example/stubwright/stubwright/model/BasicType;" (.ref w36)) (E_BOOLEAN : Exa Z h0 w36 "com/example/stubwright/stubwright/model/BasicType") (S_OCTET : Sta Z h0 "com/example/stubwright/stubwright/model/BasicType" "OCTET" "Lcom/example/stubwright/stubwright/model/BasicType;" (.ref w39)) (E_OCTET : Exa Z h0 w39 "com/example/stubwright/stubwright/model/BasicType") (S_ANY : Sta Z h0 "com/example/stubwright/stubwright/model/BasicType" "ANY" "Lcom/example/stubwright/stubwright/model/BasicType;" (.ref w42)) (E_ANY : Exa Z h0 w42 "com/example/stubwright/stubwright/model/BasicType") (S_STRING : Sta Z h0 "com/example/stubwright/stubwright/model/BasicType" "STRING" "Lcom/example/stubwright/stubwright/model/BasicType;" (.ref w45)) (E_STRING : Exa Z h0 w45 "com/example/stubwright/stubwright/model/BasicType") (S_WSTRING : Sta Z h0 "com/example/stubwright/stubwright/model/BasicType" "WSTRING" "Lcom/example/stubwright/stubwright/model/BasicType;" (.ref w48)) (E_WSTRING : Exa Z h0 w48 "com/example/stubwright/stubwright/model/BasicType") (S_OBJECT : Sta Z h0 "com/example/stubwright/stubwright/model/BasicType" "OBJECT" "Lcom/example/stubwright/stubwright/model/BasicType;" (.ref w51)) (E_OBJECT : Exa Z h0 w51 "com/example/stubwright/stubwright/model/BasicType") (E_w54 : Exa Z h0 w54 "com/example/stubwright/stubwright/model/BasicType") (F_aa : Fld Z h0 w54 "com/example/stubwright/stubwright/model/BasicType" "integerBits" "I" (.int bits)) (hbits : ¬ ((0 : Int32) < bits)) (hKK : ¬ ((p1 &&& (2147483647 : Int32)) % (17 : Int32)) < 0 ∧ ((p1 &&& (2147483647 : Int32)) % (17 : Int32)) < 17) (hat : ([(.ref w3), (.ref w6), (.ref w9), (.ref w12), (.ref w15), (.ref w18), (.ref w21), (.ref w24), (.ref w27), (.ref w30), (.ref w33), (.ref w36), (.ref w39), (.ref w42), (.ref w45), (.ref w48), (.ref w51)] : List Value).getD ((p1 &&& (2147483647 : Int32)) % (17 : Int32)).toNatClampNeg .null = .ref w54) (hc133 : ((p1 &&& (2147483647 : Int32)) % (17 : Int32)) < (1 : Int32)) :
    MetFree l x (head1 (Jvm.Cond.code x code maxLocals ret :: ws) room_1) (fun a U => a = #[(.int p1)] ∧ Z.Warmed39 U.vm ∧ U.heap = h0) (fun _ _ _ _ _ => True) (fun _ U o U' => ∃ v L, o = .returned v ∧ Q0_l Z p1 w3 w6 w9 w12 w15 w18 w21 w24 w27 w30 w33 w36 w39 w42 w45 w48 w51 w54 h0 n0 v U'.heap L ∧ FrameEnd U o U' L room_1.cells room_1.slots) := by
  refine MetFree.of_bodySF (plainFor_of_name pn_0) hisR ?_
  intro p e s m args below meth c s₁ Bd hml0 hP hK
  obtain ⟨rfl, hZ, hh⟩ := hP
  have hx := Bd.exec
  have hby := Bd.bytes
  have hml : c.maxLocals = 5 := hml0
  have hown : s.vm.findClass "com/example/stubwright/stubwright/model/BasicTypeIsIntegerPinLaw" = some m.cls := findClass_of_methodNamed Bd.named
  have hnm := (name_of_methodNamed Bd.named Bd.method).1
  have X0 : Stand p l e room_1 s m #[(.int p1)] below meth c s₁ [] 0 0 := Stand.of_body Bd
  have e0 : s₁.heap = h0 := by rw [← hh, Bd.state]; rfl
  have N0 := Fr.nil n0
  have pre0 : ∀ t, Steps p.tables e below (s₁.setTop (mkF m 0 #[.val (.int p1), .unset, .unset, .unset, .unset] [])) t → Steps p.tables e below (s₁.setTop (entryFrame m #[(.int p1)] maxLocals)) t := fun t k => castTop (ef_0 m p1) k
  obtain ⟨T2, h2, k2, X2, e2, E2, A2, O2, st2⟩ := newR X0 hx hZ hown (hw _ (List.mem_of_getElem? (i := 0) rfl)) (hw _ (List.mem_of_getElem? (i := 1) rfl)) e0 (g := (mkF m 2 #[.val (.int p1), .unset, .unset, .unset, .unset] [(.int (17 : Int32))])) rfl (hb hby at_2) rfl (by decide) (cap := 17) (by decide) (by decide) (by decide) (by decide)
  obtain ⟨b2, g2⟩ : ∃ z, z = h0.size := ⟨_, rfl⟩      -- the fresh array's address
  rw [← g2] at A2 st2
  have V2 : Arv Z h2 b2 k2 (.object "com/example/stubwright/stubwright/model/BasicType") (17 : Int32) [.null, .null, .null, .null, .null, .null, .null, .null, .null, .null, .null, .null, .null, .null, .null, .null, .null] .null := (Arv.new A2 (by decide)).pad (pad_rep [] .null 17)
  have g_b2 : n0 ≤ b2 := Nat.le_trans Z0 (Nat.le_of_eq g2.symm)
  have sz_b2 : h0.size ≤ b2 := (Nat.le_trans (Keep.refl h0 []).1 (Nat.le_of_eq g2.symm))
  have K2 : Keep h0 h2 [] := (Keep.refl h0 []).ext E2
  obtain ⟨T4, X4, e4, st4⟩ := getS2 X2 hx hZ hown (host := "") (Or.inl (hw _ (List.mem_of_getElem? (i := 2) rfl))) Via.refl e2 (own_stk K2 S_VOID) (g := (mkF m 7 #[.val (.int p1), .unset, .unset, .unset, .unset] [(.int (0 : Int32)), (.ref b2), (.ref b2)])) rfl (hb hby at_7)
  obtain ⟨cl_10, Ar_10, q_10, S_10, N_10, H_10, G_10⟩ := V2
  have hin10 : ¬ ((0 : Int32) < 0 ∨ cl_10.slots.size ≤ (0 : Int32).toNatClampNeg) := inb_of S_10 ⟨by decide, by decide⟩
  have Sto10 : Sto Z h2 b2 (.ref w3) := Sto.of Ar_10 (q_10.symm ▸ O2) (Ins.self (E_VOID.keep K2))
  obtain ⟨T5, h5, X5, e5, W5, st5⟩ := stR X4 hx hZ e4 Ar_10 (j := (0 : Int32)) hin10 rfl Sto10 (g := (mkF m 10 #[.val (.int p1), .unset, .unset, .unset, .unset] [(.ref w3), (.int (0 : Int32)), (.ref b2), (.ref b2)])) rfl rfl (hb hby at_10)
  have V5 : Arv Z h5 b2 k2 (.object "com/example/stubwright/stubwright/model/BasicType") (17 : Int32) [(.ref w3), .null, .null, .null, .null, .null, .null, .null, .null, .null, .null, .null, .null, .null, .null, .null, .null] .null := Arv.set Ar_10 q_10 S_10 N_10 H_10 G_10 rfl W5 0 rfl (Nat.le_of_ble_eq_true rfl)
  have N5 := Fr.snoc X5 N0 g_b2
  have K5 : Keep h0 h5 [] := K2.wr W5 (Or.inr sz_b2)
  obtain ⟨T7, X7, e7, st7⟩ := getS2 X5 hx hZ hown (host := "") (Or.inl (hw _ (List.mem_of_getElem? (i := 6) rfl))) Via.refl e5 (own_stk K5 S_SHORT) (g := (mkF m 13 #[.val (.int p1), .unset, .unset, .unset, .unset] [(.int (1 : Int32)), (.ref b2), (.ref b2)])) rfl (hb hby at_13)
  obtain ⟨cl_16, Ar_16, q_16, S_16, N_16, H_16, G_16⟩ := V5
  have hin16 : ¬ ((1 : Int32) < 0 ∨ cl_16.slots.size ≤ (1 : Int32).toNatClampNeg) := inb_of S_16 ⟨by decide, by decide⟩
  have Sto16 : Sto Z h5 b2 (.ref w6) := Sto.of Ar_16 (q_16.symm ▸ O2) (Ins.self (E_SHORT.keep K5))
  obtain ⟨T8, h8, X8, e8, W8, st8⟩ := stR X7 hx hZ e7 Ar_16 (j := (1 : Int32)) hin16 rfl Sto16 (g := (mkF m 16 #[.val (.int p1), .unset, .unset, .unset, .unset] [(.ref w6), (.int (1 : Int32)), (.ref b2), (.ref b2)])) rfl rfl (hb hby at_16)
  have V8 : Arv Z h8 b2 k2 (.object "com/example/stubwright/stubwright/model/BasicType") (17 : Int32) [(.ref w3), (.ref w6), .null, .null, .null, .null, .null, .null, .null, .null, .null, .null, .null, .null, .null, .null, .null] .null := Arv.set Ar_16 q_16 S_16 N_16 H_16 G_16 rfl W8 1 rfl (Nat.le_of_ble_eq_true rfl)
  have N8 := Fr.snoc X8 N5 g_b2
  have K8 : Keep h0 h8 [] := K5.wr W8 (Or.inr sz_b2)
  obtain ⟨T10, X10, e10, st10⟩ := getS2 X8 hx hZ hown (host := "") (Or.inl (hw _ (List.mem_of_getElem? (i := 8) rfl))) Via.refl e8 (own_stk K8 S_LONG) (g := (mkF m 19 #[.val (.int p1), .unset, .unset, .unset, .unset] [(.int (2 : Int32)), (.ref b2), (.ref b2)])) rfl (hb hby at_19)
  obtain ⟨cl_22, Ar_22, q_22, S_22, N_22, H_22, G_22⟩ := V8
  have hin22 : ¬ ((2 : Int32) < 0 ∨ cl_22.slots.size ≤ (2 : Int32).toNatClampNeg) := inb_of S_22 ⟨by decide, by decide⟩
  have Sto22 : Sto Z h8 b2 (.ref w9) := Sto.of Ar_22 (q_22.symm ▸ O2) (Ins.self (E_LONG.keep K8))
  obtain ⟨T11, h11, X11, e11, W11, st11⟩ := stR X10 hx hZ e10 Ar_22 (j := (2 : Int32)) hin22 rfl Sto22 (g := (mkF m 22 #[.val (.int p1), .unset, .unset, .unset, .unset] [(.ref w9), (.int (2 : Int32)), (.ref b2), (.ref b2)])) rfl rfl (hb hby at_22)
  have V11 : Arv Z h11 b2 k2 (.object "com/example/stubwright/stubwright/model/BasicType") (17 : Int32) [(.ref w3), (.ref w6), (.ref w9), .null, .null, .null, .null, .null, .null, .null, .null, .null, .null, .null, .null, .null, .null] .null := Arv.set Ar_22 q_22 S_22 N_22 H_22 G_22 rfl W11 2 rfl (Nat.le_of_ble_eq_true rfl)
  have N11 := Fr.snoc X11 N8 g_b2
  have K11 : Keep h0 h11 [] := K8.wr W11 (Or.inr sz_b2)
  obtain ⟨T13, X13, e13, st13⟩ := getS2 X11 hx hZ hown (host := "") (Or.inl (hw _ (List.mem_of_getElem? (i := 10) rfl))) Via.refl e11 (own_stk K11 S_LONG_LONG) (g := (mkF m 25 #[.val (.int p1), .unset, .unset, .unset, .unset] [(.int (3 : Int32)), (.ref b2), (.ref b2)])) rfl (hb hby at_25)
  obtain ⟨cl_28, Ar_28, q_28, S_28, N_28, H_28, G_28⟩ := V11
  have hin28 : ¬ ((3 : Int32) < 0 ∨ cl_28.slots.size ≤ (3 : Int32).toNatClampNeg) := inb_of S_28 ⟨by decide, by decide⟩
  have Sto28 : Sto Z h11 b2 (.ref w12) := Sto.of Ar_28 (q_28.symm ▸ O2) (Ins.self (E_LONG_LONG.keep K11))
  obtain ⟨T14, h14, X14, e14, W14, st14⟩ := stR X13 hx hZ e13 Ar_28 (j := (3 : Int32)) hin28 rfl Sto28 (g := (mkF m 28 #[.val (.int p1), .unset, .unset, .unset, .unset] [(.ref w12), (.int (3 : Int32)), (.ref b2), (.ref b2)])) rfl rfl (hb hby at_28)
  have V14 : Arv Z h14 b2 k2 (.object "com/example/stubwright/stubwright/model/BasicType") (17 : Int32) [(.ref w3), (.ref w6), (.ref w9), (.ref w12), .null, .null, .null, .null, .null, .null, .null, .null, .null, .null, .null, .null, .null] .null := Arv.set Ar_28 q_28 S_28 N_28 H_28 G_28 rfl W14 3 rfl (Nat.le_of_ble_eq_true rfl)
  have N14 := Fr.snoc X14 N11 g_b2
  have K14 : Keep h0 h14 [] := K11.wr W14 (Or.inr sz_b2)
  obtain ⟨T16, X16, e16, st16⟩ := getS2 X14 hx hZ hown (host := "") (Or.inl (hw _ (List.mem_of_getElem? (i := 12) rfl))) Via.refl e14 (own_stk K14 S_UNSIGNED_SHORT) (g := (mkF m 31 #[.val (.int p1), .unset, .unset, .unset, .unset] [(.int (4 : Int32)), (.ref b2), (.ref b2)])) rfl (hb hby at_31)
  obtain ⟨cl_34, Ar_34, q_34, S_34, N_34, H_34, G_34⟩ := V14
  have hin34 : ¬ ((4 : Int32) < 0 ∨ cl_34.slots.size ≤ (4 : Int32).toNatClampNeg) := inb_of S_34 ⟨by decide, by decide⟩
  have Sto34 : Sto Z h14 b2 (.ref w15) := Sto.of Ar_34 (q_34.symm ▸ O2) (Ins.self (E_UNSIGNED_SHORT.keep K14))
  obtain ⟨T17, h17, X17, e17, W17, st17⟩ := stR X16 hx hZ e16 Ar_34 (j := (4 : Int32)) hin34 rfl Sto34 (g := (mkF m 34 #[.val (.int p1), .unset, .unset, .unset, .unset] [(.ref w15), (.int (4 : Int32)), (.ref b2), (.ref b2)])) rfl rfl (hb hby at_34)
  have V17 : Arv Z h17 b2 k2 (.object "com/example/stubwright/stubwright/model/BasicType") (17 : Int32) [(.ref w3), (.ref w6), (.ref w9), (.ref w12), (.ref w15), .null, .null, .null, .null, .null, .null, .null, .null, .null, .null, .null, .null] .null := Arv.set Ar_34 q_34 S_34 N_34 H_34 G_34 rfl W17 4 rfl (Nat.le_of_ble_eq_true rfl)
  have N17 := Fr.snoc X17 N14 g_b2
  have K17 : Keep h0 h17 [] := K14.wr W17 (Or.inr sz_b2)
  obtain ⟨T19, X19, e19, st19⟩ := getS2 X17 hx hZ hown (host := "") (Or.inl (hw _ (List.mem_of_getElem? (i := 14) rfl))) Via.refl e17 (own_stk K17 S_UNSIGNED_LONG) (g := (mkF m 37 #[.val (.int p1), .unset, .unset, .unset, .unset] [(.int (5 : Int32)), (.ref b2), (.ref b2)])) rfl (hb hby at_37)
  obtain ⟨cl_40, Ar_40, q_40, S_40, N_40, H_40, G_40⟩ := V17
  have hin40 : ¬ ((5 : Int32) < 0 ∨ cl_40.slots.size ≤ (5 : Int32).toNatClampNeg) := inb_of S_40 ⟨by decide, by decide⟩
  have Sto40 : Sto Z h17 b2 (.ref w18) := Sto.of Ar_40 (q_40.symm ▸ O2) (Ins.self (E_UNSIGNED_LONG.keep K17))
  obtain ⟨T20, h20, X20, e20, W20, st20⟩ := stR X19 hx hZ e19 Ar_40 (j := (5 : Int32)) hin40 rfl Sto40 (g := (mkF m 40 #[.val (.int p1), .unset, .unset, .unset, .unset] [(.ref w18), (.int (5 : Int32)), (.ref b2), (.ref b2)])) rfl rfl (hb hby at_40)
  have V20 : Arv Z h20 b2 k2 (.object "com/example/stubwright/stubwright/model/BasicType") (17 : Int32) [(.ref w3), (.ref w6), (.ref w9), (.ref w12), (.ref w15), (.ref w18), .null, .null, .null, .null, .null, .null, .null, .null, .null, .null, .null] .null := Arv.set Ar_40 q_40 S_40 N_40 H_40 G_40 rfl W20 5 rfl (Nat.le_of_ble_eq_true rfl)
  have N20 := Fr.snoc X20 N17 g_b2
  have K20 : Keep h0 h20 [] := K17.wr W20 (Or.inr sz_b2)
  obtain ⟨T22, X22, e22, st22⟩ := getS2 X20 hx hZ hown (host := "") (Or.inl (hw _ (List.mem_of_getElem? (i := 16) rfl))) Via.refl e20 (own_stk K20 S_UNSIGNED_LONG_LONG) (g := (mkF m 44 #[.val (.int p1), .unset, .unset, .unset, .unset] [(.int (6 : Int32)), (.ref b2), (.ref b2)])) rfl (hb hby at_44)
  obtain ⟨cl_47, Ar_47, q_47, S_47, N_47, H_47, G_47⟩ := V20
  have hin47 : ¬ ((6 : Int32) < 0 ∨ cl_47.slots.size ≤ (6 : Int32).toNatClampNeg) := inb_of S_47 ⟨by decide, by decide⟩
  have Sto47 : Sto Z h20 b2 (.ref w21) := Sto.of Ar_47 (q_47.symm ▸ O2) (Ins.self (E_UNSIGNED_LONG_LONG.keep K20))
  obtain ⟨T23, h23, X23, e23, W23, st23⟩ := stR X22 hx hZ e22 Ar_47 (j := (6 : Int32)) hin47 rfl Sto47 (g := (mkF m 47 #[.val (.int p1), .unset, .unset, .unset, .unset] [(.ref w21), (.int (6 : Int32)), (.ref b2), (.ref b2)])) rfl rfl (hb hby at_47)
  have V23 : Arv Z h23 b2 k2 (.object "com/example/stubwright/stubwright/model/BasicType") (17 : Int32) [(.ref w3), (.ref w6), (.ref w9), (.ref w12), (.ref w15), (.ref w18), (.ref w21), .null, .null, .null, .null, .null, .null, .null, .null, .null, .null] .null := Arv.set Ar_47 q_47 S_47 N_47 H_47 G_47 rfl W23 6 rfl (Nat.le_of_ble_eq_true rfl)
  have N23 := Fr.snoc X23 N20 g_b2
  have K23 : Keep h0 h23 [] := K20.wr W23 (Or.inr sz_b2)
  obtain ⟨T25, X25, e25, st25⟩ := getS2 X23 hx hZ hown (host := "") (Or.inl (hw _ (List.mem_of_getElem? (i := 18) rfl))) Via.refl e23 (own_stk K23 S_FLOAT) (g := (mkF m 51 #[.val (.int p1), .unset, .unset, .unset, .unset] [(.int (7 : Int32)), (.ref b2), (.ref b2)])) rfl (hb hby at_51)
  obtain ⟨cl_54, Ar_54, q_54, S_54, N_54, H_54, G_54⟩ := V23
  have hin54 : ¬ ((7 : Int32) < 0 ∨ cl_54.slots.size ≤ (7 : Int32).toNatClampNeg) := inb_of S_54 ⟨by decide, by decide⟩
  have Sto54 : Sto Z h23 b2 (.ref w24) := Sto.of Ar_54 (q_54.symm ▸ O2) (Ins.self (E_FLOAT.keep K23))
  obtain ⟨T26, h26, X26, e26, W26, st26⟩ := stR X25 hx hZ e25 Ar_54 (j := (7 : Int32)) hin54 rfl Sto54 (g := (mkF m 54 #[.val (.int p1), .unset, .unset, .unset, .unset] [(.ref w24), (.int (7 : Int32)), (.ref b2), (.ref b2)])) rfl rfl (hb hby at_54)
  have V26 : Arv Z h26 b2 k2 (.object "com/example/stubwright/stubwright/model/BasicType") (17 : Int32) [(.ref w3), (.ref w6), (.ref w9), (.ref w12), (.ref w15), (.ref w18), (.ref w21), (.ref w24), .null, .null, .null, .null, .null, .null, .null, .null, .null] .null := Arv.set Ar_54 q_54 S_54 N_54 H_54 G_54 rfl W26 7 rfl (Nat.le_of_ble_eq_true rfl)
  have N26 := Fr.snoc X26 N23 g_b2
  have K26 : Keep h0 h26 [] := K23.wr W26 (Or.inr sz_b2)
  obtain ⟨T28, X28, e28, st28⟩ := getS2 X26 hx hZ hown (host := "") (Or.inl (hw _ (List.mem_of_getElem? (i := 20) rfl))) Via.refl e26 (own_stk K26 S_DOUBLE) (g := (mkF m 58 #[.val (.int p1), .unset, .unset, .unset, .unset] [(.int (8 : Int32)), (.ref b2), (.ref b2)])) rfl (hb hby at_58)
  obtain ⟨cl_61, Ar_61, q_61, S_61, N_61, H_61, G_61⟩ := V26
  have hin61 : ¬ ((8 : Int32) < 0 ∨ cl_61.slots.size ≤ (8 : Int32).toNatClampNeg) := inb_of S_61 ⟨by decide, by decide⟩
  have Sto61 : Sto Z h26 b2 (.ref w27) := Sto.of Ar_61 (q_61.symm ▸ O2) (Ins.self (E_DOUBLE.keep K26))
  obtain ⟨T29, h29, X29, e29, W29, st29⟩ := stR X28 hx hZ e28 Ar_61 (j := (8 : Int32)) hin61 rfl Sto61 (g := (mkF m 61 #[.val (.int p1), .unset, .unset, .unset, .unset] [(.ref w27), (.int (8 : Int32)), (.ref b2), (.ref b2)])) rfl rfl (hb hby at_61)
  have V29 : Arv Z h29 b2 k2 (.object "com/example/stubwright/stubwright/model/BasicType") (17 : Int32) [(.ref w3), (.ref w6), (.ref w9), (.ref w12), (.ref w15), (.ref w18), (.ref w21), (.ref w24), (.ref w27), .null, .null, .null, .null, .null, .null, .null, .null] .null := Arv.set Ar_61 q_61 S_61 N_61 H_61 G_61 rfl W29 8 rfl (Nat.le_of_ble_eq_true rfl)
  have N29 := Fr.snoc X29 N26 g_b2
  have K29 : Keep h0 h29 [] := K26.wr W29 (Or.inr sz_b2)
  obtain ⟨T31, X31, e31, st31⟩ := getS2 X29 hx hZ hown (host := "") (Or.inl (hw _ (List.mem_of_getElem? (i := 22) rfl))) Via.refl e29 (own_stk K29 S_CHAR) (g := (mkF m 65 #[.val (.int p1), .unset, .unset, .unset, .unset] [(.int (9 : Int32)), (.ref b2), (.ref b2)])) rfl (hb hby at_65)
  obtain ⟨cl_68, Ar_68, q_68, S_68, N_68, H_68, G_68⟩ := V29
  have hin68 : ¬ ((9 : Int32) < 0 ∨ cl_68.slots.size ≤ (9 : Int32).toNatClampNeg) := inb_of S_68 ⟨by decide, by decide⟩
  have Sto68 : Sto Z h29 b2 (.ref w30) := Sto.of Ar_68 (q_68.symm ▸ O2) (Ins.self (E_CHAR.keep K29))
  obtain ⟨T32, h32, X32, e32, W32, st32⟩ := stR X31 hx hZ e31 Ar_68 (j := (9 : Int32)) hin68 rfl Sto68 (g := (mkF m 68 #[.val (.int p1), .unset, .unset, .unset, .unset] [(.ref w30), (.int (9 : Int32)), (.ref b2), (.ref b2)])) rfl rfl (hb hby at_68)
  have V32 : Arv Z h32 b2 k2 (.object "com/example/stubwright/stubwright/model/BasicType") (17 : Int32) [(.ref w3), (.ref w6), (.ref w9), (.ref w12), (.ref w15), (.ref w18), (.ref w21), (.ref w24), (.ref w27), (.ref w30), .null, .null, .null, .null, .null, .null, .null] .null := Arv.set Ar_68 q_68 S_68 N_68 H_68 G_68 rfl W32 9 rfl (Nat.le_of_ble_eq_true rfl)
  have N32 := Fr.snoc X32 N29 g_b2
  have K32 : Keep h0 h32 [] := K29.wr W32 (Or.inr sz_b2)
  obtain ⟨T34, X34, e34, st34⟩ := getS2 X32 hx hZ hown (host := "") (Or.inl (hw _ (List.mem_of_getElem? (i := 24) rfl))) Via.refl e32 (own_stk K32 S_WCHAR) (g := (mkF m 72 #[.val (.int p1), .unset, .unset, .unset, .unset] [(.int (10 : Int32)), (.ref b2), (.ref b2)])) rfl (hb hby at_72)
  obtain ⟨cl_75, Ar_75, q_75, S_75, N_75, H_75, G_75⟩ := V32
  have hin75 : ¬ ((10 : Int32) < 0 ∨ cl_75.slots.size ≤ (10 : Int32).toNatClampNeg) := inb_of S_75 ⟨by decide, by decide⟩
  have Sto75 : Sto Z h32 b2 (.ref w33) := Sto.of Ar_75 (q_75.symm ▸ O2) (Ins.self (E_WCHAR.keep K32))
  obtain ⟨T35, h35, X35, e35, W35, st35⟩ := stR X34 hx hZ e34 Ar_75 (j := (10 : Int32)) hin75 rfl Sto75 (g := (mkF m 75 #[.val (.int p1), .unset, .unset, .unset, .unset] [(.ref w33), (.int (10 : Int32)), (.ref b2), (.ref b2)])) rfl rfl (hb hby at_75)
  have V35 : Arv Z h35 b2 k2 (.object "com/example/stubwright/stubwright/model/BasicType") (17 : Int32) [(.ref w3), (.ref w6), (.ref w9), (.ref w12), (.ref w15), (.ref w18), (.ref w21), (.ref w24), (.ref w27), (.ref w30), (.ref w33), .null, .null, .null, .null, .null, .null] .null := Arv.set Ar_75 q_75 S_75 N_75 H_75 G_75 rfl W35 10 rfl (Nat.le_of_ble_eq_true rfl)
  have N35 := Fr.snoc X35 N32 g_b2
  have K35 : Keep h0 h35 [] := K32.wr W35 (Or.inr sz_b2)
  obtain ⟨T37, X37, e37, st37⟩ := getS2 X35 hx hZ hown (host := "") (Or.inl (hw _ (List.mem_of_getElem? (i := 26) rfl))) Via.refl e35 (own_stk K35 S_BOOLEAN) (g := (mkF m 79 #[.val (.int p1), .unset, .unset, .unset, .unset] [(.int (11 : Int32)), (.ref b2), (.ref b2)])) rfl (hb hby at_79)
  obtain ⟨cl_82, Ar_82, q_82, S_82, N_82, H_82, G_82⟩ := V35
  have hin82 : ¬ ((11 : Int32) < 0 ∨ cl_82.slots.size ≤ (11 : Int32).toNatClampNeg) := inb_of S_82 ⟨by decide, by decide⟩
  have Sto82 : Sto Z h35 b2 (.ref w36) := Sto.of Ar_82 (q_82.symm ▸ O2) (Ins.self (E_BOOLEAN.keep K35))
  obtain ⟨T38, h38, X38, e38, W38, st38⟩ := stR X37 hx hZ e37 Ar_82 (j := (11 : Int32)) hin82 rfl Sto82 (g := (mkF m 82 #[.val (.int p1), .unset, .unset, .unset, .unset] [(.ref w36), (.int (11 : Int32)), (.ref b2), (.ref b2)])) rfl rfl (hb hby at_82)
  have V38 : Arv Z h38 b2 k2 (.object "com/example/stubwright/stubwright/model/BasicType") (17 : Int32) [(.ref w3), (.ref w6), (.ref w9), (.ref w12), (.ref w15), (.ref w18), (.ref w21), (.ref w24), (.ref w27), (.ref w30), (.ref w33), (.ref w36), .null, .null, .null, .null, .null] .null := Arv.set Ar_82 q_82 S_82 N_82 H_82 G_82 rfl W38 11 rfl (Nat.le_of_ble_eq_true rfl)
  have N38 := Fr.snoc X38 N35 g_b2
  have K38 : Keep h0 h38 [] := K35.wr W38 (Or.inr sz_b2)
  obtain ⟨T40, X40, e40, st40⟩ := getS2 X38 hx hZ hown (host := "") (Or.inl (hw _ (List.mem_of_getElem? (i := 28) rfl))) Via.refl e38 (own_stk K38 S_OCTET) (g := (mkF m 86 #[.val (.int p1), .unset, .unset, .unset, .unset] [(.int (12 : Int32)), (.ref b2), (.ref b2)])) rfl (hb hby at_86)
  obtain ⟨cl_89, Ar_89, q_89, S_89, N_89, H_89, G_89⟩ := V38
  have hin89 : ¬ ((12 : Int32) < 0 ∨ cl_89.slots.size ≤ (12 : Int32).toNatClampNeg) := inb_of S_89 ⟨by decide, by decide⟩
  have Sto89 : Sto Z h38 b2 (.ref w39) := Sto.of Ar_89 (q_89.symm ▸ O2) (Ins.self (E_OCTET.keep K38))
  obtain ⟨T41, h41, X41, e41, W41, st41⟩ := stR X40 hx hZ e40 Ar_89 (j := (12 : Int32)) hin89 rfl Sto89 (g := (mkF m 89 #[.val (.int p1), .unset, .unset, .unset, .unset] [(.ref w39), (.int (12 : Int32)), (.ref b2), (.ref b2)])) rfl rfl (hb hby at_89)
  have V41 : Arv Z h41 b2 k2 (.object "com/example/stubwright/stubwright/model/BasicType") (17 : Int32) [(.ref w3), (.ref w6), (.ref w9), (.ref w12), (.ref w15), (.ref w18), (.ref w21), (.ref w24), (.ref w27), (.ref w30), (.ref w33), (.ref w36), (.ref w39), .null, .null, .null, .null] .null := Arv.set Ar_89 q_89 S_89 N_89 H_89 G_89 rfl W41 12 rfl (Nat.le_of_ble_eq_true rfl)
  have N41 := Fr.snoc X41 N38 g_b2
  have K41 : Keep h0 h41 [] := K38.wr W41 (Or.inr sz_b2)
  obtain ⟨T43, X43, e43, st43⟩ := getS2 X41 hx hZ hown (host := "") (Or.inl (hw _ (List.mem_of_getElem? (i := 30) rfl))) Via.refl e41 (own_stk K41 S_ANY) (g := (mkF m 93 #[.val (.int p1), .unset, .unset, .unset, .unset] [(.int (13 : Int32)), (.ref b2), (.ref b2)])) rfl (hb hby at_93)
  obtain ⟨cl_96, Ar_96, q_96, S_96, N_96, H_96, G_96⟩ := V41
  have hin96 : ¬ ((13 : Int32) < 0 ∨ cl_96.slots.size ≤ (13 : Int32).toNatClampNeg) := inb_of S_96 ⟨by decide, by decide⟩
  have Sto96 : Sto Z h41 b2 (.ref w42) := Sto.of Ar_96 (q_96.symm ▸ O2) (Ins.self (E_ANY.keep K41))
  obtain ⟨T44, h44, X44, e44, W44, st44⟩ := stR X43 hx hZ e43 Ar_96 (j := (13 : Int32)) hin96 rfl Sto96 (g := (mkF m 96 #[.val (.int p1), .unset, .unset, .unset, .unset] [(.ref w42), (.int (13 : Int32)), (.ref b2), (.ref b2)])) rfl rfl (hb hby at_96)
  have V44 : Arv Z h44 b2 k2 (.object "com/example/stubwright/stubwright/model/BasicType") (17 : Int32) [(.ref w3), (.ref w6), (.ref w9), (.ref w12), (.ref w15), (.ref w18), (.ref w21), (.ref w24), (.ref w27), (.ref w30), (.ref w33), (.ref w36), (.ref w39), (.ref w42), .null, .null, .null] .null := Arv.set Ar_96 q_96 S_96 N_96 H_96 G_96 rfl W44 13 rfl (Nat.le_of_ble_eq_true rfl)
  have N44 := Fr.snoc X44 N41 g_b2
  have K44 : Keep h0 h44 [] := K41.wr W44 (Or.inr sz_b2)
  obtain ⟨T46, X46, e46, st46⟩ := getS2 X44 hx hZ hown (host := "") (Or.inl (hw _ (List.mem_of_getElem? (i := 32) rfl))) Via.refl e44 (own_stk K44 S_STRING) (g := (mkF m 100 #[.val (.int p1), .unset, .unset, .unset, .unset] [(.int (14 : Int32)), (.ref b2), (.ref b2)])) rfl (hb hby at_100)
  obtain ⟨cl_103, Ar_103, q_103, S_103, N_103, H_103, G_103⟩ := V44
  have hin103 : ¬ ((14 : Int32) < 0 ∨ cl_103.slots.size ≤ (14 : Int32).toNatClampNeg) := inb_of S_103 ⟨by decide, by decide⟩
  have Sto103 : Sto Z h44 b2 (.ref w45) := Sto.of Ar_103 (q_103.symm ▸ O2) (Ins.self (E_STRING.keep K44))
  obtain ⟨T47, h47, X47, e47, W47, st47⟩ := stR X46 hx hZ e46 Ar_103 (j := (14 : Int32)) hin103 rfl Sto103 (g := (mkF m 103 #[.val (.int p1), .unset, .unset, .unset, .unset] [(.ref w45), (.int (14 : Int32)), (.ref b2), (.ref b2)])) rfl rfl (hb hby at_103)
  have V47 : Arv Z h47 b2 k2 (.object "com/example/stubwright/stubwright/model/BasicType") (17 : Int32) [(.ref w3), (.ref w6), (.ref w9), (.ref w12), (.ref w15), (.ref w18), (.ref w21), (.ref w24), (.ref w27), (.ref w30), (.ref w33), (.ref w36), (.ref w39), (.ref w42), (.ref w45), .null, .null] .null := Arv.set Ar_103 q_103 S_103 N_103 H_103 G_103 rfl W47 14 rfl (Nat.le_of_ble_eq_true rfl)
  have N47 := Fr.snoc X47 N44 g_b2
  have K47 : Keep h0 h47 [] := K44.wr W47 (Or.inr sz_b2)
  obtain ⟨T49, X49, e49, st49⟩ := getS2 X47 hx hZ hown (host := "") (Or.inl (hw _ (List.mem_of_getElem? (i := 34) rfl))) Via.refl e47 (own_stk K47 S_WSTRING) (g := (mkF m 107 #[.val (.int p1), .unset, .unset, .unset, .unset] [(.int (15 : Int32)), (.ref b2), (.ref b2)])) rfl (hb hby at_107)
  obtain ⟨cl_110, Ar_110, q_110, S_110, N_110, H_110, G_110⟩ := V47
  have hin110 : ¬ ((15 : Int32) < 0 ∨ cl_110.slots.size ≤ (15 : Int32).toNatClampNeg) := inb_of S_110 ⟨by decide, by decide⟩
  have Sto110 : Sto Z h47 b2 (.ref w48) := Sto.of Ar_110 (q_110.symm ▸ O2) (Ins.self (E_WSTRING.keep K47))
  obtain ⟨T50, h50, X50, e50, W50, st50⟩ := stR X49 hx hZ e49 Ar_110 (j := (15 : Int32)) hin110 rfl Sto110 (g := (mkF m 110 #[.val (.int p1), .unset, .unset, .unset, .unset] [(.ref w48), (.int (15 : Int32)), (.ref b2), (.ref b2)])) rfl rfl (hb hby at_110)
  have V50 : Arv Z h50 b2 k2 (.object "com/example/stubwright/stubwright/model/BasicType") (17 : Int32) [(.ref w3), (.ref w6), (.ref w9), (.ref w12), (.ref w15), (.ref w18), (.ref w21), (.ref w24), (.ref w27), (.ref w30), (.ref w33), (.ref w36), (.ref w39), (.ref w42), (.ref w45), (.ref w48), .null] .null := Arv.set Ar_110 q_110 S_110 N_110 H_110 G_110 rfl W50 15 rfl (Nat.le_of_ble_eq_true rfl)
  have N50 := Fr.snoc X50 N47 g_b2
  have K50 : Keep h0 h50 [] := K47.wr W50 (Or.inr sz_b2)
  obtain ⟨T52, X52, e52, st52⟩ := getS2 X50 hx hZ hown (host := "") (Or.inl (hw _ (List.mem_of_getElem? (i := 36) rfl))) Via.refl e50 (own_stk K50 S_OBJECT) (g := (mkF m 114 #[.val (.int p1), .unset, .unset, .unset, .unset] [(.int (16 : Int32)), (.ref b2), (.ref b2)])) rfl (hb hby at_114)
  obtain ⟨cl_117, Ar_117, q_117, S_117, N_117, H_117, G_117⟩ := V50
  have hin117 : ¬ ((16 : Int32) < 0 ∨ cl_117.slots.size ≤ (16 : Int32).toNatClampNeg) := inb_of S_117 ⟨by decide, by decide⟩
  have Sto117 : Sto Z h50 b2 (.ref w51) := Sto.of Ar_117 (q_117.symm ▸ O2) (Ins.self (E_OBJECT.keep K50))
  obtain ⟨T53, h53, X53, e53, W53, st53⟩ := stR X52 hx hZ e52 Ar_117 (j := (16 : Int32)) hin117 rfl Sto117 (g := (mkF m 117 #[.val (.int p1), .unset, .unset, .unset, .unset] [(.ref w51), (.int (16 : Int32)), (.ref b2), (.ref b2)])) rfl rfl (hb hby at_117)
  have V53 : Arv Z h53 b2 k2 (.object "com/example/stubwright/stubwright/model/BasicType") (17 : Int32) [(.ref w3), (.ref w6), (.ref w9), (.ref w12), (.ref w15), (.ref w18), (.ref w21), (.ref w24), (.ref w27), (.ref w30), (.ref w33), (.ref w36), (.ref w39), (.ref w42), (.ref w45), (.ref w48), (.ref w51)] .null := Arv.set Ar_117 q_117 S_117 N_117 H_117 G_117 rfl W53 16 rfl (Nat.le_of_ble_eq_true rfl)
  have N53 := Fr.snoc X53 N50 g_b2
  have K53 : Keep h0 h53 [] := K50.wr W53 (Or.inr sz_b2)
  obtain ⟨cl_b, Ar_b2, q_b, S_b, N_b, H_b, G_b⟩ := V53
  have hin129 : ¬ (((p1 &&& (2147483647 : Int32)) % (17 : Int32)) < 0 ∨ cl_b.slots.size ≤ ((p1 &&& (2147483647 : Int32)) % (17 : Int32)).toNatClampNeg) := inb_of S_b hKK
  have hat129 : cl_b.slots[((p1 &&& (2147483647 : Int32)) % (17 : Int32)).toNatClampNeg]? = some (.ref w54) := by rw [H_b _ (Nat.lt_of_not_le fun q => hin129 (Or.inr q)), hat]
  obtain ⟨cq55, kq55, q55a, q55b, q55c⟩ := isOf hZ e53 (E_w54.keep K53)
  obtain ⟨_, _, ⟨T55, L55, k55, n55⟩, -, X55, ⟨Lc55, hQ55, l55, y55, z55⟩, st55⟩ := X53.virtualBack hx (y := (⟨"com/example/stubwright/stubwright/model/BasicType", "isInteger", "()Z"⟩ : MethodName)) (z := (⟨"com/example/stubwright/stubwright/model/BasicType", "isInteger", "()Z"⟩ : MethodName)) hown (mvT hZ (hw _ (List.mem_of_getElem? (i := 39) rfl))) (mvT hZ (hw _ (List.mem_of_getElem? (i := 40) rfl))) (notFace_of_selects (args := #[]) (mvT hZ (hw _ (List.mem_of_getElem? (i := 42) rfl)))) (mvT hZ (hw _ (List.mem_of_getElem? (i := 42) rfl))) (mvT hZ (hw _ (List.mem_of_getElem? (i := 41) rfl))) (by decide) (backOf (W := 0) (rm1_0 l Z a0 hw [] w54 bits h53 n0 (Nat.le_trans Z0 K53.1) (F_aa.keep K53 nin0) hbits) hZ (hw _ (List.mem_of_getElem? (i := 43) rfl)) (hw _ (List.mem_of_getElem? (i := 3) rfl)) (by decide) (by decide)) q55a q55c (g := (mkF m 150 #[.val (.int p1), .val (.ref b2), .val (.int ((p1 &&& (2147483647 : Int32)) % (17 : Int32))), .val (.ref w54), .val (.int (0 : Int32))] [(.ref w54)])) rfl (by rw [hml]; rfl) (Steps.refl _) (argsL := []) (rest := []) (lenOf pd_0_0 rfl) rfl (by show 2 * 0 + _ ≤ _; exact Nat.le_of_eq rfl) (hb hby at_150) (fun _ _ => ⟨rfl, e53, (by decide : 1 + 0 ≤ _), (by decide : 17 + 0 ≤ _)⟩)
  dsimp only [Pt.U, Pt.locs, Pt.cells, Pt.slots] at X55 l55 y55 z55 st55 hQ55
  subst l55 y55 z55
  obtain ⟨rfl, N55q, hE55⟩ := hQ55      -- what it returned, that it wrote nothing old, and the rest of your Q1
  have N55 := Fr.app N53 N55q
  obtain ⟨fs, hr, hrun, hended, hW, hsame⟩ := X55.leave (v := some (.int (1 : Int32))) (fun h => by rw [Bd.returns] at h; cases h)
  refine ⟨_, _, pre0 _ ?_, hrun, hended, _, _, rfl, ?_, ⟨_, rfl⟩, hW, hsame.mono (by decide) (by decide)⟩
  · show Steps p.tables e below (s₁.setTop (mkF m 0 #[.val (.int p1), .unset, .unset, .unset, .unset] [])) _
    refine XS.bipush X0.here hx rfl (hb hby at_0) ?_
    show Steps p.tables e below (s₁.setTop (mkF m 2 #[.val (.int p1), .unset, .unset, .unset, .unset] [(.int (17 : Int32))])) _
    refine st2 _ ?_
    show Steps p.tables e below (T2.setTop (mkF m 5 #[.val (.int p1), .unset, .unset, .unset, .unset] [(.ref b2)])) _
    refine XS.dup X2.here hx rfl (hb hby at_5) rfl rfl ?_
    show Steps p.tables e below (T2.setTop (mkF m 6 #[.val (.int p1), .unset, .unset, .unset, .unset] [(.ref b2), (.ref b2)])) _
    refine XS.iconst X2.here hx rfl (hb hby at_6) ?_
    show Steps p.tables e below (T2.setTop (mkF m 7 #[.val (.int p1), .unset, .unset, .unset, .unset] [(.int (0 : Int32)), (.ref b2), (.ref b2)])) _
    refine st4 _ ?_
    show Steps p.tables e below (T4.setTop (mkF m 10 #[.val (.int p1), .unset, .unset, .unset, .unset] [(.ref w3), (.int (0 : Int32)), (.ref b2), (.ref b2)])) _
    refine st5 _ ?_
    show Steps p.tables e below (T5.setTop (mkF m 11 #[.val (.int p1), .unset, .unset, .unset, .unset] [(.ref b2)])) _
    refine XS.dup X5.here hx rfl (hb hby at_11) rfl rfl ?_
    show Steps p.tables e below (T5.setTop (mkF m 12 #[.val (.int p1), .unset, .unset, .unset, .unset] [(.ref b2), (.ref b2)])) _
    refine XS.iconst X5.here hx rfl (hb hby at_12) ?_
    show Steps p.tables e below (T5.setTop (mkF m 13 #[.val (.int p1), .unset, .unset, .unset, .unset] [(.int (1 : Int32)), (.ref b2), (.ref b2)])) _
    refine st7 _ ?_
    show Steps p.tables e below (T7.setTop (mkF m 16 #[.val (.int p1), .unset, .unset, .unset, .unset] [(.ref w6), (.int (1 : Int32)), (.ref b2), (.ref b2)])) _
    refine st8 _ ?_
    show Steps p.tables e below (T8.setTop (mkF m 17 #[.val (.int p1), .unset, .unset, .unset, .unset] [(.ref b2)])) _
    refine XS.dup X8.here hx rfl (hb hby at_17) rfl rfl ?_
    show Steps p.tables e below (T8.setTop (mkF m 18 #[.val (.int p1), .unset, .unset, .unset, .unset] [(.ref b2), (.ref b2)])) _
    refine XS.iconst X8.here hx rfl (hb hby at_18) ?_
    show Steps p.tables e below (T8.setTop (mkF m 19 #[.val (.int p1), .unset, .unset, .unset, .unset] [(.int (2 : Int32)), (.ref b2), (.ref b2)])) _
    refine st10 _ ?_
    show Steps p.tables e below (T10.setTop (mkF m 22 #[.val (.int p1), .unset, .unset, .unset, .unset] [(.ref w9), (.int (2 : Int32)), (.ref b2), (.ref b2)])) _
    refine st11 _ ?_
    show Steps p.tables e below (T11.setTop (mkF m 23 #[.val (.int p1), .unset, .unset, .unset, .unset] [(.ref b2)])) _
    refine XS.dup X11.here hx rfl (hb hby at_23) rfl rfl ?_
    show Steps p.tables e below (T11.setTop (mkF m 24 #[.val (.int p1), .unset, .unset, .unset, .unset] [(.ref b2), (.ref b2)])) _
    refine XS.iconst X11.here hx rfl (hb hby at_24) ?_
    show Steps p.tables e below (T11.setTop (mkF m 25 #[.val (.int p1), .unset, .unset, .unset, .unset] [(.int (3 : Int32)), (.ref b2), (.ref b2)])) _
    refine st13 _ ?_
    show Steps p.tables e below (T13.setTop (mkF m 28 #[.val (.int p1), .unset, .unset, .unset, .unset] [(.ref w12), (.int (3 : Int32)), (.ref b2), (.ref b2)])) _
    refine st14 _ ?_
    show Steps p.tables e below (T14.setTop (mkF m 29 #[.val (.int p1), .unset, .unset, .unset, .unset] [(.ref b2)])) _
    refine XS.dup X14.here hx rfl (hb hby at_29) rfl rfl ?_
    show Steps p.tables e below (T14.setTop (mkF m 30 #[.val (.int p1), .unset, .unset, .unset, .unset] [(.ref b2), (.ref b2)])) _
    refine XS.iconst X14.here hx rfl (hb hby at_30) ?_
    show Steps p.tables e below (T14.setTop (mkF m 31 #[.val (.int p1), .unset, .unset, .unset, .unset] [(.int (4 : Int32)), (.ref b2), (.ref b2)])) _
    refine st16 _ ?_
    show Steps p.tables e below (T16.setTop (mkF m 34 #[.val (.int p1), .unset, .unset, .unset, .unset] [(.ref w15), (.int (4 : Int32)), (.ref b2), (.ref b2)])) _
    refine st17 _ ?_
    show Steps p.tables e below (T17.setTop (mkF m 35 #[.val (.int p1), .unset, .unset, .unset, .unset] [(.ref b2)])) _
    refine XS.dup X17.here hx rfl (hb hby at_35) rfl rfl ?_
    show Steps p.tables e below (T17.setTop (mkF m 36 #[.val (.int p1), .unset, .unset, .unset, .unset] [(.ref b2), (.ref b2)])) _
    refine XS.iconst X17.here hx rfl (hb hby at_36) ?_
    show Steps p.tables e below (T17.setTop (mkF m 37 #[.val (.int p1), .unset, .unset, .unset, .unset] [(.int (5 : Int32)), (.ref b2), (.ref b2)])) _
    refine st19 _ ?_
    show Steps p.tables e below (T19.setTop (mkF m 40 #[.val (.int p1), .unset, .unset, .unset, .unset] [(.ref w18), (.int (5 : Int32)), (.ref b2), (.ref b2)])) _
    refine st20 _ ?_
    show Steps p.tables e below (T20.setTop (mkF m 41 #[.val (.int p1), .unset, .unset, .unset, .unset] [(.ref b2)])) _
    refine XS.dup X20.here hx rfl (hb hby at_41) rfl rfl ?_
    show Steps p.tables e below (T20.setTop (mkF m 42 #[.val (.int p1), .unset, .unset, .unset, .unset] [(.ref b2), (.ref b2)])) _
    refine XS.bipush X20.here hx rfl (hb hby at_42) ?_
    show Steps p.tables e below (T20.setTop (mkF m 44 #[.val (.int p1), .unset, .unset, .unset, .unset] [(.int (6 : Int32)), (.ref b2), (.ref b2)])) _
    refine st22 _ ?_
    show Steps p.tables e below (T22.setTop (mkF m 47 #[.val (.int p1), .unset, .unset, .unset, .unset] [(.ref w21), (.int (6 : Int32)), (.ref b2), (.ref b2)])) _
    refine st23 _ ?_
    show Steps p.tables e below (T23.setTop (mkF m 48 #[.val (.int p1), .unset, .unset, .unset, .unset] [(.ref b2)])) _
    refine XS.dup X23.here hx rfl (hb hby at_48) rfl rfl ?_
    show Steps p.tables e below (T23.setTop (mkF m 49 #[.val (.int p1), .unset, .unset, .unset, .unset] [(.ref b2), (.ref b2)])) _
    refine XS.bipush X23.here hx rfl (hb hby at_49) ?_
    show Steps p.tables e below (T23.setTop (mkF m 51 #[.val (.int p1), .unset, .unset, .unset, .unset] [(.int (7 : Int32)), (.ref b2), (.ref b2)])) _
    refine st25 _ ?_
    show Steps p.tables e below (T25.setTop (mkF m 54 #[.val (.int p1), .unset, .unset, .unset, .unset] [(.ref w24), (.int (7 : Int32)), (.ref b2), (.ref b2)])) _
    refine st26 _ ?_
    show Steps p.tables e below (T26.setTop (mkF m 55 #[.val (.int p1), .unset, .unset, .unset, .unset] [(.ref b2)])) _
    refine XS.dup X26.here hx rfl (hb hby at_55) rfl rfl ?_
    show Steps p.tables e below (T26.setTop (mkF m 56 #[.val (.int p1), .unset, .unset, .unset, .unset] [(.ref b2), (.ref b2)])) _
    refine XS.bipush X26.here hx rfl (hb hby at_56) ?_
    show Steps p.tables e below (T26.setTop (mkF m 58 #[.val (.int p1), .unset, .unset, .unset, .unset] [(.int (8 : Int32)), (.ref b2), (.ref b2)])) _
    refine st28 _ ?_
    show Steps p.tables e below (T28.setTop (mkF m 61 #[.val (.int p1), .unset, .unset, .unset, .unset] [(.ref w27), (.int (8 : Int32)), (.ref b2), (.ref b2)])) _
    refine st29 _ ?_
    show Steps p.tables e below (T29.setTop (mkF m 62 #[.val (.int p1), .unset, .unset, .unset, .unset] [(.ref b2)])) _
    refine XS.dup X29.here hx rfl (hb hby at_62) rfl rfl ?_
    show Steps p.tables e below (T29.setTop (mkF m 63 #[.val (.int p1), .unset, .unset, .unset, .unset] [(.ref b2), (.ref b2)])) _
    refine XS.bipush X29.here hx rfl (hb hby at_63) ?_
    show Steps p.tables e below (T29.setTop (mkF m 65 #[.val (.int p1), .unset, .unset, .unset, .unset] [(.int (9 : Int32)), (.ref b2), (.ref b2)])) _
    refine st31 _ ?_
    show Steps p.tables e below (T31.setTop (mkF m 68 #[.val (.int p1), .unset, .unset, .unset, .unset] [(.ref w30), (.int (9 : Int32)), (.ref b2), (.ref b2)])) _
    refine st32 _ ?_
    show Steps p.tables e below (T32.setTop (mkF m 69 #[.val (.int p1), .unset, .unset, .unset, .unset] [(.ref b2)])) _
    refine XS.dup X32.here hx rfl (hb hby at_69) rfl rfl ?_
    show Steps p.tables e below (T32.setTop (mkF m 70 #[.val (.int p1), .unset, .unset, .unset, .unset] [(.ref b2), (.ref b2)])) _
    refine XS.bipush X32.here hx rfl (hb hby at_70) ?_
    show Steps p.tables e below (T32.setTop (mkF m 72 #[.val (.int p1), .unset, .unset, .unset, .unset] [(.int (10 : Int32)), (.ref b2), (.ref b2)])) _
    refine st34 _ ?_
    show Steps p.tables e below (T34.setTop (mkF m 75 #[.val (.int p1), .unset, .unset, .unset, .unset] [(.ref w33), (.int (10 : Int32)), (.ref b2), (.ref b2)])) _
    refine st35 _ ?_
    show Steps p.tables e below (T35.setTop (mkF m 76 #[.val (.int p1), .unset, .unset, .unset, .unset] [(.ref b2)])) _
    refine XS.dup X35.here hx rfl (hb hby at_76) rfl rfl ?_
    show Steps p.tables e below (T35.setTop (mkF m 77 #[.val (.int p1), .unset, .unset, .unset, .unset] [(.ref b2), (.ref b2)])) _
    refine XS.bipush X35.here hx rfl (hb hby at_77) ?_
    show Steps p.tables e below (T35.setTop (mkF m 79 #[.val (.int p1), .unset, .unset, .unset, .unset] [(.int (11 : Int32)), (.ref b2), (.ref b2)])) _
    refine st37 _ ?_
    show Steps p.tables e below (T37.setTop (mkF m 82 #[.val (.int p1), .unset, .unset, .unset, .unset] [(.ref w36), (.int (11 : Int32)), (.ref b2), (.ref b2)])) _
    refine st38 _ ?_
    show Steps p.tables e below (T38.setTop (mkF m 83 #[.val (.int p1), .unset, .unset, .unset, .unset] [(.ref b2)])) _
    refine XS.dup X38.here hx rfl (hb hby at_83) rfl rfl ?_
    show Steps p.tables e below (T38.setTop (mkF m 84 #[.val (.int p1), .unset, .unset, .unset, .unset] [(.ref b2), (.ref b2)])) _
    refine XS.bipush X38.here hx rfl (hb hby at_84) ?_
    show Steps p.tables e below (T38.setTop (mkF m 86 #[.val (.int p1), .unset, .unset, .unset, .unset] [(.int (12 : Int32)), (.ref b2), (.ref b2)])) _
    refine st40 _ ?_
    show Steps p.tables e below (T40.setTop (mkF m 89 #[.val (.int p1), .unset, .unset, .unset, .unset] [(.ref w39), (.int (12 : Int32)), (.ref b2), (.ref b2)])) _
    refine st41 _ ?_
    show Steps p.tables e below (T41.setTop (mkF m 90 #[.val (.int p1), .unset, .unset, .unset, .unset] [(.ref b2)])) _
    refine XS.dup X41.here hx rfl (hb hby at_90) rfl rfl ?_
    show Steps p.tables e below (T41.setTop (mkF m 91 #[.val (.int p1), .unset, .unset, .unset, .unset] [(.ref b2), (.ref b2)])) _
    refine XS.bipush X41.here hx rfl (hb hby at_91) ?_
    show Steps p.tables e below (T41.setTop (mkF m 93 #[.val (.int p1), .unset, .unset, .unset, .unset] [(.int (13 : Int32)), (.ref b2), (.ref b2)])) _
    refine st43 _ ?_
    show Steps p.tables e below (T43.setTop (mkF m 96 #[.val (.int p1), .unset, .unset, .unset, .unset] [(.ref w42), (.int (13 : Int32)), (.ref b2), (.ref b2)])) _
    refine st44 _ ?_
    show Steps p.tables e below (T44.setTop (mkF m 97 #[.val (.int p1), .unset, .unset, .unset, .unset] [(.ref b2)])) _
    refine XS.dup X44.here hx rfl (hb hby at_97) rfl rfl ?_
    show Steps p.tables e below (T44.setTop (mkF m 98 #[.val (.int p1), .unset, .unset, .unset, .unset] [(.ref b2), (.ref b2)])) _
    refine XS.bipush X44.here hx rfl (hb hby at_98) ?_
    show Steps p.tables e below (T44.setTop (mkF m 100 #[.val (.int p1), .unset, .unset, .unset, .unset] [(.int (14 : Int32)), (.ref b2), (.ref b2)])) _
    refine st46 _ ?_
    show Steps p.tables e below (T46.setTop (mkF m 103 #[.val (.int p1), .unset, .unset, .unset, .unset] [(.ref w45), (.int (14 : Int32)), (.ref b2), (.ref b2)])) _
    refine st47 _ ?_
    show Steps p.tables e below (T47.setTop (mkF m 104 #[.val (.int p1), .unset, .unset, .unset, .unset] [(.ref b2)])) _
    refine XS.dup X47.here hx rfl (hb hby at_104) rfl rfl ?_
    show Steps p.tables e below (T47.setTop (mkF m 105 #[.val (.int p1), .unset, .unset, .unset, .unset] [(.ref b2), (.ref b2)])) _
    refine XS.bipush X47.here hx rfl (hb hby at_105) ?_
    show Steps p.tables e below (T47.setTop (mkF m 107 #[.val (.int p1), .unset, .unset, .unset, .unset] [(.int (15 : Int32)), (.ref b2), (.ref b2)])) _
    refine st49 _ ?_
    show Steps p.tables e below (T49.setTop (mkF m 110 #[.val (.int p1), .unset, .unset, .unset, .unset] [(.ref w48), (.int (15 : Int32)), (.ref b2), (.ref b2)])) _
    refine st50 _ ?_
    show Steps p.tables e below (T50.setTop (mkF m 111 #[.val (.int p1), .unset, .unset, .unset, .unset] [(.ref b2)])) _
    refine XS.dup X50.here hx rfl (hb hby at_111) rfl rfl ?_
    show Steps p.tables e below (T50.setTop (mkF m 112 #[.val (.int p1), .unset, .unset, .unset, .unset] [(.ref b2), (.ref b2)])) _
    refine XS.bipush X50.here hx rfl (hb hby at_112) ?_
    show Steps p.tables e below (T50.setTop (mkF m 114 #[.val (.int p1), .unset, .unset, .unset, .unset] [(.int (16 : Int32)), (.ref b2), (.ref b2)])) _
    refine st52 _ ?_
    show Steps p.tables e below (T52.setTop (mkF m 117 #[.val (.int p1), .unset, .unset, .unset, .unset] [(.ref w51), (.int (16 : Int32)), (.ref b2), (.ref b2)])) _
    refine st53 _ ?_
    show Steps p.tables e below (T53.setTop (mkF m 118 #[.val (.int p1), .unset, .unset, .unset, .unset] [(.ref b2)])) _
    refine XS.astoreN X53.here hx rfl (hb hby at_118) rfl rfl (l' := #[.val (.int p1), .val (.ref b2), .unset, .unset, .unset]) rfl ?_
    show Steps p.tables e below (T53.setTop (mkF m 119 #[.val (.int p1), .val (.ref b2), .unset, .unset, .unset] [])) _
    refine XS.iloadN X53.here hx rfl (hb hby at_119) rfl ?_
    show Steps p.tables e below (T53.setTop (mkF m 120 #[.val (.int p1), .val (.ref b2), .unset, .unset, .unset] [(.int p1)])) _
    refine X53.ldcInt hx hown (mvT hZ (hw _ (List.mem_of_getElem? (i := 38) rfl))) (g := (mkF m 120 #[.val (.int p1), .val (.ref b2), .unset, .unset, .unset] [(.int p1)])) rfl (hb hby at_120) _ ?_
    show Steps p.tables e below (T53.setTop (mkF m 122 #[.val (.int p1), .val (.ref b2), .unset, .unset, .unset] [(.int (2147483647 : Int32)), (.int p1)])) _
    refine XS.iand X53.here hx rfl (hb hby at_122) rfl ?_
    show Steps p.tables e below (T53.setTop (mkF m 123 #[.val (.int p1), .val (.ref b2), .unset, .unset, .unset] [(.int (p1 &&& (2147483647 : Int32)))])) _
    refine XS.bipush X53.here hx rfl (hb hby at_123) ?_
    show Steps p.tables e below (T53.setTop (mkF m 125 #[.val (.int p1), .val (.ref b2), .unset, .unset, .unset] [(.int (17 : Int32)), (.int (p1 &&& (2147483647 : Int32)))])) _
    refine iremM X53 hx rfl (hb hby at_125) rfl (by decide) ?_
    show Steps p.tables e below (T53.setTop (mkF m 126 #[.val (.int p1), .val (.ref b2), .unset, .unset, .unset] [(.int ((p1 &&& (2147483647 : Int32)) % (17 : Int32)))])) _
    refine XS.istoreN X53.here hx rfl (hb hby at_126) rfl (l' := #[.val (.int p1), .val (.ref b2), .val (.int ((p1 &&& (2147483647 : Int32)) % (17 : Int32))), .unset, .unset]) rfl ?_
    show Steps p.tables e below (T53.setTop (mkF m 127 #[.val (.int p1), .val (.ref b2), .val (.int ((p1 &&& (2147483647 : Int32)) % (17 : Int32))), .unset, .unset] [])) _
    refine XS.aloadN X53.here hx rfl (hb hby at_127) rfl rfl ?_
    show Steps p.tables e below (T53.setTop (mkF m 128 #[.val (.int p1), .val (.ref b2), .val (.int ((p1 &&& (2147483647 : Int32)) % (17 : Int32))), .unset, .unset] [(.ref b2)])) _
    refine XS.iloadN X53.here hx rfl (hb hby at_128) rfl ?_
    show Steps p.tables e below (T53.setTop (mkF m 129 #[.val (.int p1), .val (.ref b2), .val (.int ((p1 &&& (2147483647 : Int32)) % (17 : Int32))), .unset, .unset] [(.int ((p1 &&& (2147483647 : Int32)) % (17 : Int32))), (.ref b2)])) _
    refine X53.aaload hx (j := ((p1 &&& (2147483647 : Int32)) % (17 : Int32))) (v := (.ref w54)) (by rw [e53]; exact Ar_b2.1) (State.isArrayOf_alike hZ.alike Ar_b2.2.1) rfl Ar_b2.2.2 hin129 hat129 (g := (mkF m 129 #[.val (.int p1), .val (.ref b2), .val (.int ((p1 &&& (2147483647 : Int32)) % (17 : Int32))), .unset, .unset] [(.int ((p1 &&& (2147483647 : Int32)) % (17 : Int32))), (.ref b2)])) rfl rfl (hb hby at_129) _ ?_
    show Steps p.tables e below (T53.setTop (mkF m 130 #[.val (.int p1), .val (.ref b2), .val (.int ((p1 &&& (2147483647 : Int32)) % (17 : Int32))), .unset, .unset] [(.ref w54)])) _
    refine XS.astoreN X53.here hx rfl (hb hby at_130) rfl rfl (l' := #[.val (.int p1), .val (.ref b2), .val (.int ((p1 &&& (2147483647 : Int32)) % (17 : Int32))), .val (.ref w54), .unset]) rfl ?_
    show Steps p.tables e below (T53.setTop (mkF m 131 #[.val (.int p1), .val (.ref b2), .val (.int ((p1 &&& (2147483647 : Int32)) % (17 : Int32))), .val (.ref w54), .unset] [])) _
    refine XS.iloadN X53.here hx rfl (hb hby at_131) rfl ?_
    show Steps p.tables e below (T53.setTop (mkF m 132 #[.val (.int p1), .val (.ref b2), .val (.int ((p1 &&& (2147483647 : Int32)) % (17 : Int32))), .val (.ref w54), .unset] [(.int ((p1 &&& (2147483647 : Int32)) % (17 : Int32)))])) _
    refine XS.iconst X53.here hx rfl (hb hby at_132) ?_
    show Steps p.tables e below (T53.setTop (mkF m 133 #[.val (.int p1), .val (.ref b2), .val (.int ((p1 &&& (2147483647 : Int32)) % (17 : Int32))), .val (.ref w54), .unset] [(.int (1 : Int32)), (.int ((p1 &&& (2147483647 : Int32)) % (17 : Int32)))])) _
    refine XS.icmpYes X53.here hx rfl (pc0 := 133) (pc' := 146) rfl (hb hby at_133) rfl (tlt hc133).1 (by decide) (by decide) ?_
    show Steps p.tables e below (T53.setTop (mkF m 146 #[.val (.int p1), .val (.ref b2), .val (.int ((p1 &&& (2147483647 : Int32)) % (17 : Int32))), .val (.ref w54), .unset] [])) _
    refine XS.iconst X53.here hx rfl (hb hby at_146) ?_
    show Steps p.tables e below (T53.setTop (mkF m 147 #[.val (.int p1), .val (.ref b2), .val (.int ((p1 &&& (2147483647 : Int32)) % (17 : Int32))), .val (.ref w54), .unset] [(.int (0 : Int32))])) _
    refine XS.istore X53.here hx rfl (hb hby at_147) rfl (l' := #[.val (.int p1), .val (.ref b2), .val (.int ((p1 &&& (2147483647 : Int32)) % (17 : Int32))), .val (.ref w54), .val (.int (0 : Int32))]) rfl ?_
    show Steps p.tables e below (T53.setTop (mkF m 149 #[.val (.int p1), .val (.ref b2), .val (.int ((p1 &&& (2147483647 : Int32)) % (17 : Int32))), .val (.ref w54), .val (.int (0 : Int32))] [])) _
    refine XS.aloadN X53.here hx rfl (hb hby at_149) rfl rfl ?_
    show Steps p.tables e below (T53.setTop (mkF m 150 #[.val (.int p1), .val (.ref b2), .val (.int ((p1 &&& (2147483647 : Int32)) % (17 : Int32))), .val (.ref w54), .val (.int (0 : Int32))] [(.ref w54)])) _
    refine st55.trans ?_
    show Steps p.tables e below (T55.setTop (mkF m 153 #[.val (.int p1), .val (.ref b2), .val (.int ((p1 &&& (2147483647 : Int32)) % (17 : Int32))), .val (.ref w54), .val (.int (0 : Int32))] [(.int (0 : Int32))])) _
    refine XS.iload X55.here hx rfl (hb hby at_153) rfl ?_
    show Steps p.tables e below (T55.setTop (mkF m 155 #[.val (.int p1), .val (.ref b2), .val (.int ((p1 &&& (2147483647 : Int32)) % (17 : Int32))), .val (.ref w54), .val (.int (0 : Int32))] [(.int (0 : Int32)), (.int (0 : Int32))])) _
    refine XS.icmpNo X55.here hx rfl (hb hby at_155) rfl (teq (rfl : (0 : Int32) = (0 : Int32))).2 ?_
    show Steps p.tables e below (T55.setTop (mkF m 158 #[.val (.int p1), .val (.ref b2), .val (.int ((p1 &&& (2147483647 : Int32)) % (17 : Int32))), .val (.ref w54), .val (.int (0 : Int32))] [])) _
    refine XS.iconst X55.here hx rfl (hb hby at_158) ?_
    show Steps p.tables e below (T55.setTop (mkF m 159 #[.val (.int p1), .val (.ref b2), .val (.int ((p1 &&& (2147483647 : Int32)) % (17 : Int32))), .val (.ref w54), .val (.int (0 : Int32))] [(.int (1 : Int32))])) _
    refine XS.goto X55.here hx rfl (pc0 := 159) (pc' := 163) rfl (hb hby at_159) (by decide) (by decide) ?_
    show Steps p.tables e below (T55.setTop (mkF m 163 #[.val (.int p1), .val (.ref b2), .val (.int ((p1 &&& (2147483647 : Int32)) % (17 : Int32))), .val (.ref w54), .val (.int (0 : Int32))] [(.int (1 : Int32))])) _
    exact retN X55 hx (t := .boolean) Bd.returns (by simp) (hb hby at_163) hr
  · show Q0_l Z p1 w3 w6 w9 w12 w15 w18 w21 w24 w27 w30 w33 w36 w39 w42 w45 w48 w51 w54 h0 n0 _ T55.heap _
    exact ⟨rfl, N55⟩
def Q0_h (Z : State) (p1 : Int32) (w3 : Addr) (w6 : Addr) (w9 : Addr) (w12 : Addr) (w15 : Addr) (w18 : Addr) (w21 : Addr) (w24 : Addr) (w27 : Addr) (w30 : Addr) (w33 : Addr) (w36 : Addr) (w39 : Addr) (w42 : Addr) (w45 : Addr) (w48 : Addr) (w51 : Addr) (w54 : Addr) (h0 : Heap) (n0 : Nat) (v : Option Value) (h : Heap) (L : List Loc) : Prop := v = some (.int (1 : Int32)) ∧ Fr n0 L
set_option maxRecDepth 65536 in
set_option maxHeartbeats 40000000 in
theorem rm0_h (l : Launch) (Z : State) (a0 : Array Value) (hw : ∀ d ∈ tables_1, d.before a0 Z = true) (ws : List Jvm.Cond) (bits : Int32) (p1 : Int32) (w3 : Addr) (w6 : Addr) (w9 : Addr) (w12 : Addr) (w15 : Addr) (w18 : Addr) (w21 : Addr) (w24 : Addr) (w27 : Addr) (w30 : Addr) (w33 : Addr) (w36 : Addr) (w39 : Addr) (w42 : Addr) (w45 : Addr) (w48 : Addr) (w51 : Addr) (w54 : Addr) (h0 : Heap) (n0 : Nat) (Z0 : n0 ≤ h0.size) (S_VOID : Sta Z h0 "com/example/stubwright/stubwright/model/BasicType" "VOID" "Lcom/example/stubwright/stubwright/model/BasicType;" (.ref w3)) (E_VOID : Exa Z h0 w3 "com/example/stubwright/stubwright/model/BasicType") (S_SHORT : Sta Z h0 "com/example/stubwright/stubwright/model/BasicType" "SHORT" "Lcom/example/stubwright/stubwright/model/BasicType;" (.ref w6)) (E_SHORT : Exa Z h0 w6 "com/example/stubwright/stubwright/model/BasicType") (S_LONG : Sta Z h0 "com/example/stubwright/stubwright/model/BasicType" "LONG" "Lcom/example/stubwright/stubwright/model/BasicType;" (.ref w9)) (E_LONG : Exa Z h0 w9 "com/example/stubwright/stubwright/model/BasicType") (S_LONG_LONG : Sta Z h0 "com/example/stubwright/stubwright/model/BasicType" "LONG_LONG" "Lcom/example/stubwright/stubwright/model/BasicType;" (.ref w12)) (E_LONG_LONG : Exa Z h0 w12 "com/example/stubwright/stubwright/model/BasicType") (S_UNSIGNED_SHORT : Sta Z h0 "com/example/stubwright/stubwright/model/BasicType" "UNSIGNED_SHORT" "Lcom/example/stubwright/stubwright/model/BasicType;" (.ref w15)) (E_UNSIGNED_SHORT : Exa Z h0 w15 "com/example/stubwright/stubwright/model/BasicType") (S_UNSIGNED_LONG : Sta Z h0 "com/example/stubwright/stubwright/model/BasicType" "UNSIGNED_LONG" "Lcom/example/stubwright/stubwright/model/BasicType;" (.ref w18)) (E_UNSIGNED_LONG : Exa Z h0 w18 "com/example/stubwright/stubwright/model/BasicType") (S_UNSIGNED_LONG_LONG : Sta Z h0 "com/example/stubwright/stubwright/model/BasicType" "UNSIGNED_LONG_LONG" "Lcom/example/stubwright/stubwright/model/BasicType;" (.ref w21)) (E_UNSIGNED_LONG_LONG : Exa Z h0 w21 "com/example/stubwright/stubwright/model/BasicType") (S_FLOAT : Sta Z h0 "com/example/stubwright/stubwright/model/BasicType" "FLOAT" "Lcom/example/stubwright/stubwright/model/BasicType;" (.ref w24)) (E_FLOAT : Exa Z h0 w24 "com/example/stubwright/stubwright/model/BasicType") (S_DOUBLE : Sta Z h0 "com/example/stubwright/stubwright/model/BasicType" "DOUBLE" "Lcom/example/stubwright/stubwright/model/BasicType;" (.ref w27)) (E_DOUBLE : Exa Z h0 w27 "com/example/stubwright/stubwright/model/BasicType") (S_CHAR : Sta Z h0 "com/example/stubwright/stubwright/model/BasicType" "CHAR" "Lcom/example/stubwright/stubwright/model/BasicType;" (.ref w30)) (E_CHAR : Exa Z h0 w30 "com/example/stubwright/stubwright/model/BasicType") (S_WCHAR : Sta Z h0 "com/example/stubwright/stubwright/model/BasicType" "WCHAR" "Lcom/example/stubwright/stubwright/model/BasicType;" (.ref w33)) (E_WCHAR : Exa Z h0 w33 "com/example/stubwright/stubwright/model/BasicType") (S_BOOLEAN : Sta Z h0 "com/example/stubwright/stubwright/model/BasicType" "BOOLEAN" "Lcom/example/stubwright/stubwright/model/BasicType;" (.ref w36)) (E_BOOLEAN : Exa Z h0 w36 "com/example/stubwright/stubwright/model/BasicType") (S_OCTET : Sta Z h0 "com/example/stubwright/stubwright/model/BasicType" "OCTET" "Lcom/example/stubwright/stubwright/model/BasicType;" (.ref w39)) (E_OCTET : Exa Z h0 w39 "com/example/stubwright/stubwright/model/BasicType") (S_ANY : Sta Z h0 "com/example/stubwright/stubwright/model/BasicType" "ANY" "Lcom/example/stubwright/stubwright/model/BasicType;" (.ref w42)) (E_ANY : Exa Z h0 w42 "com/example/stubwright/stubwright/model/BasicType") (S_STRING : Sta Z h0 "com/example/stubwright/stubwright/model/BasicType" "STRING" "Lcom/example/stubwright/stubwright/model/BasicType;" (.ref w45)) (E_STRING : Exa Z h0 w45 "com/example/stubwright/stubwright/model/BasicType") (S_WSTRING : Sta Z h0 "com/example/stubwright/stubwright/model/BasicType" "WSTRING" "Lcom/example/stubwright/stubwright/model/BasicType;" (.ref w48)) (E_WSTRING : Exa Z h0 w48 "com/example/stubwright/stubwright/model/BasicType") (S_OBJECT : Sta Z h0 "com/example/stubwright/stubwright/model/BasicType" "OBJECT" "Lcom/example/stubwright/stubwright/model/BasicType;" (.ref w51)) (E_OBJECT : Exa Z h0 w51 "com/example/stubwright/stubwright/model/BasicType") (E_w54 : Exa Z h0 w54 "com/example/stubwright/stubwright/model/BasicType") (F_aa : Fld Z h0 w54 "com/example/stubwright/stubwright/model/BasicType" "integerBits" "I" (.int bits)) (hbits : ¬ ((0 : Int32) < bits)) (hKK : ¬ ((p1 &&& (2147483647 : Int32)) % (17 : Int32)) < 0 ∧ ((p1 &&& (2147483647 : Int32)) % (17 : Int32)) < 17) (hat : ([(.ref w3), (.ref w6), (.ref w9), (.ref w12), (.ref w15), (.ref w18), (.ref w21), (.ref w24), (.ref w27), (.ref w30), (.ref w33), (.ref w36), (.ref w39), (.ref w42), (.ref w45), (.ref w48), (.ref w51)] : List Value).getD ((p1 &&& (2147483647 : Int32)) % (17 : Int32)).toNatClampNeg .null = .ref w54) (hc133 : ¬ (((p1 &&& (2147483647 : Int32)) % (17 : Int32)) < (1 : Int32))) (hc139 : (6 : Int32) < ((p1 &&& (2147483647 : Int32)) % (17 : Int32))) :
    MetFree l x (head1 (Jvm.Cond.code x code maxLocals ret :: ws) room_1) (fun a U => a = #[(.int p1)] ∧ Z.Warmed39 U.vm ∧ U.heap = h0) (fun _ _ _ _ _ => True) (fun _ U o U' => ∃ v L, o = .returned v ∧ Q0_h Z p1 w3 w6 w9 w12 w15 w18 w21 w24 w27 w30 w33 w36 w39 w42 w45 w48 w51 w54 h0 n0 v U'.heap L ∧ FrameEnd U o U' L room_1.cells room_1.slots) := by
  refine MetFree.of_bodySF (plainFor_of_name pn_0) hisR ?_
  intro p e s m args below meth c s₁ Bd hml0 hP hK
  obtain ⟨rfl, hZ, hh⟩ := hP
  have hx := Bd.exec
  have hby := Bd.bytes
  have hml : c.maxLocals = 5 := hml0
  have hown : s.vm.findClass "com/example/stubwright/stubwright/model/BasicTypeIsIntegerPinLaw" = some m.cls := findClass_of_methodNamed Bd.named
  have hnm := (name_of_methodNamed Bd.named Bd.method).1
  have X0 : Stand p l e room_1 s m #[(.int p1)] below meth c s₁ [] 0 0 := Stand.of_body Bd
  have e0 : s₁.heap = h0 := by rw [← hh, Bd.state]; rfl
  have N0 := Fr.nil n0
  have pre0 : ∀ t, Steps p.tables e below (s₁.setTop (mkF m 0 #[.val (.int p1), .unset, .unset, .unset, .unset] [])) t → Steps p.tables e below (s₁.setTop (entryFrame m #[(.int p1)] maxLocals)) t := fun t k => castTop (ef_0 m p1) k
  obtain ⟨T2, h2, k2, X2, e2, E2, A2, O2, st2⟩ := newR X0 hx hZ hown (hw _ (List.mem_of_getElem? (i := 0) rfl)) (hw _ (List.mem_of_getElem? (i := 1) rfl)) e0 (g := (mkF m 2 #[.val (.int p1), .unset, .unset, .unset, .unset] [(.int (17 : Int32))])) rfl (hb hby at_2) rfl (by decide) (cap := 17) (by decide) (by decide) (by decide) (by decide)
  obtain ⟨b2, g2⟩ : ∃ z, z = h0.size := ⟨_, rfl⟩      -- the fresh array's address
  rw [← g2] at A2 st2
  have V2 : Arv Z h2 b2 k2 (.object "com/example/stubwright/stubwright/model/BasicType") (17 : Int32) [.null, .null, .null, .null, .null, .null, .null, .null, .null, .null, .null, .null, .null, .null, .null, .null, .null] .null := (Arv.new A2 (by decide)).pad (pad_rep [] .null 17)
  have g_b2 : n0 ≤ b2 := Nat.le_trans Z0 (Nat.le_of_eq g2.symm)
  have sz_b2 : h0.size ≤ b2 := (Nat.le_trans (Keep.refl h0 []).1 (Nat.le_of_eq g2.symm))
  have K2 : Keep h0 h2 [] := (Keep.refl h0 []).ext E2
  obtain ⟨T4, X4, e4, st4⟩ := getS2 X2 hx hZ hown (host := "") (Or.inl (hw _ (List.mem_of_getElem? (i := 2) rfl))) Via.refl e2 (own_stk K2 S_VOID) (g := (mkF m 7 #[.val (.int p1), .unset, .unset, .unset, .unset] [(.int (0 : Int32)), (.ref b2), (.ref b2)])) rfl (hb hby at_7)
  obtain ⟨cl_10, Ar_10, q_10, S_10, N_10, H_10, G_10⟩ := V2
  have hin10 : ¬ ((0 : Int32) < 0 ∨ cl_10.slots.size ≤ (0 : Int32).toNatClampNeg) := inb_of S_10 ⟨by decide, by decide⟩
  have Sto10 : Sto Z h2 b2 (.ref w3) := Sto.of Ar_10 (q_10.symm ▸ O2) (Ins.self (E_VOID.keep K2))
  obtain ⟨T5, h5, X5, e5, W5, st5⟩ := stR X4 hx hZ e4 Ar_10 (j := (0 : Int32)) hin10 rfl Sto10 (g := (mkF m 10 #[.val (.int p1), .unset, .unset, .unset, .unset] [(.ref w3), (.int (0 : Int32)), (.ref b2), (.ref b2)])) rfl rfl (hb hby at_10)
  have V5 : Arv Z h5 b2 k2 (.object "com/example/stubwright/stubwright/model/BasicType") (17 : Int32) [(.ref w3), .null, .null, .null, .null, .null, .null, .null, .null, .null, .null, .null, .null, .null, .null, .null, .null] .null := Arv.set Ar_10 q_10 S_10 N_10 H_10 G_10 rfl W5 0 rfl (Nat.le_of_ble_eq_true rfl)
  have N5 := Fr.snoc X5 N0 g_b2
  have K5 : Keep h0 h5 [] := K2.wr W5 (Or.inr sz_b2)
  obtain ⟨T7, X7, e7, st7⟩ := getS2 X5 hx hZ hown (host := "") (Or.inl (hw _ (List.mem_of_getElem? (i := 6) rfl))) Via.refl e5 (own_stk K5 S_SHORT) (g := (mkF m 13 #[.val (.int p1), .unset, .unset, .unset, .unset] [(.int (1 : Int32)), (.ref b2), (.ref b2)])) rfl (hb hby at_13)
  obtain ⟨cl_16, Ar_16, q_16, S_16, N_16, H_16, G_16⟩ := V5
  have hin16 : ¬ ((1 : Int32) < 0 ∨ cl_16.slots.size ≤ (1 : Int32).toNatClampNeg) := inb_of S_16 ⟨by decide, by decide⟩
  have Sto16 : Sto Z h5 b2 (.ref w6) := Sto.of Ar_16 (q_16.symm ▸ O2) (Ins.self (E_SHORT.keep K5))
  obtain ⟨T8, h8, X8, e8, W8, st8⟩ := stR X7 hx hZ e7 Ar_16 (j := (1 : Int32)) hin16 rfl Sto16 (g := (mkF m 16 #[.val (.int p1), .unset, .unset, .unset, .unset] [(.ref w6), (.int (1 : Int32)), (.ref b2), (.ref b2)])) rfl rfl (hb hby at_16)
  have V8 : Arv Z h8 b2 k2 (.object "com/example/stubwright/stubwright/model/BasicType") (17 : Int32) [(.ref w3), (.ref w6), .null, .null, .null, .null, .null, .null, .null, .null, .null, .null, .null, .null, .null, .null, .null] .null := Arv.set Ar_16 q_16 S_16 N_16 H_16 G_16 rfl W8 1 rfl (Nat.le_of_ble_eq_true rfl)
  have N8 := Fr.snoc X8 N5 g_b2
  have K8 : Keep h0 h8 [] := K5.wr W8 (Or.inr sz_b2)
  obtain ⟨T10, X10, e10, st10⟩ := getS2 X8 hx hZ hown (host := "") (Or.inl (hw _ (List.mem_of_getElem? (i := 8) rfl))) Via.refl e8 (own_stk K8 S_LONG) (g := (mkF m 19 #[.val (.int p1), .unset, .unset, .unset, .unset] [(.int (2 : Int32)), (.ref b2), (.ref b2)])) rfl (hb hby at_19)
  obtain ⟨cl_22, Ar_22, q_22, S_22, N_22, H_22, G_22⟩ := V8
  have hin22 : ¬ ((2 : Int32) < 0 ∨ cl_22.slots.size ≤ (2 : Int32).toNatClampNeg) := inb_of S_22 ⟨by decide, by decide⟩
  have Sto22 : Sto Z h8 b2 (.ref w9) := Sto.of Ar_22 (q_22.symm ▸ O2) (Ins.self (E_LONG.keep K8))
  obtain ⟨T11, h11, X11, e11, W11, st11⟩ := stR X10 hx hZ e10 Ar_22 (j := (2 : Int32)) hin22 rfl Sto22 (g := (mkF m 22 #[.val (.int p1), .unset, .unset, .unset, .unset] [(.ref w9), (.int (2 : Int32)), (.ref b2), (.ref b2)])) rfl rfl (hb hby at_22)
  have V11 : Arv Z h11 b2 k2 (.object "com/example/stubwright/stubwright/model/BasicType") (17 : Int32) [(.ref w3), (.ref w6), (.ref w9), .null, .null, .null, .null, .null, .null, .null, .null, .null, .null, .null, .null, .null, .null] .null := Arv.set Ar_22 q_22 S_22 N_22 H_22 G_22 rfl W11 2 rfl (Nat.le_of_ble_eq_true rfl)
  have N11 := Fr.snoc X11 N8 g_b2
  have K11 : Keep h0 h11 [] := K8.wr W11 (Or.inr sz_b2)
  obtain ⟨T13, X13, e13, st13⟩ := getS2 X11 hx hZ hown (host := "") (Or.inl (hw _ (List.mem_of_getElem? (i := 10) rfl))) Via.refl e11 (own_stk K11 S_LONG_LONG) (g := (mkF m 25 #[.val (.int p1), .unset, .unset, .unset, .unset] [(.int (3 : Int32)), (.ref b2), (.ref b2)])) rfl (hb hby at_25)
  obtain ⟨cl_28, Ar_28, q_28, S_28, N_28, H_28, G_28⟩ := V11
  have hin28 : ¬ ((3 : Int32) < 0 ∨ cl_28.slots.size ≤ (3 : Int32).toNatClampNeg) := inb_of S_28 ⟨by decide, by decide⟩
  have Sto28 : Sto Z h11 b2 (.ref w12) := Sto.of Ar_28 (q_28.symm ▸ O2) (Ins.self (E_LONG_LONG.keep K11))
  obtain ⟨T14, h14, X14, e14, W14, st14⟩ := stR X13 hx hZ e13 Ar_28 (j := (3 : Int32)) hin28 rfl Sto28 (g := (mkF m 28 #[.val (.int p1), .unset, .unset, .unset, .unset] [(.ref w12), (.int (3 : Int32)), (.ref b2), (.ref b2)])) rfl rfl (hb hby at_28)
  have V14 : Arv Z h14 b2 k2 (.object "com/example/stubwright/stubwright/model/BasicType") (17 : Int32) [(.ref w3), (.ref w6), (.ref w9), (.ref w12), .null, .null, .null, .null, .null, .null, .null, .null, .null, .null, .null, .null, .null] .null := Arv.set Ar_28 q_28 S_28 N_28 H_28 G_28 rfl W14 3 rfl (Nat.le_of_ble_eq_true rfl)
  have N14 := Fr.snoc X14 N11 g_b2
  have K14 : Keep h0 h14 [] := K11.wr W14 (Or.inr sz_b2)
  obtain ⟨T16, X16, e16, st16⟩ := getS2 X14 hx hZ hown (host := "") (Or.inl (hw _ (List.mem_of_getElem? (i := 12) rfl))) Via.refl e14 (own_stk K14 S_UNSIGNED_SHORT) (g := (mkF m 31 #[.val (.int p1), .unset, .unset, .unset, .unset] [(.int (4 : Int32)), (.ref b2), (.ref b2)])) rfl (hb hby at_31)
  obtain ⟨cl_34, Ar_34, q_34, S_34, N_34, H_34, G_34⟩ := V14
  have hin34 : ¬ ((4 : Int32) < 0 ∨ cl_34.slots.size ≤ (4 : Int32).toNatClampNeg) := inb_of S_34 ⟨by decide, by decide⟩
  have Sto34 : Sto Z h14 b2 (.ref w15) := Sto.of Ar_34 (q_34.symm ▸ O2) (Ins.self (E_UNSIGNED_SHORT.keep K14))
  obtain ⟨T17, h17, X17, e17, W17, st17⟩ := stR X16 hx hZ e16 Ar_34 (j := (4 : Int32)) hin34 rfl Sto34 (g := (mkF m 34 #[.val (.int p1), .unset, .unset, .unset, .unset] [(.ref w15), (.int (4 : Int32)), (.ref b2), (.ref b2)])) rfl rfl (hb hby at_34)
  have V17 : Arv Z h17 b2 k2 (.object "com/example/stubwright/stubwright/model/BasicType") (17 : Int32) [(.ref w3), (.ref w6), (.ref w9), (.ref w12), (.ref w15), .null, .null, .null, .null, .null, .null, .null, .null, .null, .null, .null, .null] .null := Arv.set Ar_34 q_34 S_34 N_34 H_34 G_34 rfl W17 4 rfl (Nat.le_of_ble_eq_true rfl)
  have N17 := Fr.snoc X17 N14 g_b2
  have K17 : Keep h0 h17 [] := K14.wr W17 (Or.inr sz_b2)
  obtain ⟨T19, X19, e19, st19⟩ := getS2 X17 hx hZ hown (host := "") (Or.inl (hw _ (List.mem_of_getElem? (i := 14) rfl))) Via.refl e17 (own_stk K17 S_UNSIGNED_LONG) (g := (mkF m 37 #[.val (.int p1), .unset, .unset, .unset, .unset] [(.int (5 : Int32)), (.ref b2), (.ref b2)])) rfl (hb hby at_37)
  obtain ⟨cl_40, Ar_40, q_40, S_40, N_40, H_40, G_40⟩ := V17
  have hin40 : ¬ ((5 : Int32) < 0 ∨ cl_40.slots.size ≤ (5 : Int32).toNatClampNeg) := inb_of S_40 ⟨by decide, by decide⟩
  have Sto40 : Sto Z h17 b2 (.ref w18) := Sto.of Ar_40 (q_40.symm ▸ O2) (Ins.self (E_UNSIGNED_LONG.keep K17))
  obtain ⟨T20, h20, X20, e20, W20, st20⟩ := stR X19 hx hZ e19 Ar_40 (j := (5 : Int32)) hin40 rfl Sto40 (g := (mkF m 40 #[.val (.int p1), .unset, .unset, .unset, .unset] [(.ref w18), (.int (5 : Int32)), (.ref b2), (.ref b2)])) rfl rfl (hb hby at_40)
  have V20 : Arv Z h20 b2 k2 (.object "com/example/stubwright/stubwright/model/BasicType") (17 : Int32) [(.ref w3), (.ref w6), (.ref w9), (.ref w12), (.ref w15), (.ref w18), .null, .null, .null, .null, .null, .null, .null, .null, .null, .null, .null] .null := Arv.set Ar_40 q_40 S_40 N_40 H_40 G_40 rfl W20 5 rfl (Nat.le_of_ble_eq_true rfl)
  have N20 := Fr.snoc X20 N17 g_b2
  have K20 : Keep h0 h20 [] := K17.wr W20 (Or.inr sz_b2)
  obtain ⟨T22, X22, e22, st22⟩ := getS2 X20 hx hZ hown (host := "") (Or.inl (hw _ (List.mem_of_getElem? (i := 16) rfl))) Via.refl e20 (own_stk K20 S_UNSIGNED_LONG_LONG) (g := (mkF m 44 #[.val (.int p1), .unset, .unset, .unset, .unset] [(.int (6 : Int32)), (.ref b2), (.ref b2)])) rfl (hb hby at_44)
  obtain ⟨cl_47, Ar_47, q_47, S_47, N_47, H_47, G_47⟩ := V20
  have hin47 : ¬ ((6 : Int32) < 0 ∨ cl_47.slots.size ≤ (6 : Int32).toNatClampNeg) := inb_of S_47 ⟨by decide, by decide⟩
  have Sto47 : Sto Z h20 b2 (.ref w21) := Sto.of Ar_47 (q_47.symm ▸ O2) (Ins.self (E_UNSIGNED_LONG_LONG.keep K20))
  obtain ⟨T23, h23, X23, e23, W23, st23⟩ := stR X22 hx hZ e22 Ar_47 (j := (6 : Int32)) hin47 rfl Sto47 (g := (mkF m 47 #[.val (.int p1), .unset, .unset, .unset, .unset] [(.ref w21), (.int (6 : Int32)), (.ref b2), (.ref b2)])) rfl rfl (hb hby at_47)
  have V23 : Arv Z h23 b2 k2 (.object "com/example/stubwright/stubwright/model/BasicType") (17 : Int32) [(.ref w3), (.ref w6), (.ref w9), (.ref w12), (.ref w15), (.ref w18), (.ref w21), .null, .null, .null, .null, .null, .null, .null, .null, .null, .null] .null := Arv.set Ar_47 q_47 S_47 N_47 H_47 G_47 rfl W23 6 rfl (Nat.le_of_ble_eq_true rfl)
  have N23 := Fr.snoc X23 N20 g_b2
  have K23 : Keep h0 h23 [] := K20.wr W23 (Or.inr sz_b2)
  obtain ⟨T25, X25, e25, st25⟩ := getS2 X23 hx hZ hown (host := "") (Or.inl (hw _ (List.mem_of_getElem? (i := 18) rfl))) Via.refl e23 (own_stk K23 S_FLOAT) (g := (mkF m 51 #[.val (.int p1), .unset, .unset, .unset, .unset] [(.int (7 : Int32)), (.ref b2), (.ref b2)])) rfl (hb hby at_51)
  obtain ⟨cl_54, Ar_54, q_54, S_54, N_54, H_54, G_54⟩ := V23
  have hin54 : ¬ ((7 : Int32) < 0 ∨ cl_54.slots.size ≤ (7 : Int32).toNatClampNeg) := inb_of S_54 ⟨by decide, by decide⟩
  have Sto54 : Sto Z h23 b2 (.ref w24) := Sto.of Ar_54 (q_54.symm ▸ O2) (Ins.self (E_FLOAT.keep K23))
  obtain ⟨T26, h26, X26, e26, W26, st26⟩ := stR X25 hx hZ e25 Ar_54 (j := (7 : Int32)) hin54 rfl Sto54 (g := (mkF m 54 #[.val (.int p1), .unset, .unset, .unset, .unset] [(.ref w24), (.int (7 : Int32)), (.ref b2), (.ref b2)])) rfl rfl (hb hby at_54)
  have V26 : Arv Z h26 b2 k2 (.object "com/example/stubwright/stubwright/model/BasicType") (17 : Int32) [(.ref w3), (.ref w6), (.ref w9), (.ref w12), (.ref w15), (.ref w18), (.ref w21), (.ref w24), .null, .null, .null, .null, .null, .null, .null, .null, .null] .null := Arv.set Ar_54 q_54 S_54 N_54 H_54 G_54 rfl W26 7 rfl (Nat.le_of_ble_eq_true rfl)
  have N26 := Fr.snoc X26 N23 g_b2
  have K26 : Keep h0 h26 [] := K23.wr W26 (Or.inr sz_b2)
  obtain ⟨T28, X28, e28, st28⟩ := getS2 X26 hx hZ hown (host := "") (Or.inl (hw _ (List.mem_of_getElem? (i := 20) rfl))) Via.refl e26 (own_stk K26 S_DOUBLE) (g := (mkF m 58 #[.val (.int p1), .unset, .unset, .unset, .unset] [(.int (8 : Int32)), (.ref b2), (.ref b2)])) rfl (hb hby at_58)
  obtain ⟨cl_61, Ar_61, q_61, S_61, N_61, H_61, G_61⟩ := V26
  have hin61 : ¬ ((8 : Int32) < 0 ∨ cl_61.slots.size ≤ (8 : Int32).toNatClampNeg) := inb_of S_61 ⟨by decide, by decide⟩
  have Sto61 : Sto Z h26 b2 (.ref w27) := Sto.of Ar_61 (q_61.symm ▸ O2) (Ins.self (E_DOUBLE.keep K26))
  obtain ⟨T29, h29, X29, e29, W29, st29⟩ := stR X28 hx hZ e28 Ar_61 (j := (8 : Int32)) hin61 rfl Sto61 (g := (mkF m 61 #[.val (.int p1), .unset, .unset, .unset, .unset] [(.ref w27), (.int (8 : Int32)), (.ref b2), (.ref b2)])) rfl rfl (hb hby at_61)
  have V29 : Arv Z h29 b2 k2 (.object "com/example/stubwright/stubwright/model/BasicType") (17 : Int32) [(.ref w3), (.ref w6), (.ref w9), (.ref w12), (.ref w15), (.ref w18), (.ref w21), (.ref w24), (.ref w27), .null, .null, .null, .null, .null, .null, .null, .null] .null := Arv.set Ar_61 q_61 S_61 N_61 H_61 G_61 rfl W29 8 rfl (Nat.le_of_ble_eq_true rfl)
  have N29 := Fr.snoc X29 N26 g_b2
  have K29 : Keep h0 h29 [] := K26.wr W29 (Or.inr sz_b2)
  obtain ⟨T31, X31, e31, st31⟩ := getS2 X29 hx hZ hown (host := "") (Or.inl (hw _ (List.mem_of_getElem? (i := 22) rfl))) Via.refl e29 (own_stk K29 S_CHAR) (g := (mkF m 65 #[.val (.int p1), .unset, .unset, .unset, .unset] [(.int (9 : Int32)), (.ref b2), (.ref b2)])) rfl (hb hby at_65)
  obtain ⟨cl_68, Ar_68, q_68, S_68, N_68, H_68, G_68⟩ := V29
  have hin68 : ¬ ((9 : Int32) < 0 ∨ cl_68.slots.size ≤ (9 : Int32).toNatClampNeg) := inb_of S_68 ⟨by decide, by decide⟩
  have Sto68 : Sto Z h29 b2 (.ref w30) := Sto.of Ar_68 (q_68.symm ▸ O2) (Ins.self (E_CHAR.keep K29))
  obtain ⟨T32, h32, X32, e32, W32, st32⟩ := stR X31 hx hZ e31 Ar_68 (j := (9 : Int32)) hin68 rfl Sto68 (g := (mkF m 68 #[.val (.int p1), .unset, .unset, .unset, .unset] [(.ref w30), (.int (9 : Int32)), (.ref b2), (.ref b2)])) rfl rfl (hb hby at_68)
  have V32 : Arv Z h32 b2 k2 (.object "com/example/stubwright/stubwright/model/BasicType") (17 : Int32) [(.ref w3), (.ref w6), (.ref w9), (.ref w12), (.ref w15), (.ref w18), (.ref w21), (.ref w24), (.ref w27), (.ref w30), .null, .null, .null, .null, .null, .null, .null] .null := Arv.set Ar_68 q_68 S_68 N_68 H_68 G_68 rfl W32 9 rfl (Nat.le_of_ble_eq_true rfl)
  have N32 := Fr.snoc X32 N29 g_b2
  have K32 : Keep h0 h32 [] := K29.wr W32 (Or.inr sz_b2)
  obtain ⟨T34, X34, e34, st34⟩ := getS2 X32 hx hZ hown (host := "") (Or.inl (hw _ (List.mem_of_getElem? (i := 24) rfl))) Via.refl e32 (own_stk K32 S_WCHAR) (g := (mkF m 72 #[.val (.int p1), .unset, .unset, .unset, .unset] [(.int (10 : Int32)), (.ref b2), (.ref b2)])) rfl (hb hby at_72)
  obtain ⟨cl_75, Ar_75, q_75, S_75, N_75, H_75, G_75⟩ := V32
  have hin75 : ¬ ((10 : Int32) < 0 ∨ cl_75.slots.size ≤ (10 : Int32).toNatClampNeg) := inb_of S_75 ⟨by decide, by decide⟩
  have Sto75 : Sto Z h32 b2 (.ref w33) := Sto.of Ar_75 (q_75.symm ▸ O2) (Ins.self (E_WCHAR.keep K32))
  obtain ⟨T35, h35, X35, e35, W35, st35⟩ := stR X34 hx hZ e34 Ar_75 (j := (10 : Int32)) hin75 rfl Sto75 (g := (mkF m 75 #[.val (.int p1), .unset, .unset, .unset, .unset] [(.ref w33), (.int (10 : Int32)), (.ref b2), (.ref b2)])) rfl rfl (hb hby at_75)
  have V35 : Arv Z h35 b2 k2 (.object "com/example/stubwright/stubwright/model/BasicType") (17 : Int32) [(.ref w3), (.ref w6), (.ref w9), (.ref w12), (.ref w15), (.ref w18), (.ref w21), (.ref w24), (.ref w27), (.ref w30), (.ref w33), .null, .null, .null, .null, .null, .null] .null := Arv.set Ar_75 q_75 S_75 N_75 H_75 G_75 rfl W35 10 rfl (Nat.le_of_ble_eq_true rfl)
  have N35 := Fr.snoc X35 N32 g_b2
  have K35 : Keep h0 h35 [] := K32.wr W35 (Or.inr sz_b2)
  obtain ⟨T37, X37, e37, st37⟩ := getS2 X35 hx hZ hown (host := "") (Or.inl (hw _ (List.mem_of_getElem? (i := 26) rfl))) Via.refl e35 (own_stk K35 S_BOOLEAN) (g := (mkF m 79 #[.val (.int p1), .unset, .unset, .unset, .unset] [(.int (11 : Int32)), (.ref b2), (.ref b2)])) rfl (hb hby at_79)
  obtain ⟨cl_82, Ar_82, q_82, S_82, N_82, H_82, G_82⟩ := V35
  have hin82 : ¬ ((11 : Int32) < 0 ∨ cl_82.slots.size ≤ (11 : Int32).toNatClampNeg) := inb_of S_82 ⟨by decide, by decide⟩
  have Sto82 : Sto Z h35 b2 (.ref w36) := Sto.of Ar_82 (q_82.symm ▸ O2) (Ins.self (E_BOOLEAN.keep K35))
  obtain ⟨T38, h38, X38, e38, W38, st38⟩ := stR X37 hx hZ e37 Ar_82 (j := (11 : Int32)) hin82 rfl Sto82 (g := (mkF m 82 #[.val (.int p1), .unset, .unset, .unset, .unset] [(.ref w36), (.int (11 : Int32)), (.ref b2), (.ref b2)])) rfl rfl (hb hby at_82)
  have V38 : Arv Z h38 b2 k2 (.object "com/example/stubwright/stubwright/model/BasicType") (17 : Int32) [(.ref w3), (.ref w6), (.ref w9), (.ref w12), (.ref w15), (.ref w18), (.ref w21), (.ref w24), (.ref w27), (.ref w30), (.ref w33), (.ref w36), .null, .null, .null, .null, .null] .null := Arv.set Ar_82 q_82 S_82 N_82 H_82 G_82 rfl W38 11 rfl (Nat.le_of_ble_eq_true rfl)
  have N38 := Fr.snoc X38 N35 g_b2
  have K38 : Keep h0 h38 [] := K35.wr W38 (Or.inr sz_b2)
  obtain ⟨T40, X40, e40, st40⟩ := getS2 X38 hx hZ hown (host := "") (Or.inl (hw _ (List.mem_of_getElem? (i := 28) rfl))) Via.refl e38 (own_stk K38 S_OCTET) (g := (mkF m 86 #[.val (.int p1), .unset, .unset, .unset, .unset] [(.int (12 : Int32)), (.ref b2), (.ref b2)])) rfl (hb hby at_86)
  obtain ⟨cl_89, Ar_89, q_89, S_89, N_89, H_89, G_89⟩ := V38
  have hin89 : ¬ ((12 : Int32) < 0 ∨ cl_89.slots.size ≤ (12 : Int32).toNatClampNeg) := inb_of S_89 ⟨by decide, by decide⟩
  have Sto89 : Sto Z h38 b2 (.ref w39) := Sto.of Ar_89 (q_89.symm ▸ O2) (Ins.self (E_OCTET.keep K38))
  obtain ⟨T41, h41, X41, e41, W41, st41⟩ := stR X40 hx hZ e40 Ar_89 (j := (12 : Int32)) hin89 rfl Sto89 (g := (mkF m 89 #[.val (.int p1), .unset, .unset, .unset, .unset] [(.ref w39), (.int (12 : Int32)), (.ref b2), (.ref b2)])) rfl rfl (hb hby at_89)
  have V41 : Arv Z h41 b2 k2 (.object "com/example/stubwright/stubwright/model/BasicType") (17 : Int32) [(.ref w3), (.ref w6), (.ref w9), (.ref w12), (.ref w15), (.ref w18), (.ref w21), (.ref w24), (.ref w27), (.ref w30), (.ref w33), (.ref w36), (.ref w39), .null, .null, .null, .null] .null := Arv.set Ar_89 q_89 S_89 N_89 H_89 G_89 rfl W41 12 rfl (Nat.le_of_ble_eq_true rfl)
  have N41 := Fr.snoc X41 N38 g_b2
  have K41 : Keep h0 h41 [] := K38.wr W41 (Or.inr sz_b2)
  obtain ⟨T43, X43, e43, st43⟩ := getS2 X41 hx hZ hown (host := "") (Or.inl (hw _ (List.mem_of_getElem? (i := 30) rfl))) Via.refl e41 (own_stk K41 S_ANY) (g := (mkF m 93 #[.val (.int p1), .unset, .unset, .unset, .unset] [(.int (13 : Int32)), (.ref b2), (.ref b2)])) rfl (hb hby at_93)
  obtain ⟨cl_96, Ar_96, q_96, S_96, N_96, H_96, G_96⟩ := V41
  have hin96 : ¬ ((13 : Int32) < 0 ∨ cl_96.slots.size ≤ (13 : Int32).toNatClampNeg) := inb_of S_96 ⟨by decide, by decide⟩
  have Sto96 : Sto Z h41 b2 (.ref w42) := Sto.of Ar_96 (q_96.symm ▸ O2) (Ins.self (E_ANY.keep K41))
  obtain ⟨T44, h44, X44, e44, W44, st44⟩ := stR X43 hx hZ e43 Ar_96 (j := (13 : Int32)) hin96 rfl Sto96 (g := (mkF m 96 #[.val (.int p1), .unset, .unset, .unset, .unset] [(.ref w42), (.int (13 : Int32)), (.ref b2), (.ref b2)])) rfl rfl (hb hby at_96)
  have V44 : Arv Z h44 b2 k2 (.object "com/example/stubwright/stubwright/model/BasicType") (17 : Int32) [(.ref w3), (.ref w6), (.ref w9), (.ref w12), (.ref w15), (.ref w18), (.ref w21), (.ref w24), (.ref w27), (.ref w30), (.ref w33), (.ref w36), (.ref w39), (.ref w42), .null, .null, .null] .null := Arv.set Ar_96 q_96 S_96 N_96 H_96 G_96 rfl W44 13 rfl (Nat.le_of_ble_eq_true rfl)
  have N44 := Fr.snoc X44 N41 g_b2
  have K44 : Keep h0 h44 [] := K41.wr W44 (Or.inr sz_b2)
  obtain ⟨T46, X46, e46, st46⟩ := getS2 X44 hx hZ hown (host := "") (Or.inl (hw _ (List.mem_of_getElem? (i := 32) rfl))) Via.refl e44 (own_stk K44 S_STRING) (g := (mkF m 100 #[.val (.int p1), .unset, .unset, .unset, .unset] [(.int (14 : Int32)), (.ref b2), (.ref b2)])) rfl (hb hby at_100)
  obtain ⟨cl_103, Ar_103, q_103, S_103, N_103, H_103, G_103⟩ := V44
  have hin103 : ¬ ((14 : Int32) < 0 ∨ cl_103.slots.size ≤ (14 : Int32).toNatClampNeg) := inb_of S_103 ⟨by decide, by decide⟩
  have Sto103 : Sto Z h44 b2 (.ref w45) := Sto.of Ar_103 (q_103.symm ▸ O2) (Ins.self (E_STRING.keep K44))
  obtain ⟨T47, h47, X47, e47, W47, st47⟩ := stR X46 hx hZ e46 Ar_103 (j := (14 : Int32)) hin103 rfl Sto103 (g := (mkF m 103 #[.val (.int p1), .unset, .unset, .unset, .unset] [(.ref w45), (.int (14 : Int32)), (.ref b2), (.ref b2)])) rfl rfl (hb hby at_103)
  have V47 : Arv Z h47 b2 k2 (.object "com/example/stubwright/stubwright/model/BasicType") (17 : Int32) [(.ref w3), (.ref w6), (.ref w9), (.ref w12), (.ref w15), (.ref w18), (.ref w21), (.ref w24), (.ref w27), (.ref w30), (.ref w33), (.ref w36), (.ref w39), (.ref w42), (.ref w45), .null, .null] .null := Arv.set Ar_103 q_103 S_103 N_103 H_103 G_103 rfl W47 14 rfl (Nat.le_of_ble_eq_true rfl)
  have N47 := Fr.snoc X47 N44 g_b2
  have K47 : Keep h0 h47 [] := K44.wr W47 (Or.inr sz_b2)
  obtain ⟨T49, X49, e49, st49⟩ := getS2 X47 hx hZ hown (host := "") (Or.inl (hw _ (List.mem_of_getElem? (i := 34) rfl))) Via.refl e47 (own_stk K47 S_WSTRING) (g := (mkF m 107 #[.val (.int p1), .unset, .unset, .unset, .unset] [(.int (15 : Int32)), (.ref b2), (.ref b2)])) rfl (hb hby at_107)
  obtain ⟨cl_110, Ar_110, q_110, S_110, N_110, H_110, G_110⟩ := V47
  have hin110 : ¬ ((15 : Int32) < 0 ∨ cl_110.slots.size ≤ (15 : Int32).toNatClampNeg) := inb_of S_110 ⟨by decide, by decide⟩
  have Sto110 : Sto Z h47 b2 (.ref w48) := Sto.of Ar_110 (q_110.symm ▸ O2) (Ins.self (E_WSTRING.keep K47))
  obtain ⟨T50, h50, X50, e50, W50, st50⟩ := stR X49 hx hZ e49 Ar_110 (j := (15 : Int32)) hin110 rfl Sto110 (g := (mkF m 110 #[.val (.int p1), .unset, .unset, .unset, .unset] [(.ref w48), (.int (15 : Int32)), (.ref b2), (.ref b2)])) rfl rfl (hb hby at_110)
  have V50 : Arv Z h50 b2 k2 (.object "com/example/stubwright/stubwright/model/BasicType") (17 : Int32) [(.ref w3), (.ref w6), (.ref w9), (.ref w12), (.ref w15), (.ref w18), (.ref w21), (.ref w24), (.ref w27), (.ref w30), (.ref w33), (.ref w36), (.ref w39), (.ref w42), (.ref w45), (.ref w48), .null] .null := Arv.set Ar_110 q_110 S_110 N_110 H_110 G_110 rfl W50 15 rfl (Nat.le_of_ble_eq_true rfl)
  have N50 := Fr.snoc X50 N47 g_b2
  have K50 : Keep h0 h50 [] := K47.wr W50 (Or.inr sz_b2)
  obtain ⟨T52, X52, e52, st52⟩ := getS2 X50 hx hZ hown (host := "") (Or.inl (hw _ (List.mem_of_getElem? (i := 36) rfl))) Via.refl e50 (own_stk K50 S_OBJECT) (g := (mkF m 114 #[.val (.int p1), .unset, .unset, .unset, .unset] [(.int (16 : Int32)), (.ref b2), (.ref b2)])) rfl (hb hby at_114)
  obtain ⟨cl_117, Ar_117, q_117, S_117, N_117, H_117, G_117⟩ := V50
  have hin117 : ¬ ((16 : Int32) < 0 ∨ cl_117.slots.size ≤ (16 : Int32).toNatClampNeg) := inb_of S_117 ⟨by decide, by decide⟩
  have Sto117 : Sto Z h50 b2 (.ref w51) := Sto.of Ar_117 (q_117.symm ▸ O2) (Ins.self (E_OBJECT.keep K50))
  obtain ⟨T53, h53, X53, e53, W53, st53⟩ := stR X52 hx hZ e52 Ar_117 (j := (16 : Int32)) hin117 rfl Sto117 (g := (mkF m 117 #[.val (.int p1), .unset, .unset, .unset, .unset] [(.ref w51), (.int (16 : Int32)), (.ref b2), (.ref b2)])) rfl rfl (hb hby at_117)
  have V53 : Arv Z h53 b2 k2 (.object "com/example/stubwright/stubwright/model/BasicType") (17 : Int32) [(.ref w3), (.ref w6), (.ref w9), (.ref w12), (.ref w15), (.ref w18), (.ref w21), (.ref w24), (.ref w27), (.ref w30), (.ref w33), (.ref w36), (.ref w39), (.ref w42), (.ref w45), (.ref w48), (.ref w51)] .null := Arv.set Ar_117 q_117 S_117 N_117 H_117 G_117 rfl W53 16 rfl (Nat.le_of_ble_eq_true rfl)
  have N53 := Fr.snoc X53 N50 g_b2
  have K53 : Keep h0 h53 [] := K50.wr W53 (Or.inr sz_b2)
  obtain ⟨cl_b, Ar_b2, q_b, S_b, N_b, H_b, G_b⟩ := V53
  have hin129 : ¬ (((p1 &&& (2147483647 : Int32)) % (17 : Int32)) < 0 ∨ cl_b.slots.size ≤ ((p1 &&& (2147483647 : Int32)) % (17 : Int32)).toNatClampNeg) := inb_of S_b hKK
  have hat129 : cl_b.slots[((p1 &&& (2147483647 : Int32)) % (17 : Int32)).toNatClampNeg]? = some (.ref w54) := by rw [H_b _ (Nat.lt_of_not_le fun q => hin129 (Or.inr q)), hat]
  obtain ⟨cq55, kq55, q55a, q55b, q55c⟩ := isOf hZ e53 (E_w54.keep K53)
  obtain ⟨_, _, ⟨T55, L55, k55, n55⟩, -, X55, ⟨Lc55, hQ55, l55, y55, z55⟩, st55⟩ := X53.virtualBack hx (y := (⟨"com/example/stubwright/stubwright/model/BasicType", "isInteger", "()Z"⟩ : MethodName)) (z := (⟨"com/example/stubwright/stubwright/model/BasicType", "isInteger", "()Z"⟩ : MethodName)) hown (mvT hZ (hw _ (List.mem_of_getElem? (i := 39) rfl))) (mvT hZ (hw _ (List.mem_of_getElem? (i := 40) rfl))) (notFace_of_selects (args := #[]) (mvT hZ (hw _ (List.mem_of_getElem? (i := 42) rfl)))) (mvT hZ (hw _ (List.mem_of_getElem? (i := 42) rfl))) (mvT hZ (hw _ (List.mem_of_getElem? (i := 41) rfl))) (by decide) (backOf (W := 0) (rm1_0 l Z a0 hw [] w54 bits h53 n0 (Nat.le_trans Z0 K53.1) (F_aa.keep K53 nin0) hbits) hZ (hw _ (List.mem_of_getElem? (i := 43) rfl)) (hw _ (List.mem_of_getElem? (i := 3) rfl)) (by decide) (by decide)) q55a q55c (g := (mkF m 150 #[.val (.int p1), .val (.ref b2), .val (.int ((p1 &&& (2147483647 : Int32)) % (17 : Int32))), .val (.ref w54), .val (.int (0 : Int32))] [(.ref w54)])) rfl (by rw [hml]; rfl) (Steps.refl _) (argsL := []) (rest := []) (lenOf pd_0_0 rfl) rfl (by show 2 * 0 + _ ≤ _; exact Nat.le_of_eq rfl) (hb hby at_150) (fun _ _ => ⟨rfl, e53, (by decide : 1 + 0 ≤ _), (by decide : 17 + 0 ≤ _)⟩)
  dsimp only [Pt.U, Pt.locs, Pt.cells, Pt.slots] at X55 l55 y55 z55 st55 hQ55
  subst l55 y55 z55
  obtain ⟨rfl, N55q, hE55⟩ := hQ55      -- what it returned, that it wrote nothing old, and the rest of your Q1
  have N55 := Fr.app N53 N55q
  obtain ⟨fs, hr, hrun, hended, hW, hsame⟩ := X55.leave (v := some (.int (1 : Int32))) (fun h => by rw [Bd.returns] at h; cases h)
  refine ⟨_, _, pre0 _ ?_, hrun, hended, _, _, rfl, ?_, ⟨_, rfl⟩, hW, hsame.mono (by decide) (by decide)⟩
  · show Steps p.tables e below (s₁.setTop (mkF m 0 #[.val (.int p1), .unset, .unset, .unset, .unset] [])) _
    refine XS.bipush X0.here hx rfl (hb hby at_0) ?_
    show Steps p.tables e below (s₁.setTop (mkF m 2 #[.val (.int p1), .unset, .unset, .unset, .unset] [(.int (17 : Int32))])) _
    refine st2 _ ?_
    show Steps p.tables e below (T2.setTop (mkF m 5 #[.val (.int p1), .unset, .unset, .unset, .unset] [(.ref b2)])) _
    refine XS.dup X2.here hx rfl (hb hby at_5) rfl rfl ?_
    show Steps p.tables e below (T2.setTop (mkF m 6 #[.val (.int p1), .unset, .unset, .unset, .unset] [(.ref b2), (.ref b2)])) _
    refine XS.iconst X2.here hx rfl (hb hby at_6) ?_
    show Steps p.tables e below (T2.setTop (mkF m 7 #[.val (.int p1), .unset, .unset, .unset, .unset] [(.int (0 : Int32)), (.ref b2), (.ref b2)])) _
    refine st4 _ ?_
    show Steps p.tables e below (T4.setTop (mkF m 10 #[.val (.int p1), .unset, .unset, .unset, .unset] [(.ref w3), (.int (0 : Int32)), (.ref b2), (.ref b2)])) _
    refine st5 _ ?_
    show Steps p.tables e below (T5.setTop (mkF m 11 #[.val (.int p1), .unset, .unset, .unset, .unset] [(.ref b2)])) _
    refine XS.dup X5.here hx rfl (hb hby at_11) rfl rfl ?_
    show Steps p.tables e below (T5.setTop (mkF m 12 #[.val (.int p1), .unset, .unset, .unset, .unset] [(.ref b2), (.ref b2)])) _
    refine XS.iconst X5.here hx rfl (hb hby at_12) ?_
    show Steps p.tables e below (T5.setTop (mkF m 13 #[.val (.int p1), .unset, .unset, .unset, .unset] [(.int (1 : Int32)), (.ref b2), (.ref b2)])) _
    refine st7 _ ?_
    show Steps p.tables e below (T7.setTop (mkF m 16 #[.val (.int p1), .unset, .unset, .unset, .unset] [(.ref w6), (.int (1 : Int32)), (.ref b2), (.ref b2)])) _
    refine st8 _ ?_
    show Steps p.tables e below (T8.setTop (mkF m 17 #[.val (.int p1), .unset, .unset, .unset, .unset] [(.ref b2)])) _
    refine XS.dup X8.here hx rfl (hb hby at_17) rfl rfl ?_
    show Steps p.tables e below (T8.setTop (mkF m 18 #[.val (.int p1), .unset, .unset, .unset, .unset] [(.ref b2), (.ref b2)])) _
    refine XS.iconst X8.here hx rfl (hb hby at_18) ?_
    show Steps p.tables e below (T8.setTop (mkF m 19 #[.val (.int p1), .unset, .unset, .unset, .unset] [(.int (2 : Int32)), (.ref b2), (.ref b2)])) _
    refine st10 _ ?_
    show Steps p.tables e below (T10.setTop (mkF m 22 #[.val (.int p1), .unset, .unset, .unset, .unset] [(.ref w9), (.int (2 : Int32)), (.ref b2), (.ref b2)])) _
    refine st11 _ ?_
    show Steps p.tables e below (T11.setTop (mkF m 23 #[.val (.int p1), .unset, .unset, .unset, .unset] [(.ref b2)])) _
    refine XS.dup X11.here hx rfl (hb hby at_23) rfl rfl ?_
    show Steps p.tables e below (T11.setTop (mkF m 24 #[.val (.int p1), .unset, .unset, .unset, .unset] [(.ref b2), (.ref b2)])) _
    refine XS.iconst X11.here hx rfl (hb hby at_24) ?_
    show Steps p.tables e below (T11.setTop (mkF m 25 #[.val (.int p1), .unset, .unset, .unset, .unset] [(.int (3 : Int32)), (.ref b2), (.ref b2)])) _
    refine st13 _ ?_
    show Steps p.tables e below (T13.setTop (mkF m 28 #[.val (.int p1), .unset, .unset, .unset, .unset] [(.ref w12), (.int (3 : Int32)), (.ref b2), (.ref b2)])) _
    refine st14 _ ?_
    show Steps p.tables e below (T14.setTop (mkF m 29 #[.val (.int p1), .unset, .unset, .unset, .unset] [(.ref b2)])) _
    refine XS.dup X14.here hx rfl (hb hby at_29) rfl rfl ?_
    show Steps p.tables e below (T14.setTop (mkF m 30 #[.val (.int p1), .unset, .unset, .unset, .unset] [(.ref b2), (.ref b2)])) _
    refine XS.iconst X14.here hx rfl (hb hby at_30) ?_
    show Steps p.tables e below (T14.setTop (mkF m 31 #[.val (.int p1), .unset, .unset, .unset, .unset] [(.int (4 : Int32)), (.ref b2), (.ref b2)])) _
    refine st16 _ ?_
    show Steps p.tables e below (T16.setTop (mkF m 34 #[.val (.int p1), .unset, .unset, .unset, .unset] [(.ref w15), (.int (4 : Int32)), (.ref b2), (.ref b2)])) _
    refine st17 _ ?_
    show Steps p.tables e below (T17.setTop (mkF m 35 #[.val (.int p1), .unset, .unset, .unset, .unset] [(.ref b2)])) _
    refine XS.dup X17.here hx rfl (hb hby at_35) rfl rfl ?_
    show Steps p.tables e below (T17.setTop (mkF m 36 #[.val (.int p1), .unset, .unset, .unset, .unset] [(.ref b2), (.ref b2)])) _
    refine XS.iconst X17.here hx rfl (hb hby at_36) ?_
    show Steps p.tables e below (T17.setTop (mkF m 37 #[.val (.int p1), .unset, .unset, .unset, .unset] [(.int (5 : Int32)), (.ref b2), (.ref b2)])) _
    refine st19 _ ?_
    show Steps p.tables e below (T19.setTop (mkF m 40 #[.val (.int p1), .unset, .unset, .unset, .unset] [(.ref w18), (.int (5 : Int32)), (.ref b2), (.ref b2)])) _
    refine st20 _ ?_
    show Steps p.tables e below (T20.setTop (mkF m 41 #[.val (.int p1), .unset, .unset, .unset, .unset] [(.ref b2)])) _
    refine XS.dup X20.here hx rfl (hb hby at_41) rfl rfl ?_
    show Steps p.tables e below (T20.setTop (mkF m 42 #[.val (.int p1), .unset, .unset, .unset, .unset] [(.ref b2), (.ref b2)])) _
    refine XS.bipush X20.here hx rfl (hb hby at_42) ?_
    show Steps p.tables e below (T20.setTop (mkF m 44 #[.val (.int p1), .unset, .unset, .unset, .unset] [(.int (6 : Int32)), (.ref b2), (.ref b2)])) _
    refine st22 _ ?_
    show Steps p.tables e below (T22.setTop (mkF m 47 #[.val (.int p1), .unset, .unset, .unset, .unset] [(.ref w21), (.int (6 : Int32)), (.ref b2), (.ref b2)])) _
    refine st23 _ ?_
    show Steps p.tables e below (T23.setTop (mkF m 48 #[.val (.int p1), .unset, .unset, .unset, .unset] [(.ref b2)])) _
    refine XS.dup X23.here hx rfl (hb hby at_48) rfl rfl ?_
    show Steps p.tables e below (T23.setTop (mkF m 49 #[.val (.int p1), .unset, .unset, .unset, .unset] [(.ref b2), (.ref b2)])) _
    refine XS.bipush X23.here hx rfl (hb hby at_49) ?_
    show Steps p.tables e below (T23.setTop (mkF m 51 #[.val (.int p1), .unset, .unset, .unset, .unset] [(.int (7 : Int32)), (.ref b2), (.ref b2)])) _
    refine st25 _ ?_
    show Steps p.tables e below (T25.setTop (mkF m 54 #[.val (.int p1), .unset, .unset, .unset, .unset] [(.ref w24), (.int (7 : Int32)), (.ref b2), (.ref b2)])) _
    refine st26 _ ?_
    show Steps p.tables e below (T26.setTop (mkF m 55 #[.val (.int p1), .unset, .unset, .unset, .unset] [(.ref b2)])) _
    refine XS.dup X26.here hx rfl (hb hby at_55) rfl rfl ?_
    show Steps p.tables e below (T26.setTop (mkF m 56 #[.val (.int p1), .unset, .unset, .unset, .unset] [(.ref b2), (.ref b2)])) _
    refine XS.bipush X26.here hx rfl (hb hby at_56) ?_
    show Steps p.tables e below (T26.setTop (mkF m 58 #[.val (.int p1), .unset, .unset, .unset, .unset] [(.int (8 : Int32)), (.ref b2), (.ref b2)])) _
    refine st28 _ ?_
    show Steps p.tables e below (T28.setTop (mkF m 61 #[.val (.int p1), .unset, .unset, .unset, .unset] [(.ref w27), (.int (8 : Int32)), (.ref b2), (.ref b2)])) _
    refine st29 _ ?_
    show Steps p.tables e below (T29.setTop (mkF m 62 #[.val (.int p1), .unset, .unset, .unset, .unset] [(.ref b2)])) _
    refine XS.dup X29.here hx rfl (hb hby at_62) rfl rfl ?_
    show Steps p.tables e below (T29.setTop (mkF m 63 #[.val (.int p1), .unset, .unset, .unset, .unset] [(.ref b2), (.ref b2)])) _
    refine XS.bipush X29.here hx rfl (hb hby at_63) ?_
    show Steps p.tables e below (T29.setTop (mkF m 65 #[.val (.int p1), .unset, .unset, .unset, .unset] [(.int (9 : Int32)), (.ref b2), (.ref b2)])) _
    refine st31 _ ?_
    show Steps p.tables e below (T31.setTop (mkF m 68 #[.val (.int p1), .unset, .unset, .unset, .unset] [(.ref w30), (.int (9 : Int32)), (.ref b2), (.ref b2)])) _
    refine st32 _ ?_
    show Steps p.tables e below (T32.setTop (mkF m 69 #[.val (.int p1), .unset, .unset, .unset, .unset] [(.ref b2)])) _
    refine XS.dup X32.here hx rfl (hb hby at_69) rfl rfl ?_
    show Steps p.tables e below (T32.setTop (mkF m 70 #[.val (.int p1), .unset, .unset, .unset, .unset] [(.ref b2), (.ref b2)])) _
    refine XS.bipush X32.here hx rfl (hb hby at_70) ?_
    show Steps p.tables e below (T32.setTop (mkF m 72 #[.val (.int p1), .unset, .unset, .unset, .unset] [(.int (10 : Int32)), (.ref b2), (.ref b2)])) _
    refine st34 _ ?_
    show Steps p.tables e below (T34.setTop (mkF m 75 #[.val (.int p1), .unset, .unset, .unset, .unset] [(.ref w33), (.int (10 : Int32)), (.ref b2), (.ref b2)])) _
    refine st35 _ ?_
    show Steps p.tables e below (T35.setTop (mkF m 76 #[.val (.int p1), .unset, .unset, .unset, .unset] [(.ref b2)])) _
    refine XS.dup X35.here hx rfl (hb hby at_76) rfl rfl ?_
    show Steps p.tables e below (T35.setTop (mkF m 77 #[.val (.int p1), .unset, .unset, .unset, .unset] [(.ref b2), (.ref b2)])) _
    refine XS.bipush X35.here hx rfl (hb hby at_77) ?_
    show Steps p.tables e below (T35.setTop (mkF m 79 #[.val (.int p1), .unset, .unset, .unset, .unset] [(.int (11 : Int32)), (.ref b2), (.ref b2)])) _
    refine st37 _ ?_
    show Steps p.tables e below (T37.setTop (mkF m 82 #[.val (.int p1), .unset, .unset, .unset, .unset] [(.ref w36), (.int (11 : Int32)), (.ref b2), (.ref b2)])) _
    refine st38 _ ?_
    show Steps p.tables e below (T38.setTop (mkF m 83 #[.val (.int p1), .unset, .unset, .unset, .unset] [(.ref b2)])) _
    refine XS.dup X38.here hx rfl (hb hby at_83) rfl rfl ?_
    show Steps p.tables e below (T38.setTop (mkF m 84 #[.val (.int p1), .unset, .unset, .unset, .unset] [(.ref b2), (.ref b2)])) _
    refine XS.bipush X38.here hx rfl (hb hby at_84) ?_
    show Steps p.tables e below (T38.setTop (mkF m 86 #[.val (.int p1), .unset, .unset, .unset, .unset] [(.int (12 : Int32)), (.ref b2), (.ref b2)])) _
    refine st40 _ ?_
    show Steps p.tables e below (T40.setTop (mkF m 89 #[.val (.int p1), .unset, .unset, .unset, .unset] [(.ref w39), (.int (12 : Int32)), (.ref b2), (.ref b2)])) _
    refine st41 _ ?_
    show Steps p.tables e below (T41.setTop (mkF m 90 #[.val (.int p1), .unset, .unset, .unset, .unset] [(.ref b2)])) _
    refine XS.dup X41.here hx rfl (hb hby at_90) rfl rfl ?_
    show Steps p.tables e below (T41.setTop (mkF m 91 #[.val (.int p1), .unset, .unset, .unset, .unset] [(.ref b2), (.ref b2)])) _
    refine XS.bipush X41.here hx rfl (hb hby at_91) ?_
    show Steps p.tables e below (T41.setTop (mkF m 93 #[.val (.int p1), .unset, .unset, .unset, .unset] [(.int (13 : Int32)), (.ref b2), (.ref b2)])) _
    refine st43 _ ?_
    show Steps p.tables e below (T43.setTop (mkF m 96 #[.val (.int p1), .unset, .unset, .unset, .unset] [(.ref w42), (.int (13 : Int32)), (.ref b2), (.ref b2)])) _
    refine st44 _ ?_
    show Steps p.tables e below (T44.setTop (mkF m 97 #[.val (.int p1), .unset, .unset, .unset, .unset] [(.ref b2)])) _
    refine XS.dup X44.here hx rfl (hb hby at_97) rfl rfl ?_
    show Steps p.tables e below (T44.setTop (mkF m 98 #[.val (.int p1), .unset, .unset, .unset, .unset] [(.ref b2), (.ref b2)])) _
    refine XS.bipush X44.here hx rfl (hb hby at_98) ?_
    show Steps p.tables e below (T44.setTop (mkF m 100 #[.val (.int p1), .unset, .unset, .unset, .unset] [(.int (14 : Int32)), (.ref b2), (.ref b2)])) _
    refine st46 _ ?_
    show Steps p.tables e below (T46.setTop (mkF m 103 #[.val (.int p1), .unset, .unset, .unset, .unset] [(.ref w45), (.int (14 : Int32)), (.ref b2), (.ref b2)])) _
    refine st47 _ ?_
    show Steps p.tables e below (T47.setTop (mkF m 104 #[.val (.int p1), .unset, .unset, .unset, .unset] [(.ref b2)])) _
    refine XS.dup X47.here hx rfl (hb hby at_104) rfl rfl ?_
    show Steps p.tables e below (T47.setTop (mkF m 105 #[.val (.int p1), .unset, .unset, .unset, .unset] [(.ref b2), (.ref b2)])) _
    refine XS.bipush X47.here hx rfl (hb hby at_105) ?_
    show Steps p.tables e below (T47.setTop (mkF m 107 #[.val (.int p1), .unset, .unset, .unset, .unset] [(.int (15 : Int32)), (.ref b2), (.ref b2)])) _
    refine st49 _ ?_
    show Steps p.tables e below (T49.setTop (mkF m 110 #[.val (.int p1), .unset, .unset, .unset, .unset] [(.ref w48), (.int (15 : Int32)), (.ref b2), (.ref b2)])) _
    refine st50 _ ?_
    show Steps p.tables e below (T50.setTop (mkF m 111 #[.val (.int p1), .unset, .unset, .unset, .unset] [(.ref b2)])) _
    refine XS.dup X50.here hx rfl (hb hby at_111) rfl rfl ?_
    show Steps p.tables e below (T50.setTop (mkF m 112 #[.val (.int p1), .unset, .unset, .unset, .unset] [(.ref b2), (.ref b2)])) _
    refine XS.bipush X50.here hx rfl (hb hby at_112) ?_
    show Steps p.tables e below (T50.setTop (mkF m 114 #[.val (.int p1), .unset, .unset, .unset, .unset] [(.int (16 : Int32)), (.ref b2), (.ref b2)])) _
    refine st52 _ ?_
    show Steps p.tables e below (T52.setTop (mkF m 117 #[.val (.int p1), .unset, .unset, .unset, .unset] [(.ref w51), (.int (16 : Int32)), (.ref b2), (.ref b2)])) _
    refine st53 _ ?_
    show Steps p.tables e below (T53.setTop (mkF m 118 #[.val (.int p1), .unset, .unset, .unset, .unset] [(.ref b2)])) _
    refine XS.astoreN X53.here hx rfl (hb hby at_118) rfl rfl (l' := #[.val (.int p1), .val (.ref b2), .unset, .unset, .unset]) rfl ?_
    show Steps p.tables e below (T53.setTop (mkF m 119 #[.val (.int p1), .val (.ref b2), .unset, .unset, .unset] [])) _
    refine XS.iloadN X53.here hx rfl (hb hby at_119) rfl ?_
    show Steps p.tables e below (T53.setTop (mkF m 120 #[.val (.int p1), .val (.ref b2), .unset, .unset, .unset] [(.int p1)])) _
    refine X53.ldcInt hx hown (mvT hZ (hw _ (List.mem_of_getElem? (i := 38) rfl))) (g := (mkF m 120 #[.val (.int p1), .val (.ref b2), .unset, .unset, .unset] [(.int p1)])) rfl (hb hby at_120) _ ?_
    show Steps p.tables e below (T53.setTop (mkF m 122 #[.val (.int p1), .val (.ref b2), .unset, .unset, .unset] [(.int (2147483647 : Int32)), (.int p1)])) _
    refine XS.iand X53.here hx rfl (hb hby at_122) rfl ?_
    show Steps p.tables e below (T53.setTop (mkF m 123 #[.val (.int p1), .val (.ref b2), .unset, .unset, .unset] [(.int (p1 &&& (2147483647 : Int32)))])) _
    refine XS.bipush X53.here hx rfl (hb hby at_123) ?_
    show Steps p.tables e below (T53.setTop (mkF m 125 #[.val (.int p1), .val (.ref b2), .unset, .unset, .unset] [(.int (17 : Int32)), (.int (p1 &&& (2147483647 : Int32)))])) _
    refine iremM X53 hx rfl (hb hby at_125) rfl (by decide) ?_
    show Steps p.tables e below (T53.setTop (mkF m 126 #[.val (.int p1), .val (.ref b2), .unset, .unset, .unset] [(.int ((p1 &&& (2147483647 : Int32)) % (17 : Int32)))])) _
    refine XS.istoreN X53.here hx rfl (hb hby at_126) rfl (l' := #[.val (.int p1), .val (.ref b2), .val (.int ((p1 &&& (2147483647 : Int32)) % (17 : Int32))), .unset, .unset]) rfl ?_
    show Steps p.tables e below (T53.setTop (mkF m 127 #[.val (.int p1), .val (.ref b2), .val (.int ((p1 &&& (2147483647 : Int32)) % (17 : Int32))), .unset, .unset] [])) _
    refine XS.aloadN X53.here hx rfl (hb hby at_127) rfl rfl ?_
    show Steps p.tables e below (T53.setTop (mkF m 128 #[.val (.int p1), .val (.ref b2), .val (.int ((p1 &&& (2147483647 : Int32)) % (17 : Int32))), .unset, .unset] [(.ref b2)])) _
    refine XS.iloadN X53.here hx rfl (hb hby at_128) rfl ?_
    show Steps p.tables e below (T53.setTop (mkF m 129 #[.val (.int p1), .val (.ref b2), .val (.int ((p1 &&& (2147483647 : Int32)) % (17 : Int32))), .unset, .unset] [(.int ((p1 &&& (2147483647 : Int32)) % (17 : Int32))), (.ref b2)])) _
    refine X53.aaload hx (j := ((p1 &&& (2147483647 : Int32)) % (17 : Int32))) (v := (.ref w54)) (by rw [e53]; exact Ar_b2.1) (State.isArrayOf_alike hZ.alike Ar_b2.2.1) rfl Ar_b2.2.2 hin129 hat129 (g := (mkF m 129 #[.val (.int p1), .val (.ref b2), .val (.int ((p1 &&& (2147483647 : Int32)) % (17 : Int32))), .unset, .unset] [(.int ((p1 &&& (2147483647 : Int32)) % (17 : Int32))), (.ref b2)])) rfl rfl (hb hby at_129) _ ?_
    show Steps p.tables e below (T53.setTop (mkF m 130 #[.val (.int p1), .val (.ref b2), .val (.int ((p1 &&& (2147483647 : Int32)) % (17 : Int32))), .unset, .unset] [(.ref w54)])) _
    refine XS.astoreN X53.here hx rfl (hb hby at_130) rfl rfl (l' := #[.val (.int p1), .val (.ref b2), .val (.int ((p1 &&& (2147483647 : Int32)) % (17 : Int32))), .val (.ref w54), .unset]) rfl ?_
    show Steps p.tables e below (T53.setTop (mkF m 131 #[.val (.int p1), .val (.ref b2), .val (.int ((p1 &&& (2147483647 : Int32)) % (17 : Int32))), .val (.ref w54), .unset] [])) _
    refine XS.iloadN X53.here hx rfl (hb hby at_131) rfl ?_
    show Steps p.tables e below (T53.setTop (mkF m 132 #[.val (.int p1), .val (.ref b2), .val (.int ((p1 &&& (2147483647 : Int32)) % (17 : Int32))), .val (.ref w54), .unset] [(.int ((p1 &&& (2147483647 : Int32)) % (17 : Int32)))])) _
    refine XS.iconst X53.here hx rfl (hb hby at_132) ?_
    show Steps p.tables e below (T53.setTop (mkF m 133 #[.val (.int p1), .val (.ref b2), .val (.int ((p1 &&& (2147483647 : Int32)) % (17 : Int32))), .val (.ref w54), .unset] [(.int (1 : Int32)), (.int ((p1 &&& (2147483647 : Int32)) % (17 : Int32)))])) _
    refine XS.icmpNo X53.here hx rfl (hb hby at_133) rfl (flt hc133).1 ?_
    show Steps p.tables e below (T53.setTop (mkF m 136 #[.val (.int p1), .val (.ref b2), .val (.int ((p1 &&& (2147483647 : Int32)) % (17 : Int32))), .val (.ref w54), .unset] [])) _
    refine XS.iloadN X53.here hx rfl (hb hby at_136) rfl ?_
    show Steps p.tables e below (T53.setTop (mkF m 137 #[.val (.int p1), .val (.ref b2), .val (.int ((p1 &&& (2147483647 : Int32)) % (17 : Int32))), .val (.ref w54), .unset] [(.int ((p1 &&& (2147483647 : Int32)) % (17 : Int32)))])) _
    refine XS.bipush X53.here hx rfl (hb hby at_137) ?_
    show Steps p.tables e below (T53.setTop (mkF m 139 #[.val (.int p1), .val (.ref b2), .val (.int ((p1 &&& (2147483647 : Int32)) % (17 : Int32))), .val (.ref w54), .unset] [(.int (6 : Int32)), (.int ((p1 &&& (2147483647 : Int32)) % (17 : Int32)))])) _
    refine XS.icmpYes X53.here hx rfl (pc0 := 139) (pc' := 146) rfl (hb hby at_139) rfl (tlt hc139).2.2.1 (by decide) (by decide) ?_
    show Steps p.tables e below (T53.setTop (mkF m 146 #[.val (.int p1), .val (.ref b2), .val (.int ((p1 &&& (2147483647 : Int32)) % (17 : Int32))), .val (.ref w54), .unset] [])) _
    refine XS.iconst X53.here hx rfl (hb hby at_146) ?_
    show Steps p.tables e below (T53.setTop (mkF m 147 #[.val (.int p1), .val (.ref b2), .val (.int ((p1 &&& (2147483647 : Int32)) % (17 : Int32))), .val (.ref w54), .unset] [(.int (0 : Int32))])) _
    refine XS.istore X53.here hx rfl (hb hby at_147) rfl (l' := #[.val (.int p1), .val (.ref b2), .val (.int ((p1 &&& (2147483647 : Int32)) % (17 : Int32))), .val (.ref w54), .val (.int (0 : Int32))]) rfl ?_
    show Steps p.tables e below (T53.setTop (mkF m 149 #[.val (.int p1), .val (.ref b2), .val (.int ((p1 &&& (2147483647 : Int32)) % (17 : Int32))), .val (.ref w54), .val (.int (0 : Int32))] [])) _
    refine XS.aloadN X53.here hx rfl (hb hby at_149) rfl rfl ?_
    show Steps p.tables e below (T53.setTop (mkF m 150 #[.val (.int p1), .val (.ref b2), .val (.int ((p1 &&& (2147483647 : Int32)) % (17 : Int32))), .val (.ref w54), .val (.int (0 : Int32))] [(.ref w54)])) _
    refine st55.trans ?_
    show Steps p.tables e below (T55.setTop (mkF m 153 #[.val (.int p1), .val (.ref b2), .val (.int ((p1 &&& (2147483647 : Int32)) % (17 : Int32))), .val (.ref w54), .val (.int (0 : Int32))] [(.int (0 : Int32))])) _
    refine XS.iload X55.here hx rfl (hb hby at_153) rfl ?_
    show Steps p.tables e below (T55.setTop (mkF m 155 #[.val (.int p1), .val (.ref b2), .val (.int ((p1 &&& (2147483647 : Int32)) % (17 : Int32))), .val (.ref w54), .val (.int (0 : Int32))] [(.int (0 : Int32)), (.int (0 : Int32))])) _
    refine XS.icmpNo X55.here hx rfl (hb hby at_155) rfl (teq (rfl : (0 : Int32) = (0 : Int32))).2 ?_
    show Steps p.tables e below (T55.setTop (mkF m 158 #[.val (.int p1), .val (.ref b2), .val (.int ((p1 &&& (2147483647 : Int32)) % (17 : Int32))), .val (.ref w54), .val (.int (0 : Int32))] [])) _
    refine XS.iconst X55.here hx rfl (hb hby at_158) ?_
    show Steps p.tables e below (T55.setTop (mkF m 159 #[.val (.int p1), .val (.ref b2), .val (.int ((p1 &&& (2147483647 : Int32)) % (17 : Int32))), .val (.ref w54), .val (.int (0 : Int32))] [(.int (1 : Int32))])) _
    refine XS.goto X55.here hx rfl (pc0 := 159) (pc' := 163) rfl (hb hby at_159) (by decide) (by decide) ?_
    show Steps p.tables e below (T55.setTop (mkF m 163 #[.val (.int p1), .val (.ref b2), .val (.int ((p1 &&& (2147483647 : Int32)) % (17 : Int32))), .val (.ref w54), .val (.int (0 : Int32))] [(.int (1 : Int32))])) _
    exact retN X55 hx (t := .boolean) Bd.returns (by simp) (hb hby at_163) hr
  · show Q0_h Z p1 w3 w6 w9 w12 w15 w18 w21 w24 w27 w30 w33 w36 w39 w42 w45 w48 w51 w54 h0 n0 _ T55.heap _
    exact ⟨rfl, N55⟩
theorem own_eqi {args : Array Value} {first s : State} {o : Option Outcome} {idx : List Nat} {t : Term} {n : Int32} (h : (Cond.eq t (.int n)).value args first o s idx = some true) : t.eval args first o idx s = some (.int n) := by
  obtain ⟨x, y, hx, hy, k1, k2⟩ := cmp_v (Or.inl h)
  have hy' : (Term.int n).eval args first o idx s = some (.int n) := Term.int_eval n
  cases hy.symm.trans hy'
  obtain ⟨z, rfl⟩ := k2
  rw [hx]
  have q : (Cond.eq t (.int n)).value args first o s idx = some (decide (z = n)) := by simp [Cond.value, hx, hy']
  rw [gotT q h]
theorem own_rem (x n : Int32) (hn : 0 < n.toInt) : 0 ≤ ((x &&& 2147483647) % n).toInt ∧ ((x &&& 2147483647) % n).toInt < n.toInt := by
  have e1 : (x &&& 2147483647).toInt = x.toInt % 2 ^ 31 := Jvm.Kit.i32_mask x 2147483647 (k := 31) (by decide) (by decide)
  have h0 : 0 ≤ (x &&& 2147483647).toInt := by rw [e1]; exact Int.emod_nonneg _ (by decide)
  rw [Jvm.Kit.i32_rem_nonneg h0]
  exact ⟨Int.emod_nonneg _ (by omega), Int.emod_lt_of_pos _ hn⟩
theorem own_cases17 {k : Int32} (h0 : 0 ≤ k.toInt) (h1 : k.toInt < 17) : k = 0 ∨ k = 1 ∨ k = 2 ∨ k = 3 ∨ k = 4 ∨ k = 5 ∨ k = 6 ∨ k = 7 ∨ k = 8 ∨ k = 9 ∨ k = 10 ∨ k = 11 ∨ k = 12 ∨ k = 13 ∨ k = 14 ∨ k = 15 ∨ k = 16 := by
  rcases (by omega : k.toInt = 0 ∨ k.toInt = 1 ∨ k.toInt = 2 ∨ k.toInt = 3 ∨ k.toInt = 4 ∨ k.toInt = 5 ∨ k.toInt = 6 ∨ k.toInt = 7 ∨ k.toInt = 8 ∨ k.toInt = 9 ∨ k.toInt = 10 ∨ k.toInt = 11 ∨ k.toInt = 12 ∨ k.toInt = 13 ∨ k.toInt = 14 ∨ k.toInt = 15 ∨ k.toInt = 16) with h | h | h | h | h | h | h | h | h | h | h | h | h | h | h | h | h
  · exact Or.inl (Int32.toInt_inj.mp (h.trans (by decide)))
  · exact Or.inr (Or.inl (Int32.toInt_inj.mp (h.trans (by decide))))
  · exact Or.inr (Or.inr (Or.inl (Int32.toInt_inj.mp (h.trans (by decide)))))
  · exact Or.inr (Or.inr (Or.inr (Or.inl (Int32.toInt_inj.mp (h.trans (by decide))))))
  · exact Or.inr (Or.inr (Or.inr (Or.inr (Or.inl (Int32.toInt_inj.mp (h.trans (by decide)))))))
  · exact Or.inr (Or.inr (Or.inr (Or.inr (Or.inr (Or.inl (Int32.toInt_inj.mp (h.trans (by decide))))))))
  · exact Or.inr (Or.inr (Or.inr (Or.inr (Or.inr (Or.inr (Or.inl (Int32.toInt_inj.mp (h.trans (by decide)))))))))
  · exact Or.inr (Or.inr (Or.inr (Or.inr (Or.inr (Or.inr (Or.inr (Or.inl (Int32.toInt_inj.mp (h.trans (by decide))))))))))
  · exact Or.inr (Or.inr (Or.inr (Or.inr (Or.inr (Or.inr (Or.inr (Or.inr (Or.inl (Int32.toInt_inj.mp (h.trans (by decide)))))))))))
  · exact Or.inr (Or.inr (Or.inr (Or.inr (Or.inr (Or.inr (Or.inr (Or.inr (Or.inr (Or.inl (Int32.toInt_inj.mp (h.trans (by decide))))))))))))
  · exact Or.inr (Or.inr (Or.inr (Or.inr (Or.inr (Or.inr (Or.inr (Or.inr (Or.inr (Or.inr (Or.inl (Int32.toInt_inj.mp (h.trans (by decide)))))))))))))
  · exact Or.inr (Or.inr (Or.inr (Or.inr (Or.inr (Or.inr (Or.inr (Or.inr (Or.inr (Or.inr (Or.inr (Or.inl (Int32.toInt_inj.mp (h.trans (by decide))))))))))))))
  · exact Or.inr (Or.inr (Or.inr (Or.inr (Or.inr (Or.inr (Or.inr (Or.inr (Or.inr (Or.inr (Or.inr (Or.inr (Or.inl (Int32.toInt_inj.mp (h.trans (by decide)))))))))))))))
  · exact Or.inr (Or.inr (Or.inr (Or.inr (Or.inr (Or.inr (Or.inr (Or.inr (Or.inr (Or.inr (Or.inr (Or.inr (Or.inr (Or.inl (Int32.toInt_inj.mp (h.trans (by decide))))))))))))))))
  · exact Or.inr (Or.inr (Or.inr (Or.inr (Or.inr (Or.inr (Or.inr (Or.inr (Or.inr (Or.inr (Or.inr (Or.inr (Or.inr (Or.inr (Or.inl (Int32.toInt_inj.mp (h.trans (by decide)))))))))))))))))
  · exact Or.inr (Or.inr (Or.inr (Or.inr (Or.inr (Or.inr (Or.inr (Or.inr (Or.inr (Or.inr (Or.inr (Or.inr (Or.inr (Or.inr (Or.inr (Or.inl (Int32.toInt_inj.mp (h.trans (by decide))))))))))))))))))
  · exact Or.inr (Or.inr (Or.inr (Or.inr (Or.inr (Or.inr (Or.inr (Or.inr (Or.inr (Or.inr (Or.inr (Or.inr (Or.inr (Or.inr (Or.inr (Or.inr ((Int32.toInt_inj.mp (h.trans (by decide)))))))))))))))))))
def Q0 (n0 : Nat) (v : Option Value) (L : List Loc) : Prop := v = some (.int (1 : Int32)) ∧ Fr n0 L
set_option maxRecDepth 65536 in
theorem rm0 (l : Launch) (Z : State) (a0 : Array Value) (hw : ∀ d ∈ tables_1, d.before a0 Z = true) (ws : List Jvm.Cond) (p1 : Int32) (w0 w1 w2 w3 w4 w5 w6 w7 w8 w9 w10 w11 w12 w13 w14 w15 w16 : Addr) (h0 : Heap) (n0 : Nat) (Z0 : n0 ≤ h0.size) (S_VOID : Sta Z h0 "com/example/stubwright/stubwright/model/BasicType" "VOID" "Lcom/example/stubwright/stubwright/model/BasicType;" (.ref w0)) (E_VOID : Exa Z h0 w0 "com/example/stubwright/stubwright/model/BasicType") (F_VOID : Fld Z h0 w0 "com/example/stubwright/stubwright/model/BasicType" "integerBits" "I" (.int 0)) (S_SHORT : Sta Z h0 "com/example/stubwright/stubwright/model/BasicType" "SHORT" "Lcom/example/stubwright/stubwright/model/BasicType;" (.ref w1)) (E_SHORT : Exa Z h0 w1 "com/example/stubwright/stubwright/model/BasicType") (F_SHORT : Fld Z h0 w1 "com/example/stubwright/stubwright/model/BasicType" "integerBits" "I" (.int 16)) (S_LONG : Sta Z h0 "com/example/stubwright/stubwright/model/BasicType" "LONG" "Lcom/example/stubwright/stubwright/model/BasicType;" (.ref w2)) (E_LONG : Exa Z h0 w2 "com/example/stubwright/stubwright/model/BasicType") (F_LONG : Fld Z h0 w2 "com/example/stubwright/stubwright/model/BasicType" "integerBits" "I" (.int 32)) (S_LONG_LONG : Sta Z h0 "com/example/stubwright/stubwright/model/BasicType" "LONG_LONG" "Lcom/example/stubwright/stubwright/model/BasicType;" (.ref w3)) (E_LONG_LONG : Exa Z h0 w3 "com/example/stubwright/stubwright/model/BasicType") (F_LONG_LONG : Fld Z h0 w3 "com/example/stubwright/stubwright/model/BasicType" "integerBits" "I" (.int 64)) (S_UNSIGNED_SHORT : Sta Z h0 "com/example/stubwright/stubwright/model/BasicType" "UNSIGNED_SHORT" "Lcom/example/stubwright/stubwright/model/BasicType;" (.ref w4)) (E_UNSIGNED_SHORT : Exa Z h0 w4 "com/example/stubwright/stubwright/model/BasicType") (F_UNSIGNED_SHORT : Fld Z h0 w4 "com/example/stubwright/stubwright/model/BasicType" "integerBits" "I" (.int 16)) (S_UNSIGNED_LONG : Sta Z h0 "com/example/stubwright/stubwright/model/BasicType" "UNSIGNED_LONG" "Lcom/example/stubwright/stubwright/model/BasicType;" (.ref w5)) (E_UNSIGNED_LONG : Exa Z h0 w5 "com/example/stubwright/stubwright/model/BasicType") (F_UNSIGNED_LONG : Fld Z h0 w5 "com/example/stubwright/stubwright/model/BasicType" "integerBits" "I" (.int 32)) (S_UNSIGNED_LONG_LONG : Sta Z h0 "com/example/stubwright/stubwright/model/BasicType" "UNSIGNED_LONG_LONG" "Lcom/example/stubwright/stubwright/model/BasicType;" (.ref w6)) (E_UNSIGNED_LONG_LONG : Exa Z h0 w6 "com/example/stubwright/stubwright/model/BasicType") (F_UNSIGNED_LONG_LONG : Fld Z h0 w6 "com/example/stubwright/stubwright/model/BasicType" "integerBits" "I" (.int 64)) (S_FLOAT : Sta Z h0 "com/example/stubwright/stubwright/model/BasicType" "FLOAT" "Lcom/example/stubwright/stubwright/model/BasicType;" (.ref w7)) (E_FLOAT : Exa Z h0 w7 "com/example/stubwright/stubwright/model/BasicType") (F_FLOAT : Fld Z h0 w7 "com/example/stubwright/stubwright/model/BasicType" "integerBits" "I" (.int 0)) (S_DOUBLE : Sta Z h0 "com/example/stubwright/stubwright/model/BasicType" "DOUBLE" "Lcom/example/stubwright/stubwright/model/BasicType;" (.ref w8)) (E_DOUBLE : Exa Z h0 w8 "com/example/stubwright/stubwright/model/BasicType") (F_DOUBLE : Fld Z h0 w8 "com/example/stubwright/stubwright/model/BasicType" "integerBits" "I" (.int 0)) (S_CHAR : Sta Z h0 "com/example/stubwright/stubwright/model/BasicType" "CHAR" "Lcom/example/stubwright/stubwright/model/BasicType;" (.ref w9)) (E_CHAR : Exa Z h0 w9 "com/example/stubwright/stubwright/model/BasicType") (F_CHAR : Fld Z h0 w9 "com/example/stubwright/stubwright/model/BasicType" "integerBits" "I" (.int 0)) (S_WCHAR : Sta Z h0 "com/example/stubwright/stubwright/model/BasicType" "WCHAR" "Lcom/example/stubwright/stubwright/model/BasicType;" (.ref w10)) (E_WCHAR : Exa Z h0 w10 "com/example/stubwright/stubwright/model/BasicType") (F_WCHAR : Fld Z h0 w10 "com/example/stubwright/stubwright/model/BasicType" "integerBits" "I" (.int 0)) (S_BOOLEAN : Sta Z h0 "com/example/stubwright/stubwright/model/BasicType" "BOOLEAN" "Lcom/example/stubwright/stubwright/model/BasicType;" (.ref w11)) (E_BOOLEAN : Exa Z h0 w11 "com/example/stubwright/stubwright/model/BasicType") (F_BOOLEAN : Fld Z h0 w11 "com/example/stubwright/stubwright/model/BasicType" "integerBits" "I" (.int 0)) (S_OCTET : Sta Z h0 "com/example/stubwright/stubwright/model/BasicType" "OCTET" "Lcom/example/stubwright/stubwright/model/BasicType;" (.ref w12)) (E_OCTET : Exa Z h0 w12 "com/example/stubwright/stubwright/model/BasicType") (F_OCTET : Fld Z h0 w12 "com/example/stubwright/stubwright/model/BasicType" "integerBits" "I" (.int 0)) (S_ANY : Sta Z h0 "com/example/stubwright/stubwright/model/BasicType" "ANY" "Lcom/example/stubwright/stubwright/model/BasicType;" (.ref w13)) (E_ANY : Exa Z h0 w13 "com/example/stubwright/stubwright/model/BasicType") (F_ANY : Fld Z h0 w13 "com/example/stubwright/stubwright/model/BasicType" "integerBits" "I" (.int 0)) (S_STRING : Sta Z h0 "com/example/stubwright/stubwright/model/BasicType" "STRING" "Lcom/example/stubwright/stubwright/model/BasicType;" (.ref w14)) (E_STRING : Exa Z h0 w14 "com/example/stubwright/stubwright/model/BasicType") (F_STRING : Fld Z h0 w14 "com/example/stubwright/stubwright/model/BasicType" "integerBits" "I" (.int 0)) (S_WSTRING : Sta Z h0 "com/example/stubwright/stubwright/model/BasicType" "WSTRING" "Lcom/example/stubwright/stubwright/model/BasicType;" (.ref w15)) (E_WSTRING : Exa Z h0 w15 "com/example/stubwright/stubwright/model/BasicType") (F_WSTRING : Fld Z h0 w15 "com/example/stubwright/stubwright/model/BasicType" "integerBits" "I" (.int 0)) (S_OBJECT : Sta Z h0 "com/example/stubwright/stubwright/model/BasicType" "OBJECT" "Lcom/example/stubwright/stubwright/model/BasicType;" (.ref w16)) (E_OBJECT : Exa Z h0 w16 "com/example/stubwright/stubwright/model/BasicType") (F_OBJECT : Fld Z h0 w16 "com/example/stubwright/stubwright/model/BasicType" "integerBits" "I" (.int 0)) :
    MetFree l x (head1 (Jvm.Cond.code x code maxLocals ret :: ws) room_1) (fun a U => a = #[(.int p1)] ∧ Z.Warmed39 U.vm ∧ U.heap = h0) (fun _ _ _ _ _ => True) (fun _ U o U' => ∃ v L, o = .returned v ∧ Q0 n0 v L ∧ FrameEnd U o U' L room_1.cells room_1.slots) := by
  have hb17 := own_rem p1 17 (by decide)
  rcases own_cases17 hb17.1 hb17.2 with hk | hk | hk | hk | hk | hk | hk | hk | hk | hk | hk | hk | hk | hk | hk | hk | hk
  · exact rm0_l l Z a0 hw ws 0 p1 w0 w1 w2 w3 w4 w5 w6 w7 w8 w9 w10 w11 w12 w13 w14 w15 w16 w0 h0 n0 Z0 S_VOID E_VOID S_SHORT E_SHORT S_LONG E_LONG S_LONG_LONG E_LONG_LONG S_UNSIGNED_SHORT E_UNSIGNED_SHORT S_UNSIGNED_LONG E_UNSIGNED_LONG S_UNSIGNED_LONG_LONG E_UNSIGNED_LONG_LONG S_FLOAT E_FLOAT S_DOUBLE E_DOUBLE S_CHAR E_CHAR S_WCHAR E_WCHAR S_BOOLEAN E_BOOLEAN S_OCTET E_OCTET S_ANY E_ANY S_STRING E_STRING S_WSTRING E_WSTRING S_OBJECT E_OBJECT E_VOID F_VOID (by decide) (by rw [hk]; decide) (by rw [hk]; rfl) (by rw [hk]; decide)
  · exact rm0_m l Z a0 hw ws 16 p1 w0 w1 w2 w3 w4 w5 w6 w7 w8 w9 w10 w11 w12 w13 w14 w15 w16 w1 h0 n0 Z0 S_VOID E_VOID S_SHORT E_SHORT S_LONG E_LONG S_LONG_LONG E_LONG_LONG S_UNSIGNED_SHORT E_UNSIGNED_SHORT S_UNSIGNED_LONG E_UNSIGNED_LONG S_UNSIGNED_LONG_LONG E_UNSIGNED_LONG_LONG S_FLOAT E_FLOAT S_DOUBLE E_DOUBLE S_CHAR E_CHAR S_WCHAR E_WCHAR S_BOOLEAN E_BOOLEAN S_OCTET E_OCTET S_ANY E_ANY S_STRING E_STRING S_WSTRING E_WSTRING S_OBJECT E_OBJECT E_SHORT F_SHORT (by decide) (by rw [hk]; decide) (by rw [hk]; rfl) (by rw [hk]; decide) (by rw [hk]; decide)
  · exact rm0_m l Z a0 hw ws 32 p1 w0 w1 w2 w3 w4 w5 w6 w7 w8 w9 w10 w11 w12 w13 w14 w15 w16 w2 h0 n0 Z0 S_VOID E_VOID S_SHORT E_SHORT S_LONG E_LONG S_LONG_LONG E_LONG_LONG S_UNSIGNED_SHORT E_UNSIGNED_SHORT S_UNSIGNED_LONG E_UNSIGNED_LONG S_UNSIGNED_LONG_LONG E_UNSIGNED_LONG_LONG S_FLOAT E_FLOAT S_DOUBLE E_DOUBLE S_CHAR E_CHAR S_WCHAR E_WCHAR S_BOOLEAN E_BOOLEAN S_OCTET E_OCTET S_ANY E_ANY S_STRING E_STRING S_WSTRING E_WSTRING S_OBJECT E_OBJECT E_LONG F_LONG (by decide) (by rw [hk]; decide) (by rw [hk]; rfl) (by rw [hk]; decide) (by rw [hk]; decide)
  · exact rm0_m l Z a0 hw ws 64 p1 w0 w1 w2 w3 w4 w5 w6 w7 w8 w9 w10 w11 w12 w13 w14 w15 w16 w3 h0 n0 Z0 S_VOID E_VOID S_SHORT E_SHORT S_LONG E_LONG S_LONG_LONG E_LONG_LONG S_UNSIGNED_SHORT E_UNSIGNED_SHORT S_UNSIGNED_LONG E_UNSIGNED_LONG S_UNSIGNED_LONG_LONG E_UNSIGNED_LONG_LONG S_FLOAT E_FLOAT S_DOUBLE E_DOUBLE S_CHAR E_CHAR S_WCHAR E_WCHAR S_BOOLEAN E_BOOLEAN S_OCTET E_OCTET S_ANY E_ANY S_STRING E_STRING S_WSTRING E_WSTRING S_OBJECT E_OBJECT E_LONG_LONG F_LONG_LONG (by decide) (by rw [hk]; decide) (by rw [hk]; rfl) (by rw [hk]; decide) (by rw [hk]; decide)
  · exact rm0_m l Z a0 hw ws 16 p1 w0 w1 w2 w3 w4 w5 w6 w7 w8 w9 w10 w11 w12 w13 w14 w15 w16 w4 h0 n0 Z0 S_VOID E_VOID S_SHORT E_SHORT S_LONG E_LONG S_LONG_LONG E_LONG_LONG S_UNSIGNED_SHORT E_UNSIGNED_SHORT S_UNSIGNED_LONG E_UNSIGNED_LONG S_UNSIGNED_LONG_LONG E_UNSIGNED_LONG_LONG S_FLOAT E_FLOAT S_DOUBLE E_DOUBLE S_CHAR E_CHAR S_WCHAR E_WCHAR S_BOOLEAN E_BOOLEAN S_OCTET E_OCTET S_ANY E_ANY S_STRING E_STRING S_WSTRING E_WSTRING S_OBJECT E_OBJECT E_UNSIGNED_SHORT F_UNSIGNED_SHORT (by decide) (by rw [hk]; decide) (by rw [hk]; rfl) (by rw [hk]; decide) (by rw [hk]; decide)
  · exact rm0_m l Z a0 hw ws 32 p1 w0 w1 w2 w3 w4 w5 w6 w7 w8 w9 w10 w11 w12 w13 w14 w15 w16 w5 h0 n0 Z0 S_VOID E_VOID S_SHORT E_SHORT S_LONG E_LONG S_LONG_LONG E_LONG_LONG S_UNSIGNED_SHORT E_UNSIGNED_SHORT S_UNSIGNED_LONG E_UNSIGNED_LONG S_UNSIGNED_LONG_LONG E_UNSIGNED_LONG_LONG S_FLOAT E_FLOAT S_DOUBLE E_DOUBLE S_CHAR E_CHAR S_WCHAR E_WCHAR S_BOOLEAN E_BOOLEAN S_OCTET E_OCTET S_ANY E_ANY S_STRING E_STRING S_WSTRING E_WSTRING S_OBJECT E_OBJECT E_UNSIGNED_LONG F_UNSIGNED_LONG (by decide) (by rw [hk]; decide) (by rw [hk]; rfl) (by rw [hk]; decide) (by rw [hk]; decide)
  · exact rm0_m l Z a0 hw ws 64 p1 w0 w1 w2 w3 w4 w5 w6 w7 w8 w9 w10 w11 w12 w13 w14 w15 w16 w6 h0 n0 Z0 S_VOID E_VOID S_SHORT E_SHORT S_LONG E_LONG S_LONG_LONG E_LONG_LONG S_UNSIGNED_SHORT E_UNSIGNED_SHORT S_UNSIGNED_LONG E_UNSIGNED_LONG S_UNSIGNED_LONG_LONG E_UNSIGNED_LONG_LONG S_FLOAT E_FLOAT S_DOUBLE E_DOUBLE S_CHAR E_CHAR S_WCHAR E_WCHAR S_BOOLEAN E_BOOLEAN S_OCTET E_OCTET S_ANY E_ANY S_STRING E_STRING S_WSTRING E_WSTRING S_OBJECT E_OBJECT E_UNSIGNED_LONG_LONG F_UNSIGNED_LONG_LONG (by decide) (by rw [hk]; decide) (by rw [hk]; rfl) (by rw [hk]; decide) (by rw [hk]; decide)
  · exact rm0_h l Z a0 hw ws 0 p1 w0 w1 w2 w3 w4 w5 w6 w7 w8 w9 w10 w11 w12 w13 w14 w15 w16 w7 h0 n0 Z0 S_VOID E_VOID S_SHORT E_SHORT S_LONG E_LONG S_LONG_LONG E_LONG_LONG S_UNSIGNED_SHORT E_UNSIGNED_SHORT S_UNSIGNED_LONG E_UNSIGNED_LONG S_UNSIGNED_LONG_LONG E_UNSIGNED_LONG_LONG S_FLOAT E_FLOAT S_DOUBLE E_DOUBLE S_CHAR E_CHAR S_WCHAR E_WCHAR S_BOOLEAN E_BOOLEAN S_OCTET E_OCTET S_ANY E_ANY S_STRING E_STRING S_WSTRING E_WSTRING S_OBJECT E_OBJECT E_FLOAT F_FLOAT (by decide) (by rw [hk]; decide) (by rw [hk]; rfl) (by rw [hk]; decide) (by rw [hk]; decide)
  · exact rm0_h l Z a0 hw ws 0 p1 w0 w1 w2 w3 w4 w5 w6 w7 w8 w9 w10 w11 w12 w13 w14 w15 w16 w8 h0 n0 Z0 S_VOID E_VOID S_SHORT E_SHORT S_LONG E_LONG S_LONG_LONG E_LONG_LONG S_UNSIGNED_SHORT E_UNSIGNED_SHORT S_UNSIGNED_LONG E_UNSIGNED_LONG S_UNSIGNED_LONG_LONG E_UNSIGNED_LONG_LONG S_FLOAT E_FLOAT S_DOUBLE E_DOUBLE S_CHAR E_CHAR S_WCHAR E_WCHAR S_BOOLEAN E_BOOLEAN S_OCTET E_OCTET S_ANY E_ANY S_STRING E_STRING S_WSTRING E_WSTRING S_OBJECT E_OBJECT E_DOUBLE F_DOUBLE (by decide) (by rw [hk]; decide) (by rw [hk]; rfl) (by rw [hk]; decide) (by rw [hk]; decide)
  · exact rm0_h l Z a0 hw ws 0 p1 w0 w1 w2 w3 w4 w5 w6 w7 w8 w9 w10 w11 w12 w13 w14 w15 w16 w9 h0 n0 Z0 S_VOID E_VOID S_SHORT E_SHORT S_LONG E_LONG S_LONG_LONG E_LONG_LONG S_UNSIGNED_SHORT E_UNSIGNED_SHORT S_UNSIGNED_LONG E_UNSIGNED_LONG S_UNSIGNED_LONG_LONG E_UNSIGNED_LONG_LONG S_FLOAT E_FLOAT S_DOUBLE E_DOUBLE S_CHAR E_CHAR S_WCHAR E_WCHAR S_BOOLEAN E_BOOLEAN S_OCTET E_OCTET S_ANY E_ANY S_STRING E_STRING S_WSTRING E_WSTRING S_OBJECT E_OBJECT E_CHAR F_CHAR (by decide) (by rw [hk]; decide) (by rw [hk]; rfl) (by rw [hk]; decide) (by rw [hk]; decide)
  · exact rm0_h l Z a0 hw ws 0 p1 w0 w1 w2 w3 w4 w5 w6 w7 w8 w9 w10 w11 w12 w13 w14 w15 w16 w10 h0 n0 Z0 S_VOID E_VOID S_SHORT E_SHORT S_LONG E_LONG S_LONG_LONG E_LONG_LONG S_UNSIGNED_SHORT E_UNSIGNED_SHORT S_UNSIGNED_LONG E_UNSIGNED_LONG S_UNSIGNED_LONG_LONG E_UNSIGNED_LONG_LONG S_FLOAT E_FLOAT S_DOUBLE E_DOUBLE S_CHAR E_CHAR S_WCHAR E_WCHAR S_BOOLEAN E_BOOLEAN S_OCTET E_OCTET S_ANY E_ANY S_STRING E_STRING S_WSTRING E_WSTRING S_OBJECT E_OBJECT E_WCHAR F_WCHAR (by decide) (by rw [hk]; decide) (by rw [hk]; rfl) (by rw [hk]; decide) (by rw [hk]; decide)
  · exact rm0_h l Z a0 hw ws 0 p1 w0 w1 w2 w3 w4 w5 w6 w7 w8 w9 w10 w11 w12 w13 w14 w15 w16 w11 h0 n0 Z0 S_VOID E_VOID S_SHORT E_SHORT S_LONG E_LONG S_LONG_LONG E_LONG_LONG S_UNSIGNED_SHORT E_UNSIGNED_SHORT S_UNSIGNED_LONG E_UNSIGNED_LONG S_UNSIGNED_LONG_LONG E_UNSIGNED_LONG_LONG S_FLOAT E_FLOAT S_DOUBLE E_DOUBLE S_CHAR E_CHAR S_WCHAR E_WCHAR S_BOOLEAN E_BOOLEAN S_OCTET E_OCTET S_ANY E_ANY S_STRING E_STRING S_WSTRING E_WSTRING S_OBJECT E_OBJECT E_BOOLEAN F_BOOLEAN (by decide) (by rw [hk]; decide) (by rw [hk]; rfl) (by rw [hk]; decide) (by rw [hk]; decide)
  · exact rm0_h l Z a0 hw ws 0 p1 w0 w1 w2 w3 w4 w5 w6 w7 w8 w9 w10 w11 w12 w13 w14 w15 w16 w12 h0 n0 Z0 S_VOID E_VOID S_SHORT E_SHORT S_LONG E_LONG S_LONG_LONG E_LONG_LONG S_UNSIGNED_SHORT E_UNSIGNED_SHORT S_UNSIGNED_LONG E_UNSIGNED_LONG S_UNSIGNED_LONG_LONG E_UNSIGNED_LONG_LONG S_FLOAT E_FLOAT S_DOUBLE E_DOUBLE S_CHAR E_CHAR S_WCHAR E_WCHAR S_BOOLEAN E_BOOLEAN S_OCTET E_OCTET S_ANY E_ANY S_STRING E_STRING S_WSTRING E_WSTRING S_OBJECT E_OBJECT E_OCTET F_OCTET (by decide) (by rw [hk]; decide) (by rw [hk]; rfl) (by rw [hk]; decide) (by rw [hk]; decide)
  · exact rm0_h l Z a0 hw ws 0 p1 w0 w1 w2 w3 w4 w5 w6 w7 w8 w9 w10 w11 w12 w13 w14 w15 w16 w13 h0 n0 Z0 S_VOID E_VOID S_SHORT E_SHORT S_LONG E_LONG S_LONG_LONG E_LONG_LONG S_UNSIGNED_SHORT E_UNSIGNED_SHORT S_UNSIGNED_LONG E_UNSIGNED_LONG S_UNSIGNED_LONG_LONG E_UNSIGNED_LONG_LONG S_FLOAT E_FLOAT S_DOUBLE E_DOUBLE S_CHAR E_CHAR S_WCHAR E_WCHAR S_BOOLEAN E_BOOLEAN S_OCTET E_OCTET S_ANY E_ANY S_STRING E_STRING S_WSTRING E_WSTRING S_OBJECT E_OBJECT E_ANY F_ANY (by decide) (by rw [hk]; decide) (by rw [hk]; rfl) (by rw [hk]; decide) (by rw [hk]; decide)
  · exact rm0_h l Z a0 hw ws 0 p1 w0 w1 w2 w3 w4 w5 w6 w7 w8 w9 w10 w11 w12 w13 w14 w15 w16 w14 h0 n0 Z0 S_VOID E_VOID S_SHORT E_SHORT S_LONG E_LONG S_LONG_LONG E_LONG_LONG S_UNSIGNED_SHORT E_UNSIGNED_SHORT S_UNSIGNED_LONG E_UNSIGNED_LONG S_UNSIGNED_LONG_LONG E_UNSIGNED_LONG_LONG S_FLOAT E_FLOAT S_DOUBLE E_DOUBLE S_CHAR E_CHAR S_WCHAR E_WCHAR S_BOOLEAN E_BOOLEAN S_OCTET E_OCTET S_ANY E_ANY S_STRING E_STRING S_WSTRING E_WSTRING S_OBJECT E_OBJECT E_STRING F_STRING (by decide) (by rw [hk]; decide) (by rw [hk]; rfl) (by rw [hk]; decide) (by rw [hk]; decide)
  · exact rm0_h l Z a0 hw ws 0 p1 w0 w1 w2 w3 w4 w5 w6 w7 w8 w9 w10 w11 w12 w13 w14 w15 w16 w15 h0 n0 Z0 S_VOID E_VOID S_SHORT E_SHORT S_LONG E_LONG S_LONG_LONG E_LONG_LONG S_UNSIGNED_SHORT E_UNSIGNED_SHORT S_UNSIGNED_LONG E_UNSIGNED_LONG S_UNSIGNED_LONG_LONG E_UNSIGNED_LONG_LONG S_FLOAT E_FLOAT S_DOUBLE E_DOUBLE S_CHAR E_CHAR S_WCHAR E_WCHAR S_BOOLEAN E_BOOLEAN S_OCTET E_OCTET S_ANY E_ANY S_STRING E_STRING S_WSTRING E_WSTRING S_OBJECT E_OBJECT E_WSTRING F_WSTRING (by decide) (by rw [hk]; decide) (by rw [hk]; rfl) (by rw [hk]; decide) (by rw [hk]; decide)
  · exact rm0_h l Z a0 hw ws 0 p1 w0 w1 w2 w3 w4 w5 w6 w7 w8 w9 w10 w11 w12 w13 w14 w15 w16 w16 h0 n0 Z0 S_VOID E_VOID S_SHORT E_SHORT S_LONG E_LONG S_LONG_LONG E_LONG_LONG S_UNSIGNED_SHORT E_UNSIGNED_SHORT S_UNSIGNED_LONG E_UNSIGNED_LONG S_UNSIGNED_LONG_LONG E_UNSIGNED_LONG_LONG S_FLOAT E_FLOAT S_DOUBLE E_DOUBLE S_CHAR E_CHAR S_WCHAR E_WCHAR S_BOOLEAN E_BOOLEAN S_OCTET E_OCTET S_ANY E_ANY S_STRING E_STRING S_WSTRING E_WSTRING S_OBJECT E_OBJECT E_OBJECT F_OBJECT (by decide) (by rw [hk]; decide) (by rw [hk]; rfl) (by rw [hk]; decide) (by rw [hk]; decide)
set_option maxRecDepth 65536 in
set_option maxHeartbeats 40000000 in
theorem comes_1 {Post : Tables → Env → Array Value → State → Outcome → State → Prop} (hpost : ∀ tb e args s v u, (limb_1_1.after args s (.returned v) u = true ∧ limb_1_2.after args s (.returned v) u = true ∧ True) → FrameEnd s (.returned v) u (Jvm.fieldLocs frame_1_writes args s ++ Jvm.arrayLocs frame_1_arrays args s ++ Jvm.staticLocs frame_1_statics s) 16 128 → Post tb e args s (.returned v) u) :
    ArmFor flags0 classFile x code maxLocals ret World_1 tables_1 room_1 Calls_1 rest_1 Pre_1 Post := by
  intro l hfl _ _ p e ha hc hk s m args below hf hA hF happ hP
  obtain ⟨hcalls, hrest, hpre⟩ := hP
  obtain ⟨-, -, -, hnamed, -, -, -, hat⟩ := (Spec.applies_iff hf).mp happ
  obtain ⟨hg, hn⟩ := and_e (Cond.before_iff.mp (show (Jvm.Cond.and given_1 narrow_1).before args s = true from hpre))
  obtain ⟨g56, g57⟩ := and_e hg
  obtain ⟨w0, rfl⟩ : ∃ w0 : Value, args = #[w0] := by
    have hs : args.size = 1 := by simpa [Cond.value, given_1] using g56
    obtain ⟨L⟩ := args
    match L, hs with
    | [w0], _ => exact ⟨w0, rfl⟩
  have hw := fun d (hd : d ∈ tables_1) => atoms_spec (ws := Jvm.Cond.code x code maxLocals ret :: tables_1) hat d (List.mem_cons_of_mem _ hd)
  have hfit : Fit s := fun {y c} hc i hi => by
    obtain ⟨ha, rfl⟩ := Array.getElem?_eq_some_iff.mp hc
    have q := List.all_eq_true.mp ((Array.all_eq_true_iff_forall_mem.mp hF) _ (Array.getElem_mem ha)) i (List.mem_range.mpr hi)
    simpa [Array.getElem?_eq_getElem hi] using q
  obtain ⟨i0, ei0⟩ := is_v g57
  obtain rfl : w0 = (.int i0) := Option.some.inj ei0
  obtain ⟨xVOID, hn0⟩ := and_e hn
  obtain ⟨xSHORT, hn1⟩ := and_e hn0
  obtain ⟨xLONG, hn2⟩ := and_e hn1
  obtain ⟨xLONG_LONG, hn3⟩ := and_e hn2
  obtain ⟨xUNSIGNED_SHORT, hn4⟩ := and_e hn3
  obtain ⟨xUNSIGNED_LONG, hn5⟩ := and_e hn4
  obtain ⟨xUNSIGNED_LONG_LONG, hn6⟩ := and_e hn5
  obtain ⟨xFLOAT, hn7⟩ := and_e hn6
  obtain ⟨xDOUBLE, hn8⟩ := and_e hn7
  obtain ⟨xCHAR, hn9⟩ := and_e hn8
  obtain ⟨xWCHAR, hn10⟩ := and_e hn9
  obtain ⟨xBOOLEAN, hn11⟩ := and_e hn10
  obtain ⟨xOCTET, hn12⟩ := and_e hn11
  obtain ⟨xANY, hn13⟩ := and_e hn12
  obtain ⟨xSTRING, hn14⟩ := and_e hn13
  obtain ⟨xWSTRING, hn15⟩ := and_e hn14
  obtain ⟨xOBJECT, hn16⟩ := and_e hn15
  obtain ⟨oVOID, hn17⟩ := and_e hn16
  obtain ⟨oLONG_LONG, hn18⟩ := and_e hn17
  obtain ⟨oDOUBLE, hn19⟩ := and_e hn18
  obtain ⟨oCHAR, hn20⟩ := and_e hn19
  obtain ⟨oUNSIGNED_LONG_LONG, hn21⟩ := and_e hn20
  obtain ⟨oFLOAT, hn22⟩ := and_e hn21
  obtain ⟨oLONG, hn23⟩ := and_e hn22
  obtain ⟨oBOOLEAN, hn24⟩ := and_e hn23
  obtain ⟨oSHORT, hn25⟩ := and_e hn24
  obtain ⟨oANY, hn26⟩ := and_e hn25
  obtain ⟨oUNSIGNED_SHORT, hn27⟩ := and_e hn26
  obtain ⟨oWCHAR, hn28⟩ := and_e hn27
  obtain ⟨oOBJECT, hn29⟩ := and_e hn28
  obtain ⟨oWSTRING, hn30⟩ := and_e hn29
  obtain ⟨oUNSIGNED_LONG, hn31⟩ := and_e hn30
  obtain ⟨oSTRING, hn32⟩ := and_e hn31
  have oOCTET := hn32
  obtain ⟨u0, v0⟩ := exa_v xVOID
  have S_VOID := Sta.start v0 (Or.inr ⟨hw _ (List.mem_of_getElem? (i := 3) rfl), hw _ (List.mem_of_getElem? (i := 4) rfl)⟩)
  have E_VOID := Exa.start v0 xVOID
  have F_VOID := Fld.start ((fld_at v0).symm.trans (own_eqi oVOID))
  obtain ⟨u1, v1⟩ := exa_v xSHORT
  have S_SHORT := Sta.start v1 (Or.inr ⟨hw _ (List.mem_of_getElem? (i := 3) rfl), hw _ (List.mem_of_getElem? (i := 7) rfl)⟩)
  have E_SHORT := Exa.start v1 xSHORT
  have F_SHORT := Fld.start ((fld_at v1).symm.trans (own_eqi oSHORT))
  obtain ⟨u2, v2⟩ := exa_v xLONG
  have S_LONG := Sta.start v2 (Or.inr ⟨hw _ (List.mem_of_getElem? (i := 3) rfl), hw _ (List.mem_of_getElem? (i := 9) rfl)⟩)
  have E_LONG := Exa.start v2 xLONG
  have F_LONG := Fld.start ((fld_at v2).symm.trans (own_eqi oLONG))
  obtain ⟨u3, v3⟩ := exa_v xLONG_LONG
  have S_LONG_LONG := Sta.start v3 (Or.inr ⟨hw _ (List.mem_of_getElem? (i := 3) rfl), hw _ (List.mem_of_getElem? (i := 11) rfl)⟩)
  have E_LONG_LONG := Exa.start v3 xLONG_LONG
  have F_LONG_LONG := Fld.start ((fld_at v3).symm.trans (own_eqi oLONG_LONG))
  obtain ⟨u4, v4⟩ := exa_v xUNSIGNED_SHORT
  have S_UNSIGNED_SHORT := Sta.start v4 (Or.inr ⟨hw _ (List.mem_of_getElem? (i := 3) rfl), hw _ (List.mem_of_getElem? (i := 13) rfl)⟩)
  have E_UNSIGNED_SHORT := Exa.start v4 xUNSIGNED_SHORT
  have F_UNSIGNED_SHORT := Fld.start ((fld_at v4).symm.trans (own_eqi oUNSIGNED_SHORT))
  obtain ⟨u5, v5⟩ := exa_v xUNSIGNED_LONG
  have S_UNSIGNED_LONG := Sta.start v5 (Or.inr ⟨hw _ (List.mem_of_getElem? (i := 3) rfl), hw _ (List.mem_of_getElem? (i := 15) rfl)⟩)
  have E_UNSIGNED_LONG := Exa.start v5 xUNSIGNED_LONG
  have F_UNSIGNED_LONG := Fld.start ((fld_at v5).symm.trans (own_eqi oUNSIGNED_LONG))
  obtain ⟨u6, v6⟩ := exa_v xUNSIGNED_LONG_LONG
  have S_UNSIGNED_LONG_LONG := Sta.start v6 (Or.inr ⟨hw _ (List.mem_of_getElem? (i := 3) rfl), hw _ (List.mem_of_getElem? (i := 17) rfl)⟩)
  have E_UNSIGNED_LONG_LONG := Exa.start v6 xUNSIGNED_LONG_LONG
  have F_UNSIGNED_LONG_LONG := Fld.start ((fld_at v6).symm.trans (own_eqi oUNSIGNED_LONG_LONG))
  obtain ⟨u7, v7⟩ := exa_v xFLOAT
  have S_FLOAT := Sta.start v7 (Or.inr ⟨hw _ (List.mem_of_getElem? (i := 3) rfl), hw _ (List.mem_of_getElem? (i := 19) rfl)⟩)
  have E_FLOAT := Exa.start v7 xFLOAT
  have F_FLOAT := Fld.start ((fld_at v7).symm.trans (own_eqi oFLOAT))
  obtain ⟨u8, v8⟩ := exa_v xDOUBLE
  have S_DOUBLE := Sta.start v8 (Or.inr ⟨hw _ (List.mem_of_getElem? (i := 3) rfl), hw _ (List.mem_of_getElem? (i := 21) rfl)⟩)
  have E_DOUBLE := Exa.start v8 xDOUBLE
  have F_DOUBLE := Fld.start ((fld_at v8).symm.trans (own_eqi oDOUBLE))
  obtain ⟨u9, v9⟩ := exa_v xCHAR
  have S_CHAR := Sta.start v9 (Or.inr ⟨hw _ (List.mem_of_getElem? (i := 3) rfl), hw _ (List.mem_of_getElem? (i := 23) rfl)⟩)
  have E_CHAR := Exa.start v9 xCHAR
  have F_CHAR := Fld.start ((fld_at v9).symm.trans (own_eqi oCHAR))
  obtain ⟨u10, v10⟩ := exa_v xWCHAR
  have S_WCHAR := Sta.start v10 (Or.inr ⟨hw _ (List.mem_of_getElem? (i := 3) rfl), hw _ (List.mem_of_getElem? (i := 25) rfl)⟩)
  have E_WCHAR := Exa.start v10 xWCHAR
  have F_WCHAR := Fld.start ((fld_at v10).symm.trans (own_eqi oWCHAR))
  obtain ⟨u11, v11⟩ := exa_v xBOOLEAN
  have S_BOOLEAN := Sta.start v11 (Or.inr ⟨hw _ (List.mem_of_getElem? (i := 3) rfl), hw _ (List.mem_of_getElem? (i := 27) rfl)⟩)
  have E_BOOLEAN := Exa.start v11 xBOOLEAN
  have F_BOOLEAN := Fld.start ((fld_at v11).symm.trans (own_eqi oBOOLEAN))
  obtain ⟨u12, v12⟩ := exa_v xOCTET
  have S_OCTET := Sta.start v12 (Or.inr ⟨hw _ (List.mem_of_getElem? (i := 3) rfl), hw _ (List.mem_of_getElem? (i := 29) rfl)⟩)
  have E_OCTET := Exa.start v12 xOCTET
  have F_OCTET := Fld.start ((fld_at v12).symm.trans (own_eqi oOCTET))
  obtain ⟨u13, v13⟩ := exa_v xANY
  have S_ANY := Sta.start v13 (Or.inr ⟨hw _ (List.mem_of_getElem? (i := 3) rfl), hw _ (List.mem_of_getElem? (i := 31) rfl)⟩)
  have E_ANY := Exa.start v13 xANY
  have F_ANY := Fld.start ((fld_at v13).symm.trans (own_eqi oANY))
  obtain ⟨u14, v14⟩ := exa_v xSTRING
  have S_STRING := Sta.start v14 (Or.inr ⟨hw _ (List.mem_of_getElem? (i := 3) rfl), hw _ (List.mem_of_getElem? (i := 33) rfl)⟩)
  have E_STRING := Exa.start v14 xSTRING
  have F_STRING := Fld.start ((fld_at v14).symm.trans (own_eqi oSTRING))
  obtain ⟨u15, v15⟩ := exa_v xWSTRING
  have S_WSTRING := Sta.start v15 (Or.inr ⟨hw _ (List.mem_of_getElem? (i := 3) rfl), hw _ (List.mem_of_getElem? (i := 35) rfl)⟩)
  have E_WSTRING := Exa.start v15 xWSTRING
  have F_WSTRING := Fld.start ((fld_at v15).symm.trans (own_eqi oWSTRING))
  obtain ⟨u16, v16⟩ := exa_v xOBJECT
  have S_OBJECT := Sta.start v16 (Or.inr ⟨hw _ (List.mem_of_getElem? (i := 3) rfl), hw _ (List.mem_of_getElem? (i := 37) rfl)⟩)
  have E_OBJECT := Exa.start v16 xOBJECT
  have F_OBJECT := Fld.start ((fld_at v16).symm.trans (own_eqi oOBJECT))
  obtain ⟨n, o, h1, h2, h3, _, L, rfl, ⟨rfl, N⟩, hq⟩ := rm0 l s _ hw tables_1 i0 u0 u1 u2 u3 u4 u5 u6 u7 u8 u9 u10 u11 u12 u13 u14 u15 u16 s.heap s.heap.size (Nat.le_refl _) S_VOID E_VOID F_VOID S_SHORT E_SHORT F_SHORT S_LONG E_LONG F_LONG S_LONG_LONG E_LONG_LONG F_LONG_LONG S_UNSIGNED_SHORT E_UNSIGNED_SHORT F_UNSIGNED_SHORT S_UNSIGNED_LONG E_UNSIGNED_LONG F_UNSIGNED_LONG S_UNSIGNED_LONG_LONG E_UNSIGNED_LONG_LONG F_UNSIGNED_LONG_LONG S_FLOAT E_FLOAT F_FLOAT S_DOUBLE E_DOUBLE F_DOUBLE S_CHAR E_CHAR F_CHAR S_WCHAR E_WCHAR F_WCHAR S_BOOLEAN E_BOOLEAN F_BOOLEAN S_OCTET E_OCTET F_OCTET S_ANY E_ANY F_ANY S_STRING E_STRING F_STRING S_WSTRING E_WSTRING F_WSTRING S_OBJECT E_OBJECT F_OBJECT p e ha hc hk s m _ below hf ((Spec.applies_iff_loose hf).mp happ).1 ⟨rfl, State.Warmed39.refl s, rfl⟩ trivial
  refine ⟨n, _, h1, h2, h3, hpost _ _ _ _ _ _ ⟨Cond.after_iff.mpr rfl, Cond.after_iff.mpr (eq_i res_at (Term.int_eval (1)) rfl), trivial⟩ ⟨hq.1, hq.2.1, (hq.2.2.sift fun y hy => Or.inr (N y hy)).mono (by decide) (by decide)⟩⟩
theorem main_1_1 : Claimed_1_1 := comes_1 fun _ _ _ _ _ _ h hF => ⟨h.1, hF⟩
theorem main_1_2 : Claimed_1_2 := comes_1 fun _ _ _ _ _ _ h hF => ⟨h.2.1, hF⟩
end Jvm.Pilot.@@N@@
namespace Jvm.Pilot.@@N@@
open Jvm Jvm.ClassFile Sem Op Lib Jvm.Free Jvm.Stand Jvm.Pilot.@@N@@.Jvm.D
/-! MADE BY PROGRAM (witnessworld.py) out of the Statement's table words and the real class files: 14 classes; the members and pool entries that the words name. The judged class is class 1, her method 1. -/
namespace start1
open Jvm.ClassFile
def u (s : String) : CpInfo := .utf8 (stringToUtf16 s)
/-- a pool by its gaps: so many unusable entries, then the entry; so many at the end -/
def gap : Nat → List CpInfo → List CpInfo
  | 0, r => r
  | n + 1, r => .unusable :: gap n r
def poolList (es : List (Nat × CpInfo)) (last : Nat) : List CpInfo := es.foldr (fun e r => gap e.1 (e.2 :: r)) (gap last [])
def pool (es : List (Nat × CpInfo)) (last : Nat) : Array CpInfo := ⟨poolList es last⟩
def fileOf (pool : Array CpInfo) (this : Nat) (attrs : Array Attribute := #[]) (ms : Array MethodInfo := #[]) (fl : Nat := 33) (sup : Nat := 0) (ifs : Array Nat := #[]) (fds : Array FieldInfo := #[]) : ClassFile where
  minorVersion := 0
  majorVersion := 65
  constantPool := pool
  accessFlags := fl
  thisClass := this
  superClass := sup
  interfaces := ifs
  fields := fds
  methods := ms
  attributes := attrs
def plain (name : String) (sup : Option ClassId) : Class where
  name := name
  kind := .ordinary
  loader := none
  accessFlags := 33
  super := sup
  interfaces := #[]
  cf := none
  fields := #[]
  methods := #[]
  instanceTypes := #[]
  staticTypes := #[]
  resolved := #[]
  callSites := []
  init := .initialized
  statics := none
  mirror := none

def pool0 : Array CpInfo := pool [(5, u "<init>"), (0, u "()V"), (1, .class_ 10), (1, u "java/lang/Object")] 113

def k0m0 : Method := { name := "<init>", desc := "()V", sig := { parameters := [], returnType := none }, accessFlags := 1, code := none }
/-- java/lang/Object -/
def k0 : Class := { plain "java/lang/Object" none with
  accessFlags := 33
  interfaces := #[]
  cf := some (fileOf pool0 8 #[] #[{ accessFlags := 1, nameIndex := 5, descriptorIndex := 6, attributes := #[] }] 33 0 #[] #[])
  fields := #[]
  methods := #[k0m0]
  instanceTypes := #[]
  staticTypes := #[]
  resolved := Array.replicate 124 none
  statics := none }

def pool1 : Array CpInfo := pool [(2, .class_ 4), (1, u "java/lang/Object"), (0, u "<init>"), (0, u "()V"), (0, .class_ 8), (0, u "com/example/stubwright/stubwright/model/BasicType"), (0, .fieldref 7 10), (0, .nameAndType 11 12), (0, u "VOID"), (0, u "Lcom/example/stubwright/stubwright/model/BasicType;"), (0, .fieldref 7 14), (0, .nameAndType 15 12), (0, u "SHORT"), (0, .fieldref 7 17), (0, .nameAndType 18 12), (0, u "LONG"), (0, .fieldref 7 20), (0, .nameAndType 21 12), (0, u "LONG_LONG"), (0, .fieldref 7 23), (0, .nameAndType 24 12), (0, u "UNSIGNED_SHORT"), (0, .fieldref 7 26), (0, .nameAndType 27 12), (0, u "UNSIGNED_LONG"), (0, .fieldref 7 29), (0, .nameAndType 30 12), (0, u "UNSIGNED_LONG_LONG"), (0, .fieldref 7 32), (0, .nameAndType 33 12), (0, u "FLOAT"), (0, .fieldref 7 35), (0, .nameAndType 36 12), (0, u "DOUBLE"), (0, .fieldref 7 38), (0, .nameAndType 39 12), (0, u "CHAR"), (0, .fieldref 7 41), (0, .nameAndType 42 12), (0, u "WCHAR"), (0, .fieldref 7 44), (0, .nameAndType 45 12), (0, u "BOOLEAN"), (0, .fieldref 7 47), (0, .nameAndType 48 12), (0, u "OCTET"), (0, .fieldref 7 50), (0, .nameAndType 51 12), (0, u "ANY"), (0, .fieldref 7 53), (0, .nameAndType 54 12), (0, u "STRING"), (0, .fieldref 7 56), (0, .nameAndType 57 12), (0, u "WSTRING"), (0, .fieldref 7 59), (0, .nameAndType 60 12), (0, u "OBJECT"), (0, .integer 2147483647), (0, .methodref 7 63), (0, .nameAndType 64 65), (0, u "isInteger"), (0, u "()Z"), (0, .class_ 67), (0, u "com/example/stubwright/stubwright/model/BasicTypeIsIntegerPinLaw"), (2, u "law"), (0, u "(I)Z")] 5

def k1m0 : Method := { name := "<init>", desc := "()V", sig := { parameters := [], returnType := none }, accessFlags := 2, code := none }
def k1c1 : Code := { maxStack := 4, maxLocals := 5, code := code, exceptionTable := #[], attributes := #[] }
def k1m1 : Method := { name := "law", desc := "(I)Z", sig := { parameters := [.int], returnType := some .boolean }, accessFlags := 9, code := some k1c1 }
/-- com/example/stubwright/stubwright/model/BasicTypeIsIntegerPinLaw -/
def k1 : Class := { plain "com/example/stubwright/stubwright/model/BasicTypeIsIntegerPinLaw" (some 0) with
  accessFlags := 49
  interfaces := #[]
  cf := some (fileOf pool1 66 #[] #[{ accessFlags := 2, nameIndex := 5, descriptorIndex := 6, attributes := #[] }, { accessFlags := 9, nameIndex := 70, descriptorIndex := 71, attributes := #[] }] 49 2 #[] #[])
  fields := #[]
  methods := #[k1m0, k1m1]
  instanceTypes := #[]
  staticTypes := #[]
  resolved := Array.replicate 77 none
  statics := none }

def pool2 : Array CpInfo := pool [(1, .class_ 2), (0, u "java/lang/constant/Constable"), (0, .class_ 4), (0, u "java/lang/Object")] 6

/-- java/lang/constant/Constable -/
def k2 : Class := { plain "java/lang/constant/Constable" (some 0) with
  accessFlags := 1537
  interfaces := #[]
  cf := some (fileOf pool2 1 #[] #[] 1537 3 #[] #[])
  fields := #[]
  methods := #[]
  instanceTypes := #[]
  staticTypes := #[]
  resolved := Array.replicate 11 none
  statics := none }

def pool3 : Array CpInfo := pool [(1, .class_ 2), (0, u "java/lang/Comparable"), (0, .class_ 4), (0, u "java/lang/Object")] 7

/-- java/lang/Comparable -/
def k3 : Class := { plain "java/lang/Comparable" (some 0) with
  accessFlags := 1537
  interfaces := #[]
  cf := some (fileOf pool3 1 #[] #[] 1537 3 #[] #[])
  fields := #[]
  methods := #[]
  instanceTypes := #[]
  staticTypes := #[]
  resolved := Array.replicate 12 none
  statics := none }

def pool4 : Array CpInfo := pool [(1, .class_ 2), (0, u "java/io/Serializable"), (0, .class_ 4), (0, u "java/lang/Object")] 2

/-- java/io/Serializable -/
def k4 : Class := { plain "java/io/Serializable" (some 0) with
  accessFlags := 1537
  interfaces := #[]
  cf := some (fileOf pool4 1 #[] #[] 1537 3 #[] #[])
  fields := #[]
  methods := #[]
  instanceTypes := #[]
  staticTypes := #[]
  resolved := Array.replicate 7 none
  statics := none }

def pool5 : Array CpInfo := pool [(2, .class_ 4), (1, u "java/lang/Enum"), (0, u "name"), (0, u "Ljava/lang/String;"), (2, u "ordinal"), (0, u "I"), (1, .class_ 14), (1, u "java/lang/Object"), (4, u "hash"), (86, .class_ 108), (1, u "java/lang/Enum$EnumDesc"), (2, .class_ 112), (0, u "java/lang/constant/Constable"), (0, .class_ 114), (0, u "java/lang/Comparable"), (0, .class_ 116), (0, u "java/io/Serializable")] 87

/-- java/lang/Enum -/
def k5 : Class := { plain "java/lang/Enum" (some 0) with
  accessFlags := 1057
  interfaces := #[2, 3, 4]
  cf := some (fileOf pool5 2 #[.nestMembers #[106]] #[] 1057 12 #[111, 113, 115] #[{ accessFlags := 18, nameIndex := 5, descriptorIndex := 6, attributes := #[] }, { accessFlags := 18, nameIndex := 9, descriptorIndex := 10, attributes := #[] }, { accessFlags := 2, nameIndex := 19, descriptorIndex := 10, attributes := #[] }])
  fields := #[{ name := "name", type := (.object "java/lang/String"), accessFlags := 18, slot := 0, constantValue := 0 }, { name := "ordinal", type := .int, accessFlags := 18, slot := 1, constantValue := 0 }, { name := "hash", type := .int, accessFlags := 2, slot := 2, constantValue := 0 }]
  methods := #[]
  instanceTypes := #[(.object "java/lang/String"), .int, .int]
  staticTypes := #[]
  resolved := Array.replicate 204 none
  statics := none }

def pool6 : Array CpInfo := pool [(1, .class_ 2), (0, u "com/example/stubwright/stubwright/model/IdlType"), (0, .class_ 4), (0, u "java/lang/Object")] 27

/-- com/example/stubwright/stubwright/model/IdlType -/
def k6 : Class := { plain "com/example/stubwright/stubwright/model/IdlType" (some 0) with
  accessFlags := 1537
  interfaces := #[]
  cf := some (fileOf pool6 1 #[] #[] 1537 3 #[] #[])
  fields := #[]
  methods := #[]
  instanceTypes := #[]
  staticTypes := #[]
  resolved := Array.replicate 32 none
  statics := none }

def pool7 : Array CpInfo := pool [(1, .class_ 2), (0, u "com/example/stubwright/stubwright/model/BasicType"), (2, u "VOID"), (0, u "Lcom/example/stubwright/stubwright/model/BasicType;"), (2, u "SHORT"), (2, u "LONG"), (2, u "LONG_LONG"), (2, u "UNSIGNED_SHORT"), (2, u "UNSIGNED_LONG"), (2, u "UNSIGNED_LONG_LONG"), (2, u "FLOAT"), (2, u "DOUBLE"), (2, u "CHAR"), (2, u "WCHAR"), (2, u "BOOLEAN"), (2, u "OCTET"), (2, u "ANY"), (2, u "STRING"), (2, u "WSTRING"), (2, u "OBJECT"), (2, u "$VALUES"), (0, u "[Lcom/example/stubwright/stubwright/model/BasicType;"), (6, .class_ 67), (1, u "java/lang/Enum"), (11, u "idlName"), (0, u "Ljava/lang/String;"), (0, .fieldref 1 82), (0, .nameAndType 83 84), (0, u "integerBits"), (0, u "I"), (2, u "signed"), (0, u "Z"), (40, u "isInteger"), (0, u "()Z"), (67, .class_ 199), (0, u "com/example/stubwright/stubwright/model/IdlType")] 32

def k7c0 : Code := { maxStack := 1, maxLocals := 1, code := prog_35_method_6_code, exceptionTable := #[], attributes := #[] }
def k7m0 : Method := { name := "isInteger", desc := "()Z", sig := { parameters := [], returnType := some .boolean }, accessFlags := 1, code := some k7c0 }
/-- com/example/stubwright/stubwright/model/BasicType -/
def k7 : Class := { plain "com/example/stubwright/stubwright/model/BasicType" (some 5) with
  accessFlags := 16433
  interfaces := #[6]
  cf := some (fileOf pool7 1 #[] #[{ accessFlags := 1, nameIndex := 129, descriptorIndex := 130, attributes := #[] }] 16433 65 #[198] #[{ accessFlags := 16409, nameIndex := 5, descriptorIndex := 6, attributes := #[] }, { accessFlags := 16409, nameIndex := 9, descriptorIndex := 6, attributes := #[] }, { accessFlags := 16409, nameIndex := 12, descriptorIndex := 6, attributes := #[] }, { accessFlags := 16409, nameIndex := 15, descriptorIndex := 6, attributes := #[] }, { accessFlags := 16409, nameIndex := 18, descriptorIndex := 6, attributes := #[] }, { accessFlags := 16409, nameIndex := 21, descriptorIndex := 6, attributes := #[] }, { accessFlags := 16409, nameIndex := 24, descriptorIndex := 6, attributes := #[] }, { accessFlags := 16409, nameIndex := 27, descriptorIndex := 6, attributes := #[] }, { accessFlags := 16409, nameIndex := 30, descriptorIndex := 6, attributes := #[] }, { accessFlags := 16409, nameIndex := 33, descriptorIndex := 6, attributes := #[] }, { accessFlags := 16409, nameIndex := 36, descriptorIndex := 6, attributes := #[] }, { accessFlags := 16409, nameIndex := 39, descriptorIndex := 6, attributes := #[] }, { accessFlags := 16409, nameIndex := 42, descriptorIndex := 6, attributes := #[] }, { accessFlags := 16409, nameIndex := 45, descriptorIndex := 6, attributes := #[] }, { accessFlags := 16409, nameIndex := 48, descriptorIndex := 6, attributes := #[] }, { accessFlags := 16409, nameIndex := 51, descriptorIndex := 6, attributes := #[] }, { accessFlags := 16409, nameIndex := 54, descriptorIndex := 6, attributes := #[] }, { accessFlags := 18, nameIndex := 79, descriptorIndex := 80, attributes := #[] }, { accessFlags := 18, nameIndex := 83, descriptorIndex := 84, attributes := #[] }, { accessFlags := 18, nameIndex := 87, descriptorIndex := 88, attributes := #[] }, { accessFlags := 4122, nameIndex := 57, descriptorIndex := 58, attributes := #[] }])
  fields := #[{ name := "VOID", type := (.object "com/example/stubwright/stubwright/model/BasicType"), accessFlags := 16409, slot := 0, constantValue := 0 }, { name := "SHORT", type := (.object "com/example/stubwright/stubwright/model/BasicType"), accessFlags := 16409, slot := 1, constantValue := 0 }, { name := "LONG", type := (.object "com/example/stubwright/stubwright/model/BasicType"), accessFlags := 16409, slot := 2, constantValue := 0 }, { name := "LONG_LONG", type := (.object "com/example/stubwright/stubwright/model/BasicType"), accessFlags := 16409, slot := 3, constantValue := 0 }, { name := "UNSIGNED_SHORT", type := (.object "com/example/stubwright/stubwright/model/BasicType"), accessFlags := 16409, slot := 4, constantValue := 0 }, { name := "UNSIGNED_LONG", type := (.object "com/example/stubwright/stubwright/model/BasicType"), accessFlags := 16409, slot := 5, constantValue := 0 }, { name := "UNSIGNED_LONG_LONG", type := (.object "com/example/stubwright/stubwright/model/BasicType"), accessFlags := 16409, slot := 6, constantValue := 0 }, { name := "FLOAT", type := (.object "com/example/stubwright/stubwright/model/BasicType"), accessFlags := 16409, slot := 7, constantValue := 0 }, { name := "DOUBLE", type := (.object "com/example/stubwright/stubwright/model/BasicType"), accessFlags := 16409, slot := 8, constantValue := 0 }, { name := "CHAR", type := (.object "com/example/stubwright/stubwright/model/BasicType"), accessFlags := 16409, slot := 9, constantValue := 0 }, { name := "WCHAR", type := (.object "com/example/stubwright/stubwright/model/BasicType"), accessFlags := 16409, slot := 10, constantValue := 0 }, { name := "BOOLEAN", type := (.object "com/example/stubwright/stubwright/model/BasicType"), accessFlags := 16409, slot := 11, constantValue := 0 }, { name := "OCTET", type := (.object "com/example/stubwright/stubwright/model/BasicType"), accessFlags := 16409, slot := 12, constantValue := 0 }, { name := "ANY", type := (.object "com/example/stubwright/stubwright/model/BasicType"), accessFlags := 16409, slot := 13, constantValue := 0 }, { name := "STRING", type := (.object "com/example/stubwright/stubwright/model/BasicType"), accessFlags := 16409, slot := 14, constantValue := 0 }, { name := "WSTRING", type := (.object "com/example/stubwright/stubwright/model/BasicType"), accessFlags := 16409, slot := 15, constantValue := 0 }, { name := "OBJECT", type := (.object "com/example/stubwright/stubwright/model/BasicType"), accessFlags := 16409, slot := 16, constantValue := 0 }, { name := "idlName", type := (.object "java/lang/String"), accessFlags := 18, slot := 3, constantValue := 0 }, { name := "integerBits", type := .int, accessFlags := 18, slot := 4, constantValue := 0 }, { name := "signed", type := .boolean, accessFlags := 18, slot := 5, constantValue := 0 }, { name := "$VALUES", type := (.array (.object "com/example/stubwright/stubwright/model/BasicType")), accessFlags := 4122, slot := 17, constantValue := 0 }]
  methods := #[k7m0]
  instanceTypes := #[(.object "java/lang/String"), .int, .int, (.object "java/lang/String"), .int, .boolean]
  staticTypes := #[(.object "com/example/stubwright/stubwright/model/BasicType"), (.object "com/example/stubwright/stubwright/model/BasicType"), (.object "com/example/stubwright/stubwright/model/BasicType"), (.object "com/example/stubwright/stubwright/model/BasicType"), (.object "com/example/stubwright/stubwright/model/BasicType"), (.object "com/example/stubwright/stubwright/model/BasicType"), (.object "com/example/stubwright/stubwright/model/BasicType"), (.object "com/example/stubwright/stubwright/model/BasicType"), (.object "com/example/stubwright/stubwright/model/BasicType"), (.object "com/example/stubwright/stubwright/model/BasicType"), (.object "com/example/stubwright/stubwright/model/BasicType"), (.object "com/example/stubwright/stubwright/model/BasicType"), (.object "com/example/stubwright/stubwright/model/BasicType"), (.object "com/example/stubwright/stubwright/model/BasicType"), (.object "com/example/stubwright/stubwright/model/BasicType"), (.object "com/example/stubwright/stubwright/model/BasicType"), (.object "com/example/stubwright/stubwright/model/BasicType"), (.array (.object "com/example/stubwright/stubwright/model/BasicType"))]
  resolved := Array.replicate 232 none
  statics := some 0 }

def pool8 : Array CpInfo := pool [(1, u "java/lang/Cloneable"), (0, .class_ 1), (0, u "java/lang/Object"), (0, .class_ 3)] 3

/-- java/lang/Cloneable -/
def k8 : Class := { plain "java/lang/Cloneable" (some 0) with
  accessFlags := 1537
  interfaces := #[]
  cf := some (fileOf pool8 2 #[] #[] 1537 4 #[] #[])
  fields := #[]
  methods := #[]
  instanceTypes := #[]
  staticTypes := #[]
  resolved := Array.replicate 8 none
  statics := none }

/-- the primitive byte -/
def k9 : Class := { plain "byte" none with kind := .primitive 'B', accessFlags := 0x411 }
/-- [B -/
def k10 : Class := { plain "[B" (some 0) with kind := .array 9 .byte, interfaces := #[8, 4], accessFlags := 1041 }

/-- the primitive int -/
def k11 : Class := { plain "int" none with kind := .primitive 'I', accessFlags := 0x411 }
/-- [I -/
def k12 : Class := { plain "[I" (some 0) with kind := .array 11 .int, interfaces := #[8, 4], accessFlags := 1041 }

/-- [Lcom/example/stubwright/stubwright/model/BasicType; -/
def k13 : Class := { plain "[Lcom/example/stubwright/stubwright/model/BasicType;" (some 0) with kind := .array 7 (.object "com/example/stubwright/stubwright/model/BasicType"), interfaces := #[8, 4], accessFlags := 1041 }

def heap : Heap := #[{ cls := 7, slots := #[.ref 1, .ref 2, .ref 3, .ref 4, .ref 5, .ref 6, .ref 7, .ref 8, .ref 9, .ref 10, .ref 11, .ref 12, .ref 13, .ref 14, .ref 15, .ref 16, .ref 17, .null], vm := .statics 7 },
  { cls := 7, slots := #[.null, .int 0, .int 0, .null, .int 0, .int 0], vm := .none },
  { cls := 7, slots := #[.null, .int 1, .int 0, .null, .int 16, .int 0], vm := .none },
  { cls := 7, slots := #[.null, .int 2, .int 0, .null, .int 32, .int 0], vm := .none },
  { cls := 7, slots := #[.null, .int 3, .int 0, .null, .int 64, .int 0], vm := .none },
  { cls := 7, slots := #[.null, .int 4, .int 0, .null, .int 16, .int 0], vm := .none },
  { cls := 7, slots := #[.null, .int 5, .int 0, .null, .int 32, .int 0], vm := .none },
  { cls := 7, slots := #[.null, .int 6, .int 0, .null, .int 64, .int 0], vm := .none },
  { cls := 7, slots := #[.null, .int 7, .int 0, .null, .int 0, .int 0], vm := .none },
  { cls := 7, slots := #[.null, .int 8, .int 0, .null, .int 0, .int 0], vm := .none },
  { cls := 7, slots := #[.null, .int 9, .int 0, .null, .int 0, .int 0], vm := .none },
  { cls := 7, slots := #[.null, .int 10, .int 0, .null, .int 0, .int 0], vm := .none },
  { cls := 7, slots := #[.null, .int 11, .int 0, .null, .int 0, .int 0], vm := .none },
  { cls := 7, slots := #[.null, .int 12, .int 0, .null, .int 0, .int 0], vm := .none },
  { cls := 7, slots := #[.null, .int 13, .int 0, .null, .int 0, .int 0], vm := .none },
  { cls := 7, slots := #[.null, .int 14, .int 0, .null, .int 0, .int 0], vm := .none },
  { cls := 7, slots := #[.null, .int 15, .int 0, .null, .int 0, .int 0], vm := .none },
  { cls := 7, slots := #[.null, .int 16, .int 0, .null, .int 0, .int 0], vm := .none }]
def classes : Array Class := #[k0, k1, k2, k3, k4, k5, k6, k7, k8, k9, k10, k11, k12, k13]
def interned : List (Array UInt16 × Addr) := []
def slotsUsed : Nat := 120
def theMethod : MethodId := ⟨1, 1⟩
def args0 : Array Value := #[.int 2]
def aboutOver (below : List Frame) : State where
  vm := { classes := classes, interned := interned.toArray }
  heap := heap
  slotsUsed := slotsUsed
  threads := #[{ frames := .invoking theMethod args0 :: below }]
def below0 : List Frame := [.native { method := ⟨0, 0⟩, args := #[] }]
def about1 : State := aboutOver below0
def p0 : Program := .bare "" "" ""
def e0 : Env := launch0.env 0 0 0
theorem w_frames : about1.frames = Frame.invoking theMethod args0 :: below0 := rfl
set_option maxRecDepth 65536 in
theorem w_args : argsFit about1.vm theMethod args0 = true := by decide +kernel
set_option maxRecDepth 65536 in
theorem w_heap : heapFits about1 = true := by decide +kernel
set_option maxRecDepth 65536 in
theorem w_runnable : about1.curStatus? = some .runnable := by decide +kernel
set_option maxRecDepth 65536 in
theorem w_alone : about1.alone = true := by decide +kernel
set_option maxRecDepth 65536 in
theorem w_named : about1.methodNamed? x = some theMethod := by decide +kernel
set_option maxRecDepth 65536 in
theorem w_hears : about1.hears theMethod below0 = true := by decide +kernel
set_option maxRecDepth 65536 in
theorem w_ripe : about1.ripe theMethod args0 below0 = true := by decide +kernel
theorem w_running : about1.status = .running := rfl
set_option maxRecDepth 65536 in
theorem w_room : about1.hasRoom e0.platform room_1 = true :=
  launch0.hasRoom_least _ room_1 (by decide +kernel) (by decide +kernel) (by decide +kernel) (by decide +kernel) (by decide +kernel) (by decide +kernel)
theorem allAtoms_all (ts : List Jvm.Cond) (a : Array Jvm.Value) (st : Jvm.State) : (allAtoms ts).before a st = ts.all (fun c => c.before a st) := by
  induction ts with
  | nil => rfl
  | cons c t ih =>
    show (Jvm.Cond.and c (allAtoms t)).before a st = _
    rw [Jvm.Cond.before_and, ih, List.all_cons]
def words1 : List Jvm.Cond := Jvm.Cond.code x code maxLocals ret :: tables_1
/-- a 'code' word, met by the world's own term for the bytes: nothing is compared byte by byte -/
theorem code_word {y : MethodName} {bytes : ByteArray} {mx : Nat} {rt : Option FieldType} {a : Array Value} {s : State} {m : MethodId} {meth : Method} {c : Code} (h1 : s.methodNamed? y = some m) (h2 : s.vm.method? m = some meth) (h3 : meth.code = some c) (h4 : c.code = bytes)
    (h5 : (c.maxLocals == mx && c.exceptionTable.isEmpty && decide (c.maxStack ≤ mostOperands) && decide (meth.sig.returnType = rt) && !meth.locks && decide (parseMethodDescriptor y.desc = some meth.sig)) = true) : (Jvm.Cond.code y bytes mx rt).before a s = true := by
  simp only [Bool.and_eq_true, beq_iff_eq, Bool.not_eq_true', decide_eq_true_eq] at h5
  obtain ⟨⟨⟨⟨⟨g1, g2⟩, g3⟩, g4⟩, g5⟩, g6⟩ := h5
  simp [Cond.before, Cond.holds, Cond.value, h1, h2, h3, h4, g1, g2, g3, g4, g5, g6]
def isCode : Jvm.Cond → Bool
  | .code _ _ _ _ => true
  | _ => false
theorem all_split {L : List Jvm.Cond} {P : Jvm.Cond → Bool} (h1 : L.all (fun c => isCode c || P c) = true) (h2 : ∀ c ∈ L.filter isCode, P c = true) : L.all P = true := by
  refine List.all_eq_true.mpr fun c hc => ?_
  have h := List.all_eq_true.mp h1 c hc
  rcases Bool.eq_false_or_eq_true (isCode c) with hi | hi
  · exact h2 c (List.mem_filter.mpr ⟨hc, hi⟩)
  · simpa [hi] using h
set_option maxRecDepth 65536 in
theorem w_c0 : (Jvm.Cond.code x code maxLocals ret).before args0 about1 = true := code_word (m := ⟨1, 1⟩) (meth := k1m1) (c := k1c1) (by decide +kernel) rfl rfl rfl (by decide +kernel)
set_option maxRecDepth 65536 in
theorem w_c1 : (Jvm.Cond.code ({ cls := "com/example/stubwright/stubwright/model/BasicType", name := "isInteger", desc := "()Z" } : Jvm.MethodName) prog_35_method_6_code (1 : Nat) (Option.some Jvm.ClassFile.FieldType.boolean)).before args0 about1 = true := code_word (m := ⟨7, 0⟩) (meth := k7m0) (c := k7c0) (by decide +kernel) rfl rfl rfl (by decide +kernel)
def codes1 : List Jvm.Cond := [Jvm.Cond.code x code maxLocals ret, Jvm.Cond.code ({ cls := "com/example/stubwright/stubwright/model/BasicType", name := "isInteger", desc := "()Z" } : Jvm.MethodName) prog_35_method_6_code (1 : Nat) (Option.some Jvm.ClassFile.FieldType.boolean)]
set_option maxRecDepth 65536 in
theorem codes_eq : words1.filter isCode = codes1 := rfl
theorem w_codes : ∀ c ∈ words1.filter isCode, c.before args0 about1 = true := by
  rw [codes_eq]
  intro c hc
  simp only [codes1, List.mem_cons, List.not_mem_nil, or_false] at hc
  rcases hc with rfl | rfl
  · exact w_c0
  · exact w_c1
set_option maxRecDepth 65536 in
theorem w_t1 : (words1.take 24).all (fun c => isCode c || c.before args0 about1) = true := by decide +kernel
set_option maxRecDepth 65536 in
theorem w_t2 : (words1.drop 24).all (fun c => isCode c || c.before args0 about1) = true := by decide +kernel
theorem w_tables : (allAtoms (Jvm.Cond.code x code maxLocals ret :: tables_1)).before args0 about1 = true := by
  rw [allAtoms_all]
  show words1.all (fun c => c.before args0 about1) = true
  refine all_split ?_ w_codes
  rw [← List.take_append_drop 24 words1, List.all_append, w_t1, w_t2]
  rfl
set_option maxRecDepth 65536 in
theorem w_case : (Jvm.Cond.and given_1 narrow_1).before args0 about1 = true := by decide +kernel
theorem w_applies : (headSpec (Jvm.Cond.code x code maxLocals ret :: tables_1) room_1).applies x e0.platform about1 = true :=
  (Spec.applies_iff w_frames).mpr ⟨w_running, w_runnable, w_alone, w_named, w_hears, w_ripe, w_room, w_tables⟩
theorem atStart : AtStart classFile x code maxLocals ret World_1 tables_1 room_1 Calls_1 rest_1 Pre_1 launch0 p0 e0 about1 theMethod args0 below0 :=
  ⟨lists_1, trivial, launch0.admits_env _ _ _, launch0.least_env, fairChoices_fair.cas, fairChoices_fair.clock, w_frames, w_args, w_heap, w_applies, trivial, trivial, w_case⟩
end start1
theorem witness_1 : WitnessClaimed_1 := ⟨start1.p0, start1.e0, start1.about1, start1.theMethod, start1.args0, start1.below0, start1.atStart⟩
end Jvm.Pilot.@@N@@
