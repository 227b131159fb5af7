import JvmDerived
import JvmDerived.Pilot.@@N@@Statement
import JvmDerived.Pilot.@@N@@Code
set_option linter.unusedVariables false
set_option linter.unusedSimpArgs false
@@BLOCK:NumsL.lean.txt@@
namespace Jvm.RoadKit
open Sem ClassFile Op Lib Jvm.Stand Jvm.Free Jvm.LawKit
section New
variable {p : Program} {l : Launch} {e : Env} {R : Room} {s : State} {m : MethodId} {args : Array Value} {below : List Frame} {meth : Method} {c : Code} {T : State} {locs : List Loc} {cells slots : Nat}
theorem retI (X : Stand p l e R s m args below meth c T locs cells slots) (hx : p.tables.exec = Jvm.exec) {pc : Nat} {Ls : Array Slot} {z : Int32} {rest : List Value} (hret : meth.sig.returnType = some .int) (hd : decode c.code pc = .ok (.ireturn, 1)) {fs : List Frame}
    (hl : ∀ (f : JFrame) (acts : List Action), f.method = m → f.locked = none → f.entered = [] → (doReturn e (T.setTop f) acts (some (.int z))).1 = T.setFrames fs) : Steps p.tables e below (T.setTop (mkF m pc Ls (.int z :: rest))) (T.setFrames fs) := by
  have hm' : T.vm.method? m = some meth := X.method'
  have hn : narrow .int (.int z) = .int z := rfl
  show Steps p.tables e below (T.setTop { method := m, pc := pc, locals := Ls, stack := _ :: rest, locked := none }) _
  jvm_step X.here [X.here.top, hx, hd, hm', hret, hn]
  first | (intro acts; rw [hl _ acts rfl rfl rfl]) | rw [hl _ _ rfl rfl rfl]
  exact Steps.refl _
end New
end Jvm.RoadKit
namespace Jvm.Pilot.@@N@@
open Jvm Jvm.ClassFile Sem Op Lib Jvm.Free Jvm.Stand Jvm.LawKit Jvm.RoadKit Bundle Jvm.Pilot.@@N@@.Jvm.D
theorem own_more {Z : State} {h : Heap} {a : Addr} {k : ClassId} {ty : FieldType} {z : Int32} {vs vs' : List Value} {d : Value} (F : Arv Z h a k ty z vs d) (q : ∀ i, i < z.toNatClampNeg → vs'.getD i d = vs.getD i d) : Arv Z h a k ty z vs' d := by
  obtain ⟨c, A, r1, r2, r3, H, G⟩ := F
  exact ⟨c, A, r1, r2, r3, fun i hi => by rw [q i (r2 ▸ hi)]; exact H i hi, fun i hi => by rw [q i (r2 ▸ hi)]; exact G i hi⟩
theorem own_n8 (x : Int32) : x.toInt8.toInt32.toInt8.toInt32 = x.toInt8.toInt32 := by simp
def own_bytes (x0 x1 x2 : Int32) : List Value := [.int x0, .int x1, .int x2]
def QM (Z : State) (n x0 x1 x2 : Int32) (h0 : Heap) (n0 : Nat) (v : Option Value) (h : Heap) (L : List Loc) : Prop := ∃ (b : Addr) (k : ClassId), v = some (.ref b) ∧ Fr n0 L ∧ Keep h0 h [] ∧ h0.size ≤ b ∧ n0 ≤ b ∧ Exa Z h b "[B" ∧ Arv Z h b k .byte n (own_bytes x0.toInt8.toInt32 x1.toInt8.toInt32 x2.toInt8.toInt32) (.int 0)
theorem d1_0 : decode method_2_code 0 = .ok (.iload_n 0, 1) := by decide +kernel
theorem d1_1 : decode method_2_code 1 = .ok (.ifCond .ne 7, 3) := by decide +kernel
theorem d1_4 : decode method_2_code 4 = .ok (.iconst 0, 1) := by decide +kernel
theorem d1_5 : decode method_2_code 5 = .ok (.newarray .byte, 2) := by decide +kernel
theorem d1_7 : decode method_2_code 7 = .ok (.areturn, 1) := by decide +kernel
theorem pn_1 : plainName "com/example/limpet/limpet/ExecutionResultPinLaw" = true := by first | (simp [plainName, overriddenIn]; done) | decide +kernel
theorem ef_1 (m : MethodId) (x0 : Int32) (x1 : Int32) (x2 : Int32) (x3 : Int32) : entryFrame m #[(.int x0), (.int x1), (.int x2), (.int x3)] 5 = mkF m 0 #[.val (.int x0), .val (.int x1), .val (.int x2), .val (.int x3), .unset] [] := by first | (simp [entryFrame, mkF, argsToLocals, Value.category]; done) | rfl
set_option maxRecDepth 65536 in
set_option maxHeartbeats 40000000 in
theorem rm1_0 (l : Launch) (Z : State) (a0 : Array Value) (hw : ∀ d ∈ tables_1, d.before a0 Z = true) (ws : List Jvm.Cond) (p1 : Int32) (p2 : Int32) (p3 : Int32) (p4 : Int32) (h0 : Heap) (n0 : Nat) (Z0 : n0 ≤ h0.size) (hc1 : p1 = (0 : Int32)) :
    MetFree l (⟨"com/example/limpet/limpet/ExecutionResultPinLaw", "make", "(IBBB)[B"⟩ : MethodName) (head1 (Jvm.Cond.code (⟨"com/example/limpet/limpet/ExecutionResultPinLaw", "make", "(IBBB)[B"⟩ : MethodName) method_2_code 5 (some (.array .byte)) :: ws) ({ frames := 0, cells := 1, slots := 3, locals := 0 } : Room)) (fun a U => a = #[(.int p1), (.int p2), (.int p3), (.int p4)] ∧ Z.Warmed39 U.vm ∧ U.heap = h0) (fun _ _ _ _ _ => True) (fun _ U o U' => ∃ v L, o = .returned v ∧ QM Z p1 p2 p3 p4 h0 n0 v U'.heap L ∧ FrameEnd U o U' L ({ frames := 0, cells := 1, slots := 3, locals := 0 } : Room).cells ({ frames := 0, cells := 1, slots := 3, locals := 0 } : Room).slots) := by
  refine MetFree.of_bodySF (plainFor_of_name pn_1) hisR ?_
  intro p e s m args below meth c s₁ Bd hml0 hP hK
  obtain ⟨rfl, hZ, hh⟩ := hP
  have hx := Bd.exec
  have hby := Bd.bytes
  have hml : c.maxLocals = 5 := hml0
  have hown : s.vm.findClass "com/example/limpet/limpet/ExecutionResultPinLaw" = some m.cls := findClass_of_methodNamed Bd.named
  have hnm := (name_of_methodNamed Bd.named Bd.method).1
  have X0 : Stand p l e ({ frames := 0, cells := 1, slots := 3, locals := 0 } : Room) s m #[(.int p1), (.int p2), (.int p3), (.int p4)] below meth c s₁ [] 0 0 := Stand.of_body Bd
  have e0 : s₁.heap = h0 := by rw [← hh, Bd.state]; rfl
  have N0 := Fr.nil n0
  have pre0 : ∀ t, Steps p.tables e below (s₁.setTop (mkF m 0 #[.val (.int p1), .val (.int p2), .val (.int p3), .val (.int p4), .unset] [])) t → Steps p.tables e below (s₁.setTop (entryFrame m #[(.int p1), (.int p2), (.int p3), (.int p4)] 5)) t := fun t k => castTop (ef_1 m p1 p2 p3 p4) k
  obtain ⟨T5, h5, k5, X5, e5, E5, A5, Y5, st5⟩ := newPE X0 hx hZ (hw _ (List.mem_of_getElem? (i := 7) rfl)) e0 (g := (mkF m 5 #[.val (.int p1), .val (.int p2), .val (.int p3), .val (.int p4), .unset] [(.int (0 : Int32))])) rfl (hb hby d1_5) rfl (by decide) (cap := 0) (by decide) (by decide) (by decide) (by decide) (ad := "[B") (by decide)
  obtain ⟨b5, g5⟩ : ∃ z, z = h0.size := ⟨_, rfl⟩      -- the fresh array's address
  rw [← g5] at A5 Y5 st5
  have V_b5 := Arv.new A5 (by decide)      -- Arv Z h5 b5 k5 .byte (0 : Int32) [] (its first value); a place must be in the list before it's written: Arv.pad with pad_rep
  have g_b5 : n0 ≤ b5 := Nat.le_trans Z0 (Nat.le_of_eq g5.symm)
  have sz_b5 : h0.size ≤ b5 := (Nat.le_trans (Keep.refl h0 []).1 (Nat.le_of_eq g5.symm))
  have K5 : Keep h0 h5 [] := (Keep.refl h0 []).ext E5
  obtain ⟨fs, hr, hrun, hended, hW, hsame⟩ := X5.leave (v := some (.ref b5)) (fun h => by rw [Bd.returns] at h; cases h)
  refine ⟨_, _, pre0 _ ?_, hrun, hended, _, _, rfl, ?_, ⟨_, rfl⟩, hW, hsame.mono (by decide) (by decide)⟩
  · show Steps p.tables e below (s₁.setTop (mkF m 0 #[.val (.int p1), .val (.int p2), .val (.int p3), .val (.int p4), .unset] [])) _
    refine XS.iloadN X0.here hx rfl (hb hby d1_0) rfl ?_
    show Steps p.tables e below (s₁.setTop (mkF m 1 #[.val (.int p1), .val (.int p2), .val (.int p3), .val (.int p4), .unset] [(.int p1)])) _
    refine XS.ifNo X0.here hx rfl (hb hby d1_1) rfl ((if0 _ _).trans (teq hc1).2) ?_
    show Steps p.tables e below (s₁.setTop (mkF m 4 #[.val (.int p1), .val (.int p2), .val (.int p3), .val (.int p4), .unset] [])) _
    refine XS.iconst X0.here hx rfl (hb hby d1_4) ?_
    show Steps p.tables e below (s₁.setTop (mkF m 5 #[.val (.int p1), .val (.int p2), .val (.int p3), .val (.int p4), .unset] [(.int (0 : Int32))])) _
    refine st5 _ ?_
    show Steps p.tables e below (T5.setTop (mkF m 7 #[.val (.int p1), .val (.int p2), .val (.int p3), .val (.int p4), .unset] [(.ref b5)])) _
    jvm_step X5.here [X5.here.top, hx, (hb hby d1_7), X5.method', Bd.returns, Value.isRef, FieldType.isReference]
    first | (intro acts; rw [hr _ acts rfl rfl rfl]) | rw [hr _ _ rfl rfl rfl]
    exact Steps.refl _
  · show QM Z p1 p2 p3 p4 h0 n0 _ T5.heap _
    rw [e5]
    rw [hc1]
    exact ⟨b5, k5, rfl, N0, K5, sz_b5, g_b5, Y5, own_more V_b5 (fun i hi => absurd hi (Nat.not_lt_zero _))⟩
theorem d1_8 : decode method_2_code 8 = .ok (.iload_n 0, 1) := by decide +kernel
theorem d1_9 : decode method_2_code 9 = .ok (.iconst 1, 1) := by decide +kernel
theorem d1_10 : decode method_2_code 10 = .ok (.if_icmp .ne 16, 3) := by decide +kernel
theorem d1_13 : decode method_2_code 13 = .ok (.iconst 1, 1) := by decide +kernel
theorem d1_14 : decode method_2_code 14 = .ok (.newarray .byte, 2) := by decide +kernel
theorem d1_16 : decode method_2_code 16 = .ok (.astore 4, 2) := by decide +kernel
theorem d1_18 : decode method_2_code 18 = .ok (.aload 4, 2) := by decide +kernel
theorem d1_20 : decode method_2_code 20 = .ok (.iconst 0, 1) := by decide +kernel
theorem d1_21 : decode method_2_code 21 = .ok (.iload_n 1, 1) := by decide +kernel
theorem d1_22 : decode method_2_code 22 = .ok (.bastore, 1) := by decide +kernel
theorem d1_23 : decode method_2_code 23 = .ok (.aload 4, 2) := by decide +kernel
theorem d1_25 : decode method_2_code 25 = .ok (.areturn, 1) := by decide +kernel
set_option maxRecDepth 65536 in
set_option maxHeartbeats 40000000 in
theorem rm1_1 (l : Launch) (Z : State) (a0 : Array Value) (hw : ∀ d ∈ tables_1, d.before a0 Z = true) (ws : List Jvm.Cond) (p1 : Int32) (p2 : Int32) (p3 : Int32) (p4 : Int32) (h0 : Heap) (n0 : Nat) (Z0 : n0 ≤ h0.size) (hc1 : ¬ (p1 = (0 : Int32))) (hc10 : p1 = (1 : Int32)) :
    MetFree l (⟨"com/example/limpet/limpet/ExecutionResultPinLaw", "make", "(IBBB)[B"⟩ : MethodName) (head1 (Jvm.Cond.code (⟨"com/example/limpet/limpet/ExecutionResultPinLaw", "make", "(IBBB)[B"⟩ : MethodName) method_2_code 5 (some (.array .byte)) :: ws) ({ frames := 0, cells := 1, slots := 3, locals := 0 } : Room)) (fun a U => a = #[(.int p1), (.int p2), (.int p3), (.int p4)] ∧ Z.Warmed39 U.vm ∧ U.heap = h0) (fun _ _ _ _ _ => True) (fun _ U o U' => ∃ v L, o = .returned v ∧ QM Z p1 p2 p3 p4 h0 n0 v U'.heap L ∧ FrameEnd U o U' L ({ frames := 0, cells := 1, slots := 3, locals := 0 } : Room).cells ({ frames := 0, cells := 1, slots := 3, locals := 0 } : Room).slots) := by
  refine MetFree.of_bodySF (plainFor_of_name pn_1) hisR ?_
  intro p e s m args below meth c s₁ Bd hml0 hP hK
  obtain ⟨rfl, hZ, hh⟩ := hP
  have hx := Bd.exec
  have hby := Bd.bytes
  have hml : c.maxLocals = 5 := hml0
  have hown : s.vm.findClass "com/example/limpet/limpet/ExecutionResultPinLaw" = some m.cls := findClass_of_methodNamed Bd.named
  have hnm := (name_of_methodNamed Bd.named Bd.method).1
  have X0 : Stand p l e ({ frames := 0, cells := 1, slots := 3, locals := 0 } : Room) s m #[(.int p1), (.int p2), (.int p3), (.int p4)] below meth c s₁ [] 0 0 := Stand.of_body Bd
  have e0 : s₁.heap = h0 := by rw [← hh, Bd.state]; rfl
  have N0 := Fr.nil n0
  have pre0 : ∀ t, Steps p.tables e below (s₁.setTop (mkF m 0 #[.val (.int p1), .val (.int p2), .val (.int p3), .val (.int p4), .unset] [])) t → Steps p.tables e below (s₁.setTop (entryFrame m #[(.int p1), (.int p2), (.int p3), (.int p4)] 5)) t := fun t k => castTop (ef_1 m p1 p2 p3 p4) k
  obtain ⟨T5, h5, k5, X5, e5, E5, A5, Y5, st5⟩ := newPE X0 hx hZ (hw _ (List.mem_of_getElem? (i := 7) rfl)) e0 (g := (mkF m 14 #[.val (.int p1), .val (.int p2), .val (.int p3), .val (.int p4), .unset] [(.int (1 : Int32))])) rfl (hb hby d1_14) rfl (by decide) (cap := 1) (by decide) (by decide) (by decide) (by decide) (ad := "[B") (by decide)
  obtain ⟨b5, g5⟩ : ∃ z, z = h0.size := ⟨_, rfl⟩      -- the fresh array's address
  rw [← g5] at A5 Y5 st5
  have V_b5 : Arv Z h5 b5 k5 .byte (1 : Int32) [(.int (0 : Int32))] (.int (0 : Int32)) := (Arv.new A5 (by decide)).pad (pad_rep [] (.int (0 : Int32)) 1)
  have g_b5 : n0 ≤ b5 := Nat.le_trans Z0 (Nat.le_of_eq g5.symm)
  have sz_b5 : h0.size ≤ b5 := (Nat.le_trans (Keep.refl h0 []).1 (Nat.le_of_eq g5.symm))
  have K5 : Keep h0 h5 [] := (Keep.refl h0 []).ext E5
  obtain ⟨cl_b5_22, Ar_b5, q_b5, S_b5, N_b5, H_b5, G_b5⟩ := V_b5      -- open the array's fact as it stands now (its cell, kind, length, elements)
  have hin22 : ¬ ((0 : Int32) < 0 ∨ cl_b5_22.slots.size ≤ ((0 : Int32)).toNatClampNeg) := inb_of S_b5 ⟨by decide, by decide⟩
  obtain ⟨T6, h6, X6, e6, W6, st6⟩ := stB X5 hx hZ e5 Ar_b5 (j := (0 : Int32)) hin22 (g := (mkF m 22 #[.val (.int p1), .val (.int p2), .val (.int p3), .val (.int p4), .val (.ref b5)] [(.int p2), (.int (0 : Int32)), (.ref b5)])) rfl rfl (hb hby d1_22)
  have V_b5_6 := Arv.set Ar_b5 q_b5 S_b5 N_b5 H_b5 G_b5 (fits_nar_byte _) W6 0 rfl (Nat.le_of_ble_eq_true rfl)      -- the array as it stands now (the place must lie among its first values: Arv.pad with pad_rep lengthens them)
  have K6 : Keep h0 h6 [] := K5.wr W6 (Or.inr sz_b5)
  have N6 := Fr.snoc X6 N0 g_b5
  obtain ⟨fs, hr, hrun, hended, hW, hsame⟩ := X6.leave (v := some (.ref b5)) (fun h => by rw [Bd.returns] at h; cases h)
  refine ⟨_, _, pre0 _ ?_, hrun, hended, _, _, rfl, ?_, ⟨_, rfl⟩, hW, hsame.mono (by decide) (by decide)⟩
  · show Steps p.tables e below (s₁.setTop (mkF m 0 #[.val (.int p1), .val (.int p2), .val (.int p3), .val (.int p4), .unset] [])) _
    refine XS.iloadN X0.here hx rfl (hb hby d1_0) rfl ?_
    show Steps p.tables e below (s₁.setTop (mkF m 1 #[.val (.int p1), .val (.int p2), .val (.int p3), .val (.int p4), .unset] [(.int p1)])) _
    refine XS.ifYes X0.here hx rfl (pc0 := 1) (pc' := 8) rfl (hb hby d1_1) rfl ((if0 _ _).trans (feq hc1).2) (by decide) (by decide) ?_
    show Steps p.tables e below (s₁.setTop (mkF m 8 #[.val (.int p1), .val (.int p2), .val (.int p3), .val (.int p4), .unset] [])) _
    refine XS.iloadN X0.here hx rfl (hb hby d1_8) rfl ?_
    show Steps p.tables e below (s₁.setTop (mkF m 9 #[.val (.int p1), .val (.int p2), .val (.int p3), .val (.int p4), .unset] [(.int p1)])) _
    refine XS.iconst X0.here hx rfl (hb hby d1_9) ?_
    show Steps p.tables e below (s₁.setTop (mkF m 10 #[.val (.int p1), .val (.int p2), .val (.int p3), .val (.int p4), .unset] [(.int (1 : Int32)), (.int p1)])) _
    refine XS.icmpNo X0.here hx rfl (hb hby d1_10) rfl (teq hc10).2 ?_
    show Steps p.tables e below (s₁.setTop (mkF m 13 #[.val (.int p1), .val (.int p2), .val (.int p3), .val (.int p4), .unset] [])) _
    refine XS.iconst X0.here hx rfl (hb hby d1_13) ?_
    show Steps p.tables e below (s₁.setTop (mkF m 14 #[.val (.int p1), .val (.int p2), .val (.int p3), .val (.int p4), .unset] [(.int (1 : Int32))])) _
    refine st5 _ ?_
    show Steps p.tables e below (T5.setTop (mkF m 16 #[.val (.int p1), .val (.int p2), .val (.int p3), .val (.int p4), .unset] [(.ref b5)])) _
    refine XS.astore X5.here hx rfl (hb hby d1_16) rfl rfl (l' := #[.val (.int p1), .val (.int p2), .val (.int p3), .val (.int p4), .val (.ref b5)]) rfl ?_
    show Steps p.tables e below (T5.setTop (mkF m 18 #[.val (.int p1), .val (.int p2), .val (.int p3), .val (.int p4), .val (.ref b5)] [])) _
    refine XS.aload X5.here hx rfl (hb hby d1_18) rfl rfl ?_
    show Steps p.tables e below (T5.setTop (mkF m 20 #[.val (.int p1), .val (.int p2), .val (.int p3), .val (.int p4), .val (.ref b5)] [(.ref b5)])) _
    refine XS.iconst X5.here hx rfl (hb hby d1_20) ?_
    show Steps p.tables e below (T5.setTop (mkF m 21 #[.val (.int p1), .val (.int p2), .val (.int p3), .val (.int p4), .val (.ref b5)] [(.int (0 : Int32)), (.ref b5)])) _
    refine XS.iloadN X5.here hx rfl (hb hby d1_21) rfl ?_
    show Steps p.tables e below (T5.setTop (mkF m 22 #[.val (.int p1), .val (.int p2), .val (.int p3), .val (.int p4), .val (.ref b5)] [(.int p2), (.int (0 : Int32)), (.ref b5)])) _
    refine st6 _ ?_
    show Steps p.tables e below (T6.setTop (mkF m 23 #[.val (.int p1), .val (.int p2), .val (.int p3), .val (.int p4), .val (.ref b5)] [])) _
    refine XS.aload X6.here hx rfl (hb hby d1_23) rfl rfl ?_
    show Steps p.tables e below (T6.setTop (mkF m 25 #[.val (.int p1), .val (.int p2), .val (.int p3), .val (.int p4), .val (.ref b5)] [(.ref b5)])) _
    jvm_step X6.here [X6.here.top, hx, (hb hby d1_25), X6.method', Bd.returns, Value.isRef, FieldType.isReference]
    first | (intro acts; rw [hr _ acts rfl rfl rfl]) | rw [hr _ _ rfl rfl rfl]
    exact Steps.refl _
  · show QM Z p1 p2 p3 p4 h0 n0 _ T6.heap _
    rw [e6]
    rw [hc10]
    exact ⟨b5, k5, rfl, N6, K6, sz_b5, g_b5, (Y5.wr W6), own_more V_b5_6 (fun i hi => by
      have hi' : i < 1 := hi
      match i, hi' with
      | 0, _ => rfl)⟩
theorem d1_26 : decode method_2_code 26 = .ok (.iload_n 0, 1) := by decide +kernel
theorem d1_27 : decode method_2_code 27 = .ok (.iconst 2, 1) := by decide +kernel
theorem d1_28 : decode method_2_code 28 = .ok (.if_icmp .ne 21, 3) := by decide +kernel
theorem d1_31 : decode method_2_code 31 = .ok (.iconst 2, 1) := by decide +kernel
theorem d1_32 : decode method_2_code 32 = .ok (.newarray .byte, 2) := by decide +kernel
theorem d1_34 : decode method_2_code 34 = .ok (.astore 4, 2) := by decide +kernel
theorem d1_36 : decode method_2_code 36 = .ok (.aload 4, 2) := by decide +kernel
theorem d1_38 : decode method_2_code 38 = .ok (.iconst 0, 1) := by decide +kernel
theorem d1_39 : decode method_2_code 39 = .ok (.iload_n 1, 1) := by decide +kernel
theorem d1_40 : decode method_2_code 40 = .ok (.bastore, 1) := by decide +kernel
theorem d1_41 : decode method_2_code 41 = .ok (.aload 4, 2) := by decide +kernel
theorem d1_43 : decode method_2_code 43 = .ok (.iconst 1, 1) := by decide +kernel
theorem d1_44 : decode method_2_code 44 = .ok (.iload_n 2, 1) := by decide +kernel
theorem d1_45 : decode method_2_code 45 = .ok (.bastore, 1) := by decide +kernel
theorem d1_46 : decode method_2_code 46 = .ok (.aload 4, 2) := by decide +kernel
theorem d1_48 : decode method_2_code 48 = .ok (.areturn, 1) := by decide +kernel
set_option maxRecDepth 65536 in
set_option maxHeartbeats 40000000 in
theorem rm1_2 (l : Launch) (Z : State) (a0 : Array Value) (hw : ∀ d ∈ tables_1, d.before a0 Z = true) (ws : List Jvm.Cond) (p1 : Int32) (p2 : Int32) (p3 : Int32) (p4 : Int32) (h0 : Heap) (n0 : Nat) (Z0 : n0 ≤ h0.size) (hc1 : ¬ (p1 = (0 : Int32))) (hc10 : ¬ (p1 = (1 : Int32))) (hc28 : p1 = (2 : Int32)) :
    MetFree l (⟨"com/example/limpet/limpet/ExecutionResultPinLaw", "make", "(IBBB)[B"⟩ : MethodName) (head1 (Jvm.Cond.code (⟨"com/example/limpet/limpet/ExecutionResultPinLaw", "make", "(IBBB)[B"⟩ : MethodName) method_2_code 5 (some (.array .byte)) :: ws) ({ frames := 0, cells := 1, slots := 3, locals := 0 } : Room)) (fun a U => a = #[(.int p1), (.int p2), (.int p3), (.int p4)] ∧ Z.Warmed39 U.vm ∧ U.heap = h0) (fun _ _ _ _ _ => True) (fun _ U o U' => ∃ v L, o = .returned v ∧ QM Z p1 p2 p3 p4 h0 n0 v U'.heap L ∧ FrameEnd U o U' L ({ frames := 0, cells := 1, slots := 3, locals := 0 } : Room).cells ({ frames := 0, cells := 1, slots := 3, locals := 0 } : Room).slots) := by
  refine MetFree.of_bodySF (plainFor_of_name pn_1) hisR ?_
  intro p e s m args below meth c s₁ Bd hml0 hP hK
  obtain ⟨rfl, hZ, hh⟩ := hP
  have hx := Bd.exec
  have hby := Bd.bytes
  have hml : c.maxLocals = 5 := hml0
  have hown : s.vm.findClass "com/example/limpet/limpet/ExecutionResultPinLaw" = some m.cls := findClass_of_methodNamed Bd.named
  have hnm := (name_of_methodNamed Bd.named Bd.method).1
  have X0 : Stand p l e ({ frames := 0, cells := 1, slots := 3, locals := 0 } : Room) s m #[(.int p1), (.int p2), (.int p3), (.int p4)] below meth c s₁ [] 0 0 := Stand.of_body Bd
  have e0 : s₁.heap = h0 := by rw [← hh, Bd.state]; rfl
  have N0 := Fr.nil n0
  have pre0 : ∀ t, Steps p.tables e below (s₁.setTop (mkF m 0 #[.val (.int p1), .val (.int p2), .val (.int p3), .val (.int p4), .unset] [])) t → Steps p.tables e below (s₁.setTop (entryFrame m #[(.int p1), (.int p2), (.int p3), (.int p4)] 5)) t := fun t k => castTop (ef_1 m p1 p2 p3 p4) k
  obtain ⟨T5, h5, k5, X5, e5, E5, A5, Y5, st5⟩ := newPE X0 hx hZ (hw _ (List.mem_of_getElem? (i := 7) rfl)) e0 (g := (mkF m 32 #[.val (.int p1), .val (.int p2), .val (.int p3), .val (.int p4), .unset] [(.int (2 : Int32))])) rfl (hb hby d1_32) rfl (by decide) (cap := 2) (by decide) (by decide) (by decide) (by decide) (ad := "[B") (by decide)
  obtain ⟨b5, g5⟩ : ∃ z, z = h0.size := ⟨_, rfl⟩      -- the fresh array's address
  rw [← g5] at A5 Y5 st5
  have V_b5 : Arv Z h5 b5 k5 .byte (2 : Int32) [(.int (0 : Int32)), (.int (0 : Int32))] (.int (0 : Int32)) := (Arv.new A5 (by decide)).pad (pad_rep [] (.int (0 : Int32)) 2)
  have g_b5 : n0 ≤ b5 := Nat.le_trans Z0 (Nat.le_of_eq g5.symm)
  have sz_b5 : h0.size ≤ b5 := (Nat.le_trans (Keep.refl h0 []).1 (Nat.le_of_eq g5.symm))
  have K5 : Keep h0 h5 [] := (Keep.refl h0 []).ext E5
  obtain ⟨cl_b5_40, Ar_b5, q_b5, S_b5, N_b5, H_b5, G_b5⟩ := V_b5      -- open the array's fact as it stands now (its cell, kind, length, elements)
  have hin40 : ¬ ((0 : Int32) < 0 ∨ cl_b5_40.slots.size ≤ ((0 : Int32)).toNatClampNeg) := inb_of S_b5 ⟨by decide, by decide⟩
  obtain ⟨T6, h6, X6, e6, W6, st6⟩ := stB X5 hx hZ e5 Ar_b5 (j := (0 : Int32)) hin40 (g := (mkF m 40 #[.val (.int p1), .val (.int p2), .val (.int p3), .val (.int p4), .val (.ref b5)] [(.int p2), (.int (0 : Int32)), (.ref b5)])) rfl rfl (hb hby d1_40)
  have V_b5_6 := Arv.set Ar_b5 q_b5 S_b5 N_b5 H_b5 G_b5 (fits_nar_byte _) W6 0 rfl (Nat.le_of_ble_eq_true rfl)      -- the array as it stands now (the place must lie among its first values: Arv.pad with pad_rep lengthens them)
  have K6 : Keep h0 h6 [] := K5.wr W6 (Or.inr sz_b5)
  have N6 := Fr.snoc X6 N0 g_b5
  obtain ⟨cl_b5_45, Ar_b5, q_b5, S_b5, N_b5, H_b5, G_b5⟩ := V_b5_6      -- open the array's fact as it stands now (its cell, kind, length, elements)
  have hin45 : ¬ ((1 : Int32) < 0 ∨ cl_b5_45.slots.size ≤ ((1 : Int32)).toNatClampNeg) := inb_of S_b5 ⟨by decide, by decide⟩
  obtain ⟨T7, h7, X7, e7, W7, st7⟩ := stB X6 hx hZ e6 Ar_b5 (j := (1 : Int32)) hin45 (g := (mkF m 45 #[.val (.int p1), .val (.int p2), .val (.int p3), .val (.int p4), .val (.ref b5)] [(.int p3), (.int (1 : Int32)), (.ref b5)])) rfl rfl (hb hby d1_45)
  have V_b5_7 := Arv.set Ar_b5 q_b5 S_b5 N_b5 H_b5 G_b5 (fits_nar_byte _) W7 1 rfl (Nat.le_of_ble_eq_true rfl)      -- the array as it stands now (the place must lie among its first values: Arv.pad with pad_rep lengthens them)
  have K7 : Keep h0 h7 [] := K6.wr W7 (Or.inr sz_b5)
  have N7 := Fr.snoc X7 N6 g_b5
  obtain ⟨fs, hr, hrun, hended, hW, hsame⟩ := X7.leave (v := some (.ref b5)) (fun h => by rw [Bd.returns] at h; cases h)
  refine ⟨_, _, pre0 _ ?_, hrun, hended, _, _, rfl, ?_, ⟨_, rfl⟩, hW, hsame.mono (by decide) (by decide)⟩
  · show Steps p.tables e below (s₁.setTop (mkF m 0 #[.val (.int p1), .val (.int p2), .val (.int p3), .val (.int p4), .unset] [])) _
    refine XS.iloadN X0.here hx rfl (hb hby d1_0) rfl ?_
    show Steps p.tables e below (s₁.setTop (mkF m 1 #[.val (.int p1), .val (.int p2), .val (.int p3), .val (.int p4), .unset] [(.int p1)])) _
    refine XS.ifYes X0.here hx rfl (pc0 := 1) (pc' := 8) rfl (hb hby d1_1) rfl ((if0 _ _).trans (feq hc1).2) (by decide) (by decide) ?_
    show Steps p.tables e below (s₁.setTop (mkF m 8 #[.val (.int p1), .val (.int p2), .val (.int p3), .val (.int p4), .unset] [])) _
    refine XS.iloadN X0.here hx rfl (hb hby d1_8) rfl ?_
    show Steps p.tables e below (s₁.setTop (mkF m 9 #[.val (.int p1), .val (.int p2), .val (.int p3), .val (.int p4), .unset] [(.int p1)])) _
    refine XS.iconst X0.here hx rfl (hb hby d1_9) ?_
    show Steps p.tables e below (s₁.setTop (mkF m 10 #[.val (.int p1), .val (.int p2), .val (.int p3), .val (.int p4), .unset] [(.int (1 : Int32)), (.int p1)])) _
    refine XS.icmpYes X0.here hx rfl (pc0 := 10) (pc' := 26) rfl (hb hby d1_10) rfl (feq hc10).2 (by decide) (by decide) ?_
    show Steps p.tables e below (s₁.setTop (mkF m 26 #[.val (.int p1), .val (.int p2), .val (.int p3), .val (.int p4), .unset] [])) _
    refine XS.iloadN X0.here hx rfl (hb hby d1_26) rfl ?_
    show Steps p.tables e below (s₁.setTop (mkF m 27 #[.val (.int p1), .val (.int p2), .val (.int p3), .val (.int p4), .unset] [(.int p1)])) _
    refine XS.iconst X0.here hx rfl (hb hby d1_27) ?_
    show Steps p.tables e below (s₁.setTop (mkF m 28 #[.val (.int p1), .val (.int p2), .val (.int p3), .val (.int p4), .unset] [(.int (2 : Int32)), (.int p1)])) _
    refine XS.icmpNo X0.here hx rfl (hb hby d1_28) rfl (teq hc28).2 ?_
    show Steps p.tables e below (s₁.setTop (mkF m 31 #[.val (.int p1), .val (.int p2), .val (.int p3), .val (.int p4), .unset] [])) _
    refine XS.iconst X0.here hx rfl (hb hby d1_31) ?_
    show Steps p.tables e below (s₁.setTop (mkF m 32 #[.val (.int p1), .val (.int p2), .val (.int p3), .val (.int p4), .unset] [(.int (2 : Int32))])) _
    refine st5 _ ?_
    show Steps p.tables e below (T5.setTop (mkF m 34 #[.val (.int p1), .val (.int p2), .val (.int p3), .val (.int p4), .unset] [(.ref b5)])) _
    refine XS.astore X5.here hx rfl (hb hby d1_34) rfl rfl (l' := #[.val (.int p1), .val (.int p2), .val (.int p3), .val (.int p4), .val (.ref b5)]) rfl ?_
    show Steps p.tables e below (T5.setTop (mkF m 36 #[.val (.int p1), .val (.int p2), .val (.int p3), .val (.int p4), .val (.ref b5)] [])) _
    refine XS.aload X5.here hx rfl (hb hby d1_36) rfl rfl ?_
    show Steps p.tables e below (T5.setTop (mkF m 38 #[.val (.int p1), .val (.int p2), .val (.int p3), .val (.int p4), .val (.ref b5)] [(.ref b5)])) _
    refine XS.iconst X5.here hx rfl (hb hby d1_38) ?_
    show Steps p.tables e below (T5.setTop (mkF m 39 #[.val (.int p1), .val (.int p2), .val (.int p3), .val (.int p4), .val (.ref b5)] [(.int (0 : Int32)), (.ref b5)])) _
    refine XS.iloadN X5.here hx rfl (hb hby d1_39) rfl ?_
    show Steps p.tables e below (T5.setTop (mkF m 40 #[.val (.int p1), .val (.int p2), .val (.int p3), .val (.int p4), .val (.ref b5)] [(.int p2), (.int (0 : Int32)), (.ref b5)])) _
    refine st6 _ ?_
    show Steps p.tables e below (T6.setTop (mkF m 41 #[.val (.int p1), .val (.int p2), .val (.int p3), .val (.int p4), .val (.ref b5)] [])) _
    refine XS.aload X6.here hx rfl (hb hby d1_41) rfl rfl ?_
    show Steps p.tables e below (T6.setTop (mkF m 43 #[.val (.int p1), .val (.int p2), .val (.int p3), .val (.int p4), .val (.ref b5)] [(.ref b5)])) _
    refine XS.iconst X6.here hx rfl (hb hby d1_43) ?_
    show Steps p.tables e below (T6.setTop (mkF m 44 #[.val (.int p1), .val (.int p2), .val (.int p3), .val (.int p4), .val (.ref b5)] [(.int (1 : Int32)), (.ref b5)])) _
    refine XS.iloadN X6.here hx rfl (hb hby d1_44) rfl ?_
    show Steps p.tables e below (T6.setTop (mkF m 45 #[.val (.int p1), .val (.int p2), .val (.int p3), .val (.int p4), .val (.ref b5)] [(.int p3), (.int (1 : Int32)), (.ref b5)])) _
    refine st7 _ ?_
    show Steps p.tables e below (T7.setTop (mkF m 46 #[.val (.int p1), .val (.int p2), .val (.int p3), .val (.int p4), .val (.ref b5)] [])) _
    refine XS.aload X7.here hx rfl (hb hby d1_46) rfl rfl ?_
    show Steps p.tables e below (T7.setTop (mkF m 48 #[.val (.int p1), .val (.int p2), .val (.int p3), .val (.int p4), .val (.ref b5)] [(.ref b5)])) _
    jvm_step X7.here [X7.here.top, hx, (hb hby d1_48), X7.method', Bd.returns, Value.isRef, FieldType.isReference]
    first | (intro acts; rw [hr _ acts rfl rfl rfl]) | rw [hr _ _ rfl rfl rfl]
    exact Steps.refl _
  · show QM Z p1 p2 p3 p4 h0 n0 _ T7.heap _
    rw [e7]
    rw [hc28]
    exact ⟨b5, k5, rfl, N7, K7, sz_b5, g_b5, ((Y5.wr W6).wr W7), own_more V_b5_7 (fun i hi => by
      have hi' : i < 2 := hi
      match i, hi' with
      | 0, _ => rfl
      | 1, _ => rfl)⟩
theorem d1_49 : decode method_2_code 49 = .ok (.iconst 3, 1) := by decide +kernel
theorem d1_50 : decode method_2_code 50 = .ok (.newarray .byte, 2) := by decide +kernel
theorem d1_52 : decode method_2_code 52 = .ok (.astore 4, 2) := by decide +kernel
theorem d1_54 : decode method_2_code 54 = .ok (.aload 4, 2) := by decide +kernel
theorem d1_56 : decode method_2_code 56 = .ok (.iconst 0, 1) := by decide +kernel
theorem d1_57 : decode method_2_code 57 = .ok (.iload_n 1, 1) := by decide +kernel
theorem d1_58 : decode method_2_code 58 = .ok (.bastore, 1) := by decide +kernel
theorem d1_59 : decode method_2_code 59 = .ok (.aload 4, 2) := by decide +kernel
theorem d1_61 : decode method_2_code 61 = .ok (.iconst 1, 1) := by decide +kernel
theorem d1_62 : decode method_2_code 62 = .ok (.iload_n 2, 1) := by decide +kernel
theorem d1_63 : decode method_2_code 63 = .ok (.bastore, 1) := by decide +kernel
theorem d1_64 : decode method_2_code 64 = .ok (.aload 4, 2) := by decide +kernel
theorem d1_66 : decode method_2_code 66 = .ok (.iconst 2, 1) := by decide +kernel
theorem d1_67 : decode method_2_code 67 = .ok (.iload_n 3, 1) := by decide +kernel
theorem d1_68 : decode method_2_code 68 = .ok (.bastore, 1) := by decide +kernel
theorem d1_69 : decode method_2_code 69 = .ok (.aload 4, 2) := by decide +kernel
theorem d1_71 : decode method_2_code 71 = .ok (.areturn, 1) := by decide +kernel
set_option maxRecDepth 65536 in
set_option maxHeartbeats 40000000 in
theorem rm1_3 (l : Launch) (Z : State) (a0 : Array Value) (hw : ∀ d ∈ tables_1, d.before a0 Z = true) (ws : List Jvm.Cond) (p1 : Int32) (p2 : Int32) (p3 : Int32) (p4 : Int32) (h0 : Heap) (n0 : Nat) (Z0 : n0 ≤ h0.size) (hk3 : p1 = (3 : Int32)) (hc1 : ¬ (p1 = (0 : Int32))) (hc10 : ¬ (p1 = (1 : Int32))) (hc28 : ¬ (p1 = (2 : Int32))) :
    MetFree l (⟨"com/example/limpet/limpet/ExecutionResultPinLaw", "make", "(IBBB)[B"⟩ : MethodName) (head1 (Jvm.Cond.code (⟨"com/example/limpet/limpet/ExecutionResultPinLaw", "make", "(IBBB)[B"⟩ : MethodName) method_2_code 5 (some (.array .byte)) :: ws) ({ frames := 0, cells := 1, slots := 3, locals := 0 } : Room)) (fun a U => a = #[(.int p1), (.int p2), (.int p3), (.int p4)] ∧ Z.Warmed39 U.vm ∧ U.heap = h0) (fun _ _ _ _ _ => True) (fun _ U o U' => ∃ v L, o = .returned v ∧ QM Z p1 p2 p3 p4 h0 n0 v U'.heap L ∧ FrameEnd U o U' L ({ frames := 0, cells := 1, slots := 3, locals := 0 } : Room).cells ({ frames := 0, cells := 1, slots := 3, locals := 0 } : Room).slots) := by
  refine MetFree.of_bodySF (plainFor_of_name pn_1) hisR ?_
  intro p e s m args below meth c s₁ Bd hml0 hP hK
  obtain ⟨rfl, hZ, hh⟩ := hP
  have hx := Bd.exec
  have hby := Bd.bytes
  have hml : c.maxLocals = 5 := hml0
  have hown : s.vm.findClass "com/example/limpet/limpet/ExecutionResultPinLaw" = some m.cls := findClass_of_methodNamed Bd.named
  have hnm := (name_of_methodNamed Bd.named Bd.method).1
  have X0 : Stand p l e ({ frames := 0, cells := 1, slots := 3, locals := 0 } : Room) s m #[(.int p1), (.int p2), (.int p3), (.int p4)] below meth c s₁ [] 0 0 := Stand.of_body Bd
  have e0 : s₁.heap = h0 := by rw [← hh, Bd.state]; rfl
  have N0 := Fr.nil n0
  have pre0 : ∀ t, Steps p.tables e below (s₁.setTop (mkF m 0 #[.val (.int p1), .val (.int p2), .val (.int p3), .val (.int p4), .unset] [])) t → Steps p.tables e below (s₁.setTop (entryFrame m #[(.int p1), (.int p2), (.int p3), (.int p4)] 5)) t := fun t k => castTop (ef_1 m p1 p2 p3 p4) k
  obtain ⟨T5, h5, k5, X5, e5, E5, A5, Y5, st5⟩ := newPE X0 hx hZ (hw _ (List.mem_of_getElem? (i := 7) rfl)) e0 (g := (mkF m 50 #[.val (.int p1), .val (.int p2), .val (.int p3), .val (.int p4), .unset] [(.int (3 : Int32))])) rfl (hb hby d1_50) rfl (by decide) (cap := 3) (by decide) (by decide) (by decide) (by decide) (ad := "[B") (by decide)
  obtain ⟨b5, g5⟩ : ∃ z, z = h0.size := ⟨_, rfl⟩      -- the fresh array's address
  rw [← g5] at A5 Y5 st5
  have V_b5 : Arv Z h5 b5 k5 .byte (3 : Int32) [(.int (0 : Int32)), (.int (0 : Int32)), (.int (0 : Int32))] (.int (0 : Int32)) := (Arv.new A5 (by decide)).pad (pad_rep [] (.int (0 : Int32)) 3)
  have g_b5 : n0 ≤ b5 := Nat.le_trans Z0 (Nat.le_of_eq g5.symm)
  have sz_b5 : h0.size ≤ b5 := (Nat.le_trans (Keep.refl h0 []).1 (Nat.le_of_eq g5.symm))
  have K5 : Keep h0 h5 [] := (Keep.refl h0 []).ext E5
  obtain ⟨cl_b5_58, Ar_b5, q_b5, S_b5, N_b5, H_b5, G_b5⟩ := V_b5      -- open the array's fact as it stands now (its cell, kind, length, elements)
  have hin58 : ¬ ((0 : Int32) < 0 ∨ cl_b5_58.slots.size ≤ ((0 : Int32)).toNatClampNeg) := inb_of S_b5 ⟨by decide, by decide⟩
  obtain ⟨T6, h6, X6, e6, W6, st6⟩ := stB X5 hx hZ e5 Ar_b5 (j := (0 : Int32)) hin58 (g := (mkF m 58 #[.val (.int p1), .val (.int p2), .val (.int p3), .val (.int p4), .val (.ref b5)] [(.int p2), (.int (0 : Int32)), (.ref b5)])) rfl rfl (hb hby d1_58)
  have V_b5_6 := Arv.set Ar_b5 q_b5 S_b5 N_b5 H_b5 G_b5 (fits_nar_byte _) W6 0 rfl (Nat.le_of_ble_eq_true rfl)      -- the array as it stands now (the place must lie among its first values: Arv.pad with pad_rep lengthens them)
  have K6 : Keep h0 h6 [] := K5.wr W6 (Or.inr sz_b5)
  have N6 := Fr.snoc X6 N0 g_b5
  obtain ⟨cl_b5_63, Ar_b5, q_b5, S_b5, N_b5, H_b5, G_b5⟩ := V_b5_6      -- open the array's fact as it stands now (its cell, kind, length, elements)
  have hin63 : ¬ ((1 : Int32) < 0 ∨ cl_b5_63.slots.size ≤ ((1 : Int32)).toNatClampNeg) := inb_of S_b5 ⟨by decide, by decide⟩
  obtain ⟨T7, h7, X7, e7, W7, st7⟩ := stB X6 hx hZ e6 Ar_b5 (j := (1 : Int32)) hin63 (g := (mkF m 63 #[.val (.int p1), .val (.int p2), .val (.int p3), .val (.int p4), .val (.ref b5)] [(.int p3), (.int (1 : Int32)), (.ref b5)])) rfl rfl (hb hby d1_63)
  have V_b5_7 := Arv.set Ar_b5 q_b5 S_b5 N_b5 H_b5 G_b5 (fits_nar_byte _) W7 1 rfl (Nat.le_of_ble_eq_true rfl)      -- the array as it stands now (the place must lie among its first values: Arv.pad with pad_rep lengthens them)
  have K7 : Keep h0 h7 [] := K6.wr W7 (Or.inr sz_b5)
  have N7 := Fr.snoc X7 N6 g_b5
  obtain ⟨cl_b5_68, Ar_b5, q_b5, S_b5, N_b5, H_b5, G_b5⟩ := V_b5_7      -- open the array's fact as it stands now (its cell, kind, length, elements)
  have hin68 : ¬ ((2 : Int32) < 0 ∨ cl_b5_68.slots.size ≤ ((2 : Int32)).toNatClampNeg) := inb_of S_b5 ⟨by decide, by decide⟩
  obtain ⟨T8, h8, X8, e8, W8, st8⟩ := stB X7 hx hZ e7 Ar_b5 (j := (2 : Int32)) hin68 (g := (mkF m 68 #[.val (.int p1), .val (.int p2), .val (.int p3), .val (.int p4), .val (.ref b5)] [(.int p4), (.int (2 : Int32)), (.ref b5)])) rfl rfl (hb hby d1_68)
  have V_b5_8 := Arv.set Ar_b5 q_b5 S_b5 N_b5 H_b5 G_b5 (fits_nar_byte _) W8 2 rfl (Nat.le_of_ble_eq_true rfl)      -- the array as it stands now (the place must lie among its first values: Arv.pad with pad_rep lengthens them)
  have K8 : Keep h0 h8 [] := K7.wr W8 (Or.inr sz_b5)
  have N8 := Fr.snoc X8 N7 g_b5
  obtain ⟨fs, hr, hrun, hended, hW, hsame⟩ := X8.leave (v := some (.ref b5)) (fun h => by rw [Bd.returns] at h; cases h)
  refine ⟨_, _, pre0 _ ?_, hrun, hended, _, _, rfl, ?_, ⟨_, rfl⟩, hW, hsame.mono (by decide) (by decide)⟩
  · show Steps p.tables e below (s₁.setTop (mkF m 0 #[.val (.int p1), .val (.int p2), .val (.int p3), .val (.int p4), .unset] [])) _
    refine XS.iloadN X0.here hx rfl (hb hby d1_0) rfl ?_
    show Steps p.tables e below (s₁.setTop (mkF m 1 #[.val (.int p1), .val (.int p2), .val (.int p3), .val (.int p4), .unset] [(.int p1)])) _
    refine XS.ifYes X0.here hx rfl (pc0 := 1) (pc' := 8) rfl (hb hby d1_1) rfl ((if0 _ _).trans (feq hc1).2) (by decide) (by decide) ?_
    show Steps p.tables e below (s₁.setTop (mkF m 8 #[.val (.int p1), .val (.int p2), .val (.int p3), .val (.int p4), .unset] [])) _
    refine XS.iloadN X0.here hx rfl (hb hby d1_8) rfl ?_
    show Steps p.tables e below (s₁.setTop (mkF m 9 #[.val (.int p1), .val (.int p2), .val (.int p3), .val (.int p4), .unset] [(.int p1)])) _
    refine XS.iconst X0.here hx rfl (hb hby d1_9) ?_
    show Steps p.tables e below (s₁.setTop (mkF m 10 #[.val (.int p1), .val (.int p2), .val (.int p3), .val (.int p4), .unset] [(.int (1 : Int32)), (.int p1)])) _
    refine XS.icmpYes X0.here hx rfl (pc0 := 10) (pc' := 26) rfl (hb hby d1_10) rfl (feq hc10).2 (by decide) (by decide) ?_
    show Steps p.tables e below (s₁.setTop (mkF m 26 #[.val (.int p1), .val (.int p2), .val (.int p3), .val (.int p4), .unset] [])) _
    refine XS.iloadN X0.here hx rfl (hb hby d1_26) rfl ?_
    show Steps p.tables e below (s₁.setTop (mkF m 27 #[.val (.int p1), .val (.int p2), .val (.int p3), .val (.int p4), .unset] [(.int p1)])) _
    refine XS.iconst X0.here hx rfl (hb hby d1_27) ?_
    show Steps p.tables e below (s₁.setTop (mkF m 28 #[.val (.int p1), .val (.int p2), .val (.int p3), .val (.int p4), .unset] [(.int (2 : Int32)), (.int p1)])) _
    refine XS.icmpYes X0.here hx rfl (pc0 := 28) (pc' := 49) rfl (hb hby d1_28) rfl (feq hc28).2 (by decide) (by decide) ?_
    show Steps p.tables e below (s₁.setTop (mkF m 49 #[.val (.int p1), .val (.int p2), .val (.int p3), .val (.int p4), .unset] [])) _
    refine XS.iconst X0.here hx rfl (hb hby d1_49) ?_
    show Steps p.tables e below (s₁.setTop (mkF m 50 #[.val (.int p1), .val (.int p2), .val (.int p3), .val (.int p4), .unset] [(.int (3 : Int32))])) _
    refine st5 _ ?_
    show Steps p.tables e below (T5.setTop (mkF m 52 #[.val (.int p1), .val (.int p2), .val (.int p3), .val (.int p4), .unset] [(.ref b5)])) _
    refine XS.astore X5.here hx rfl (hb hby d1_52) rfl rfl (l' := #[.val (.int p1), .val (.int p2), .val (.int p3), .val (.int p4), .val (.ref b5)]) rfl ?_
    show Steps p.tables e below (T5.setTop (mkF m 54 #[.val (.int p1), .val (.int p2), .val (.int p3), .val (.int p4), .val (.ref b5)] [])) _
    refine XS.aload X5.here hx rfl (hb hby d1_54) rfl rfl ?_
    show Steps p.tables e below (T5.setTop (mkF m 56 #[.val (.int p1), .val (.int p2), .val (.int p3), .val (.int p4), .val (.ref b5)] [(.ref b5)])) _
    refine XS.iconst X5.here hx rfl (hb hby d1_56) ?_
    show Steps p.tables e below (T5.setTop (mkF m 57 #[.val (.int p1), .val (.int p2), .val (.int p3), .val (.int p4), .val (.ref b5)] [(.int (0 : Int32)), (.ref b5)])) _
    refine XS.iloadN X5.here hx rfl (hb hby d1_57) rfl ?_
    show Steps p.tables e below (T5.setTop (mkF m 58 #[.val (.int p1), .val (.int p2), .val (.int p3), .val (.int p4), .val (.ref b5)] [(.int p2), (.int (0 : Int32)), (.ref b5)])) _
    refine st6 _ ?_
    show Steps p.tables e below (T6.setTop (mkF m 59 #[.val (.int p1), .val (.int p2), .val (.int p3), .val (.int p4), .val (.ref b5)] [])) _
    refine XS.aload X6.here hx rfl (hb hby d1_59) rfl rfl ?_
    show Steps p.tables e below (T6.setTop (mkF m 61 #[.val (.int p1), .val (.int p2), .val (.int p3), .val (.int p4), .val (.ref b5)] [(.ref b5)])) _
    refine XS.iconst X6.here hx rfl (hb hby d1_61) ?_
    show Steps p.tables e below (T6.setTop (mkF m 62 #[.val (.int p1), .val (.int p2), .val (.int p3), .val (.int p4), .val (.ref b5)] [(.int (1 : Int32)), (.ref b5)])) _
    refine XS.iloadN X6.here hx rfl (hb hby d1_62) rfl ?_
    show Steps p.tables e below (T6.setTop (mkF m 63 #[.val (.int p1), .val (.int p2), .val (.int p3), .val (.int p4), .val (.ref b5)] [(.int p3), (.int (1 : Int32)), (.ref b5)])) _
    refine st7 _ ?_
    show Steps p.tables e below (T7.setTop (mkF m 64 #[.val (.int p1), .val (.int p2), .val (.int p3), .val (.int p4), .val (.ref b5)] [])) _
    refine XS.aload X7.here hx rfl (hb hby d1_64) rfl rfl ?_
    show Steps p.tables e below (T7.setTop (mkF m 66 #[.val (.int p1), .val (.int p2), .val (.int p3), .val (.int p4), .val (.ref b5)] [(.ref b5)])) _
    refine XS.iconst X7.here hx rfl (hb hby d1_66) ?_
    show Steps p.tables e below (T7.setTop (mkF m 67 #[.val (.int p1), .val (.int p2), .val (.int p3), .val (.int p4), .val (.ref b5)] [(.int (2 : Int32)), (.ref b5)])) _
    refine XS.iloadN X7.here hx rfl (hb hby d1_67) rfl ?_
    show Steps p.tables e below (T7.setTop (mkF m 68 #[.val (.int p1), .val (.int p2), .val (.int p3), .val (.int p4), .val (.ref b5)] [(.int p4), (.int (2 : Int32)), (.ref b5)])) _
    refine st8 _ ?_
    show Steps p.tables e below (T8.setTop (mkF m 69 #[.val (.int p1), .val (.int p2), .val (.int p3), .val (.int p4), .val (.ref b5)] [])) _
    refine XS.aload X8.here hx rfl (hb hby d1_69) rfl rfl ?_
    show Steps p.tables e below (T8.setTop (mkF m 71 #[.val (.int p1), .val (.int p2), .val (.int p3), .val (.int p4), .val (.ref b5)] [(.ref b5)])) _
    jvm_step X8.here [X8.here.top, hx, (hb hby d1_71), X8.method', Bd.returns, Value.isRef, FieldType.isReference]
    first | (intro acts; rw [hr _ acts rfl rfl rfl]) | rw [hr _ _ rfl rfl rfl]
    exact Steps.refl _
  · show QM Z p1 p2 p3 p4 h0 n0 _ T8.heap _
    rw [e8]
    rw [hk3]
    exact ⟨b5, k5, rfl, N8, K8, sz_b5, g_b5, (((Y5.wr W6).wr W7).wr W8), own_more V_b5_8 (fun i hi => by
      have hi' : i < 3 := hi
      match i, hi' with
      | 0, _ => rfl
      | 1, _ => rfl
      | 2, _ => rfl)⟩
theorem rmM (l : Launch) (Z : State) (a0 : Array Value) (hw : ∀ d ∈ tables_1, d.before a0 Z = true) (ws : List Jvm.Cond) (n x0 x1 x2 : Int32) (h0 : Heap) (n0 : Nat) (Z0 : n0 ≤ h0.size) (hn : (n = 0 ∨ n = 1 ∨ n = 2 ∨ n = 3)) :
    MetFree l (⟨"com/example/limpet/limpet/ExecutionResultPinLaw", "make", "(IBBB)[B"⟩ : MethodName) (head1 (Jvm.Cond.code (⟨"com/example/limpet/limpet/ExecutionResultPinLaw", "make", "(IBBB)[B"⟩ : MethodName) method_2_code 5 (some (.array .byte)) :: ws) ({ frames := 0, cells := 1, slots := 3, locals := 0 } : Room)) (fun a U => a = #[(.int n), (.int x0), (.int x1), (.int x2)] ∧ Z.Warmed39 U.vm ∧ U.heap = h0) (fun _ _ _ _ _ => True) (fun _ U o U' => ∃ v L, o = .returned v ∧ QM Z n x0 x1 x2 h0 n0 v U'.heap L ∧ FrameEnd U o U' L ({ frames := 0, cells := 1, slots := 3, locals := 0 } : Room).cells ({ frames := 0, cells := 1, slots := 3, locals := 0 } : Room).slots) := by
  rcases hn with h | h | h | h
  · exact rm1_0 l Z a0 hw ws n x0 x1 x2 h0 n0 Z0 h
  · exact rm1_1 l Z a0 hw ws n x0 x1 x2 h0 n0 Z0 (by rw [h]; decide) h
  · exact rm1_2 l Z a0 hw ws n x0 x1 x2 h0 n0 Z0 (by rw [h]; decide) (by rw [h]; decide) h
  · exact rm1_3 l Z a0 hw ws n x0 x1 x2 h0 n0 Z0 h (by rw [h]; decide) (by rw [h]; decide) (by rw [h]; decide)
theorem d2_0 : decode prog_10_method_1_code 0 = .ok (.aload_n 0, 1) := by decide +kernel
theorem d2_1 : decode prog_10_method_1_code 1 = .ok (.invokespecial 1, 3) := by decide +kernel
theorem d2_4 : decode prog_10_method_1_code 4 = .ok (.aload_n 0, 1) := by decide +kernel
theorem d2_5 : decode prog_10_method_1_code 5 = .ok (.aload_n 1, 1) := by decide +kernel
theorem d2_6 : decode prog_10_method_1_code 6 = .ok (.putfield 7, 3) := by decide +kernel
theorem d2_9 : decode prog_10_method_1_code 9 = .ok (.aload_n 0, 1) := by decide +kernel
theorem d2_10 : decode prog_10_method_1_code 10 = .ok (.aload_n 2, 1) := by decide +kernel
theorem d2_11 : decode prog_10_method_1_code 11 = .ok (.putfield 13, 3) := by decide +kernel
theorem d2_14 : decode prog_10_method_1_code 14 = .ok (.return_, 1) := by decide +kernel
theorem pn_2 : plainName "com/example/limpet/limpet/Execution" = true := by first | (simp [plainName, overriddenIn]; done) | decide +kernel
theorem ef_2 (m : MethodId) (x0 : Addr) (x1 : Addr) (x2 : Addr) : entryFrame m #[(.ref x0), (.ref x1), (.ref x2)] 3 = mkF m 0 #[.val (.ref x0), .val (.ref x1), .val (.ref x2)] [] := by first | (simp [entryFrame, mkF, argsToLocals, Value.category]; done) | rfl
def Q2 (Z : State) (a1 : Addr) (a2 : Addr) (a3 : Addr) (u_outcome_a1 : Value) (u_result_a1 : Value) (h0 : Heap) (n0 : Nat) (v : Option Value) (h : Heap) (L : List Loc) : Prop := v = none ∧ Fr n0 L ∧ Keep h0 h [a1] ∧ Exa Z h a1 "com/example/limpet/limpet/Execution" ∧ Fld Z h a1 "com/example/limpet/limpet/Execution" "outcome" "Lcom/example/limpet/limpet/Execution$Outcome;" (.ref a2) ∧ Fld Z h a1 "com/example/limpet/limpet/Execution" "result" "[B" (.ref a3)
set_option maxRecDepth 65536 in
set_option maxHeartbeats 40000000 in
theorem rm2 (l : Launch) (Z : State) (a0 : Array Value) (hw : ∀ d ∈ tables_1, d.before a0 Z = true) (ws : List Jvm.Cond) (a1 : Addr) (a2 : Addr) (a3 : Addr) (u_outcome_a1 : Value) (u_result_a1 : Value) (h0 : Heap) (n0 : Nat) (Z0 : n0 ≤ h0.size) (E_a1 : Exa Z h0 a1 "com/example/limpet/limpet/Execution") (F_outcome_a1 : Fld Z h0 a1 "com/example/limpet/limpet/Execution" "outcome" "Lcom/example/limpet/limpet/Execution$Outcome;" u_outcome_a1) (g_a1 : n0 ≤ a1) (F_result_a1 : Fld Z h0 a1 "com/example/limpet/limpet/Execution" "result" "[B" u_result_a1) :
    MetFree l (⟨"com/example/limpet/limpet/Execution", "<init>", "(Lcom/example/limpet/limpet/Execution$Outcome;[B)V"⟩ : MethodName) (head1 (Jvm.Cond.code (⟨"com/example/limpet/limpet/Execution", "<init>", "(Lcom/example/limpet/limpet/Execution$Outcome;[B)V"⟩ : MethodName) prog_10_method_1_code 3 none :: ws) ({ frames := 1, cells := 0, slots := 0, locals := 12 } : Room)) (fun a U => a = #[(.ref a1), (.ref a2), (.ref a3)] ∧ Z.Warmed39 U.vm ∧ U.heap = h0) (fun _ _ _ _ _ => True) (fun _ U o U' => ∃ v L, o = .returned v ∧ Q2 Z a1 a2 a3 u_outcome_a1 u_result_a1 h0 n0 v U'.heap L ∧ FrameEnd U o U' L ({ frames := 1, cells := 0, slots := 0, locals := 12 } : Room).cells ({ frames := 1, cells := 0, slots := 0, locals := 12 } : Room).slots) := by
  refine MetFree.of_bodySF (plainFor_of_name pn_2) hisR ?_
  intro p e s m args below meth c s₁ Bd hml0 hP hK
  obtain ⟨rfl, hZ, hh⟩ := hP
  have hx := Bd.exec
  have hby := Bd.bytes
  have hml : c.maxLocals = 3 := hml0
  have hown : s.vm.findClass "com/example/limpet/limpet/Execution" = some m.cls := findClass_of_methodNamed Bd.named
  have hnm := (name_of_methodNamed Bd.named Bd.method).1
  have X0 : Stand p l e ({ frames := 1, cells := 0, slots := 0, locals := 12 } : Room) s m #[(.ref a1), (.ref a2), (.ref a3)] below meth c s₁ [] 0 0 := Stand.of_body Bd
  have e0 : s₁.heap = h0 := by rw [← hh, Bd.state]; rfl
  have N0 := Fr.nil n0
  have pre0 : ∀ t, Steps p.tables e below (s₁.setTop (mkF m 0 #[.val (.ref a1), .val (.ref a2), .val (.ref a3)] [])) t → Steps p.tables e below (s₁.setTop (entryFrame m #[(.ref a1), (.ref a2), (.ref a3)] 3)) t := fun t k => castTop (ef_2 m a1 a2 a3) k
  obtain ⟨T4, X4, e4, st4⟩ := initO X0 hx hZ hown (hw _ (List.mem_of_getElem? (i := 14) rfl)) (hw _ (List.mem_of_getElem? (i := 15) rfl)) (hw _ (List.mem_of_getElem? (i := 16) rfl)) e0 (g := (mkF m 1 #[.val (.ref a1), .val (.ref a2), .val (.ref a3)] [(.ref a1)])) rfl (by rw [hml]; rfl) rfl (hb hby d2_1) (by decide) (W := 0) (by show 2 * 0 + _ ≤ _; exact Nat.le_of_eq rfl) (by decide)
  obtain ⟨T5, h5, X5, e5, W5, st5⟩ := putF X4 hx hZ hown (host := "") (Or.inl (hw _ (List.mem_of_getElem? (i := 17) rfl))) Via.refl e4 F_outcome_a1 E_a1 (Or.inr ⟨(hw _ (List.mem_of_getElem? (i := 18) rfl)), rfl, hnm⟩) (hw _ (List.mem_of_getElem? (i := 9) rfl)) (ty := (.object "com/example/limpet/limpet/Execution$Outcome")) (by decide) rfl rfl (g := (mkF m 6 #[.val (.ref a1), .val (.ref a2), .val (.ref a3)] [(.ref a2), (.ref a1)])) rfl rfl (hb hby d2_6)
  have Fw5 := F_outcome_a1.same W5      -- the field now holds (.ref a2)
  have K5 : Keep h0 h5 [a1] := (Keep.refl h0 [a1]).wr W5 (Or.inl (List.mem_of_getElem? (i := 0) rfl))
  have N5 := Fr.snoc X5 N0 g_a1
  obtain ⟨T6, h6, X6, e6, W6, st6⟩ := putF X5 hx hZ hown (host := "") (Or.inl (hw _ (List.mem_of_getElem? (i := 19) rfl))) Via.refl e5 (F_result_a1.other W5 (Or.inr (slot_ne (Or.inr (hw _ (List.mem_of_getElem? (i := 20) rfl))) (Or.inr (hw _ (List.mem_of_getElem? (i := 18) rfl))) (by decide) (t := (.array .byte)) (t' := (.object "com/example/limpet/limpet/Execution$Outcome")) (by decide) (by decide)))) (E_a1.wr W5) (Or.inr ⟨(hw _ (List.mem_of_getElem? (i := 20) rfl)), rfl, hnm⟩) (hw _ (List.mem_of_getElem? (i := 9) rfl)) (ty := (.array .byte)) (by decide) rfl rfl (g := (mkF m 11 #[.val (.ref a1), .val (.ref a2), .val (.ref a3)] [(.ref a3), (.ref a1)])) rfl rfl (hb hby d2_11)
  have Fw6 := (F_result_a1.other W5 (Or.inr (slot_ne (Or.inr (hw _ (List.mem_of_getElem? (i := 20) rfl))) (Or.inr (hw _ (List.mem_of_getElem? (i := 18) rfl))) (by decide) (t := (.array .byte)) (t' := (.object "com/example/limpet/limpet/Execution$Outcome")) (by decide) (by decide)))).same W6      -- the field now holds (.ref a3)
  have K6 : Keep h0 h6 [a1] := K5.wr W6 (Or.inl (List.mem_of_getElem? (i := 0) rfl))
  have N6 := Fr.snoc X6 N5 g_a1
  obtain ⟨fs, hr, hrun, hended, hW, hsame⟩ := X6.leave (v := none) (fun _ => rfl)
  refine ⟨_, _, pre0 _ ?_, hrun, hended, _, _, rfl, ?_, ⟨_, rfl⟩, hW, hsame.mono (by decide) (by decide)⟩
  · show Steps p.tables e below (s₁.setTop (mkF m 0 #[.val (.ref a1), .val (.ref a2), .val (.ref a3)] [])) _
    refine XS.aloadN X0.here hx rfl (hb hby d2_0) rfl rfl ?_
    show Steps p.tables e below (s₁.setTop (mkF m 1 #[.val (.ref a1), .val (.ref a2), .val (.ref a3)] [(.ref a1)])) _
    refine st4 _ ?_
    show Steps p.tables e below (T4.setTop (mkF m 4 #[.val (.ref a1), .val (.ref a2), .val (.ref a3)] [])) _
    refine XS.aloadN X4.here hx rfl (hb hby d2_4) rfl rfl ?_
    show Steps p.tables e below (T4.setTop (mkF m 5 #[.val (.ref a1), .val (.ref a2), .val (.ref a3)] [(.ref a1)])) _
    refine XS.aloadN X4.here hx rfl (hb hby d2_5) rfl rfl ?_
    show Steps p.tables e below (T4.setTop (mkF m 6 #[.val (.ref a1), .val (.ref a2), .val (.ref a3)] [(.ref a2), (.ref a1)])) _
    refine st5 _ ?_
    show Steps p.tables e below (T5.setTop (mkF m 9 #[.val (.ref a1), .val (.ref a2), .val (.ref a3)] [])) _
    refine XS.aloadN X5.here hx rfl (hb hby d2_9) rfl rfl ?_
    show Steps p.tables e below (T5.setTop (mkF m 10 #[.val (.ref a1), .val (.ref a2), .val (.ref a3)] [(.ref a1)])) _
    refine XS.aloadN X5.here hx rfl (hb hby d2_10) rfl rfl ?_
    show Steps p.tables e below (T5.setTop (mkF m 11 #[.val (.ref a1), .val (.ref a2), .val (.ref a3)] [(.ref a3), (.ref a1)])) _
    refine st6 _ ?_
    show Steps p.tables e below (T6.setTop (mkF m 14 #[.val (.ref a1), .val (.ref a2), .val (.ref a3)] [])) _
    exact X6.returnOut hx Bd.returns (hb hby d2_14) hr
  · show Q2 Z a1 a2 a3 u_outcome_a1 u_result_a1 h0 n0 _ T6.heap _
    rw [e6]
    exact ⟨rfl, N6, K6, ((E_a1.wr W5).wr W6), (Fw5.other W6 (Or.inr (slot_ne (Or.inr (hw _ (List.mem_of_getElem? (i := 18) rfl))) (Or.inr (hw _ (List.mem_of_getElem? (i := 20) rfl))) (by decide) (t := (.object "com/example/limpet/limpet/Execution$Outcome")) (t' := (.array .byte)) (by decide) (by decide)))), Fw6⟩
def QC (Z : State) (kk : ClassId) (n : Int32) (vs : List Value) (h0 : Heap) (n0 : Nat) (v : Option Value) (h : Heap) (L : List Loc) : Prop := ∃ b : Addr, v = some (.ref b) ∧ Fr n0 L ∧ Keep h0 h [] ∧ h0.size ≤ b ∧ n0 ≤ b ∧ Exa Z h b "[B" ∧ Arv Z h b kk .byte n vs (.int 0)
theorem d4_0 : decode prog_10_method_3_code 0 = .ok (.aload_n 0, 1) := by decide +kernel
theorem d4_1 : decode prog_10_method_3_code 1 = .ok (.getfield 13, 3) := by decide +kernel
theorem d4_4 : decode prog_10_method_3_code 4 = .ok (.ifnonnull 23, 3) := by decide +kernel
theorem d4_27 : decode prog_10_method_3_code 27 = .ok (.aload_n 0, 1) := by decide +kernel
theorem d4_28 : decode prog_10_method_3_code 28 = .ok (.getfield 13, 3) := by decide +kernel
theorem d4_31 : decode prog_10_method_3_code 31 = .ok (.invokevirtual 32, 3) := by decide +kernel
theorem d4_34 : decode prog_10_method_3_code 34 = .ok (.checkcast 33, 3) := by decide +kernel
theorem d4_37 : decode prog_10_method_3_code 37 = .ok (.areturn, 1) := by decide +kernel
theorem pn_4 : plainName "com/example/limpet/limpet/Execution" = true := by first | (simp [plainName, overriddenIn]; done) | decide +kernel
theorem pd_4_4 : parseMethodDescriptor "()Ljava/lang/Object;" = some ⟨[], some (.object "java/lang/Object")⟩ := by decide +kernel
theorem ef_4 (m : MethodId) (x0 : Addr) : entryFrame m #[(.ref x0)] 1 = mkF m 0 #[.val (.ref x0)] [] := by first | (simp [entryFrame, mkF, argsToLocals, Value.category]; done) | rfl
set_option maxRecDepth 65536 in
set_option maxHeartbeats 40000000 in
theorem rm4 (l : Launch) (Z : State) (a0 : Array Value) (hw : ∀ d ∈ tables_1, d.before a0 Z = true) (ws : List Jvm.Cond) (kk : ClassId) (n : Int32) (vs : List Value) (a1 : Addr) (w2 : Addr) (h0 : Heap) (n0 : Nat) (Z0 : n0 ≤ h0.size) (F_result_a1 : Fld Z h0 a1 "com/example/limpet/limpet/Execution" "result" "[B" (.ref w2)) (E_w2 : Exa Z h0 w2 "[B") (V_w2 : Arv Z h0 w2 kk .byte n vs (.int 0)) (hcap : n.toNatClampNeg ≤ 3) :
    MetFree l (⟨"com/example/limpet/limpet/Execution", "result", "()[B"⟩ : MethodName) (head1 (Jvm.Cond.code (⟨"com/example/limpet/limpet/Execution", "result", "()[B"⟩ : MethodName) prog_10_method_3_code 1 (some (.array .byte)) :: ws) ({ frames := 1, cells := 1, slots := 3, locals := 14 } : Room)) (fun a U => a = #[(.ref a1)] ∧ Z.Warmed39 U.vm ∧ U.heap = h0) (fun _ _ _ _ _ => True) (fun _ U o U' => ∃ v L, o = .returned v ∧ QC Z kk n vs h0 n0 v U'.heap L ∧ FrameEnd U o U' L ({ frames := 1, cells := 1, slots := 3, locals := 14 } : Room).cells ({ frames := 1, cells := 1, slots := 3, locals := 14 } : Room).slots) := by
  refine MetFree.of_bodySF (plainFor_of_name pn_4) hisR ?_
  intro p e s m args below meth c s₁ Bd hml0 hP hK
  obtain ⟨rfl, hZ, hh⟩ := hP
  have hx := Bd.exec
  have hby := Bd.bytes
  have hml : c.maxLocals = 1 := hml0
  have hown : s.vm.findClass "com/example/limpet/limpet/Execution" = some m.cls := findClass_of_methodNamed Bd.named
  have hnm := (name_of_methodNamed Bd.named Bd.method).1
  have X0 : Stand p l e ({ frames := 1, cells := 1, slots := 3, locals := 14 } : Room) s m #[(.ref a1)] below meth c s₁ [] 0 0 := Stand.of_body Bd
  have e0 : s₁.heap = h0 := by rw [← hh, Bd.state]; rfl
  have N0 := Fr.nil n0
  have pre0 : ∀ t, Steps p.tables e below (s₁.setTop (mkF m 0 #[.val (.ref a1)] [])) t → Steps p.tables e below (s₁.setTop (entryFrame m #[(.ref a1)] 1)) t := fun t k => castTop (ef_4 m a1) k
  obtain ⟨T3, X3, e3, st3⟩ := getF X0 hx hZ hown (host := "") (Or.inl (hw _ (List.mem_of_getElem? (i := 19) rfl))) Via.refl e0 F_result_a1 (g := (mkF m 1 #[.val (.ref a1)] [(.ref a1)])) rfl rfl (hb hby d4_1)
  obtain ⟨T4, X4, e4, st4⟩ := getF X3 hx hZ hown (host := "") (Or.inl (hw _ (List.mem_of_getElem? (i := 19) rfl))) Via.refl e3 F_result_a1 (g := (mkF m 28 #[.val (.ref a1)] [(.ref a1)])) rfl rfl (hb hby d4_28)
  obtain ⟨T5, h5, X5, e5, E5, V5, Y5, st5⟩ := cloneH X4 hx hZ hown (hw _ (List.mem_of_getElem? (i := 26) rfl)) (hw _ (List.mem_of_getElem? (i := 27) rfl)) (hw _ (List.mem_of_getElem? (i := 31) rfl)) (hw _ (List.mem_of_getElem? (i := 29) rfl)) (hw _ (List.mem_of_getElem? (i := 30) rfl)) (hw _ (List.mem_of_getElem? (i := 32) rfl)) e4 V_w2.arh E_w2 (g := (mkF m 31 #[.val (.ref a1)] [(.ref w2)])) rfl (by rw [hml]; rfl) rfl (hb hby d4_31) (by decide) (W := 0) (by show 2 * 0 + _ ≤ _; exact Nat.le_of_eq rfl) (by decide) (cap := 3) hcap (by decide) (by decide)
  obtain ⟨b5, g5⟩ : ∃ z, z = h0.size := ⟨_, rfl⟩
  rw [← g5] at V5 Y5 st5
  have K5 : Keep h0 h5 [] := (Keep.refl h0 []).ext E5
  obtain ⟨T6, X6, e6, st6⟩ := castY X5 hx hZ hown (hw _ (List.mem_of_getElem? (i := 33) rfl)) e5 (Ins.self Y5) (g := (mkF m 34 #[.val (.ref a1)] [(.ref b5)])) rfl rfl (hb hby d4_34)
  obtain ⟨fs, hr, hrun, hended, hW, hsame⟩ := X6.leave (v := some (.ref b5)) (fun h => by rw [Bd.returns] at h; cases h)
  refine ⟨_, _, pre0 _ ?_, hrun, hended, _, _, rfl, ?_, ⟨_, rfl⟩, hW, hsame.mono (by decide) (by decide)⟩
  · show Steps p.tables e below (s₁.setTop (mkF m 0 #[.val (.ref a1)] [])) _
    refine XS.aloadN X0.here hx rfl (hb hby d4_0) rfl rfl ?_
    show Steps p.tables e below (s₁.setTop (mkF m 1 #[.val (.ref a1)] [(.ref a1)])) _
    refine st3 _ ?_
    show Steps p.tables e below (T3.setTop (mkF m 4 #[.val (.ref a1)] [(.ref w2)])) _
    refine XS.ifnonnullYes X3.here hx rfl (pc0 := 4) (pc' := 27) rfl (hb hby d4_4) rfl (by decide) (by decide) ?_
    show Steps p.tables e below (T3.setTop (mkF m 27 #[.val (.ref a1)] [])) _
    refine XS.aloadN X3.here hx rfl (hb hby d4_27) rfl rfl ?_
    show Steps p.tables e below (T3.setTop (mkF m 28 #[.val (.ref a1)] [(.ref a1)])) _
    refine st4 _ ?_
    show Steps p.tables e below (T4.setTop (mkF m 31 #[.val (.ref a1)] [(.ref w2)])) _
    refine st5 _ ?_
    show Steps p.tables e below (T5.setTop (mkF m 34 #[.val (.ref a1)] [(.ref b5)])) _
    refine st6 _ ?_
    show Steps p.tables e below (T6.setTop (mkF m 37 #[.val (.ref a1)] [(.ref b5)])) _
    jvm_step X6.here [X6.here.top, hx, (hb hby d4_37), X6.method', Bd.returns, Value.isRef, FieldType.isReference]
    first | (intro acts; rw [hr _ acts rfl rfl rfl]) | rw [hr _ _ rfl rfl rfl]
    exact Steps.refl _
  · show QC Z kk n vs h0 n0 _ T6.heap _
    rw [e6]
    exact ⟨b5, rfl, N0, K5, Nat.le_of_eq g5.symm, Nat.le_trans Z0 (Nat.le_of_eq g5.symm), Y5, V5⟩
theorem d5_0 : decode method_3_code 0 = .ok (.aload_n 0, 1) := by decide +kernel
theorem d5_1 : decode method_3_code 1 = .ok (.ifnull 9, 3) := by decide +kernel
theorem d5_4 : decode method_3_code 4 = .ok (.aload_n 0, 1) := by decide +kernel
theorem d5_5 : decode method_3_code 5 = .ok (.arraylength, 1) := by decide +kernel
theorem d5_6 : decode method_3_code 6 = .ok (.iload_n 1, 1) := by decide +kernel
theorem d5_7 : decode method_3_code 7 = .ok (.if_icmp .eq 5, 3) := by decide +kernel
theorem d5_12 : decode method_3_code 12 = .ok (.iload_n 1, 1) := by decide +kernel
theorem d5_13 : decode method_3_code 13 = .ok (.iconst 1, 1) := by decide +kernel
theorem d5_14 : decode method_3_code 14 = .ok (.if_icmp .lt 12, 3) := by decide +kernel
theorem d5_26 : decode method_3_code 26 = .ok (.iload_n 1, 1) := by decide +kernel
theorem d5_27 : decode method_3_code 27 = .ok (.iconst 2, 1) := by decide +kernel
theorem d5_28 : decode method_3_code 28 = .ok (.if_icmp .lt 12, 3) := by decide +kernel
theorem d5_40 : decode method_3_code 40 = .ok (.iload_n 1, 1) := by decide +kernel
theorem d5_41 : decode method_3_code 41 = .ok (.iconst 3, 1) := by decide +kernel
theorem d5_42 : decode method_3_code 42 = .ok (.if_icmp .lt 13, 3) := by decide +kernel
theorem d5_55 : decode method_3_code 55 = .ok (.iconst 1, 1) := by decide +kernel
theorem d5_56 : decode method_3_code 56 = .ok (.ireturn, 1) := by decide +kernel
theorem pn_5 : plainName "com/example/limpet/limpet/ExecutionResultPinLaw" = true := by first | (simp [plainName, overriddenIn]; done) | decide +kernel
theorem ef_5 (m : MethodId) (x0 : Addr) (x1 : Int32) (x2 : Int32) (x3 : Int32) (x4 : Int32) : entryFrame m #[(.ref x0), (.int x1), (.int x2), (.int x3), (.int x4)] 5 = mkF m 0 #[.val (.ref x0), .val (.int x1), .val (.int x2), .val (.int x3), .val (.int x4)] [] := by first | (simp [entryFrame, mkF, argsToLocals, Value.category]; done) | rfl
def Q5_0 (Z : State) (a1 : Addr) (p2 : Int32) (p3 : Int32) (p4 : Int32) (p5 : Int32) (cl_a1 : Cell) (z_a1 : Int32) (h0 : Heap) (n0 : Nat) (v : Option Value) (h : Heap) (L : List Loc) : Prop := v = some (.int (1 : Int32)) ∧ Fr n0 L ∧ h = h0
set_option maxRecDepth 65536 in
set_option maxHeartbeats 40000000 in
theorem rm5_0 (l : Launch) (Z : State) (a0 : Array Value) (hw : ∀ d ∈ tables_1, d.before a0 Z = true) (ws : List Jvm.Cond) (a1 : Addr) (p2 : Int32) (p3 : Int32) (p4 : Int32) (p5 : Int32) (cl_a1 : Cell) (z_a1 : Int32) (h0 : Heap) (n0 : Nat) (Z0 : n0 ≤ h0.size) (Ar_a1 : Arr Z h0 a1 cl_a1 .byte) (S_a1 : cl_a1.slots.size = z_a1.toNatClampNeg) (N_a1 : ¬ z_a1 < 0) (hc7 : z_a1 = p2) (hc14 : p2 < (1 : Int32)) (hc28 : p2 < (2 : Int32)) (hc42 : p2 < (3 : Int32)) :
    MetFree l (⟨"com/example/limpet/limpet/ExecutionResultPinLaw", "same", "([BIBBB)Z"⟩ : MethodName) (head1 (Jvm.Cond.code (⟨"com/example/limpet/limpet/ExecutionResultPinLaw", "same", "([BIBBB)Z"⟩ : MethodName) method_3_code 5 (some .boolean) :: ws) ({ frames := 0, cells := 0, slots := 0, locals := 0 } : Room)) (fun a U => a = #[(.ref a1), (.int p2), (.int p3), (.int p4), (.int p5)] ∧ Z.Warmed39 U.vm ∧ U.heap = h0) (fun _ _ _ _ _ => True) (fun _ U o U' => ∃ v L, o = .returned v ∧ Q5_0 Z a1 p2 p3 p4 p5 cl_a1 z_a1 h0 n0 v U'.heap L ∧ FrameEnd U o U' L ({ frames := 0, cells := 0, slots := 0, locals := 0 } : Room).cells ({ frames := 0, cells := 0, slots := 0, locals := 0 } : Room).slots) := by
  refine MetFree.of_bodySF (plainFor_of_name pn_5) hisR ?_
  intro p e s m args below meth c s₁ Bd hml0 hP hK
  obtain ⟨rfl, hZ, hh⟩ := hP
  have hx := Bd.exec
  have hby := Bd.bytes
  have hml : c.maxLocals = 5 := hml0
  have hown : s.vm.findClass "com/example/limpet/limpet/ExecutionResultPinLaw" = some m.cls := findClass_of_methodNamed Bd.named
  have hnm := (name_of_methodNamed Bd.named Bd.method).1
  have X0 : Stand p l e ({ frames := 0, cells := 0, slots := 0, locals := 0 } : Room) s m #[(.ref a1), (.int p2), (.int p3), (.int p4), (.int p5)] below meth c s₁ [] 0 0 := Stand.of_body Bd
  have e0 : s₁.heap = h0 := by rw [← hh, Bd.state]; rfl
  have N0 := Fr.nil n0
  have pre0 : ∀ t, Steps p.tables e below (s₁.setTop (mkF m 0 #[.val (.ref a1), .val (.int p2), .val (.int p3), .val (.int p4), .val (.int p5)] [])) t → Steps p.tables e below (s₁.setTop (entryFrame m #[(.ref a1), (.int p2), (.int p3), (.int p4), (.int p5)] 5)) t := fun t k => castTop (ef_5 m a1 p2 p3 p4 p5) k

  obtain ⟨fs, hr, hrun, hended, hW, hsame⟩ := X0.leave (v := some (.int (1 : Int32))) (fun h => by rw [Bd.returns] at h; cases h)
  refine ⟨_, _, pre0 _ ?_, hrun, hended, _, _, rfl, ?_, ⟨_, rfl⟩, hW, hsame.mono (by decide) (by decide)⟩
  · show Steps p.tables e below (s₁.setTop (mkF m 0 #[.val (.ref a1), .val (.int p2), .val (.int p3), .val (.int p4), .val (.int p5)] [])) _
    refine XS.aloadN X0.here hx rfl (hb hby d5_0) rfl rfl ?_
    show Steps p.tables e below (s₁.setTop (mkF m 1 #[.val (.ref a1), .val (.int p2), .val (.int p3), .val (.int p4), .val (.int p5)] [(.ref a1)])) _
    refine XS.ifnullNo X0.here hx rfl (hb hby d5_1) rfl ?_
    show Steps p.tables e below (s₁.setTop (mkF m 4 #[.val (.ref a1), .val (.int p2), .val (.int p3), .val (.int p4), .val (.int p5)] [])) _
    refine XS.aloadN X0.here hx rfl (hb hby d5_4) rfl rfl ?_
    show Steps p.tables e below (s₁.setTop (mkF m 5 #[.val (.ref a1), .val (.int p2), .val (.int p3), .val (.int p4), .val (.int p5)] [(.ref a1)])) _
    refine X0.arraylength hx (by rw [e0]; exact Ar_a1.1) (State.isArrayOf_alike hZ.alike Ar_a1.2.1) (g := (mkF m 5 #[.val (.ref a1), .val (.int p2), .val (.int p3), .val (.int p4), .val (.int p5)] [(.ref a1)])) rfl rfl (hb hby d5_5) _ ?_
    rw [len_of S_a1 N_a1]
    show Steps p.tables e below (s₁.setTop (mkF m 6 #[.val (.ref a1), .val (.int p2), .val (.int p3), .val (.int p4), .val (.int p5)] [(.int z_a1)])) _
    refine XS.iloadN X0.here hx rfl (hb hby d5_6) rfl ?_
    show Steps p.tables e below (s₁.setTop (mkF m 7 #[.val (.ref a1), .val (.int p2), .val (.int p3), .val (.int p4), .val (.int p5)] [(.int p2), (.int z_a1)])) _
    refine XS.icmpYes X0.here hx rfl (pc0 := 7) (pc' := 12) rfl (hb hby d5_7) rfl (teq hc7).1 (by decide) (by decide) ?_
    show Steps p.tables e below (s₁.setTop (mkF m 12 #[.val (.ref a1), .val (.int p2), .val (.int p3), .val (.int p4), .val (.int p5)] [])) _
    refine XS.iloadN X0.here hx rfl (hb hby d5_12) rfl ?_
    show Steps p.tables e below (s₁.setTop (mkF m 13 #[.val (.ref a1), .val (.int p2), .val (.int p3), .val (.int p4), .val (.int p5)] [(.int p2)])) _
    refine XS.iconst X0.here hx rfl (hb hby d5_13) ?_
    show Steps p.tables e below (s₁.setTop (mkF m 14 #[.val (.ref a1), .val (.int p2), .val (.int p3), .val (.int p4), .val (.int p5)] [(.int (1 : Int32)), (.int p2)])) _
    refine XS.icmpYes X0.here hx rfl (pc0 := 14) (pc' := 26) rfl (hb hby d5_14) rfl (tlt hc14).1 (by decide) (by decide) ?_
    show Steps p.tables e below (s₁.setTop (mkF m 26 #[.val (.ref a1), .val (.int p2), .val (.int p3), .val (.int p4), .val (.int p5)] [])) _
    refine XS.iloadN X0.here hx rfl (hb hby d5_26) rfl ?_
    show Steps p.tables e below (s₁.setTop (mkF m 27 #[.val (.ref a1), .val (.int p2), .val (.int p3), .val (.int p4), .val (.int p5)] [(.int p2)])) _
    refine XS.iconst X0.here hx rfl (hb hby d5_27) ?_
    show Steps p.tables e below (s₁.setTop (mkF m 28 #[.val (.ref a1), .val (.int p2), .val (.int p3), .val (.int p4), .val (.int p5)] [(.int (2 : Int32)), (.int p2)])) _
    refine XS.icmpYes X0.here hx rfl (pc0 := 28) (pc' := 40) rfl (hb hby d5_28) rfl (tlt hc28).1 (by decide) (by decide) ?_
    show Steps p.tables e below (s₁.setTop (mkF m 40 #[.val (.ref a1), .val (.int p2), .val (.int p3), .val (.int p4), .val (.int p5)] [])) _
    refine XS.iloadN X0.here hx rfl (hb hby d5_40) rfl ?_
    show Steps p.tables e below (s₁.setTop (mkF m 41 #[.val (.ref a1), .val (.int p2), .val (.int p3), .val (.int p4), .val (.int p5)] [(.int p2)])) _
    refine XS.iconst X0.here hx rfl (hb hby d5_41) ?_
    show Steps p.tables e below (s₁.setTop (mkF m 42 #[.val (.ref a1), .val (.int p2), .val (.int p3), .val (.int p4), .val (.int p5)] [(.int (3 : Int32)), (.int p2)])) _
    refine XS.icmpYes X0.here hx rfl (pc0 := 42) (pc' := 55) rfl (hb hby d5_42) rfl (tlt hc42).1 (by decide) (by decide) ?_
    show Steps p.tables e below (s₁.setTop (mkF m 55 #[.val (.ref a1), .val (.int p2), .val (.int p3), .val (.int p4), .val (.int p5)] [])) _
    refine XS.iconst X0.here hx rfl (hb hby d5_55) ?_
    show Steps p.tables e below (s₁.setTop (mkF m 56 #[.val (.ref a1), .val (.int p2), .val (.int p3), .val (.int p4), .val (.int p5)] [(.int (1 : Int32))])) _
    exact retN X0 hx (t := .boolean) Bd.returns (by simp) (hb hby d5_56) hr
  · show Q5_0 Z a1 p2 p3 p4 p5 cl_a1 z_a1 h0 n0 _ s₁.heap _
    rw [e0]
    exact ⟨rfl, N0, rfl⟩
theorem d5_17 : decode method_3_code 17 = .ok (.aload_n 0, 1) := by decide +kernel
theorem d5_18 : decode method_3_code 18 = .ok (.iconst 0, 1) := by decide +kernel
theorem d5_19 : decode method_3_code 19 = .ok (.baload, 1) := by decide +kernel
theorem d5_20 : decode method_3_code 20 = .ok (.iload_n 2, 1) := by decide +kernel
theorem d5_21 : decode method_3_code 21 = .ok (.if_icmp .eq 5, 3) := by decide +kernel
def Q5_1 (Z : State) (a1 : Addr) (p2 : Int32) (p3 : Int32) (p4 : Int32) (p5 : Int32) (cl_a1 : Cell) (z_a1 : Int32) (w6 : Int32) (h0 : Heap) (n0 : Nat) (v : Option Value) (h : Heap) (L : List Loc) : Prop := v = some (.int (1 : Int32)) ∧ Fr n0 L ∧ h = h0
set_option maxRecDepth 65536 in
set_option maxHeartbeats 40000000 in
theorem rm5_1 (l : Launch) (Z : State) (a0 : Array Value) (hw : ∀ d ∈ tables_1, d.before a0 Z = true) (ws : List Jvm.Cond) (a1 : Addr) (p2 : Int32) (p3 : Int32) (p4 : Int32) (p5 : Int32) (cl_a1 : Cell) (z_a1 : Int32) (w6 : Int32) (h0 : Heap) (n0 : Nat) (Z0 : n0 ≤ h0.size) (Ar_a1 : Arr Z h0 a1 cl_a1 .byte) (S_a1 : cl_a1.slots.size = z_a1.toNatClampNeg) (N_a1 : ¬ z_a1 < 0) (hin19 : ¬ ((0 : Int32) < 0 ∨ cl_a1.slots.size ≤ ((0 : Int32)).toNatClampNeg)) (hat19 : cl_a1.slots[((0 : Int32)).toNatClampNeg]? = some (.int w6)) (hc7 : z_a1 = p2) (hc14 : ¬ (p2 < (1 : Int32))) (hc21 : w6 = p3) (hc28 : p2 < (2 : Int32)) (hc42 : p2 < (3 : Int32)) :
    MetFree l (⟨"com/example/limpet/limpet/ExecutionResultPinLaw", "same", "([BIBBB)Z"⟩ : MethodName) (head1 (Jvm.Cond.code (⟨"com/example/limpet/limpet/ExecutionResultPinLaw", "same", "([BIBBB)Z"⟩ : MethodName) method_3_code 5 (some .boolean) :: ws) ({ frames := 0, cells := 0, slots := 0, locals := 0 } : Room)) (fun a U => a = #[(.ref a1), (.int p2), (.int p3), (.int p4), (.int p5)] ∧ Z.Warmed39 U.vm ∧ U.heap = h0) (fun _ _ _ _ _ => True) (fun _ U o U' => ∃ v L, o = .returned v ∧ Q5_1 Z a1 p2 p3 p4 p5 cl_a1 z_a1 w6 h0 n0 v U'.heap L ∧ FrameEnd U o U' L ({ frames := 0, cells := 0, slots := 0, locals := 0 } : Room).cells ({ frames := 0, cells := 0, slots := 0, locals := 0 } : Room).slots) := by
  refine MetFree.of_bodySF (plainFor_of_name pn_5) hisR ?_
  intro p e s m args below meth c s₁ Bd hml0 hP hK
  obtain ⟨rfl, hZ, hh⟩ := hP
  have hx := Bd.exec
  have hby := Bd.bytes
  have hml : c.maxLocals = 5 := hml0
  have hown : s.vm.findClass "com/example/limpet/limpet/ExecutionResultPinLaw" = some m.cls := findClass_of_methodNamed Bd.named
  have hnm := (name_of_methodNamed Bd.named Bd.method).1
  have X0 : Stand p l e ({ frames := 0, cells := 0, slots := 0, locals := 0 } : Room) s m #[(.ref a1), (.int p2), (.int p3), (.int p4), (.int p5)] below meth c s₁ [] 0 0 := Stand.of_body Bd
  have e0 : s₁.heap = h0 := by rw [← hh, Bd.state]; rfl
  have N0 := Fr.nil n0
  have pre0 : ∀ t, Steps p.tables e below (s₁.setTop (mkF m 0 #[.val (.ref a1), .val (.int p2), .val (.int p3), .val (.int p4), .val (.int p5)] [])) t → Steps p.tables e below (s₁.setTop (entryFrame m #[(.ref a1), (.int p2), (.int p3), (.int p4), (.int p5)] 5)) t := fun t k => castTop (ef_5 m a1 p2 p3 p4 p5) k

  obtain ⟨fs, hr, hrun, hended, hW, hsame⟩ := X0.leave (v := some (.int (1 : Int32))) (fun h => by rw [Bd.returns] at h; cases h)
  refine ⟨_, _, pre0 _ ?_, hrun, hended, _, _, rfl, ?_, ⟨_, rfl⟩, hW, hsame.mono (by decide) (by decide)⟩
  · show Steps p.tables e below (s₁.setTop (mkF m 0 #[.val (.ref a1), .val (.int p2), .val (.int p3), .val (.int p4), .val (.int p5)] [])) _
    refine XS.aloadN X0.here hx rfl (hb hby d5_0) rfl rfl ?_
    show Steps p.tables e below (s₁.setTop (mkF m 1 #[.val (.ref a1), .val (.int p2), .val (.int p3), .val (.int p4), .val (.int p5)] [(.ref a1)])) _
    refine XS.ifnullNo X0.here hx rfl (hb hby d5_1) rfl ?_
    show Steps p.tables e below (s₁.setTop (mkF m 4 #[.val (.ref a1), .val (.int p2), .val (.int p3), .val (.int p4), .val (.int p5)] [])) _
    refine XS.aloadN X0.here hx rfl (hb hby d5_4) rfl rfl ?_
    show Steps p.tables e below (s₁.setTop (mkF m 5 #[.val (.ref a1), .val (.int p2), .val (.int p3), .val (.int p4), .val (.int p5)] [(.ref a1)])) _
    refine X0.arraylength hx (by rw [e0]; exact Ar_a1.1) (State.isArrayOf_alike hZ.alike Ar_a1.2.1) (g := (mkF m 5 #[.val (.ref a1), .val (.int p2), .val (.int p3), .val (.int p4), .val (.int p5)] [(.ref a1)])) rfl rfl (hb hby d5_5) _ ?_
    rw [len_of S_a1 N_a1]
    show Steps p.tables e below (s₁.setTop (mkF m 6 #[.val (.ref a1), .val (.int p2), .val (.int p3), .val (.int p4), .val (.int p5)] [(.int z_a1)])) _
    refine XS.iloadN X0.here hx rfl (hb hby d5_6) rfl ?_
    show Steps p.tables e below (s₁.setTop (mkF m 7 #[.val (.ref a1), .val (.int p2), .val (.int p3), .val (.int p4), .val (.int p5)] [(.int p2), (.int z_a1)])) _
    refine XS.icmpYes X0.here hx rfl (pc0 := 7) (pc' := 12) rfl (hb hby d5_7) rfl (teq hc7).1 (by decide) (by decide) ?_
    show Steps p.tables e below (s₁.setTop (mkF m 12 #[.val (.ref a1), .val (.int p2), .val (.int p3), .val (.int p4), .val (.int p5)] [])) _
    refine XS.iloadN X0.here hx rfl (hb hby d5_12) rfl ?_
    show Steps p.tables e below (s₁.setTop (mkF m 13 #[.val (.ref a1), .val (.int p2), .val (.int p3), .val (.int p4), .val (.int p5)] [(.int p2)])) _
    refine XS.iconst X0.here hx rfl (hb hby d5_13) ?_
    show Steps p.tables e below (s₁.setTop (mkF m 14 #[.val (.ref a1), .val (.int p2), .val (.int p3), .val (.int p4), .val (.int p5)] [(.int (1 : Int32)), (.int p2)])) _
    refine XS.icmpNo X0.here hx rfl (hb hby d5_14) rfl (flt hc14).1 ?_
    show Steps p.tables e below (s₁.setTop (mkF m 17 #[.val (.ref a1), .val (.int p2), .val (.int p3), .val (.int p4), .val (.int p5)] [])) _
    refine XS.aloadN X0.here hx rfl (hb hby d5_17) rfl rfl ?_
    show Steps p.tables e below (s₁.setTop (mkF m 18 #[.val (.ref a1), .val (.int p2), .val (.int p3), .val (.int p4), .val (.int p5)] [(.ref a1)])) _
    refine XS.iconst X0.here hx rfl (hb hby d5_18) ?_
    show Steps p.tables e below (s₁.setTop (mkF m 19 #[.val (.ref a1), .val (.int p2), .val (.int p3), .val (.int p4), .val (.int p5)] [(.int (0 : Int32)), (.ref a1)])) _
    refine X0.baloadBytes hx (j := (0 : Int32)) (v := (.int w6)) (by rw [e0]; exact Ar_a1.1) (State.isArrayOf_alike hZ.alike Ar_a1.2.1) Ar_a1.2.2 hin19 hat19 (g := (mkF m 19 #[.val (.ref a1), .val (.int p2), .val (.int p3), .val (.int p4), .val (.int p5)] [(.int (0 : Int32)), (.ref a1)])) rfl rfl (hb hby d5_19) _ ?_
    show Steps p.tables e below (s₁.setTop (mkF m 20 #[.val (.ref a1), .val (.int p2), .val (.int p3), .val (.int p4), .val (.int p5)] [(.int w6)])) _
    refine XS.iloadN X0.here hx rfl (hb hby d5_20) rfl ?_
    show Steps p.tables e below (s₁.setTop (mkF m 21 #[.val (.ref a1), .val (.int p2), .val (.int p3), .val (.int p4), .val (.int p5)] [(.int p3), (.int w6)])) _
    refine XS.icmpYes X0.here hx rfl (pc0 := 21) (pc' := 26) rfl (hb hby d5_21) rfl (teq hc21).1 (by decide) (by decide) ?_
    show Steps p.tables e below (s₁.setTop (mkF m 26 #[.val (.ref a1), .val (.int p2), .val (.int p3), .val (.int p4), .val (.int p5)] [])) _
    refine XS.iloadN X0.here hx rfl (hb hby d5_26) rfl ?_
    show Steps p.tables e below (s₁.setTop (mkF m 27 #[.val (.ref a1), .val (.int p2), .val (.int p3), .val (.int p4), .val (.int p5)] [(.int p2)])) _
    refine XS.iconst X0.here hx rfl (hb hby d5_27) ?_
    show Steps p.tables e below (s₁.setTop (mkF m 28 #[.val (.ref a1), .val (.int p2), .val (.int p3), .val (.int p4), .val (.int p5)] [(.int (2 : Int32)), (.int p2)])) _
    refine XS.icmpYes X0.here hx rfl (pc0 := 28) (pc' := 40) rfl (hb hby d5_28) rfl (tlt hc28).1 (by decide) (by decide) ?_
    show Steps p.tables e below (s₁.setTop (mkF m 40 #[.val (.ref a1), .val (.int p2), .val (.int p3), .val (.int p4), .val (.int p5)] [])) _
    refine XS.iloadN X0.here hx rfl (hb hby d5_40) rfl ?_
    show Steps p.tables e below (s₁.setTop (mkF m 41 #[.val (.ref a1), .val (.int p2), .val (.int p3), .val (.int p4), .val (.int p5)] [(.int p2)])) _
    refine XS.iconst X0.here hx rfl (hb hby d5_41) ?_
    show Steps p.tables e below (s₁.setTop (mkF m 42 #[.val (.ref a1), .val (.int p2), .val (.int p3), .val (.int p4), .val (.int p5)] [(.int (3 : Int32)), (.int p2)])) _
    refine XS.icmpYes X0.here hx rfl (pc0 := 42) (pc' := 55) rfl (hb hby d5_42) rfl (tlt hc42).1 (by decide) (by decide) ?_
    show Steps p.tables e below (s₁.setTop (mkF m 55 #[.val (.ref a1), .val (.int p2), .val (.int p3), .val (.int p4), .val (.int p5)] [])) _
    refine XS.iconst X0.here hx rfl (hb hby d5_55) ?_
    show Steps p.tables e below (s₁.setTop (mkF m 56 #[.val (.ref a1), .val (.int p2), .val (.int p3), .val (.int p4), .val (.int p5)] [(.int (1 : Int32))])) _
    exact retN X0 hx (t := .boolean) Bd.returns (by simp) (hb hby d5_56) hr
  · show Q5_1 Z a1 p2 p3 p4 p5 cl_a1 z_a1 w6 h0 n0 _ s₁.heap _
    rw [e0]
    exact ⟨rfl, N0, rfl⟩
theorem d5_31 : decode method_3_code 31 = .ok (.aload_n 0, 1) := by decide +kernel
theorem d5_32 : decode method_3_code 32 = .ok (.iconst 1, 1) := by decide +kernel
theorem d5_33 : decode method_3_code 33 = .ok (.baload, 1) := by decide +kernel
theorem d5_34 : decode method_3_code 34 = .ok (.iload_n 3, 1) := by decide +kernel
theorem d5_35 : decode method_3_code 35 = .ok (.if_icmp .eq 5, 3) := by decide +kernel
def Q5_2 (Z : State) (a1 : Addr) (p2 : Int32) (p3 : Int32) (p4 : Int32) (p5 : Int32) (cl_a1 : Cell) (z_a1 : Int32) (w6 : Int32) (w7 : Int32) (h0 : Heap) (n0 : Nat) (v : Option Value) (h : Heap) (L : List Loc) : Prop := v = some (.int (1 : Int32)) ∧ Fr n0 L ∧ h = h0
set_option maxRecDepth 65536 in
set_option maxHeartbeats 40000000 in
theorem rm5_2 (l : Launch) (Z : State) (a0 : Array Value) (hw : ∀ d ∈ tables_1, d.before a0 Z = true) (ws : List Jvm.Cond) (a1 : Addr) (p2 : Int32) (p3 : Int32) (p4 : Int32) (p5 : Int32) (cl_a1 : Cell) (z_a1 : Int32) (w6 : Int32) (w7 : Int32) (h0 : Heap) (n0 : Nat) (Z0 : n0 ≤ h0.size) (Ar_a1 : Arr Z h0 a1 cl_a1 .byte) (S_a1 : cl_a1.slots.size = z_a1.toNatClampNeg) (N_a1 : ¬ z_a1 < 0) (hin19 : ¬ ((0 : Int32) < 0 ∨ cl_a1.slots.size ≤ ((0 : Int32)).toNatClampNeg)) (hat19 : cl_a1.slots[((0 : Int32)).toNatClampNeg]? = some (.int w6)) (hin33 : ¬ ((1 : Int32) < 0 ∨ cl_a1.slots.size ≤ ((1 : Int32)).toNatClampNeg)) (hat33 : cl_a1.slots[((1 : Int32)).toNatClampNeg]? = some (.int w7)) (hc7 : z_a1 = p2) (hc14 : ¬ (p2 < (1 : Int32))) (hc21 : w6 = p3) (hc28 : ¬ (p2 < (2 : Int32))) (hc35 : w7 = p4) (hc42 : p2 < (3 : Int32)) :
    MetFree l (⟨"com/example/limpet/limpet/ExecutionResultPinLaw", "same", "([BIBBB)Z"⟩ : MethodName) (head1 (Jvm.Cond.code (⟨"com/example/limpet/limpet/ExecutionResultPinLaw", "same", "([BIBBB)Z"⟩ : MethodName) method_3_code 5 (some .boolean) :: ws) ({ frames := 0, cells := 0, slots := 0, locals := 0 } : Room)) (fun a U => a = #[(.ref a1), (.int p2), (.int p3), (.int p4), (.int p5)] ∧ Z.Warmed39 U.vm ∧ U.heap = h0) (fun _ _ _ _ _ => True) (fun _ U o U' => ∃ v L, o = .returned v ∧ Q5_2 Z a1 p2 p3 p4 p5 cl_a1 z_a1 w6 w7 h0 n0 v U'.heap L ∧ FrameEnd U o U' L ({ frames := 0, cells := 0, slots := 0, locals := 0 } : Room).cells ({ frames := 0, cells := 0, slots := 0, locals := 0 } : Room).slots) := by
  refine MetFree.of_bodySF (plainFor_of_name pn_5) hisR ?_
  intro p e s m args below meth c s₁ Bd hml0 hP hK
  obtain ⟨rfl, hZ, hh⟩ := hP
  have hx := Bd.exec
  have hby := Bd.bytes
  have hml : c.maxLocals = 5 := hml0
  have hown : s.vm.findClass "com/example/limpet/limpet/ExecutionResultPinLaw" = some m.cls := findClass_of_methodNamed Bd.named
  have hnm := (name_of_methodNamed Bd.named Bd.method).1
  have X0 : Stand p l e ({ frames := 0, cells := 0, slots := 0, locals := 0 } : Room) s m #[(.ref a1), (.int p2), (.int p3), (.int p4), (.int p5)] below meth c s₁ [] 0 0 := Stand.of_body Bd
  have e0 : s₁.heap = h0 := by rw [← hh, Bd.state]; rfl
  have N0 := Fr.nil n0
  have pre0 : ∀ t, Steps p.tables e below (s₁.setTop (mkF m 0 #[.val (.ref a1), .val (.int p2), .val (.int p3), .val (.int p4), .val (.int p5)] [])) t → Steps p.tables e below (s₁.setTop (entryFrame m #[(.ref a1), (.int p2), (.int p3), (.int p4), (.int p5)] 5)) t := fun t k => castTop (ef_5 m a1 p2 p3 p4 p5) k

  obtain ⟨fs, hr, hrun, hended, hW, hsame⟩ := X0.leave (v := some (.int (1 : Int32))) (fun h => by rw [Bd.returns] at h; cases h)
  refine ⟨_, _, pre0 _ ?_, hrun, hended, _, _, rfl, ?_, ⟨_, rfl⟩, hW, hsame.mono (by decide) (by decide)⟩
  · show Steps p.tables e below (s₁.setTop (mkF m 0 #[.val (.ref a1), .val (.int p2), .val (.int p3), .val (.int p4), .val (.int p5)] [])) _
    refine XS.aloadN X0.here hx rfl (hb hby d5_0) rfl rfl ?_
    show Steps p.tables e below (s₁.setTop (mkF m 1 #[.val (.ref a1), .val (.int p2), .val (.int p3), .val (.int p4), .val (.int p5)] [(.ref a1)])) _
    refine XS.ifnullNo X0.here hx rfl (hb hby d5_1) rfl ?_
    show Steps p.tables e below (s₁.setTop (mkF m 4 #[.val (.ref a1), .val (.int p2), .val (.int p3), .val (.int p4), .val (.int p5)] [])) _
    refine XS.aloadN X0.here hx rfl (hb hby d5_4) rfl rfl ?_
    show Steps p.tables e below (s₁.setTop (mkF m 5 #[.val (.ref a1), .val (.int p2), .val (.int p3), .val (.int p4), .val (.int p5)] [(.ref a1)])) _
    refine X0.arraylength hx (by rw [e0]; exact Ar_a1.1) (State.isArrayOf_alike hZ.alike Ar_a1.2.1) (g := (mkF m 5 #[.val (.ref a1), .val (.int p2), .val (.int p3), .val (.int p4), .val (.int p5)] [(.ref a1)])) rfl rfl (hb hby d5_5) _ ?_
    rw [len_of S_a1 N_a1]
    show Steps p.tables e below (s₁.setTop (mkF m 6 #[.val (.ref a1), .val (.int p2), .val (.int p3), .val (.int p4), .val (.int p5)] [(.int z_a1)])) _
    refine XS.iloadN X0.here hx rfl (hb hby d5_6) rfl ?_
    show Steps p.tables e below (s₁.setTop (mkF m 7 #[.val (.ref a1), .val (.int p2), .val (.int p3), .val (.int p4), .val (.int p5)] [(.int p2), (.int z_a1)])) _
    refine XS.icmpYes X0.here hx rfl (pc0 := 7) (pc' := 12) rfl (hb hby d5_7) rfl (teq hc7).1 (by decide) (by decide) ?_
    show Steps p.tables e below (s₁.setTop (mkF m 12 #[.val (.ref a1), .val (.int p2), .val (.int p3), .val (.int p4), .val (.int p5)] [])) _
    refine XS.iloadN X0.here hx rfl (hb hby d5_12) rfl ?_
    show Steps p.tables e below (s₁.setTop (mkF m 13 #[.val (.ref a1), .val (.int p2), .val (.int p3), .val (.int p4), .val (.int p5)] [(.int p2)])) _
    refine XS.iconst X0.here hx rfl (hb hby d5_13) ?_
    show Steps p.tables e below (s₁.setTop (mkF m 14 #[.val (.ref a1), .val (.int p2), .val (.int p3), .val (.int p4), .val (.int p5)] [(.int (1 : Int32)), (.int p2)])) _
    refine XS.icmpNo X0.here hx rfl (hb hby d5_14) rfl (flt hc14).1 ?_
    show Steps p.tables e below (s₁.setTop (mkF m 17 #[.val (.ref a1), .val (.int p2), .val (.int p3), .val (.int p4), .val (.int p5)] [])) _
    refine XS.aloadN X0.here hx rfl (hb hby d5_17) rfl rfl ?_
    show Steps p.tables e below (s₁.setTop (mkF m 18 #[.val (.ref a1), .val (.int p2), .val (.int p3), .val (.int p4), .val (.int p5)] [(.ref a1)])) _
    refine XS.iconst X0.here hx rfl (hb hby d5_18) ?_
    show Steps p.tables e below (s₁.setTop (mkF m 19 #[.val (.ref a1), .val (.int p2), .val (.int p3), .val (.int p4), .val (.int p5)] [(.int (0 : Int32)), (.ref a1)])) _
    refine X0.baloadBytes hx (j := (0 : Int32)) (v := (.int w6)) (by rw [e0]; exact Ar_a1.1) (State.isArrayOf_alike hZ.alike Ar_a1.2.1) Ar_a1.2.2 hin19 hat19 (g := (mkF m 19 #[.val (.ref a1), .val (.int p2), .val (.int p3), .val (.int p4), .val (.int p5)] [(.int (0 : Int32)), (.ref a1)])) rfl rfl (hb hby d5_19) _ ?_
    show Steps p.tables e below (s₁.setTop (mkF m 20 #[.val (.ref a1), .val (.int p2), .val (.int p3), .val (.int p4), .val (.int p5)] [(.int w6)])) _
    refine XS.iloadN X0.here hx rfl (hb hby d5_20) rfl ?_
    show Steps p.tables e below (s₁.setTop (mkF m 21 #[.val (.ref a1), .val (.int p2), .val (.int p3), .val (.int p4), .val (.int p5)] [(.int p3), (.int w6)])) _
    refine XS.icmpYes X0.here hx rfl (pc0 := 21) (pc' := 26) rfl (hb hby d5_21) rfl (teq hc21).1 (by decide) (by decide) ?_
    show Steps p.tables e below (s₁.setTop (mkF m 26 #[.val (.ref a1), .val (.int p2), .val (.int p3), .val (.int p4), .val (.int p5)] [])) _
    refine XS.iloadN X0.here hx rfl (hb hby d5_26) rfl ?_
    show Steps p.tables e below (s₁.setTop (mkF m 27 #[.val (.ref a1), .val (.int p2), .val (.int p3), .val (.int p4), .val (.int p5)] [(.int p2)])) _
    refine XS.iconst X0.here hx rfl (hb hby d5_27) ?_
    show Steps p.tables e below (s₁.setTop (mkF m 28 #[.val (.ref a1), .val (.int p2), .val (.int p3), .val (.int p4), .val (.int p5)] [(.int (2 : Int32)), (.int p2)])) _
    refine XS.icmpNo X0.here hx rfl (hb hby d5_28) rfl (flt hc28).1 ?_
    show Steps p.tables e below (s₁.setTop (mkF m 31 #[.val (.ref a1), .val (.int p2), .val (.int p3), .val (.int p4), .val (.int p5)] [])) _
    refine XS.aloadN X0.here hx rfl (hb hby d5_31) rfl rfl ?_
    show Steps p.tables e below (s₁.setTop (mkF m 32 #[.val (.ref a1), .val (.int p2), .val (.int p3), .val (.int p4), .val (.int p5)] [(.ref a1)])) _
    refine XS.iconst X0.here hx rfl (hb hby d5_32) ?_
    show Steps p.tables e below (s₁.setTop (mkF m 33 #[.val (.ref a1), .val (.int p2), .val (.int p3), .val (.int p4), .val (.int p5)] [(.int (1 : Int32)), (.ref a1)])) _
    refine X0.baloadBytes hx (j := (1 : Int32)) (v := (.int w7)) (by rw [e0]; exact Ar_a1.1) (State.isArrayOf_alike hZ.alike Ar_a1.2.1) Ar_a1.2.2 hin33 hat33 (g := (mkF m 33 #[.val (.ref a1), .val (.int p2), .val (.int p3), .val (.int p4), .val (.int p5)] [(.int (1 : Int32)), (.ref a1)])) rfl rfl (hb hby d5_33) _ ?_
    show Steps p.tables e below (s₁.setTop (mkF m 34 #[.val (.ref a1), .val (.int p2), .val (.int p3), .val (.int p4), .val (.int p5)] [(.int w7)])) _
    refine XS.iloadN X0.here hx rfl (hb hby d5_34) rfl ?_
    show Steps p.tables e below (s₁.setTop (mkF m 35 #[.val (.ref a1), .val (.int p2), .val (.int p3), .val (.int p4), .val (.int p5)] [(.int p4), (.int w7)])) _
    refine XS.icmpYes X0.here hx rfl (pc0 := 35) (pc' := 40) rfl (hb hby d5_35) rfl (teq hc35).1 (by decide) (by decide) ?_
    show Steps p.tables e below (s₁.setTop (mkF m 40 #[.val (.ref a1), .val (.int p2), .val (.int p3), .val (.int p4), .val (.int p5)] [])) _
    refine XS.iloadN X0.here hx rfl (hb hby d5_40) rfl ?_
    show Steps p.tables e below (s₁.setTop (mkF m 41 #[.val (.ref a1), .val (.int p2), .val (.int p3), .val (.int p4), .val (.int p5)] [(.int p2)])) _
    refine XS.iconst X0.here hx rfl (hb hby d5_41) ?_
    show Steps p.tables e below (s₁.setTop (mkF m 42 #[.val (.ref a1), .val (.int p2), .val (.int p3), .val (.int p4), .val (.int p5)] [(.int (3 : Int32)), (.int p2)])) _
    refine XS.icmpYes X0.here hx rfl (pc0 := 42) (pc' := 55) rfl (hb hby d5_42) rfl (tlt hc42).1 (by decide) (by decide) ?_
    show Steps p.tables e below (s₁.setTop (mkF m 55 #[.val (.ref a1), .val (.int p2), .val (.int p3), .val (.int p4), .val (.int p5)] [])) _
    refine XS.iconst X0.here hx rfl (hb hby d5_55) ?_
    show Steps p.tables e below (s₁.setTop (mkF m 56 #[.val (.ref a1), .val (.int p2), .val (.int p3), .val (.int p4), .val (.int p5)] [(.int (1 : Int32))])) _
    exact retN X0 hx (t := .boolean) Bd.returns (by simp) (hb hby d5_56) hr
  · show Q5_2 Z a1 p2 p3 p4 p5 cl_a1 z_a1 w6 w7 h0 n0 _ s₁.heap _
    rw [e0]
    exact ⟨rfl, N0, rfl⟩
theorem d5_45 : decode method_3_code 45 = .ok (.aload_n 0, 1) := by decide +kernel
theorem d5_46 : decode method_3_code 46 = .ok (.iconst 2, 1) := by decide +kernel
theorem d5_47 : decode method_3_code 47 = .ok (.baload, 1) := by decide +kernel
theorem d5_48 : decode method_3_code 48 = .ok (.iload 4, 2) := by decide +kernel
theorem d5_50 : decode method_3_code 50 = .ok (.if_icmp .eq 5, 3) := by decide +kernel
def Q5_3 (Z : State) (a1 : Addr) (p2 : Int32) (p3 : Int32) (p4 : Int32) (p5 : Int32) (cl_a1 : Cell) (z_a1 : Int32) (w6 : Int32) (w7 : Int32) (w8 : Int32) (h0 : Heap) (n0 : Nat) (v : Option Value) (h : Heap) (L : List Loc) : Prop := v = some (.int (1 : Int32)) ∧ Fr n0 L ∧ h = h0
set_option maxRecDepth 65536 in
set_option maxHeartbeats 40000000 in
theorem rm5_3 (l : Launch) (Z : State) (a0 : Array Value) (hw : ∀ d ∈ tables_1, d.before a0 Z = true) (ws : List Jvm.Cond) (a1 : Addr) (p2 : Int32) (p3 : Int32) (p4 : Int32) (p5 : Int32) (cl_a1 : Cell) (z_a1 : Int32) (w6 : Int32) (w7 : Int32) (w8 : Int32) (h0 : Heap) (n0 : Nat) (Z0 : n0 ≤ h0.size) (Ar_a1 : Arr Z h0 a1 cl_a1 .byte) (S_a1 : cl_a1.slots.size = z_a1.toNatClampNeg) (N_a1 : ¬ z_a1 < 0) (hin19 : ¬ ((0 : Int32) < 0 ∨ cl_a1.slots.size ≤ ((0 : Int32)).toNatClampNeg)) (hat19 : cl_a1.slots[((0 : Int32)).toNatClampNeg]? = some (.int w6)) (hin33 : ¬ ((1 : Int32) < 0 ∨ cl_a1.slots.size ≤ ((1 : Int32)).toNatClampNeg)) (hat33 : cl_a1.slots[((1 : Int32)).toNatClampNeg]? = some (.int w7)) (hin47 : ¬ ((2 : Int32) < 0 ∨ cl_a1.slots.size ≤ ((2 : Int32)).toNatClampNeg)) (hat47 : cl_a1.slots[((2 : Int32)).toNatClampNeg]? = some (.int w8)) (hc7 : z_a1 = p2) (hc14 : ¬ (p2 < (1 : Int32))) (hc21 : w6 = p3) (hc28 : ¬ (p2 < (2 : Int32))) (hc35 : w7 = p4) (hc42 : ¬ (p2 < (3 : Int32))) (hc50 : w8 = p5) :
    MetFree l (⟨"com/example/limpet/limpet/ExecutionResultPinLaw", "same", "([BIBBB)Z"⟩ : MethodName) (head1 (Jvm.Cond.code (⟨"com/example/limpet/limpet/ExecutionResultPinLaw", "same", "([BIBBB)Z"⟩ : MethodName) method_3_code 5 (some .boolean) :: ws) ({ frames := 0, cells := 0, slots := 0, locals := 0 } : Room)) (fun a U => a = #[(.ref a1), (.int p2), (.int p3), (.int p4), (.int p5)] ∧ Z.Warmed39 U.vm ∧ U.heap = h0) (fun _ _ _ _ _ => True) (fun _ U o U' => ∃ v L, o = .returned v ∧ Q5_3 Z a1 p2 p3 p4 p5 cl_a1 z_a1 w6 w7 w8 h0 n0 v U'.heap L ∧ FrameEnd U o U' L ({ frames := 0, cells := 0, slots := 0, locals := 0 } : Room).cells ({ frames := 0, cells := 0, slots := 0, locals := 0 } : Room).slots) := by
  refine MetFree.of_bodySF (plainFor_of_name pn_5) hisR ?_
  intro p e s m args below meth c s₁ Bd hml0 hP hK
  obtain ⟨rfl, hZ, hh⟩ := hP
  have hx := Bd.exec
  have hby := Bd.bytes
  have hml : c.maxLocals = 5 := hml0
  have hown : s.vm.findClass "com/example/limpet/limpet/ExecutionResultPinLaw" = some m.cls := findClass_of_methodNamed Bd.named
  have hnm := (name_of_methodNamed Bd.named Bd.method).1
  have X0 : Stand p l e ({ frames := 0, cells := 0, slots := 0, locals := 0 } : Room) s m #[(.ref a1), (.int p2), (.int p3), (.int p4), (.int p5)] below meth c s₁ [] 0 0 := Stand.of_body Bd
  have e0 : s₁.heap = h0 := by rw [← hh, Bd.state]; rfl
  have N0 := Fr.nil n0
  have pre0 : ∀ t, Steps p.tables e below (s₁.setTop (mkF m 0 #[.val (.ref a1), .val (.int p2), .val (.int p3), .val (.int p4), .val (.int p5)] [])) t → Steps p.tables e below (s₁.setTop (entryFrame m #[(.ref a1), (.int p2), (.int p3), (.int p4), (.int p5)] 5)) t := fun t k => castTop (ef_5 m a1 p2 p3 p4 p5) k

  obtain ⟨fs, hr, hrun, hended, hW, hsame⟩ := X0.leave (v := some (.int (1 : Int32))) (fun h => by rw [Bd.returns] at h; cases h)
  refine ⟨_, _, pre0 _ ?_, hrun, hended, _, _, rfl, ?_, ⟨_, rfl⟩, hW, hsame.mono (by decide) (by decide)⟩
  · show Steps p.tables e below (s₁.setTop (mkF m 0 #[.val (.ref a1), .val (.int p2), .val (.int p3), .val (.int p4), .val (.int p5)] [])) _
    refine XS.aloadN X0.here hx rfl (hb hby d5_0) rfl rfl ?_
    show Steps p.tables e below (s₁.setTop (mkF m 1 #[.val (.ref a1), .val (.int p2), .val (.int p3), .val (.int p4), .val (.int p5)] [(.ref a1)])) _
    refine XS.ifnullNo X0.here hx rfl (hb hby d5_1) rfl ?_
    show Steps p.tables e below (s₁.setTop (mkF m 4 #[.val (.ref a1), .val (.int p2), .val (.int p3), .val (.int p4), .val (.int p5)] [])) _
    refine XS.aloadN X0.here hx rfl (hb hby d5_4) rfl rfl ?_
    show Steps p.tables e below (s₁.setTop (mkF m 5 #[.val (.ref a1), .val (.int p2), .val (.int p3), .val (.int p4), .val (.int p5)] [(.ref a1)])) _
    refine X0.arraylength hx (by rw [e0]; exact Ar_a1.1) (State.isArrayOf_alike hZ.alike Ar_a1.2.1) (g := (mkF m 5 #[.val (.ref a1), .val (.int p2), .val (.int p3), .val (.int p4), .val (.int p5)] [(.ref a1)])) rfl rfl (hb hby d5_5) _ ?_
    rw [len_of S_a1 N_a1]
    show Steps p.tables e below (s₁.setTop (mkF m 6 #[.val (.ref a1), .val (.int p2), .val (.int p3), .val (.int p4), .val (.int p5)] [(.int z_a1)])) _
    refine XS.iloadN X0.here hx rfl (hb hby d5_6) rfl ?_
    show Steps p.tables e below (s₁.setTop (mkF m 7 #[.val (.ref a1), .val (.int p2), .val (.int p3), .val (.int p4), .val (.int p5)] [(.int p2), (.int z_a1)])) _
    refine XS.icmpYes X0.here hx rfl (pc0 := 7) (pc' := 12) rfl (hb hby d5_7) rfl (teq hc7).1 (by decide) (by decide) ?_
    show Steps p.tables e below (s₁.setTop (mkF m 12 #[.val (.ref a1), .val (.int p2), .val (.int p3), .val (.int p4), .val (.int p5)] [])) _
    refine XS.iloadN X0.here hx rfl (hb hby d5_12) rfl ?_
    show Steps p.tables e below (s₁.setTop (mkF m 13 #[.val (.ref a1), .val (.int p2), .val (.int p3), .val (.int p4), .val (.int p5)] [(.int p2)])) _
    refine XS.iconst X0.here hx rfl (hb hby d5_13) ?_
    show Steps p.tables e below (s₁.setTop (mkF m 14 #[.val (.ref a1), .val (.int p2), .val (.int p3), .val (.int p4), .val (.int p5)] [(.int (1 : Int32)), (.int p2)])) _
    refine XS.icmpNo X0.here hx rfl (hb hby d5_14) rfl (flt hc14).1 ?_
    show Steps p.tables e below (s₁.setTop (mkF m 17 #[.val (.ref a1), .val (.int p2), .val (.int p3), .val (.int p4), .val (.int p5)] [])) _
    refine XS.aloadN X0.here hx rfl (hb hby d5_17) rfl rfl ?_
    show Steps p.tables e below (s₁.setTop (mkF m 18 #[.val (.ref a1), .val (.int p2), .val (.int p3), .val (.int p4), .val (.int p5)] [(.ref a1)])) _
    refine XS.iconst X0.here hx rfl (hb hby d5_18) ?_
    show Steps p.tables e below (s₁.setTop (mkF m 19 #[.val (.ref a1), .val (.int p2), .val (.int p3), .val (.int p4), .val (.int p5)] [(.int (0 : Int32)), (.ref a1)])) _
    refine X0.baloadBytes hx (j := (0 : Int32)) (v := (.int w6)) (by rw [e0]; exact Ar_a1.1) (State.isArrayOf_alike hZ.alike Ar_a1.2.1) Ar_a1.2.2 hin19 hat19 (g := (mkF m 19 #[.val (.ref a1), .val (.int p2), .val (.int p3), .val (.int p4), .val (.int p5)] [(.int (0 : Int32)), (.ref a1)])) rfl rfl (hb hby d5_19) _ ?_
    show Steps p.tables e below (s₁.setTop (mkF m 20 #[.val (.ref a1), .val (.int p2), .val (.int p3), .val (.int p4), .val (.int p5)] [(.int w6)])) _
    refine XS.iloadN X0.here hx rfl (hb hby d5_20) rfl ?_
    show Steps p.tables e below (s₁.setTop (mkF m 21 #[.val (.ref a1), .val (.int p2), .val (.int p3), .val (.int p4), .val (.int p5)] [(.int p3), (.int w6)])) _
    refine XS.icmpYes X0.here hx rfl (pc0 := 21) (pc' := 26) rfl (hb hby d5_21) rfl (teq hc21).1 (by decide) (by decide) ?_
    show Steps p.tables e below (s₁.setTop (mkF m 26 #[.val (.ref a1), .val (.int p2), .val (.int p3), .val (.int p4), .val (.int p5)] [])) _
    refine XS.iloadN X0.here hx rfl (hb hby d5_26) rfl ?_
    show Steps p.tables e below (s₁.setTop (mkF m 27 #[.val (.ref a1), .val (.int p2), .val (.int p3), .val (.int p4), .val (.int p5)] [(.int p2)])) _
    refine XS.iconst X0.here hx rfl (hb hby d5_27) ?_
    show Steps p.tables e below (s₁.setTop (mkF m 28 #[.val (.ref a1), .val (.int p2), .val (.int p3), .val (.int p4), .val (.int p5)] [(.int (2 : Int32)), (.int p2)])) _
    refine XS.icmpNo X0.here hx rfl (hb hby d5_28) rfl (flt hc28).1 ?_
    show Steps p.tables e below (s₁.setTop (mkF m 31 #[.val (.ref a1), .val (.int p2), .val (.int p3), .val (.int p4), .val (.int p5)] [])) _
    refine XS.aloadN X0.here hx rfl (hb hby d5_31) rfl rfl ?_
    show Steps p.tables e below (s₁.setTop (mkF m 32 #[.val (.ref a1), .val (.int p2), .val (.int p3), .val (.int p4), .val (.int p5)] [(.ref a1)])) _
    refine XS.iconst X0.here hx rfl (hb hby d5_32) ?_
    show Steps p.tables e below (s₁.setTop (mkF m 33 #[.val (.ref a1), .val (.int p2), .val (.int p3), .val (.int p4), .val (.int p5)] [(.int (1 : Int32)), (.ref a1)])) _
    refine X0.baloadBytes hx (j := (1 : Int32)) (v := (.int w7)) (by rw [e0]; exact Ar_a1.1) (State.isArrayOf_alike hZ.alike Ar_a1.2.1) Ar_a1.2.2 hin33 hat33 (g := (mkF m 33 #[.val (.ref a1), .val (.int p2), .val (.int p3), .val (.int p4), .val (.int p5)] [(.int (1 : Int32)), (.ref a1)])) rfl rfl (hb hby d5_33) _ ?_
    show Steps p.tables e below (s₁.setTop (mkF m 34 #[.val (.ref a1), .val (.int p2), .val (.int p3), .val (.int p4), .val (.int p5)] [(.int w7)])) _
    refine XS.iloadN X0.here hx rfl (hb hby d5_34) rfl ?_
    show Steps p.tables e below (s₁.setTop (mkF m 35 #[.val (.ref a1), .val (.int p2), .val (.int p3), .val (.int p4), .val (.int p5)] [(.int p4), (.int w7)])) _
    refine XS.icmpYes X0.here hx rfl (pc0 := 35) (pc' := 40) rfl (hb hby d5_35) rfl (teq hc35).1 (by decide) (by decide) ?_
    show Steps p.tables e below (s₁.setTop (mkF m 40 #[.val (.ref a1), .val (.int p2), .val (.int p3), .val (.int p4), .val (.int p5)] [])) _
    refine XS.iloadN X0.here hx rfl (hb hby d5_40) rfl ?_
    show Steps p.tables e below (s₁.setTop (mkF m 41 #[.val (.ref a1), .val (.int p2), .val (.int p3), .val (.int p4), .val (.int p5)] [(.int p2)])) _
    refine XS.iconst X0.here hx rfl (hb hby d5_41) ?_
    show Steps p.tables e below (s₁.setTop (mkF m 42 #[.val (.ref a1), .val (.int p2), .val (.int p3), .val (.int p4), .val (.int p5)] [(.int (3 : Int32)), (.int p2)])) _
    refine XS.icmpNo X0.here hx rfl (hb hby d5_42) rfl (flt hc42).1 ?_
    show Steps p.tables e below (s₁.setTop (mkF m 45 #[.val (.ref a1), .val (.int p2), .val (.int p3), .val (.int p4), .val (.int p5)] [])) _
    refine XS.aloadN X0.here hx rfl (hb hby d5_45) rfl rfl ?_
    show Steps p.tables e below (s₁.setTop (mkF m 46 #[.val (.ref a1), .val (.int p2), .val (.int p3), .val (.int p4), .val (.int p5)] [(.ref a1)])) _
    refine XS.iconst X0.here hx rfl (hb hby d5_46) ?_
    show Steps p.tables e below (s₁.setTop (mkF m 47 #[.val (.ref a1), .val (.int p2), .val (.int p3), .val (.int p4), .val (.int p5)] [(.int (2 : Int32)), (.ref a1)])) _
    refine X0.baloadBytes hx (j := (2 : Int32)) (v := (.int w8)) (by rw [e0]; exact Ar_a1.1) (State.isArrayOf_alike hZ.alike Ar_a1.2.1) Ar_a1.2.2 hin47 hat47 (g := (mkF m 47 #[.val (.ref a1), .val (.int p2), .val (.int p3), .val (.int p4), .val (.int p5)] [(.int (2 : Int32)), (.ref a1)])) rfl rfl (hb hby d5_47) _ ?_
    show Steps p.tables e below (s₁.setTop (mkF m 48 #[.val (.ref a1), .val (.int p2), .val (.int p3), .val (.int p4), .val (.int p5)] [(.int w8)])) _
    refine XS.iload X0.here hx rfl (hb hby d5_48) rfl ?_
    show Steps p.tables e below (s₁.setTop (mkF m 50 #[.val (.ref a1), .val (.int p2), .val (.int p3), .val (.int p4), .val (.int p5)] [(.int p5), (.int w8)])) _
    refine XS.icmpYes X0.here hx rfl (pc0 := 50) (pc' := 55) rfl (hb hby d5_50) rfl (teq hc50).1 (by decide) (by decide) ?_
    show Steps p.tables e below (s₁.setTop (mkF m 55 #[.val (.ref a1), .val (.int p2), .val (.int p3), .val (.int p4), .val (.int p5)] [])) _
    refine XS.iconst X0.here hx rfl (hb hby d5_55) ?_
    show Steps p.tables e below (s₁.setTop (mkF m 56 #[.val (.ref a1), .val (.int p2), .val (.int p3), .val (.int p4), .val (.int p5)] [(.int (1 : Int32))])) _
    exact retN X0 hx (t := .boolean) Bd.returns (by simp) (hb hby d5_56) hr
  · show Q5_3 Z a1 p2 p3 p4 p5 cl_a1 z_a1 w6 w7 w8 h0 n0 _ s₁.heap _
    rw [e0]
    exact ⟨rfl, N0, rfl⟩
def QS (h0 : Heap) (n0 : Nat) (v : Option Value) (h : Heap) (L : List Loc) : Prop := v = some (.int (1 : Int32)) ∧ Fr n0 L ∧ h = h0
theorem rmS (l : Launch) (Z : State) (a0 : Array Value) (hw : ∀ d ∈ tables_1, d.before a0 Z = true) (ws : List Jvm.Cond) (kk : ClassId) (a1 : Addr) (n x0 x1 x2 : Int32) (h0 : Heap) (n0 : Nat) (Z0 : n0 ≤ h0.size) (V : Arv Z h0 a1 kk .byte n (own_bytes x0 x1 x2) (.int 0)) (hn : (n = 0 ∨ n = 1 ∨ n = 2 ∨ n = 3)) :
    MetFree l (⟨"com/example/limpet/limpet/ExecutionResultPinLaw", "same", "([BIBBB)Z"⟩ : MethodName) (head1 (Jvm.Cond.code (⟨"com/example/limpet/limpet/ExecutionResultPinLaw", "same", "([BIBBB)Z"⟩ : MethodName) method_3_code 5 (some .boolean) :: ws) ({ frames := 0, cells := 0, slots := 0, locals := 0 } : Room)) (fun a U => a = #[(.ref a1), (.int n), (.int x0), (.int x1), (.int x2)] ∧ Z.Warmed39 U.vm ∧ U.heap = h0) (fun _ _ _ _ _ => True) (fun _ U o U' => ∃ v L, o = .returned v ∧ QS h0 n0 v U'.heap L ∧ FrameEnd U o U' L ({ frames := 0, cells := 0, slots := 0, locals := 0 } : Room).cells ({ frames := 0, cells := 0, slots := 0, locals := 0 } : Room).slots) := by
  obtain ⟨c, A, q1, S, q3, H, G⟩ := V
  rcases hn with rfl | rfl | rfl | rfl
  · exact rm5_0 l Z a0 hw ws a1 0 x0 x1 x2 c 0 h0 n0 Z0 A S q3 rfl (by decide) (by decide) (by decide)
  · have i0 : ¬ ((0 : Int32) < 0 ∨ c.slots.size ≤ ((0 : Int32)).toNatClampNeg) := inb_of S ⟨by decide, by decide⟩
    exact rm5_1 l Z a0 hw ws a1 1 x0 x1 x2 c 1 x0 h0 n0 Z0 A S q3 i0 (H 0 (by rw [S]; decide)) rfl (by decide) rfl (by decide) (by decide)
  · have i0 : ¬ ((0 : Int32) < 0 ∨ c.slots.size ≤ ((0 : Int32)).toNatClampNeg) := inb_of S ⟨by decide, by decide⟩
    have i1 : ¬ ((1 : Int32) < 0 ∨ c.slots.size ≤ ((1 : Int32)).toNatClampNeg) := inb_of S ⟨by decide, by decide⟩
    exact rm5_2 l Z a0 hw ws a1 2 x0 x1 x2 c 2 x0 x1 h0 n0 Z0 A S q3 i0 (H 0 (by rw [S]; decide)) i1 (H 1 (by rw [S]; decide)) rfl (by decide) rfl (by decide) rfl (by decide)
  · have i0 : ¬ ((0 : Int32) < 0 ∨ c.slots.size ≤ ((0 : Int32)).toNatClampNeg) := inb_of S ⟨by decide, by decide⟩
    have i1 : ¬ ((1 : Int32) < 0 ∨ c.slots.size ≤ ((1 : Int32)).toNatClampNeg) := inb_of S ⟨by decide, by decide⟩
    have i2 : ¬ ((2 : Int32) < 0 ∨ c.slots.size ≤ ((2 : Int32)).toNatClampNeg) := inb_of S ⟨by decide, by decide⟩
    exact rm5_3 l Z a0 hw ws a1 3 x0 x1 x2 c 3 x0 x1 x2 h0 n0 Z0 A S q3 i0 (H 0 (by rw [S]; decide)) i1 (H 1 (by rw [S]; decide)) i2 (H 2 (by rw [S]; decide)) rfl (by decide) rfl (by decide) rfl (by decide) rfl
theorem d6_0 : decode prog_10_method_2_code 0 = .ok (.aload_n 0, 1) := by decide +kernel
theorem d6_1 : decode prog_10_method_2_code 1 = .ok (.getfield 7, 3) := by decide +kernel
theorem d6_4 : decode prog_10_method_2_code 4 = .ok (.areturn, 1) := by decide +kernel
theorem pn_6 : plainName "com/example/limpet/limpet/Execution" = true := by first | (simp [plainName, overriddenIn]; done) | decide +kernel
theorem ef_6 (m : MethodId) (x0 : Addr) : entryFrame m #[(.ref x0)] 1 = mkF m 0 #[.val (.ref x0)] [] := by first | (simp [entryFrame, mkF, argsToLocals, Value.category]; done) | rfl
def Q6 (Z : State) (a1 : Addr) (w2 : Addr) (h0 : Heap) (n0 : Nat) (v : Option Value) (h : Heap) (L : List Loc) : Prop := v = some (.ref w2) ∧ Fr n0 L ∧ h = h0
set_option maxRecDepth 65536 in
set_option maxHeartbeats 40000000 in
theorem rm6 (l : Launch) (Z : State) (a0 : Array Value) (hw : ∀ d ∈ tables_1, d.before a0 Z = true) (ws : List Jvm.Cond) (a1 : Addr) (w2 : Addr) (h0 : Heap) (n0 : Nat) (Z0 : n0 ≤ h0.size) (F_outcome_a1 : Fld Z h0 a1 "com/example/limpet/limpet/Execution" "outcome" "Lcom/example/limpet/limpet/Execution$Outcome;" (.ref w2)) :
    MetFree l (⟨"com/example/limpet/limpet/Execution", "outcome", "()Lcom/example/limpet/limpet/Execution$Outcome;"⟩ : MethodName) (head1 (Jvm.Cond.code (⟨"com/example/limpet/limpet/Execution", "outcome", "()Lcom/example/limpet/limpet/Execution$Outcome;"⟩ : MethodName) prog_10_method_2_code 1 (some (.object "com/example/limpet/limpet/Execution$Outcome")) :: ws) ({ frames := 0, cells := 0, slots := 0, locals := 0 } : Room)) (fun a U => a = #[(.ref a1)] ∧ Z.Warmed39 U.vm ∧ U.heap = h0) (fun _ _ _ _ _ => True) (fun _ U o U' => ∃ v L, o = .returned v ∧ Q6 Z a1 w2 h0 n0 v U'.heap L ∧ FrameEnd U o U' L ({ frames := 0, cells := 0, slots := 0, locals := 0 } : Room).cells ({ frames := 0, cells := 0, slots := 0, locals := 0 } : Room).slots) := by
  refine MetFree.of_bodySF (plainFor_of_name pn_6) hisR ?_
  intro p e s m args below meth c s₁ Bd hml0 hP hK
  obtain ⟨rfl, hZ, hh⟩ := hP
  have hx := Bd.exec
  have hby := Bd.bytes
  have hml : c.maxLocals = 1 := hml0
  have hown : s.vm.findClass "com/example/limpet/limpet/Execution" = some m.cls := findClass_of_methodNamed Bd.named
  have hnm := (name_of_methodNamed Bd.named Bd.method).1
  have X0 : Stand p l e ({ frames := 0, cells := 0, slots := 0, locals := 0 } : Room) s m #[(.ref a1)] below meth c s₁ [] 0 0 := Stand.of_body Bd
  have e0 : s₁.heap = h0 := by rw [← hh, Bd.state]; rfl
  have N0 := Fr.nil n0
  have pre0 : ∀ t, Steps p.tables e below (s₁.setTop (mkF m 0 #[.val (.ref a1)] [])) t → Steps p.tables e below (s₁.setTop (entryFrame m #[(.ref a1)] 1)) t := fun t k => castTop (ef_6 m a1) k
  obtain ⟨T3, X3, e3, st3⟩ := getF X0 hx hZ hown (host := "") (Or.inl (hw _ (List.mem_of_getElem? (i := 17) rfl))) Via.refl e0 F_outcome_a1 (g := (mkF m 1 #[.val (.ref a1)] [(.ref a1)])) rfl rfl (hb hby d6_1)
  obtain ⟨fs, hr, hrun, hended, hW, hsame⟩ := X3.leave (v := some (.ref w2)) (fun h => by rw [Bd.returns] at h; cases h)
  refine ⟨_, _, pre0 _ ?_, hrun, hended, _, _, rfl, ?_, ⟨_, rfl⟩, hW, hsame.mono (by decide) (by decide)⟩
  · show Steps p.tables e below (s₁.setTop (mkF m 0 #[.val (.ref a1)] [])) _
    refine XS.aloadN X0.here hx rfl (hb hby d6_0) rfl rfl ?_
    show Steps p.tables e below (s₁.setTop (mkF m 1 #[.val (.ref a1)] [(.ref a1)])) _
    refine st3 _ ?_
    show Steps p.tables e below (T3.setTop (mkF m 4 #[.val (.ref a1)] [(.ref w2)])) _
    jvm_step X3.here [X3.here.top, hx, (hb hby d6_4), X3.method', Bd.returns, Value.isRef, FieldType.isReference]
    first | (intro acts; rw [hr _ acts rfl rfl rfl]) | rw [hr _ _ rfl rfl rfl]
    exact Steps.refl _
  · show Q6 Z a1 w2 h0 n0 _ T3.heap _
    rw [e3]
    exact ⟨rfl, N0, rfl⟩
def Q0 (n0 : Nat) (v : Option Value) (L : List Loc) : Prop := v = some (.int (1 : Int32)) ∧ Fr n0 L
theorem pn_0 : plainName "com/example/limpet/limpet/ExecutionResultPinLaw" = true := by first | (simp [plainName, overriddenIn]; done) | decide +kernel
theorem pd_0_0 : parseMethodDescriptor "(IBBB)[B" = some ⟨[.int, .byte, .byte, .byte], some (.array .byte)⟩ := by decide +kernel
theorem pd_0_1 : parseMethodDescriptor "(Lcom/example/limpet/limpet/Execution$Outcome;[B)V" = some ⟨[(.object "com/example/limpet/limpet/Execution$Outcome"), (.array .byte)], none⟩ := by decide +kernel
theorem pd_0_3 : parseMethodDescriptor "()[B" = some ⟨[], some (.array .byte)⟩ := by decide +kernel
theorem pd_0_5 : parseMethodDescriptor "([BIBBB)Z" = some ⟨[(.array .byte), .int, .byte, .byte, .byte], some .boolean⟩ := by decide +kernel
theorem pd_0_6 : parseMethodDescriptor "()Lcom/example/limpet/limpet/Execution$Outcome;" = some ⟨[], some (.object "com/example/limpet/limpet/Execution$Outcome")⟩ := by decide +kernel
theorem ef_0 (m : MethodId) (x0 : Int32) (x1 : Int32) (x2 : Int32) (x3 : Int32) (x4 : Int32) : entryFrame m #[(.int x0), (.int x1), (.int x2), (.int x3), (.int x4)] maxLocals = mkF m 0 #[.val (.int x0), .val (.int x1), .val (.int x2), .val (.int x3), .val (.int x4), .unset, .unset, .unset, .unset, .unset, .unset, .unset, .unset, .unset] [] := by first | (simp [entryFrame, mkF, argsToLocals, Value.category, maxLocals]; done) | rfl
set_option maxRecDepth 65536 in
set_option maxHeartbeats 40000000 in
theorem rm0_f1 (l : Launch) (Z : State) (a0 : Array Value) (hw : ∀ d ∈ tables_1, d.before a0 Z = true) (ws : List Jvm.Cond) (p1 : Int32) (p2 : Int32) (p3 : Int32) (p4 : Int32) (p5 : Int32) (w6 : Addr) (h0 : Heap) (n0 : Nat) (Z0 : n0 ≤ h0.size) (hn : (p1 &&& (3 : Int32)) = 0 ∨ (p1 &&& (3 : Int32)) = 1 ∨ (p1 &&& (3 : Int32)) = 2 ∨ (p1 &&& (3 : Int32)) = 3) (S_EXECUTED : Sta Z h0 "com/example/limpet/limpet/Execution$Outcome" "EXECUTED" "Lcom/example/limpet/limpet/Execution$Outcome;" (.ref w6)) (hc21 : ¬ ((p5 &&& (1 : Int32)) = (0 : Int32))) (hc98 : ¬ ((p1 &&& (3 : Int32)) < (1 : Int32))) :
    MetFree l x (head1 (Jvm.Cond.code x code maxLocals ret :: ws) room_1) (fun a U => a = #[(.int p1), (.int p2), (.int p3), (.int p4), (.int p5)] ∧ Z.Warmed39 U.vm ∧ U.heap = h0) (fun _ _ _ _ _ => True) (fun _ U o U' => ∃ v L, o = .returned v ∧ Q0 n0 v L ∧ FrameEnd U o U' L room_1.cells room_1.slots) := by
  refine MetFree.of_bodySF (plainFor_of_name pn_0) hisR ?_
  intro p e s m args below meth c s₁ Bd hml0 hP hK
  obtain ⟨rfl, hZ, hh⟩ := hP
  have hx := Bd.exec
  have hby := Bd.bytes
  have hml : c.maxLocals = 14 := hml0
  have hown : s.vm.findClass "com/example/limpet/limpet/ExecutionResultPinLaw" = some m.cls := findClass_of_methodNamed Bd.named
  have hnm := (name_of_methodNamed Bd.named Bd.method).1
  have X0 : Stand p l e room_1 s m #[(.int p1), (.int p2), (.int p3), (.int p4), (.int p5)] below meth c s₁ [] 0 0 := Stand.of_body Bd
  have e0 : s₁.heap = h0 := by rw [← hh, Bd.state]; rfl
  have N0 := Fr.nil n0
  have pre0 : ∀ t, Steps p.tables e below (s₁.setTop (mkF m 0 #[.val (.int p1), .val (.int p2), .val (.int p3), .val (.int p4), .val (.int p5), .unset, .unset, .unset, .unset, .unset, .unset, .unset, .unset, .unset] [])) t → Steps p.tables e below (s₁.setTop (entryFrame m #[(.int p1), (.int p2), (.int p3), (.int p4), (.int p5)] maxLocals)) t := fun t k => castTop (ef_0 m p1 p2 p3 p4 p5) k
  obtain ⟨T7, X7, e7, st7⟩ := getS2 X0 hx hZ hown (host := "") (Or.inl (hw _ (List.mem_of_getElem? (i := 43) rfl))) Via.refl e0 S_EXECUTED (g := (mkF m 24 #[.val (.int p1), .val (.int p2), .val (.int p3), .val (.int p4), .val (.int p5), .val (.int (p1 &&& (3 : Int32))), .val (.int (p2.toInt8.toInt32)), .val (.int (p3.toInt8.toInt32)), .val (.int (p4.toInt8.toInt32)), .unset, .unset, .unset, .unset, .unset] [])) rfl (hb hby at_24)
  obtain ⟨_, _, ⟨T8, L8, k8, n8⟩, -, X8, ⟨Lc8, hQ8, l8, y8, z8⟩, st8⟩ := Jvm.LawKit.callS X7 hx (y := (⟨"com/example/limpet/limpet/ExecutionResultPinLaw", "make", "(IBBB)[B"⟩ : MethodName)) hown (mvT hZ (hw _ (List.mem_of_getElem? (i := 3) rfl))) (mvT hZ (hw _ (List.mem_of_getElem? (i := 4) rfl))) (mvT hZ (hw _ (List.mem_of_getElem? (i := 5) rfl))) (mvT hZ (hw _ (List.mem_of_getElem? (i := 6) rfl))) (by decide) (backOf (W := 0) (rmM l Z a0 hw [] (p1 &&& (3 : Int32)) (p2.toInt8.toInt32) (p3.toInt8.toInt32) (p4.toInt8.toInt32) h0 n0 Z0 hn) hZ (hw _ (List.mem_of_getElem? (i := 6) rfl)) (hw _ (List.mem_of_getElem? (i := 5) rfl)) (by decide) (by decide)) (g := (mkF m 43 #[.val (.int p1), .val (.int p2), .val (.int p3), .val (.int p4), .val (.int p5), .val (.int (p1 &&& (3 : Int32))), .val (.int (p2.toInt8.toInt32)), .val (.int (p3.toInt8.toInt32)), .val (.int (p4.toInt8.toInt32)), .val (.ref w6), .unset, .unset, .unset, .unset] [(.int (p4.toInt8.toInt32)), (.int (p3.toInt8.toInt32)), (.int (p2.toInt8.toInt32)), (.int (p1 &&& (3 : Int32)))])) rfl (by rw [hml]; rfl) (argsL := [(.int (p1 &&& (3 : Int32))), (.int (p2.toInt8.toInt32)), (.int (p3.toInt8.toInt32)), (.int (p4.toInt8.toInt32))]) (rest := []) (lenOf pd_0_0 rfl) rfl (by show 2 * 0 + _ ≤ _; exact Nat.le_of_eq rfl) (hb hby at_43) (fun _ _ => ⟨rfl, e7, (Nat.le_of_ble_eq_true rfl), (Nat.le_of_ble_eq_true rfl)⟩)
  dsimp only [Pt.U, Pt.locs, Pt.cells, Pt.slots] at X8 l8 y8 z8 st8 hQ8
  subst l8 y8 z8
  obtain ⟨i8, kk, rfl, N8q, K8, s8, m8, Y8, V8⟩ := hQ8
  simp only [own_n8] at V8
  have N8 := Fr.app N0 N8q
  obtain ⟨T9, h9, X9, e9, E9, A9, D9, -, st9⟩ := newO X8 hx hZ hown (hw _ (List.mem_of_getElem? (i := 8) rfl)) (hw _ (List.mem_of_getElem? (i := 9) rfl)) (hw _ (List.mem_of_getElem? (i := 10) rfl)) rfl (g := (mkF m 48 #[.val (.int p1), .val (.int p2), .val (.int p3), .val (.int p4), .val (.int p5), .val (.int (p1 &&& (3 : Int32))), .val (.int (p2.toInt8.toInt32)), .val (.int (p3.toInt8.toInt32)), .val (.int (p4.toInt8.toInt32)), .val (.ref w6), .val (.ref i8), .unset, .unset, .unset] [])) rfl (hb hby at_48) (by decide) (by decide)
  obtain ⟨b9, g9⟩ : ∃ z, z = T8.heap.size := ⟨_, rfl⟩      -- the fresh object's address
  rw [← g9] at A9 D9 st9      -- A9 : Exa Z h9 b9 "com/example/limpet/limpet/Execution"; E9 : Ext T8.heap h9 (carries every older fact: .ext E9)
  have F_outcome_b9 : Fld Z h9 b9 "com/example/limpet/limpet/Execution" "outcome" "Lcom/example/limpet/limpet/Execution$Outcome;" .null := D9 (Or.inr (hw _ (List.mem_of_getElem? (i := 18) rfl))) (ty := (.object "com/example/limpet/limpet/Execution$Outcome")) (by decide)
  have F_result_b9 : Fld Z h9 b9 "com/example/limpet/limpet/Execution" "result" "[B" .null := D9 (Or.inr (hw _ (List.mem_of_getElem? (i := 20) rfl))) (ty := (.array .byte)) (by decide)
  have E_b9 := A9
  have g_b9 : n0 ≤ b9 := Nat.le_trans (Nat.le_trans Z0 K8.1) (Nat.le_of_eq g9.symm)
  have sz_b9 : h0.size ≤ b9 := (Nat.le_trans K8.1 (Nat.le_of_eq g9.symm))
  have K9 : Keep h0 h9 [] := K8.ext E9
  obtain ⟨_, _, ⟨T10, L10, k10, n10⟩, -, X10, ⟨Lc10, hQ10, l10, y10, z10⟩, st10⟩ := X9.specialBack hx (y := (⟨"com/example/limpet/limpet/Execution", "<init>", "(Lcom/example/limpet/limpet/Execution$Outcome;[B)V"⟩ : MethodName)) rfl hown (mvT hZ (hw _ (List.mem_of_getElem? (i := 11) rfl))) (mvT hZ (hw _ (List.mem_of_getElem? (i := 12) rfl))) (mvT hZ (hw _ (List.mem_of_getElem? (i := 13) rfl))) (by decide) (backOf (W := 1) (rm2 l Z a0 hw [] b9 w6 i8 .null .null h9 n0 (Nat.le_trans (Nat.le_trans Z0 K8.1) E9.1) E_b9 F_outcome_b9 g_b9 F_result_b9) hZ (hw _ (List.mem_of_getElem? (i := 13) rfl)) (hw _ (List.mem_of_getElem? (i := 10) rfl)) (by decide) (by decide)) (g := (mkF m 56 #[.val (.int p1), .val (.int p2), .val (.int p3), .val (.int p4), .val (.int p5), .val (.int (p1 &&& (3 : Int32))), .val (.int (p2.toInt8.toInt32)), .val (.int (p3.toInt8.toInt32)), .val (.int (p4.toInt8.toInt32)), .val (.ref w6), .val (.ref i8), .unset, .unset, .unset] [(.ref i8), (.ref w6), (.ref b9), (.ref b9)])) rfl (by rw [hml]; rfl) (Steps.refl _) (a := b9) (argsL := [(.ref w6), (.ref i8)]) (rest := [(.ref b9)]) (lenOf pd_0_1 rfl) rfl (by show 2 * 0 + _ ≤ _; exact Nat.le_of_eq rfl) (hb hby at_56) (fun _ _ => ⟨rfl, e9, (Nat.le_of_ble_eq_true rfl), (Nat.le_of_ble_eq_true rfl)⟩)
  dsimp only [Pt.U, Pt.locs, Pt.cells, Pt.slots] at X10 l10 y10 z10 st10 hQ10
  subst l10 y10 z10
  obtain ⟨rfl, N10q, K10, Y10, Fo10, Fr10⟩ := hQ10
  have V10 := (V8.ext E9).keep K10 (ninS (Nat.ne_of_lt (Nat.lt_of_lt_of_le V8.lt (Nat.le_of_eq g9.symm))) nin0)
  have Yi10 := (Y8.ext E9).keep K10
  have Z10 : n0 ≤ T10.heap.size := Nat.le_trans (Nat.le_trans (Nat.le_trans Z0 K8.1) E9.1) K10.1
  have hcap : (p1 &&& (3 : Int32)).toNatClampNeg ≤ 3 := by rcases hn with h | h | h | h <;> rw [h] <;> decide
  have N10 := Fr.app N8 N10q
  obtain ⟨cq11, kq11, q11a, q11b, q11c⟩ := isOf hZ rfl Y10
  obtain ⟨_, _, ⟨T11, L11, k11, n11⟩, -, X11, ⟨Lc11, hQ11, l11, y11, z11⟩, st11⟩ := X10.virtualBack hx (y := (⟨"com/example/limpet/limpet/Execution", "result", "()[B"⟩ : MethodName)) (z := (⟨"com/example/limpet/limpet/Execution", "result", "()[B"⟩ : MethodName)) hown (mvT hZ (hw _ (List.mem_of_getElem? (i := 21) rfl))) (mvT hZ (hw _ (List.mem_of_getElem? (i := 22) rfl))) (notFace_of_selects (args := #[]) (mvT hZ (hw _ (List.mem_of_getElem? (i := 24) rfl)))) (mvT hZ (hw _ (List.mem_of_getElem? (i := 24) rfl))) (mvT hZ (hw _ (List.mem_of_getElem? (i := 23) rfl))) (by decide) (backOf (W := 0) (rm4 l Z a0 hw [] kk (p1 &&& (3 : Int32)) (own_bytes (p2.toInt8.toInt32) (p3.toInt8.toInt32) (p4.toInt8.toInt32)) b9 i8 T10.heap n0 Z10 Fr10 Yi10 V10 hcap) hZ (hw _ (List.mem_of_getElem? (i := 25) rfl)) (hw _ (List.mem_of_getElem? (i := 10) rfl)) (by decide) (by decide)) q11a q11c (g := (mkF m 63 #[.val (.int p1), .val (.int p2), .val (.int p3), .val (.int p4), .val (.int p5), .val (.int (p1 &&& (3 : Int32))), .val (.int (p2.toInt8.toInt32)), .val (.int (p3.toInt8.toInt32)), .val (.int (p4.toInt8.toInt32)), .val (.ref w6), .val (.ref i8), .val (.ref b9), .unset, .unset] [(.ref b9)])) rfl (by rw [hml]; rfl) (Steps.refl _) (argsL := []) (rest := []) (lenOf pd_0_3 rfl) rfl (by show 2 * 0 + _ ≤ _; exact Nat.le_of_eq rfl) (hb hby at_63) (fun _ _ => ⟨rfl, rfl, (Nat.le_of_ble_eq_true rfl), (Nat.le_of_ble_eq_true rfl)⟩)
  dsimp only [Pt.U, Pt.locs, Pt.cells, Pt.slots] at X11 l11 y11 z11 st11 hQ11
  subst l11 y11 z11
  obtain ⟨i11, rfl, N11q, K11, s11, m11, Y11, V11⟩ := hQ11
  have ne1 : i8 ≠ i11 := Nat.ne_of_lt (Nat.lt_of_lt_of_le V10.lt s11)
  have ne2 : b9 ≠ i11 := Nat.ne_of_lt (Nat.lt_of_lt_of_le Y10.lt s11)
  have Z11 : n0 ≤ T11.heap.size := Nat.le_trans Z10 K11.1
  have Vi11 := V10.keep K11 nin0
  have Yi11 := Yi10.keep K11
  have Yb11 := Y10.keep K11
  have Fo11 := Fo10.keep K11 nin0
  have Fr11 := Fr10.keep K11 nin0
  have N11 := Fr.app N10 N11q
  obtain ⟨_, _, ⟨T12, L12, k12, n12⟩, -, X12, ⟨Lc12, hQ12, l12, y12, z12⟩, st12⟩ := Jvm.LawKit.callS X11 hx (y := (⟨"com/example/limpet/limpet/ExecutionResultPinLaw", "same", "([BIBBB)Z"⟩ : MethodName)) hown (mvT hZ (hw _ (List.mem_of_getElem? (i := 35) rfl))) (mvT hZ (hw _ (List.mem_of_getElem? (i := 36) rfl))) (mvT hZ (hw _ (List.mem_of_getElem? (i := 5) rfl))) (mvT hZ (hw _ (List.mem_of_getElem? (i := 37) rfl))) (by decide) (backOf (W := 0) (rmS l Z a0 hw [] kk i11 (p1 &&& (3 : Int32)) (p2.toInt8.toInt32) (p3.toInt8.toInt32) (p4.toInt8.toInt32) T11.heap n0 Z11 V11 hn) hZ (hw _ (List.mem_of_getElem? (i := 37) rfl)) (hw _ (List.mem_of_getElem? (i := 5) rfl)) (by decide) (by decide)) (g := (mkF m 87 #[.val (.int p1), .val (.int p2), .val (.int p3), .val (.int p4), .val (.int p5), .val (.int (p1 &&& (3 : Int32))), .val (.int (p2.toInt8.toInt32)), .val (.int (p3.toInt8.toInt32)), .val (.int (p4.toInt8.toInt32)), .val (.ref w6), .val (.ref i8), .val (.ref b9), .val (.ref i11), .unset] [(.int (p4.toInt8.toInt32)), (.int (p3.toInt8.toInt32)), (.int (p2.toInt8.toInt32)), (.int (p1 &&& (3 : Int32))), (.ref i11)])) rfl (by rw [hml]; rfl) (argsL := [(.ref i11), (.int (p1 &&& (3 : Int32))), (.int (p2.toInt8.toInt32)), (.int (p3.toInt8.toInt32)), (.int (p4.toInt8.toInt32))]) (rest := []) (lenOf pd_0_5 rfl) rfl (by show 2 * 0 + _ ≤ _; exact Nat.le_of_eq rfl) (hb hby at_87) (fun _ _ => ⟨rfl, rfl, (Nat.le_of_ble_eq_true rfl), (Nat.le_of_ble_eq_true rfl)⟩)
  dsimp only [Pt.U, Pt.locs, Pt.cells, Pt.slots] at X12 l12 y12 z12 st12 hQ12
  subst l12 y12 z12
  obtain ⟨rfl, N12q, hE12⟩ := hQ12
  have V12 : Arv Z T12.heap i11 kk .byte (p1 &&& (3 : Int32)) (own_bytes (p2.toInt8.toInt32) (p3.toInt8.toInt32) (p4.toInt8.toInt32)) (.int 0) := by rw [hE12]; exact V11
  obtain ⟨cl_i, Ar_i, q_i, S_i, N_i, H_i, G_i⟩ := V12
  have hpos : (0 : Int32) < (p1 &&& (3 : Int32)) := by rcases hn with h | h | h | h <;> rw [h] at hc98 ⊢ <;> revert hc98 <;> decide
  have hin107 : ¬ ((0 : Int32) < 0 ∨ cl_i.slots.size ≤ ((0 : Int32)).toNatClampNeg) := inb_of S_i ⟨by decide, hpos⟩
  have hat107 : cl_i.slots[((0 : Int32)).toNatClampNeg]? = some (.int (p2.toInt8.toInt32)) := H_i 0 (Nat.lt_of_not_le fun q => hin107 (Or.inr q))
  have N12 := Fr.app N11 N12q
  obtain ⟨T14, h14, X14, e14, W14, st14⟩ := stB X12 hx hZ rfl Ar_i (j := (0 : Int32)) hin107 (g := (mkF m 111 #[.val (.int p1), .val (.int p2), .val (.int p3), .val (.int p4), .val (.int p5), .val (.int (p1 &&& (3 : Int32))), .val (.int (p2.toInt8.toInt32)), .val (.int (p3.toInt8.toInt32)), .val (.int (p4.toInt8.toInt32)), .val (.ref w6), .val (.ref i8), .val (.ref b9), .val (.ref i11), .unset] [(.int (((p2.toInt8.toInt32) + (1 : Int32)).toInt8.toInt32)), (.int (0 : Int32)), (.ref i11)])) rfl rfl (hb hby at_111)
  have N14 := Fr.snoc X14 N12 m11
  have Vi14 : Arv Z h14 i8 kk .byte (p1 &&& (3 : Int32)) (own_bytes (p2.toInt8.toInt32) (p3.toInt8.toInt32) (p4.toInt8.toInt32)) (.int 0) := (by rw [hE12]; exact Vi11 : Arv Z T12.heap i8 kk .byte (p1 &&& (3 : Int32)) (own_bytes (p2.toInt8.toInt32) (p3.toInt8.toInt32) (p4.toInt8.toInt32)) (.int 0)).other W14 ne1
  have Yi14 : Exa Z h14 i8 "[B" := (by rw [hE12]; exact Yi11 : Exa Z T12.heap i8 "[B").wr W14
  have Yb14 : Exa Z h14 b9 "com/example/limpet/limpet/Execution" := (by rw [hE12]; exact Yb11 : Exa Z T12.heap b9 "com/example/limpet/limpet/Execution").wr W14
  have Fo14 : Fld Z h14 b9 "com/example/limpet/limpet/Execution" "outcome" "Lcom/example/limpet/limpet/Execution$Outcome;" (.ref w6) := (by rw [hE12]; exact Fo11 : Fld Z T12.heap b9 "com/example/limpet/limpet/Execution" "outcome" "Lcom/example/limpet/limpet/Execution$Outcome;" (.ref w6)).other W14 (Or.inl ne2)
  have Fr14 : Fld Z h14 b9 "com/example/limpet/limpet/Execution" "result" "[B" (.ref i8) := (by rw [hE12]; exact Fr11 : Fld Z T12.heap b9 "com/example/limpet/limpet/Execution" "result" "[B" (.ref i8)).other W14 (Or.inl ne2)
  have lt11 : i11 < h14.size := by rw [W14.size, hE12]; exact V11.lt
  have Z14 : n0 ≤ h14.size := by rw [W14.size, hE12]; exact Z11
  obtain ⟨cq15, kq15, q15a, q15b, q15c⟩ := isOf hZ e14 Yb14
  obtain ⟨_, _, ⟨T15, L15, k15, n15⟩, -, X15, ⟨Lc15, hQ15, l15, y15, z15⟩, st15⟩ := X14.virtualBack hx (y := (⟨"com/example/limpet/limpet/Execution", "result", "()[B"⟩ : MethodName)) (z := (⟨"com/example/limpet/limpet/Execution", "result", "()[B"⟩ : MethodName)) hown (mvT hZ (hw _ (List.mem_of_getElem? (i := 21) rfl))) (mvT hZ (hw _ (List.mem_of_getElem? (i := 22) rfl))) (notFace_of_selects (args := #[]) (mvT hZ (hw _ (List.mem_of_getElem? (i := 24) rfl)))) (mvT hZ (hw _ (List.mem_of_getElem? (i := 24) rfl))) (mvT hZ (hw _ (List.mem_of_getElem? (i := 23) rfl))) (by decide) (backOf (W := 0) (rm4 l Z a0 hw [] kk (p1 &&& (3 : Int32)) (own_bytes (p2.toInt8.toInt32) (p3.toInt8.toInt32) (p4.toInt8.toInt32)) b9 i8 h14 n0 Z14 Fr14 Yi14 Vi14 hcap) hZ (hw _ (List.mem_of_getElem? (i := 25) rfl)) (hw _ (List.mem_of_getElem? (i := 10) rfl)) (by decide) (by decide)) q15a q15c (g := (mkF m 114 #[.val (.int p1), .val (.int p2), .val (.int p3), .val (.int p4), .val (.int p5), .val (.int (p1 &&& (3 : Int32))), .val (.int (p2.toInt8.toInt32)), .val (.int (p3.toInt8.toInt32)), .val (.int (p4.toInt8.toInt32)), .val (.ref w6), .val (.ref i8), .val (.ref b9), .val (.ref i11), .unset] [(.ref b9)])) rfl (by rw [hml]; rfl) (Steps.refl _) (argsL := []) (rest := []) (lenOf pd_0_3 rfl) rfl (by show 2 * 0 + _ ≤ _; exact Nat.le_of_eq rfl) (hb hby at_114) (fun _ _ => ⟨rfl, e14, (Nat.le_of_ble_eq_true rfl), (Nat.le_of_ble_eq_true rfl)⟩)
  dsimp only [Pt.U, Pt.locs, Pt.cells, Pt.slots] at X15 l15 y15 z15 st15 hQ15
  subst l15 y15 z15
  obtain ⟨i15, rfl, N15q, K15, s15, m15, Y15, V15⟩ := hQ15
  have ne3 : i15 ≠ i11 := Ne.symm (Nat.ne_of_lt (Nat.lt_of_lt_of_le lt11 s15))
  have ne4 : i15 ≠ i8 := Ne.symm (Nat.ne_of_lt (Nat.lt_of_lt_of_le Vi14.lt s15))
  have Z15 : n0 ≤ T15.heap.size := Nat.le_trans Z14 K15.1
  have N15 := Fr.app N14 N15q
  obtain ⟨_, _, ⟨T16, L16, k16, n16⟩, -, X16, ⟨Lc16, hQ16, l16, y16, z16⟩, st16⟩ := Jvm.LawKit.callS X15 hx (y := (⟨"com/example/limpet/limpet/ExecutionResultPinLaw", "same", "([BIBBB)Z"⟩ : MethodName)) hown (mvT hZ (hw _ (List.mem_of_getElem? (i := 35) rfl))) (mvT hZ (hw _ (List.mem_of_getElem? (i := 36) rfl))) (mvT hZ (hw _ (List.mem_of_getElem? (i := 5) rfl))) (mvT hZ (hw _ (List.mem_of_getElem? (i := 37) rfl))) (by decide) (backOf (W := 0) (rmS l Z a0 hw [] kk i15 (p1 &&& (3 : Int32)) (p2.toInt8.toInt32) (p3.toInt8.toInt32) (p4.toInt8.toInt32) T15.heap n0 Z15 V15 hn) hZ (hw _ (List.mem_of_getElem? (i := 37) rfl)) (hw _ (List.mem_of_getElem? (i := 5) rfl)) (by decide) (by decide)) (g := (mkF m 145 #[.val (.int p1), .val (.int p2), .val (.int p3), .val (.int p4), .val (.int p5), .val (.int (p1 &&& (3 : Int32))), .val (.int (p2.toInt8.toInt32)), .val (.int (p3.toInt8.toInt32)), .val (.int (p4.toInt8.toInt32)), .val (.ref w6), .val (.ref i8), .val (.ref b9), .val (.ref i11), .val (.ref i15)] [(.int (p4.toInt8.toInt32)), (.int (p3.toInt8.toInt32)), (.int (p2.toInt8.toInt32)), (.int (p1 &&& (3 : Int32))), (.ref i15)])) rfl (by rw [hml]; rfl) (argsL := [(.ref i15), (.int (p1 &&& (3 : Int32))), (.int (p2.toInt8.toInt32)), (.int (p3.toInt8.toInt32)), (.int (p4.toInt8.toInt32))]) (rest := []) (lenOf pd_0_5 rfl) rfl (by show 2 * 0 + _ ≤ _; exact Nat.le_of_eq rfl) (hb hby at_145) (fun _ _ => ⟨rfl, rfl, (Nat.le_of_ble_eq_true rfl), (Nat.le_of_ble_eq_true rfl)⟩)
  dsimp only [Pt.U, Pt.locs, Pt.cells, Pt.slots] at X16 l16 y16 z16 st16 hQ16
  subst l16 y16 z16
  obtain ⟨rfl, N16q, hE16⟩ := hQ16
  have Yb16 : Exa Z T16.heap b9 "com/example/limpet/limpet/Execution" := by rw [hE16]; exact Yb14.keep K15
  have Fo16 : Fld Z T16.heap b9 "com/example/limpet/limpet/Execution" "outcome" "Lcom/example/limpet/limpet/Execution$Outcome;" (.ref w6) := by rw [hE16]; exact Fo14.keep K15 nin0
  have Z16 : n0 ≤ T16.heap.size := by rw [hE16]; exact Z15
  have N16 := Fr.app N15 N16q
  obtain ⟨cq17, kq17, q17a, q17b, q17c⟩ := isOf hZ rfl Yb16
  obtain ⟨_, _, ⟨T17, L17, k17, n17⟩, -, X17, ⟨Lc17, hQ17, l17, y17, z17⟩, st17⟩ := X16.virtualBack hx (y := (⟨"com/example/limpet/limpet/Execution", "outcome", "()Lcom/example/limpet/limpet/Execution$Outcome;"⟩ : MethodName)) (z := (⟨"com/example/limpet/limpet/Execution", "outcome", "()Lcom/example/limpet/limpet/Execution$Outcome;"⟩ : MethodName)) hown (mvT hZ (hw _ (List.mem_of_getElem? (i := 38) rfl))) (mvT hZ (hw _ (List.mem_of_getElem? (i := 39) rfl))) (notFace_of_selects (args := #[]) (mvT hZ (hw _ (List.mem_of_getElem? (i := 41) rfl)))) (mvT hZ (hw _ (List.mem_of_getElem? (i := 41) rfl))) (mvT hZ (hw _ (List.mem_of_getElem? (i := 40) rfl))) (by decide) (backOf (W := 0) (rm6 l Z a0 hw [] b9 w6 T16.heap n0 Z16 Fo16) hZ (hw _ (List.mem_of_getElem? (i := 42) rfl)) (hw _ (List.mem_of_getElem? (i := 10) rfl)) (by decide) (by decide)) q17a q17c (g := (mkF m 155 #[.val (.int p1), .val (.int p2), .val (.int p3), .val (.int p4), .val (.int p5), .val (.int (p1 &&& (3 : Int32))), .val (.int (p2.toInt8.toInt32)), .val (.int (p3.toInt8.toInt32)), .val (.int (p4.toInt8.toInt32)), .val (.ref w6), .val (.ref i8), .val (.ref b9), .val (.ref i11), .val (.ref i15)] [(.ref b9)])) rfl (by rw [hml]; rfl) (Steps.refl _) (argsL := []) (rest := []) (lenOf pd_0_6 rfl) rfl (by show 2 * 0 + _ ≤ _; exact Nat.le_of_eq rfl) (hb hby at_155) (fun _ _ => ⟨rfl, rfl, (Nat.le_of_ble_eq_true rfl), (Nat.le_of_ble_eq_true rfl)⟩)
  dsimp only [Pt.U, Pt.locs, Pt.cells, Pt.slots] at X17 l17 y17 z17 st17 hQ17
  subst l17 y17 z17
  obtain ⟨rfl, N17q, hE17⟩ := hQ17      -- what it returned, that it wrote nothing old, and the rest of your Q6
  have N17 := Fr.app N16 N17q
  obtain ⟨fs, hr, hrun, hended, hW, hsame⟩ := X17.leave (v := some (.int (1 : Int32))) (fun h => by rw [Bd.returns] at h; cases h)
  refine ⟨_, _, pre0 _ ?_, hrun, hended, _, _, rfl, ?_, ⟨_, rfl⟩, hW, hsame.mono (by decide) (by decide)⟩
  · show Steps p.tables e below (s₁.setTop (mkF m 0 #[.val (.int p1), .val (.int p2), .val (.int p3), .val (.int p4), .val (.int p5), .unset, .unset, .unset, .unset, .unset, .unset, .unset, .unset, .unset] [])) _
    refine XS.iloadN X0.here hx rfl (hb hby at_0) rfl ?_
    show Steps p.tables e below (s₁.setTop (mkF m 1 #[.val (.int p1), .val (.int p2), .val (.int p3), .val (.int p4), .val (.int p5), .unset, .unset, .unset, .unset, .unset, .unset, .unset, .unset, .unset] [(.int p1)])) _
    refine XS.iconst X0.here hx rfl (hb hby at_1) ?_
    show Steps p.tables e below (s₁.setTop (mkF m 2 #[.val (.int p1), .val (.int p2), .val (.int p3), .val (.int p4), .val (.int p5), .unset, .unset, .unset, .unset, .unset, .unset, .unset, .unset, .unset] [(.int (3 : Int32)), (.int p1)])) _
    refine XS.iand X0.here hx rfl (hb hby at_2) rfl ?_
    show Steps p.tables e below (s₁.setTop (mkF m 3 #[.val (.int p1), .val (.int p2), .val (.int p3), .val (.int p4), .val (.int p5), .unset, .unset, .unset, .unset, .unset, .unset, .unset, .unset, .unset] [(.int (p1 &&& (3 : Int32)))])) _
    refine XS.istore X0.here hx rfl (hb hby at_3) rfl (l' := #[.val (.int p1), .val (.int p2), .val (.int p3), .val (.int p4), .val (.int p5), .val (.int (p1 &&& (3 : Int32))), .unset, .unset, .unset, .unset, .unset, .unset, .unset, .unset]) rfl ?_
    show Steps p.tables e below (s₁.setTop (mkF m 5 #[.val (.int p1), .val (.int p2), .val (.int p3), .val (.int p4), .val (.int p5), .val (.int (p1 &&& (3 : Int32))), .unset, .unset, .unset, .unset, .unset, .unset, .unset, .unset] [])) _
    refine XS.iloadN X0.here hx rfl (hb hby at_5) rfl ?_
    show Steps p.tables e below (s₁.setTop (mkF m 6 #[.val (.int p1), .val (.int p2), .val (.int p3), .val (.int p4), .val (.int p5), .val (.int (p1 &&& (3 : Int32))), .unset, .unset, .unset, .unset, .unset, .unset, .unset, .unset] [(.int p2)])) _
    refine XS.i2b X0.here hx rfl (hb hby at_6) rfl ?_
    show Steps p.tables e below (s₁.setTop (mkF m 7 #[.val (.int p1), .val (.int p2), .val (.int p3), .val (.int p4), .val (.int p5), .val (.int (p1 &&& (3 : Int32))), .unset, .unset, .unset, .unset, .unset, .unset, .unset, .unset] [(.int (p2.toInt8.toInt32))])) _
    refine XS.istore X0.here hx rfl (hb hby at_7) rfl (l' := #[.val (.int p1), .val (.int p2), .val (.int p3), .val (.int p4), .val (.int p5), .val (.int (p1 &&& (3 : Int32))), .val (.int (p2.toInt8.toInt32)), .unset, .unset, .unset, .unset, .unset, .unset, .unset]) rfl ?_
    show Steps p.tables e below (s₁.setTop (mkF m 9 #[.val (.int p1), .val (.int p2), .val (.int p3), .val (.int p4), .val (.int p5), .val (.int (p1 &&& (3 : Int32))), .val (.int (p2.toInt8.toInt32)), .unset, .unset, .unset, .unset, .unset, .unset, .unset] [])) _
    refine XS.iloadN X0.here hx rfl (hb hby at_9) rfl ?_
    show Steps p.tables e below (s₁.setTop (mkF m 10 #[.val (.int p1), .val (.int p2), .val (.int p3), .val (.int p4), .val (.int p5), .val (.int (p1 &&& (3 : Int32))), .val (.int (p2.toInt8.toInt32)), .unset, .unset, .unset, .unset, .unset, .unset, .unset] [(.int p3)])) _
    refine XS.i2b X0.here hx rfl (hb hby at_10) rfl ?_
    show Steps p.tables e below (s₁.setTop (mkF m 11 #[.val (.int p1), .val (.int p2), .val (.int p3), .val (.int p4), .val (.int p5), .val (.int (p1 &&& (3 : Int32))), .val (.int (p2.toInt8.toInt32)), .unset, .unset, .unset, .unset, .unset, .unset, .unset] [(.int (p3.toInt8.toInt32))])) _
    refine XS.istore X0.here hx rfl (hb hby at_11) rfl (l' := #[.val (.int p1), .val (.int p2), .val (.int p3), .val (.int p4), .val (.int p5), .val (.int (p1 &&& (3 : Int32))), .val (.int (p2.toInt8.toInt32)), .val (.int (p3.toInt8.toInt32)), .unset, .unset, .unset, .unset, .unset, .unset]) rfl ?_
    show Steps p.tables e below (s₁.setTop (mkF m 13 #[.val (.int p1), .val (.int p2), .val (.int p3), .val (.int p4), .val (.int p5), .val (.int (p1 &&& (3 : Int32))), .val (.int (p2.toInt8.toInt32)), .val (.int (p3.toInt8.toInt32)), .unset, .unset, .unset, .unset, .unset, .unset] [])) _
    refine XS.iloadN X0.here hx rfl (hb hby at_13) rfl ?_
    show Steps p.tables e below (s₁.setTop (mkF m 14 #[.val (.int p1), .val (.int p2), .val (.int p3), .val (.int p4), .val (.int p5), .val (.int (p1 &&& (3 : Int32))), .val (.int (p2.toInt8.toInt32)), .val (.int (p3.toInt8.toInt32)), .unset, .unset, .unset, .unset, .unset, .unset] [(.int p4)])) _
    refine XS.i2b X0.here hx rfl (hb hby at_14) rfl ?_
    show Steps p.tables e below (s₁.setTop (mkF m 15 #[.val (.int p1), .val (.int p2), .val (.int p3), .val (.int p4), .val (.int p5), .val (.int (p1 &&& (3 : Int32))), .val (.int (p2.toInt8.toInt32)), .val (.int (p3.toInt8.toInt32)), .unset, .unset, .unset, .unset, .unset, .unset] [(.int (p4.toInt8.toInt32))])) _
    refine XS.istore X0.here hx rfl (hb hby at_15) rfl (l' := #[.val (.int p1), .val (.int p2), .val (.int p3), .val (.int p4), .val (.int p5), .val (.int (p1 &&& (3 : Int32))), .val (.int (p2.toInt8.toInt32)), .val (.int (p3.toInt8.toInt32)), .val (.int (p4.toInt8.toInt32)), .unset, .unset, .unset, .unset, .unset]) rfl ?_
    show Steps p.tables e below (s₁.setTop (mkF m 17 #[.val (.int p1), .val (.int p2), .val (.int p3), .val (.int p4), .val (.int p5), .val (.int (p1 &&& (3 : Int32))), .val (.int (p2.toInt8.toInt32)), .val (.int (p3.toInt8.toInt32)), .val (.int (p4.toInt8.toInt32)), .unset, .unset, .unset, .unset, .unset] [])) _
    refine XS.iload X0.here hx rfl (hb hby at_17) rfl ?_
    show Steps p.tables e below (s₁.setTop (mkF m 19 #[.val (.int p1), .val (.int p2), .val (.int p3), .val (.int p4), .val (.int p5), .val (.int (p1 &&& (3 : Int32))), .val (.int (p2.toInt8.toInt32)), .val (.int (p3.toInt8.toInt32)), .val (.int (p4.toInt8.toInt32)), .unset, .unset, .unset, .unset, .unset] [(.int p5)])) _
    refine XS.iconst X0.here hx rfl (hb hby at_19) ?_
    show Steps p.tables e below (s₁.setTop (mkF m 20 #[.val (.int p1), .val (.int p2), .val (.int p3), .val (.int p4), .val (.int p5), .val (.int (p1 &&& (3 : Int32))), .val (.int (p2.toInt8.toInt32)), .val (.int (p3.toInt8.toInt32)), .val (.int (p4.toInt8.toInt32)), .unset, .unset, .unset, .unset, .unset] [(.int (1 : Int32)), (.int p5)])) _
    refine XS.iand X0.here hx rfl (hb hby at_20) rfl ?_
    show Steps p.tables e below (s₁.setTop (mkF m 21 #[.val (.int p1), .val (.int p2), .val (.int p3), .val (.int p4), .val (.int p5), .val (.int (p1 &&& (3 : Int32))), .val (.int (p2.toInt8.toInt32)), .val (.int (p3.toInt8.toInt32)), .val (.int (p4.toInt8.toInt32)), .unset, .unset, .unset, .unset, .unset] [(.int (p5 &&& (1 : Int32)))])) _
    refine XS.ifNo X0.here hx rfl (hb hby at_21) rfl ((if0 _ _).trans (feq hc21).1) ?_
    show Steps p.tables e below (s₁.setTop (mkF m 24 #[.val (.int p1), .val (.int p2), .val (.int p3), .val (.int p4), .val (.int p5), .val (.int (p1 &&& (3 : Int32))), .val (.int (p2.toInt8.toInt32)), .val (.int (p3.toInt8.toInt32)), .val (.int (p4.toInt8.toInt32)), .unset, .unset, .unset, .unset, .unset] [])) _
    refine st7 _ ?_
    show Steps p.tables e below (T7.setTop (mkF m 27 #[.val (.int p1), .val (.int p2), .val (.int p3), .val (.int p4), .val (.int p5), .val (.int (p1 &&& (3 : Int32))), .val (.int (p2.toInt8.toInt32)), .val (.int (p3.toInt8.toInt32)), .val (.int (p4.toInt8.toInt32)), .unset, .unset, .unset, .unset, .unset] [(.ref w6)])) _
    refine XS.goto X7.here hx rfl (pc0 := 27) (pc' := 33) rfl (hb hby at_27) (by decide) (by decide) ?_
    show Steps p.tables e below (T7.setTop (mkF m 33 #[.val (.int p1), .val (.int p2), .val (.int p3), .val (.int p4), .val (.int p5), .val (.int (p1 &&& (3 : Int32))), .val (.int (p2.toInt8.toInt32)), .val (.int (p3.toInt8.toInt32)), .val (.int (p4.toInt8.toInt32)), .unset, .unset, .unset, .unset, .unset] [(.ref w6)])) _
    refine XS.astore X7.here hx rfl (hb hby at_33) rfl rfl (l' := #[.val (.int p1), .val (.int p2), .val (.int p3), .val (.int p4), .val (.int p5), .val (.int (p1 &&& (3 : Int32))), .val (.int (p2.toInt8.toInt32)), .val (.int (p3.toInt8.toInt32)), .val (.int (p4.toInt8.toInt32)), .val (.ref w6), .unset, .unset, .unset, .unset]) rfl ?_
    show Steps p.tables e below (T7.setTop (mkF m 35 #[.val (.int p1), .val (.int p2), .val (.int p3), .val (.int p4), .val (.int p5), .val (.int (p1 &&& (3 : Int32))), .val (.int (p2.toInt8.toInt32)), .val (.int (p3.toInt8.toInt32)), .val (.int (p4.toInt8.toInt32)), .val (.ref w6), .unset, .unset, .unset, .unset] [])) _
    refine XS.iload X7.here hx rfl (hb hby at_35) rfl ?_
    show Steps p.tables e below (T7.setTop (mkF m 37 #[.val (.int p1), .val (.int p2), .val (.int p3), .val (.int p4), .val (.int p5), .val (.int (p1 &&& (3 : Int32))), .val (.int (p2.toInt8.toInt32)), .val (.int (p3.toInt8.toInt32)), .val (.int (p4.toInt8.toInt32)), .val (.ref w6), .unset, .unset, .unset, .unset] [(.int (p1 &&& (3 : Int32)))])) _
    refine XS.iload X7.here hx rfl (hb hby at_37) rfl ?_
    show Steps p.tables e below (T7.setTop (mkF m 39 #[.val (.int p1), .val (.int p2), .val (.int p3), .val (.int p4), .val (.int p5), .val (.int (p1 &&& (3 : Int32))), .val (.int (p2.toInt8.toInt32)), .val (.int (p3.toInt8.toInt32)), .val (.int (p4.toInt8.toInt32)), .val (.ref w6), .unset, .unset, .unset, .unset] [(.int (p2.toInt8.toInt32)), (.int (p1 &&& (3 : Int32)))])) _
    refine XS.iload X7.here hx rfl (hb hby at_39) rfl ?_
    show Steps p.tables e below (T7.setTop (mkF m 41 #[.val (.int p1), .val (.int p2), .val (.int p3), .val (.int p4), .val (.int p5), .val (.int (p1 &&& (3 : Int32))), .val (.int (p2.toInt8.toInt32)), .val (.int (p3.toInt8.toInt32)), .val (.int (p4.toInt8.toInt32)), .val (.ref w6), .unset, .unset, .unset, .unset] [(.int (p3.toInt8.toInt32)), (.int (p2.toInt8.toInt32)), (.int (p1 &&& (3 : Int32)))])) _
    refine XS.iload X7.here hx rfl (hb hby at_41) rfl ?_
    show Steps p.tables e below (T7.setTop (mkF m 43 #[.val (.int p1), .val (.int p2), .val (.int p3), .val (.int p4), .val (.int p5), .val (.int (p1 &&& (3 : Int32))), .val (.int (p2.toInt8.toInt32)), .val (.int (p3.toInt8.toInt32)), .val (.int (p4.toInt8.toInt32)), .val (.ref w6), .unset, .unset, .unset, .unset] [(.int (p4.toInt8.toInt32)), (.int (p3.toInt8.toInt32)), (.int (p2.toInt8.toInt32)), (.int (p1 &&& (3 : Int32)))])) _
    refine st8 _ ?_
    show Steps p.tables e below (T8.setTop (mkF m 46 #[.val (.int p1), .val (.int p2), .val (.int p3), .val (.int p4), .val (.int p5), .val (.int (p1 &&& (3 : Int32))), .val (.int (p2.toInt8.toInt32)), .val (.int (p3.toInt8.toInt32)), .val (.int (p4.toInt8.toInt32)), .val (.ref w6), .unset, .unset, .unset, .unset] [(.ref i8)])) _
    refine XS.astore X8.here hx rfl (hb hby at_46) rfl rfl (l' := #[.val (.int p1), .val (.int p2), .val (.int p3), .val (.int p4), .val (.int p5), .val (.int (p1 &&& (3 : Int32))), .val (.int (p2.toInt8.toInt32)), .val (.int (p3.toInt8.toInt32)), .val (.int (p4.toInt8.toInt32)), .val (.ref w6), .val (.ref i8), .unset, .unset, .unset]) rfl ?_
    show Steps p.tables e below (T8.setTop (mkF m 48 #[.val (.int p1), .val (.int p2), .val (.int p3), .val (.int p4), .val (.int p5), .val (.int (p1 &&& (3 : Int32))), .val (.int (p2.toInt8.toInt32)), .val (.int (p3.toInt8.toInt32)), .val (.int (p4.toInt8.toInt32)), .val (.ref w6), .val (.ref i8), .unset, .unset, .unset] [])) _
    refine st9 _ ?_
    show Steps p.tables e below (T9.setTop (mkF m 51 #[.val (.int p1), .val (.int p2), .val (.int p3), .val (.int p4), .val (.int p5), .val (.int (p1 &&& (3 : Int32))), .val (.int (p2.toInt8.toInt32)), .val (.int (p3.toInt8.toInt32)), .val (.int (p4.toInt8.toInt32)), .val (.ref w6), .val (.ref i8), .unset, .unset, .unset] [(.ref b9)])) _
    refine XS.dup X9.here hx rfl (hb hby at_51) rfl rfl ?_
    show Steps p.tables e below (T9.setTop (mkF m 52 #[.val (.int p1), .val (.int p2), .val (.int p3), .val (.int p4), .val (.int p5), .val (.int (p1 &&& (3 : Int32))), .val (.int (p2.toInt8.toInt32)), .val (.int (p3.toInt8.toInt32)), .val (.int (p4.toInt8.toInt32)), .val (.ref w6), .val (.ref i8), .unset, .unset, .unset] [(.ref b9), (.ref b9)])) _
    refine XS.aload X9.here hx rfl (hb hby at_52) rfl rfl ?_
    show Steps p.tables e below (T9.setTop (mkF m 54 #[.val (.int p1), .val (.int p2), .val (.int p3), .val (.int p4), .val (.int p5), .val (.int (p1 &&& (3 : Int32))), .val (.int (p2.toInt8.toInt32)), .val (.int (p3.toInt8.toInt32)), .val (.int (p4.toInt8.toInt32)), .val (.ref w6), .val (.ref i8), .unset, .unset, .unset] [(.ref w6), (.ref b9), (.ref b9)])) _
    refine XS.aload X9.here hx rfl (hb hby at_54) rfl rfl ?_
    show Steps p.tables e below (T9.setTop (mkF m 56 #[.val (.int p1), .val (.int p2), .val (.int p3), .val (.int p4), .val (.int p5), .val (.int (p1 &&& (3 : Int32))), .val (.int (p2.toInt8.toInt32)), .val (.int (p3.toInt8.toInt32)), .val (.int (p4.toInt8.toInt32)), .val (.ref w6), .val (.ref i8), .unset, .unset, .unset] [(.ref i8), (.ref w6), (.ref b9), (.ref b9)])) _
    refine st10.trans ?_
    show Steps p.tables e below (T10.setTop (mkF m 59 #[.val (.int p1), .val (.int p2), .val (.int p3), .val (.int p4), .val (.int p5), .val (.int (p1 &&& (3 : Int32))), .val (.int (p2.toInt8.toInt32)), .val (.int (p3.toInt8.toInt32)), .val (.int (p4.toInt8.toInt32)), .val (.ref w6), .val (.ref i8), .unset, .unset, .unset] [(.ref b9)])) _
    refine XS.astore X10.here hx rfl (hb hby at_59) rfl rfl (l' := #[.val (.int p1), .val (.int p2), .val (.int p3), .val (.int p4), .val (.int p5), .val (.int (p1 &&& (3 : Int32))), .val (.int (p2.toInt8.toInt32)), .val (.int (p3.toInt8.toInt32)), .val (.int (p4.toInt8.toInt32)), .val (.ref w6), .val (.ref i8), .val (.ref b9), .unset, .unset]) rfl ?_
    show Steps p.tables e below (T10.setTop (mkF m 61 #[.val (.int p1), .val (.int p2), .val (.int p3), .val (.int p4), .val (.int p5), .val (.int (p1 &&& (3 : Int32))), .val (.int (p2.toInt8.toInt32)), .val (.int (p3.toInt8.toInt32)), .val (.int (p4.toInt8.toInt32)), .val (.ref w6), .val (.ref i8), .val (.ref b9), .unset, .unset] [])) _
    refine XS.aload X10.here hx rfl (hb hby at_61) rfl rfl ?_
    show Steps p.tables e below (T10.setTop (mkF m 63 #[.val (.int p1), .val (.int p2), .val (.int p3), .val (.int p4), .val (.int p5), .val (.int (p1 &&& (3 : Int32))), .val (.int (p2.toInt8.toInt32)), .val (.int (p3.toInt8.toInt32)), .val (.int (p4.toInt8.toInt32)), .val (.ref w6), .val (.ref i8), .val (.ref b9), .unset, .unset] [(.ref b9)])) _
    refine st11.trans ?_
    show Steps p.tables e below (T11.setTop (mkF m 66 #[.val (.int p1), .val (.int p2), .val (.int p3), .val (.int p4), .val (.int p5), .val (.int (p1 &&& (3 : Int32))), .val (.int (p2.toInt8.toInt32)), .val (.int (p3.toInt8.toInt32)), .val (.int (p4.toInt8.toInt32)), .val (.ref w6), .val (.ref i8), .val (.ref b9), .unset, .unset] [(.ref i11)])) _
    refine XS.astore X11.here hx rfl (hb hby at_66) rfl rfl (l' := #[.val (.int p1), .val (.int p2), .val (.int p3), .val (.int p4), .val (.int p5), .val (.int (p1 &&& (3 : Int32))), .val (.int (p2.toInt8.toInt32)), .val (.int (p3.toInt8.toInt32)), .val (.int (p4.toInt8.toInt32)), .val (.ref w6), .val (.ref i8), .val (.ref b9), .val (.ref i11), .unset]) rfl ?_
    show Steps p.tables e below (T11.setTop (mkF m 68 #[.val (.int p1), .val (.int p2), .val (.int p3), .val (.int p4), .val (.int p5), .val (.int (p1 &&& (3 : Int32))), .val (.int (p2.toInt8.toInt32)), .val (.int (p3.toInt8.toInt32)), .val (.int (p4.toInt8.toInt32)), .val (.ref w6), .val (.ref i8), .val (.ref b9), .val (.ref i11), .unset] [])) _
    refine XS.aload X11.here hx rfl (hb hby at_68) rfl rfl ?_
    show Steps p.tables e below (T11.setTop (mkF m 70 #[.val (.int p1), .val (.int p2), .val (.int p3), .val (.int p4), .val (.int p5), .val (.int (p1 &&& (3 : Int32))), .val (.int (p2.toInt8.toInt32)), .val (.int (p3.toInt8.toInt32)), .val (.int (p4.toInt8.toInt32)), .val (.ref w6), .val (.ref i8), .val (.ref b9), .val (.ref i11), .unset] [(.ref i11)])) _
    refine XS.aload X11.here hx rfl (hb hby at_70) rfl rfl ?_
    show Steps p.tables e below (T11.setTop (mkF m 72 #[.val (.int p1), .val (.int p2), .val (.int p3), .val (.int p4), .val (.int p5), .val (.int (p1 &&& (3 : Int32))), .val (.int (p2.toInt8.toInt32)), .val (.int (p3.toInt8.toInt32)), .val (.int (p4.toInt8.toInt32)), .val (.ref w6), .val (.ref i8), .val (.ref b9), .val (.ref i11), .unset] [(.ref i8), (.ref i11)])) _
    refine Jvm.RoadKit.acmp (g := (mkF m 72 #[.val (.int p1), .val (.int p2), .val (.int p3), .val (.int p4), .val (.int p5), .val (.int (p1 &&& (3 : Int32))), .val (.int (p2.toInt8.toInt32)), .val (.int (p3.toInt8.toInt32)), .val (.int (p4.toInt8.toInt32)), .val (.ref w6), .val (.ref i8), .val (.ref b9), .val (.ref i11), .unset] [(.ref i8), (.ref i11)])) X11 hx rfl rfl rfl (pc0 := 72) (pc' := 77) (same := false) rfl (hb hby at_72) rfl (decide_eq_false fun q => ne1 (Value.ref.inj q).symm) (by decide) (by decide) ?_
    show Steps p.tables e below (T11.setTop (mkF m 77 #[.val (.int p1), .val (.int p2), .val (.int p3), .val (.int p4), .val (.int p5), .val (.int (p1 &&& (3 : Int32))), .val (.int (p2.toInt8.toInt32)), .val (.int (p3.toInt8.toInt32)), .val (.int (p4.toInt8.toInt32)), .val (.ref w6), .val (.ref i8), .val (.ref b9), .val (.ref i11), .unset] [])) _
    refine XS.aload X11.here hx rfl (hb hby at_77) rfl rfl ?_
    show Steps p.tables e below (T11.setTop (mkF m 79 #[.val (.int p1), .val (.int p2), .val (.int p3), .val (.int p4), .val (.int p5), .val (.int (p1 &&& (3 : Int32))), .val (.int (p2.toInt8.toInt32)), .val (.int (p3.toInt8.toInt32)), .val (.int (p4.toInt8.toInt32)), .val (.ref w6), .val (.ref i8), .val (.ref b9), .val (.ref i11), .unset] [(.ref i11)])) _
    refine XS.iload X11.here hx rfl (hb hby at_79) rfl ?_
    show Steps p.tables e below (T11.setTop (mkF m 81 #[.val (.int p1), .val (.int p2), .val (.int p3), .val (.int p4), .val (.int p5), .val (.int (p1 &&& (3 : Int32))), .val (.int (p2.toInt8.toInt32)), .val (.int (p3.toInt8.toInt32)), .val (.int (p4.toInt8.toInt32)), .val (.ref w6), .val (.ref i8), .val (.ref b9), .val (.ref i11), .unset] [(.int (p1 &&& (3 : Int32))), (.ref i11)])) _
    refine XS.iload X11.here hx rfl (hb hby at_81) rfl ?_
    show Steps p.tables e below (T11.setTop (mkF m 83 #[.val (.int p1), .val (.int p2), .val (.int p3), .val (.int p4), .val (.int p5), .val (.int (p1 &&& (3 : Int32))), .val (.int (p2.toInt8.toInt32)), .val (.int (p3.toInt8.toInt32)), .val (.int (p4.toInt8.toInt32)), .val (.ref w6), .val (.ref i8), .val (.ref b9), .val (.ref i11), .unset] [(.int (p2.toInt8.toInt32)), (.int (p1 &&& (3 : Int32))), (.ref i11)])) _
    refine XS.iload X11.here hx rfl (hb hby at_83) rfl ?_
    show Steps p.tables e below (T11.setTop (mkF m 85 #[.val (.int p1), .val (.int p2), .val (.int p3), .val (.int p4), .val (.int p5), .val (.int (p1 &&& (3 : Int32))), .val (.int (p2.toInt8.toInt32)), .val (.int (p3.toInt8.toInt32)), .val (.int (p4.toInt8.toInt32)), .val (.ref w6), .val (.ref i8), .val (.ref b9), .val (.ref i11), .unset] [(.int (p3.toInt8.toInt32)), (.int (p2.toInt8.toInt32)), (.int (p1 &&& (3 : Int32))), (.ref i11)])) _
    refine XS.iload X11.here hx rfl (hb hby at_85) rfl ?_
    show Steps p.tables e below (T11.setTop (mkF m 87 #[.val (.int p1), .val (.int p2), .val (.int p3), .val (.int p4), .val (.int p5), .val (.int (p1 &&& (3 : Int32))), .val (.int (p2.toInt8.toInt32)), .val (.int (p3.toInt8.toInt32)), .val (.int (p4.toInt8.toInt32)), .val (.ref w6), .val (.ref i8), .val (.ref b9), .val (.ref i11), .unset] [(.int (p4.toInt8.toInt32)), (.int (p3.toInt8.toInt32)), (.int (p2.toInt8.toInt32)), (.int (p1 &&& (3 : Int32))), (.ref i11)])) _
    refine st12 _ ?_
    show Steps p.tables e below (T12.setTop (mkF m 90 #[.val (.int p1), .val (.int p2), .val (.int p3), .val (.int p4), .val (.int p5), .val (.int (p1 &&& (3 : Int32))), .val (.int (p2.toInt8.toInt32)), .val (.int (p3.toInt8.toInt32)), .val (.int (p4.toInt8.toInt32)), .val (.ref w6), .val (.ref i8), .val (.ref b9), .val (.ref i11), .unset] [(.int (1 : Int32))])) _
    refine XS.ifYes X12.here hx rfl (pc0 := 90) (pc' := 95) rfl (hb hby at_90) rfl ((if0 _ _).trans (feq (by decide : ¬ ((1 : Int32) = (0 : Int32)))).2) (by decide) (by decide) ?_
    show Steps p.tables e below (T12.setTop (mkF m 95 #[.val (.int p1), .val (.int p2), .val (.int p3), .val (.int p4), .val (.int p5), .val (.int (p1 &&& (3 : Int32))), .val (.int (p2.toInt8.toInt32)), .val (.int (p3.toInt8.toInt32)), .val (.int (p4.toInt8.toInt32)), .val (.ref w6), .val (.ref i8), .val (.ref b9), .val (.ref i11), .unset] [])) _
    refine XS.iload X12.here hx rfl (hb hby at_95) rfl ?_
    show Steps p.tables e below (T12.setTop (mkF m 97 #[.val (.int p1), .val (.int p2), .val (.int p3), .val (.int p4), .val (.int p5), .val (.int (p1 &&& (3 : Int32))), .val (.int (p2.toInt8.toInt32)), .val (.int (p3.toInt8.toInt32)), .val (.int (p4.toInt8.toInt32)), .val (.ref w6), .val (.ref i8), .val (.ref b9), .val (.ref i11), .unset] [(.int (p1 &&& (3 : Int32)))])) _
    refine XS.iconst X12.here hx rfl (hb hby at_97) ?_
    show Steps p.tables e below (T12.setTop (mkF m 98 #[.val (.int p1), .val (.int p2), .val (.int p3), .val (.int p4), .val (.int p5), .val (.int (p1 &&& (3 : Int32))), .val (.int (p2.toInt8.toInt32)), .val (.int (p3.toInt8.toInt32)), .val (.int (p4.toInt8.toInt32)), .val (.ref w6), .val (.ref i8), .val (.ref b9), .val (.ref i11), .unset] [(.int (1 : Int32)), (.int (p1 &&& (3 : Int32)))])) _
    refine XS.icmpNo X12.here hx rfl (hb hby at_98) rfl (flt hc98).1 ?_
    show Steps p.tables e below (T12.setTop (mkF m 101 #[.val (.int p1), .val (.int p2), .val (.int p3), .val (.int p4), .val (.int p5), .val (.int (p1 &&& (3 : Int32))), .val (.int (p2.toInt8.toInt32)), .val (.int (p3.toInt8.toInt32)), .val (.int (p4.toInt8.toInt32)), .val (.ref w6), .val (.ref i8), .val (.ref b9), .val (.ref i11), .unset] [])) _
    refine XS.aload X12.here hx rfl (hb hby at_101) rfl rfl ?_
    show Steps p.tables e below (T12.setTop (mkF m 103 #[.val (.int p1), .val (.int p2), .val (.int p3), .val (.int p4), .val (.int p5), .val (.int (p1 &&& (3 : Int32))), .val (.int (p2.toInt8.toInt32)), .val (.int (p3.toInt8.toInt32)), .val (.int (p4.toInt8.toInt32)), .val (.ref w6), .val (.ref i8), .val (.ref b9), .val (.ref i11), .unset] [(.ref i11)])) _
    refine XS.iconst X12.here hx rfl (hb hby at_103) ?_
    show Steps p.tables e below (T12.setTop (mkF m 104 #[.val (.int p1), .val (.int p2), .val (.int p3), .val (.int p4), .val (.int p5), .val (.int (p1 &&& (3 : Int32))), .val (.int (p2.toInt8.toInt32)), .val (.int (p3.toInt8.toInt32)), .val (.int (p4.toInt8.toInt32)), .val (.ref w6), .val (.ref i8), .val (.ref b9), .val (.ref i11), .unset] [(.int (0 : Int32)), (.ref i11)])) _
    refine XS.aload X12.here hx rfl (hb hby at_104) rfl rfl ?_
    show Steps p.tables e below (T12.setTop (mkF m 106 #[.val (.int p1), .val (.int p2), .val (.int p3), .val (.int p4), .val (.int p5), .val (.int (p1 &&& (3 : Int32))), .val (.int (p2.toInt8.toInt32)), .val (.int (p3.toInt8.toInt32)), .val (.int (p4.toInt8.toInt32)), .val (.ref w6), .val (.ref i8), .val (.ref b9), .val (.ref i11), .unset] [(.ref i11), (.int (0 : Int32)), (.ref i11)])) _
    refine XS.iconst X12.here hx rfl (hb hby at_106) ?_
    show Steps p.tables e below (T12.setTop (mkF m 107 #[.val (.int p1), .val (.int p2), .val (.int p3), .val (.int p4), .val (.int p5), .val (.int (p1 &&& (3 : Int32))), .val (.int (p2.toInt8.toInt32)), .val (.int (p3.toInt8.toInt32)), .val (.int (p4.toInt8.toInt32)), .val (.ref w6), .val (.ref i8), .val (.ref b9), .val (.ref i11), .unset] [(.int (0 : Int32)), (.ref i11), (.int (0 : Int32)), (.ref i11)])) _
    refine X12.baloadBytes hx (j := (0 : Int32)) (v := (.int (p2.toInt8.toInt32))) Ar_i.1 (State.isArrayOf_alike hZ.alike Ar_i.2.1) Ar_i.2.2 hin107 hat107 (g := (mkF m 107 #[.val (.int p1), .val (.int p2), .val (.int p3), .val (.int p4), .val (.int p5), .val (.int (p1 &&& (3 : Int32))), .val (.int (p2.toInt8.toInt32)), .val (.int (p3.toInt8.toInt32)), .val (.int (p4.toInt8.toInt32)), .val (.ref w6), .val (.ref i8), .val (.ref b9), .val (.ref i11), .unset] [(.int (0 : Int32)), (.ref i11), (.int (0 : Int32)), (.ref i11)])) rfl rfl (hb hby at_107) _ ?_
    show Steps p.tables e below (T12.setTop (mkF m 108 #[.val (.int p1), .val (.int p2), .val (.int p3), .val (.int p4), .val (.int p5), .val (.int (p1 &&& (3 : Int32))), .val (.int (p2.toInt8.toInt32)), .val (.int (p3.toInt8.toInt32)), .val (.int (p4.toInt8.toInt32)), .val (.ref w6), .val (.ref i8), .val (.ref b9), .val (.ref i11), .unset] [(.int (p2.toInt8.toInt32)), (.int (0 : Int32)), (.ref i11)])) _
    refine XS.iconst X12.here hx rfl (hb hby at_108) ?_
    show Steps p.tables e below (T12.setTop (mkF m 109 #[.val (.int p1), .val (.int p2), .val (.int p3), .val (.int p4), .val (.int p5), .val (.int (p1 &&& (3 : Int32))), .val (.int (p2.toInt8.toInt32)), .val (.int (p3.toInt8.toInt32)), .val (.int (p4.toInt8.toInt32)), .val (.ref w6), .val (.ref i8), .val (.ref b9), .val (.ref i11), .unset] [(.int (1 : Int32)), (.int (p2.toInt8.toInt32)), (.int (0 : Int32)), (.ref i11)])) _
    refine XS.iadd X12.here hx rfl (hb hby at_109) rfl ?_
    show Steps p.tables e below (T12.setTop (mkF m 110 #[.val (.int p1), .val (.int p2), .val (.int p3), .val (.int p4), .val (.int p5), .val (.int (p1 &&& (3 : Int32))), .val (.int (p2.toInt8.toInt32)), .val (.int (p3.toInt8.toInt32)), .val (.int (p4.toInt8.toInt32)), .val (.ref w6), .val (.ref i8), .val (.ref b9), .val (.ref i11), .unset] [(.int ((p2.toInt8.toInt32) + (1 : Int32))), (.int (0 : Int32)), (.ref i11)])) _
    refine XS.i2b X12.here hx rfl (hb hby at_110) rfl ?_
    show Steps p.tables e below (T12.setTop (mkF m 111 #[.val (.int p1), .val (.int p2), .val (.int p3), .val (.int p4), .val (.int p5), .val (.int (p1 &&& (3 : Int32))), .val (.int (p2.toInt8.toInt32)), .val (.int (p3.toInt8.toInt32)), .val (.int (p4.toInt8.toInt32)), .val (.ref w6), .val (.ref i8), .val (.ref b9), .val (.ref i11), .unset] [(.int (((p2.toInt8.toInt32) + (1 : Int32)).toInt8.toInt32)), (.int (0 : Int32)), (.ref i11)])) _
    refine st14 _ ?_
    show Steps p.tables e below (T14.setTop (mkF m 112 #[.val (.int p1), .val (.int p2), .val (.int p3), .val (.int p4), .val (.int p5), .val (.int (p1 &&& (3 : Int32))), .val (.int (p2.toInt8.toInt32)), .val (.int (p3.toInt8.toInt32)), .val (.int (p4.toInt8.toInt32)), .val (.ref w6), .val (.ref i8), .val (.ref b9), .val (.ref i11), .unset] [])) _
    refine XS.aload X14.here hx rfl (hb hby at_112) rfl rfl ?_
    show Steps p.tables e below (T14.setTop (mkF m 114 #[.val (.int p1), .val (.int p2), .val (.int p3), .val (.int p4), .val (.int p5), .val (.int (p1 &&& (3 : Int32))), .val (.int (p2.toInt8.toInt32)), .val (.int (p3.toInt8.toInt32)), .val (.int (p4.toInt8.toInt32)), .val (.ref w6), .val (.ref i8), .val (.ref b9), .val (.ref i11), .unset] [(.ref b9)])) _
    refine st15.trans ?_
    show Steps p.tables e below (T15.setTop (mkF m 117 #[.val (.int p1), .val (.int p2), .val (.int p3), .val (.int p4), .val (.int p5), .val (.int (p1 &&& (3 : Int32))), .val (.int (p2.toInt8.toInt32)), .val (.int (p3.toInt8.toInt32)), .val (.int (p4.toInt8.toInt32)), .val (.ref w6), .val (.ref i8), .val (.ref b9), .val (.ref i11), .unset] [(.ref i15)])) _
    refine XS.astore X15.here hx rfl (hb hby at_117) rfl rfl (l' := #[.val (.int p1), .val (.int p2), .val (.int p3), .val (.int p4), .val (.int p5), .val (.int (p1 &&& (3 : Int32))), .val (.int (p2.toInt8.toInt32)), .val (.int (p3.toInt8.toInt32)), .val (.int (p4.toInt8.toInt32)), .val (.ref w6), .val (.ref i8), .val (.ref b9), .val (.ref i11), .val (.ref i15)]) rfl ?_
    show Steps p.tables e below (T15.setTop (mkF m 119 #[.val (.int p1), .val (.int p2), .val (.int p3), .val (.int p4), .val (.int p5), .val (.int (p1 &&& (3 : Int32))), .val (.int (p2.toInt8.toInt32)), .val (.int (p3.toInt8.toInt32)), .val (.int (p4.toInt8.toInt32)), .val (.ref w6), .val (.ref i8), .val (.ref b9), .val (.ref i11), .val (.ref i15)] [])) _
    refine XS.aload X15.here hx rfl (hb hby at_119) rfl rfl ?_
    show Steps p.tables e below (T15.setTop (mkF m 121 #[.val (.int p1), .val (.int p2), .val (.int p3), .val (.int p4), .val (.int p5), .val (.int (p1 &&& (3 : Int32))), .val (.int (p2.toInt8.toInt32)), .val (.int (p3.toInt8.toInt32)), .val (.int (p4.toInt8.toInt32)), .val (.ref w6), .val (.ref i8), .val (.ref b9), .val (.ref i11), .val (.ref i15)] [(.ref i15)])) _
    refine XS.aload X15.here hx rfl (hb hby at_121) rfl rfl ?_
    show Steps p.tables e below (T15.setTop (mkF m 123 #[.val (.int p1), .val (.int p2), .val (.int p3), .val (.int p4), .val (.int p5), .val (.int (p1 &&& (3 : Int32))), .val (.int (p2.toInt8.toInt32)), .val (.int (p3.toInt8.toInt32)), .val (.int (p4.toInt8.toInt32)), .val (.ref w6), .val (.ref i8), .val (.ref b9), .val (.ref i11), .val (.ref i15)] [(.ref i11), (.ref i15)])) _
    refine Jvm.RoadKit.acmp (g := (mkF m 123 #[.val (.int p1), .val (.int p2), .val (.int p3), .val (.int p4), .val (.int p5), .val (.int (p1 &&& (3 : Int32))), .val (.int (p2.toInt8.toInt32)), .val (.int (p3.toInt8.toInt32)), .val (.int (p4.toInt8.toInt32)), .val (.ref w6), .val (.ref i8), .val (.ref b9), .val (.ref i11), .val (.ref i15)] [(.ref i11), (.ref i15)])) X15 hx rfl rfl rfl (pc0 := 123) (pc' := 126) (same := false) rfl (hb hby at_123) rfl (decide_eq_false fun q => ne3 (Value.ref.inj q)) (by decide) (by decide) ?_
    show Steps p.tables e below (T15.setTop (mkF m 126 #[.val (.int p1), .val (.int p2), .val (.int p3), .val (.int p4), .val (.int p5), .val (.int (p1 &&& (3 : Int32))), .val (.int (p2.toInt8.toInt32)), .val (.int (p3.toInt8.toInt32)), .val (.int (p4.toInt8.toInt32)), .val (.ref w6), .val (.ref i8), .val (.ref b9), .val (.ref i11), .val (.ref i15)] [])) _
    refine XS.aload X15.here hx rfl (hb hby at_126) rfl rfl ?_
    show Steps p.tables e below (T15.setTop (mkF m 128 #[.val (.int p1), .val (.int p2), .val (.int p3), .val (.int p4), .val (.int p5), .val (.int (p1 &&& (3 : Int32))), .val (.int (p2.toInt8.toInt32)), .val (.int (p3.toInt8.toInt32)), .val (.int (p4.toInt8.toInt32)), .val (.ref w6), .val (.ref i8), .val (.ref b9), .val (.ref i11), .val (.ref i15)] [(.ref i15)])) _
    refine XS.aload X15.here hx rfl (hb hby at_128) rfl rfl ?_
    show Steps p.tables e below (T15.setTop (mkF m 130 #[.val (.int p1), .val (.int p2), .val (.int p3), .val (.int p4), .val (.int p5), .val (.int (p1 &&& (3 : Int32))), .val (.int (p2.toInt8.toInt32)), .val (.int (p3.toInt8.toInt32)), .val (.int (p4.toInt8.toInt32)), .val (.ref w6), .val (.ref i8), .val (.ref b9), .val (.ref i11), .val (.ref i15)] [(.ref i8), (.ref i15)])) _
    refine Jvm.RoadKit.acmp (g := (mkF m 130 #[.val (.int p1), .val (.int p2), .val (.int p3), .val (.int p4), .val (.int p5), .val (.int (p1 &&& (3 : Int32))), .val (.int (p2.toInt8.toInt32)), .val (.int (p3.toInt8.toInt32)), .val (.int (p4.toInt8.toInt32)), .val (.ref w6), .val (.ref i8), .val (.ref b9), .val (.ref i11), .val (.ref i15)] [(.ref i8), (.ref i15)])) X15 hx rfl rfl rfl (pc0 := 130) (pc' := 135) (same := false) rfl (hb hby at_130) rfl (decide_eq_false fun q => ne4 (Value.ref.inj q)) (by decide) (by decide) ?_
    show Steps p.tables e below (T15.setTop (mkF m 135 #[.val (.int p1), .val (.int p2), .val (.int p3), .val (.int p4), .val (.int p5), .val (.int (p1 &&& (3 : Int32))), .val (.int (p2.toInt8.toInt32)), .val (.int (p3.toInt8.toInt32)), .val (.int (p4.toInt8.toInt32)), .val (.ref w6), .val (.ref i8), .val (.ref b9), .val (.ref i11), .val (.ref i15)] [])) _
    refine XS.aload X15.here hx rfl (hb hby at_135) rfl rfl ?_
    show Steps p.tables e below (T15.setTop (mkF m 137 #[.val (.int p1), .val (.int p2), .val (.int p3), .val (.int p4), .val (.int p5), .val (.int (p1 &&& (3 : Int32))), .val (.int (p2.toInt8.toInt32)), .val (.int (p3.toInt8.toInt32)), .val (.int (p4.toInt8.toInt32)), .val (.ref w6), .val (.ref i8), .val (.ref b9), .val (.ref i11), .val (.ref i15)] [(.ref i15)])) _
    refine XS.iload X15.here hx rfl (hb hby at_137) rfl ?_
    show Steps p.tables e below (T15.setTop (mkF m 139 #[.val (.int p1), .val (.int p2), .val (.int p3), .val (.int p4), .val (.int p5), .val (.int (p1 &&& (3 : Int32))), .val (.int (p2.toInt8.toInt32)), .val (.int (p3.toInt8.toInt32)), .val (.int (p4.toInt8.toInt32)), .val (.ref w6), .val (.ref i8), .val (.ref b9), .val (.ref i11), .val (.ref i15)] [(.int (p1 &&& (3 : Int32))), (.ref i15)])) _
    refine XS.iload X15.here hx rfl (hb hby at_139) rfl ?_
    show Steps p.tables e below (T15.setTop (mkF m 141 #[.val (.int p1), .val (.int p2), .val (.int p3), .val (.int p4), .val (.int p5), .val (.int (p1 &&& (3 : Int32))), .val (.int (p2.toInt8.toInt32)), .val (.int (p3.toInt8.toInt32)), .val (.int (p4.toInt8.toInt32)), .val (.ref w6), .val (.ref i8), .val (.ref b9), .val (.ref i11), .val (.ref i15)] [(.int (p2.toInt8.toInt32)), (.int (p1 &&& (3 : Int32))), (.ref i15)])) _
    refine XS.iload X15.here hx rfl (hb hby at_141) rfl ?_
    show Steps p.tables e below (T15.setTop (mkF m 143 #[.val (.int p1), .val (.int p2), .val (.int p3), .val (.int p4), .val (.int p5), .val (.int (p1 &&& (3 : Int32))), .val (.int (p2.toInt8.toInt32)), .val (.int (p3.toInt8.toInt32)), .val (.int (p4.toInt8.toInt32)), .val (.ref w6), .val (.ref i8), .val (.ref b9), .val (.ref i11), .val (.ref i15)] [(.int (p3.toInt8.toInt32)), (.int (p2.toInt8.toInt32)), (.int (p1 &&& (3 : Int32))), (.ref i15)])) _
    refine XS.iload X15.here hx rfl (hb hby at_143) rfl ?_
    show Steps p.tables e below (T15.setTop (mkF m 145 #[.val (.int p1), .val (.int p2), .val (.int p3), .val (.int p4), .val (.int p5), .val (.int (p1 &&& (3 : Int32))), .val (.int (p2.toInt8.toInt32)), .val (.int (p3.toInt8.toInt32)), .val (.int (p4.toInt8.toInt32)), .val (.ref w6), .val (.ref i8), .val (.ref b9), .val (.ref i11), .val (.ref i15)] [(.int (p4.toInt8.toInt32)), (.int (p3.toInt8.toInt32)), (.int (p2.toInt8.toInt32)), (.int (p1 &&& (3 : Int32))), (.ref i15)])) _
    refine st16 _ ?_
    show Steps p.tables e below (T16.setTop (mkF m 148 #[.val (.int p1), .val (.int p2), .val (.int p3), .val (.int p4), .val (.int p5), .val (.int (p1 &&& (3 : Int32))), .val (.int (p2.toInt8.toInt32)), .val (.int (p3.toInt8.toInt32)), .val (.int (p4.toInt8.toInt32)), .val (.ref w6), .val (.ref i8), .val (.ref b9), .val (.ref i11), .val (.ref i15)] [(.int (1 : Int32))])) _
    refine XS.ifYes X16.here hx rfl (pc0 := 148) (pc' := 153) rfl (hb hby at_148) rfl ((if0 _ _).trans (feq (by decide : ¬ ((1 : Int32) = (0 : Int32)))).2) (by decide) (by decide) ?_
    show Steps p.tables e below (T16.setTop (mkF m 153 #[.val (.int p1), .val (.int p2), .val (.int p3), .val (.int p4), .val (.int p5), .val (.int (p1 &&& (3 : Int32))), .val (.int (p2.toInt8.toInt32)), .val (.int (p3.toInt8.toInt32)), .val (.int (p4.toInt8.toInt32)), .val (.ref w6), .val (.ref i8), .val (.ref b9), .val (.ref i11), .val (.ref i15)] [])) _
    refine XS.aload X16.here hx rfl (hb hby at_153) rfl rfl ?_
    show Steps p.tables e below (T16.setTop (mkF m 155 #[.val (.int p1), .val (.int p2), .val (.int p3), .val (.int p4), .val (.int p5), .val (.int (p1 &&& (3 : Int32))), .val (.int (p2.toInt8.toInt32)), .val (.int (p3.toInt8.toInt32)), .val (.int (p4.toInt8.toInt32)), .val (.ref w6), .val (.ref i8), .val (.ref b9), .val (.ref i11), .val (.ref i15)] [(.ref b9)])) _
    refine st17.trans ?_
    show Steps p.tables e below (T17.setTop (mkF m 158 #[.val (.int p1), .val (.int p2), .val (.int p3), .val (.int p4), .val (.int p5), .val (.int (p1 &&& (3 : Int32))), .val (.int (p2.toInt8.toInt32)), .val (.int (p3.toInt8.toInt32)), .val (.int (p4.toInt8.toInt32)), .val (.ref w6), .val (.ref i8), .val (.ref b9), .val (.ref i11), .val (.ref i15)] [(.ref w6)])) _
    refine XS.aload X17.here hx rfl (hb hby at_158) rfl rfl ?_
    show Steps p.tables e below (T17.setTop (mkF m 160 #[.val (.int p1), .val (.int p2), .val (.int p3), .val (.int p4), .val (.int p5), .val (.int (p1 &&& (3 : Int32))), .val (.int (p2.toInt8.toInt32)), .val (.int (p3.toInt8.toInt32)), .val (.int (p4.toInt8.toInt32)), .val (.ref w6), .val (.ref i8), .val (.ref b9), .val (.ref i11), .val (.ref i15)] [(.ref w6), (.ref w6)])) _
    refine Jvm.RoadKit.acmp (g := (mkF m 160 #[.val (.int p1), .val (.int p2), .val (.int p3), .val (.int p4), .val (.int p5), .val (.int (p1 &&& (3 : Int32))), .val (.int (p2.toInt8.toInt32)), .val (.int (p3.toInt8.toInt32)), .val (.int (p4.toInt8.toInt32)), .val (.ref w6), .val (.ref i8), .val (.ref b9), .val (.ref i11), .val (.ref i15)] [(.ref w6), (.ref w6)])) X17 hx rfl rfl rfl (pc0 := 160) (pc' := 163) (same := true) rfl (hb hby at_160) rfl (decide_eq_true rfl) (by decide) (by decide) ?_
    show Steps p.tables e below (T17.setTop (mkF m 163 #[.val (.int p1), .val (.int p2), .val (.int p3), .val (.int p4), .val (.int p5), .val (.int (p1 &&& (3 : Int32))), .val (.int (p2.toInt8.toInt32)), .val (.int (p3.toInt8.toInt32)), .val (.int (p4.toInt8.toInt32)), .val (.ref w6), .val (.ref i8), .val (.ref b9), .val (.ref i11), .val (.ref i15)] [])) _
    refine XS.iconst X17.here hx rfl (hb hby at_163) ?_
    show Steps p.tables e below (T17.setTop (mkF m 164 #[.val (.int p1), .val (.int p2), .val (.int p3), .val (.int p4), .val (.int p5), .val (.int (p1 &&& (3 : Int32))), .val (.int (p2.toInt8.toInt32)), .val (.int (p3.toInt8.toInt32)), .val (.int (p4.toInt8.toInt32)), .val (.ref w6), .val (.ref i8), .val (.ref b9), .val (.ref i11), .val (.ref i15)] [(.int (1 : Int32))])) _
    refine XS.goto X17.here hx rfl (pc0 := 164) (pc' := 168) rfl (hb hby at_164) (by decide) (by decide) ?_
    show Steps p.tables e below (T17.setTop (mkF m 168 #[.val (.int p1), .val (.int p2), .val (.int p3), .val (.int p4), .val (.int p5), .val (.int (p1 &&& (3 : Int32))), .val (.int (p2.toInt8.toInt32)), .val (.int (p3.toInt8.toInt32)), .val (.int (p4.toInt8.toInt32)), .val (.ref w6), .val (.ref i8), .val (.ref b9), .val (.ref i11), .val (.ref i15)] [(.int (1 : Int32))])) _
    exact retN X17 hx (t := .boolean) Bd.returns (by simp) (hb hby at_168) hr
  · show Q0 n0 _ _
    exact ⟨rfl, N17⟩
set_option maxRecDepth 65536 in
set_option maxHeartbeats 40000000 in
theorem rm0_f0 (l : Launch) (Z : State) (a0 : Array Value) (hw : ∀ d ∈ tables_1, d.before a0 Z = true) (ws : List Jvm.Cond) (p1 : Int32) (p2 : Int32) (p3 : Int32) (p4 : Int32) (p5 : Int32) (w6 : Addr) (h0 : Heap) (n0 : Nat) (Z0 : n0 ≤ h0.size) (hn : (p1 &&& (3 : Int32)) = 0 ∨ (p1 &&& (3 : Int32)) = 1 ∨ (p1 &&& (3 : Int32)) = 2 ∨ (p1 &&& (3 : Int32)) = 3) (S_EXECUTED : Sta Z h0 "com/example/limpet/limpet/Execution$Outcome" "EXECUTED" "Lcom/example/limpet/limpet/Execution$Outcome;" (.ref w6)) (hc21 : ¬ ((p5 &&& (1 : Int32)) = (0 : Int32))) (hc98 : (p1 &&& (3 : Int32)) < (1 : Int32)) :
    MetFree l x (head1 (Jvm.Cond.code x code maxLocals ret :: ws) room_1) (fun a U => a = #[(.int p1), (.int p2), (.int p3), (.int p4), (.int p5)] ∧ Z.Warmed39 U.vm ∧ U.heap = h0) (fun _ _ _ _ _ => True) (fun _ U o U' => ∃ v L, o = .returned v ∧ Q0 n0 v L ∧ FrameEnd U o U' L room_1.cells room_1.slots) := by
  refine MetFree.of_bodySF (plainFor_of_name pn_0) hisR ?_
  intro p e s m args below meth c s₁ Bd hml0 hP hK
  obtain ⟨rfl, hZ, hh⟩ := hP
  have hx := Bd.exec
  have hby := Bd.bytes
  have hml : c.maxLocals = 14 := hml0
  have hown : s.vm.findClass "com/example/limpet/limpet/ExecutionResultPinLaw" = some m.cls := findClass_of_methodNamed Bd.named
  have hnm := (name_of_methodNamed Bd.named Bd.method).1
  have X0 : Stand p l e room_1 s m #[(.int p1), (.int p2), (.int p3), (.int p4), (.int p5)] below meth c s₁ [] 0 0 := Stand.of_body Bd
  have e0 : s₁.heap = h0 := by rw [← hh, Bd.state]; rfl
  have N0 := Fr.nil n0
  have pre0 : ∀ t, Steps p.tables e below (s₁.setTop (mkF m 0 #[.val (.int p1), .val (.int p2), .val (.int p3), .val (.int p4), .val (.int p5), .unset, .unset, .unset, .unset, .unset, .unset, .unset, .unset, .unset] [])) t → Steps p.tables e below (s₁.setTop (entryFrame m #[(.int p1), (.int p2), (.int p3), (.int p4), (.int p5)] maxLocals)) t := fun t k => castTop (ef_0 m p1 p2 p3 p4 p5) k
  obtain ⟨T7, X7, e7, st7⟩ := getS2 X0 hx hZ hown (host := "") (Or.inl (hw _ (List.mem_of_getElem? (i := 43) rfl))) Via.refl e0 S_EXECUTED (g := (mkF m 24 #[.val (.int p1), .val (.int p2), .val (.int p3), .val (.int p4), .val (.int p5), .val (.int (p1 &&& (3 : Int32))), .val (.int (p2.toInt8.toInt32)), .val (.int (p3.toInt8.toInt32)), .val (.int (p4.toInt8.toInt32)), .unset, .unset, .unset, .unset, .unset] [])) rfl (hb hby at_24)
  obtain ⟨_, _, ⟨T8, L8, k8, n8⟩, -, X8, ⟨Lc8, hQ8, l8, y8, z8⟩, st8⟩ := Jvm.LawKit.callS X7 hx (y := (⟨"com/example/limpet/limpet/ExecutionResultPinLaw", "make", "(IBBB)[B"⟩ : MethodName)) hown (mvT hZ (hw _ (List.mem_of_getElem? (i := 3) rfl))) (mvT hZ (hw _ (List.mem_of_getElem? (i := 4) rfl))) (mvT hZ (hw _ (List.mem_of_getElem? (i := 5) rfl))) (mvT hZ (hw _ (List.mem_of_getElem? (i := 6) rfl))) (by decide) (backOf (W := 0) (rmM l Z a0 hw [] (p1 &&& (3 : Int32)) (p2.toInt8.toInt32) (p3.toInt8.toInt32) (p4.toInt8.toInt32) h0 n0 Z0 hn) hZ (hw _ (List.mem_of_getElem? (i := 6) rfl)) (hw _ (List.mem_of_getElem? (i := 5) rfl)) (by decide) (by decide)) (g := (mkF m 43 #[.val (.int p1), .val (.int p2), .val (.int p3), .val (.int p4), .val (.int p5), .val (.int (p1 &&& (3 : Int32))), .val (.int (p2.toInt8.toInt32)), .val (.int (p3.toInt8.toInt32)), .val (.int (p4.toInt8.toInt32)), .val (.ref w6), .unset, .unset, .unset, .unset] [(.int (p4.toInt8.toInt32)), (.int (p3.toInt8.toInt32)), (.int (p2.toInt8.toInt32)), (.int (p1 &&& (3 : Int32)))])) rfl (by rw [hml]; rfl) (argsL := [(.int (p1 &&& (3 : Int32))), (.int (p2.toInt8.toInt32)), (.int (p3.toInt8.toInt32)), (.int (p4.toInt8.toInt32))]) (rest := []) (lenOf pd_0_0 rfl) rfl (by show 2 * 0 + _ ≤ _; exact Nat.le_of_eq rfl) (hb hby at_43) (fun _ _ => ⟨rfl, e7, (Nat.le_of_ble_eq_true rfl), (Nat.le_of_ble_eq_true rfl)⟩)
  dsimp only [Pt.U, Pt.locs, Pt.cells, Pt.slots] at X8 l8 y8 z8 st8 hQ8
  subst l8 y8 z8
  obtain ⟨i8, kk, rfl, N8q, K8, s8, m8, Y8, V8⟩ := hQ8
  simp only [own_n8] at V8
  have N8 := Fr.app N0 N8q
  obtain ⟨T9, h9, X9, e9, E9, A9, D9, -, st9⟩ := newO X8 hx hZ hown (hw _ (List.mem_of_getElem? (i := 8) rfl)) (hw _ (List.mem_of_getElem? (i := 9) rfl)) (hw _ (List.mem_of_getElem? (i := 10) rfl)) rfl (g := (mkF m 48 #[.val (.int p1), .val (.int p2), .val (.int p3), .val (.int p4), .val (.int p5), .val (.int (p1 &&& (3 : Int32))), .val (.int (p2.toInt8.toInt32)), .val (.int (p3.toInt8.toInt32)), .val (.int (p4.toInt8.toInt32)), .val (.ref w6), .val (.ref i8), .unset, .unset, .unset] [])) rfl (hb hby at_48) (by decide) (by decide)
  obtain ⟨b9, g9⟩ : ∃ z, z = T8.heap.size := ⟨_, rfl⟩      -- the fresh object's address
  rw [← g9] at A9 D9 st9      -- A9 : Exa Z h9 b9 "com/example/limpet/limpet/Execution"; E9 : Ext T8.heap h9 (carries every older fact: .ext E9)
  have F_outcome_b9 : Fld Z h9 b9 "com/example/limpet/limpet/Execution" "outcome" "Lcom/example/limpet/limpet/Execution$Outcome;" .null := D9 (Or.inr (hw _ (List.mem_of_getElem? (i := 18) rfl))) (ty := (.object "com/example/limpet/limpet/Execution$Outcome")) (by decide)
  have F_result_b9 : Fld Z h9 b9 "com/example/limpet/limpet/Execution" "result" "[B" .null := D9 (Or.inr (hw _ (List.mem_of_getElem? (i := 20) rfl))) (ty := (.array .byte)) (by decide)
  have E_b9 := A9
  have g_b9 : n0 ≤ b9 := Nat.le_trans (Nat.le_trans Z0 K8.1) (Nat.le_of_eq g9.symm)
  have sz_b9 : h0.size ≤ b9 := (Nat.le_trans K8.1 (Nat.le_of_eq g9.symm))
  have K9 : Keep h0 h9 [] := K8.ext E9
  obtain ⟨_, _, ⟨T10, L10, k10, n10⟩, -, X10, ⟨Lc10, hQ10, l10, y10, z10⟩, st10⟩ := X9.specialBack hx (y := (⟨"com/example/limpet/limpet/Execution", "<init>", "(Lcom/example/limpet/limpet/Execution$Outcome;[B)V"⟩ : MethodName)) rfl hown (mvT hZ (hw _ (List.mem_of_getElem? (i := 11) rfl))) (mvT hZ (hw _ (List.mem_of_getElem? (i := 12) rfl))) (mvT hZ (hw _ (List.mem_of_getElem? (i := 13) rfl))) (by decide) (backOf (W := 1) (rm2 l Z a0 hw [] b9 w6 i8 .null .null h9 n0 (Nat.le_trans (Nat.le_trans Z0 K8.1) E9.1) E_b9 F_outcome_b9 g_b9 F_result_b9) hZ (hw _ (List.mem_of_getElem? (i := 13) rfl)) (hw _ (List.mem_of_getElem? (i := 10) rfl)) (by decide) (by decide)) (g := (mkF m 56 #[.val (.int p1), .val (.int p2), .val (.int p3), .val (.int p4), .val (.int p5), .val (.int (p1 &&& (3 : Int32))), .val (.int (p2.toInt8.toInt32)), .val (.int (p3.toInt8.toInt32)), .val (.int (p4.toInt8.toInt32)), .val (.ref w6), .val (.ref i8), .unset, .unset, .unset] [(.ref i8), (.ref w6), (.ref b9), (.ref b9)])) rfl (by rw [hml]; rfl) (Steps.refl _) (a := b9) (argsL := [(.ref w6), (.ref i8)]) (rest := [(.ref b9)]) (lenOf pd_0_1 rfl) rfl (by show 2 * 0 + _ ≤ _; exact Nat.le_of_eq rfl) (hb hby at_56) (fun _ _ => ⟨rfl, e9, (Nat.le_of_ble_eq_true rfl), (Nat.le_of_ble_eq_true rfl)⟩)
  dsimp only [Pt.U, Pt.locs, Pt.cells, Pt.slots] at X10 l10 y10 z10 st10 hQ10
  subst l10 y10 z10
  obtain ⟨rfl, N10q, K10, Y10, Fo10, Fr10⟩ := hQ10
  have V10 := (V8.ext E9).keep K10 (ninS (Nat.ne_of_lt (Nat.lt_of_lt_of_le V8.lt (Nat.le_of_eq g9.symm))) nin0)
  have Yi10 := (Y8.ext E9).keep K10
  have Z10 : n0 ≤ T10.heap.size := Nat.le_trans (Nat.le_trans (Nat.le_trans Z0 K8.1) E9.1) K10.1
  have hcap : (p1 &&& (3 : Int32)).toNatClampNeg ≤ 3 := by rcases hn with h | h | h | h <;> rw [h] <;> decide
  have N10 := Fr.app N8 N10q
  obtain ⟨cq11, kq11, q11a, q11b, q11c⟩ := isOf hZ rfl Y10
  obtain ⟨_, _, ⟨T11, L11, k11, n11⟩, -, X11, ⟨Lc11, hQ11, l11, y11, z11⟩, st11⟩ := X10.virtualBack hx (y := (⟨"com/example/limpet/limpet/Execution", "result", "()[B"⟩ : MethodName)) (z := (⟨"com/example/limpet/limpet/Execution", "result", "()[B"⟩ : MethodName)) hown (mvT hZ (hw _ (List.mem_of_getElem? (i := 21) rfl))) (mvT hZ (hw _ (List.mem_of_getElem? (i := 22) rfl))) (notFace_of_selects (args := #[]) (mvT hZ (hw _ (List.mem_of_getElem? (i := 24) rfl)))) (mvT hZ (hw _ (List.mem_of_getElem? (i := 24) rfl))) (mvT hZ (hw _ (List.mem_of_getElem? (i := 23) rfl))) (by decide) (backOf (W := 0) (rm4 l Z a0 hw [] kk (p1 &&& (3 : Int32)) (own_bytes (p2.toInt8.toInt32) (p3.toInt8.toInt32) (p4.toInt8.toInt32)) b9 i8 T10.heap n0 Z10 Fr10 Yi10 V10 hcap) hZ (hw _ (List.mem_of_getElem? (i := 25) rfl)) (hw _ (List.mem_of_getElem? (i := 10) rfl)) (by decide) (by decide)) q11a q11c (g := (mkF m 63 #[.val (.int p1), .val (.int p2), .val (.int p3), .val (.int p4), .val (.int p5), .val (.int (p1 &&& (3 : Int32))), .val (.int (p2.toInt8.toInt32)), .val (.int (p3.toInt8.toInt32)), .val (.int (p4.toInt8.toInt32)), .val (.ref w6), .val (.ref i8), .val (.ref b9), .unset, .unset] [(.ref b9)])) rfl (by rw [hml]; rfl) (Steps.refl _) (argsL := []) (rest := []) (lenOf pd_0_3 rfl) rfl (by show 2 * 0 + _ ≤ _; exact Nat.le_of_eq rfl) (hb hby at_63) (fun _ _ => ⟨rfl, rfl, (Nat.le_of_ble_eq_true rfl), (Nat.le_of_ble_eq_true rfl)⟩)
  dsimp only [Pt.U, Pt.locs, Pt.cells, Pt.slots] at X11 l11 y11 z11 st11 hQ11
  subst l11 y11 z11
  obtain ⟨i11, rfl, N11q, K11, s11, m11, Y11, V11⟩ := hQ11
  have ne1 : i8 ≠ i11 := Nat.ne_of_lt (Nat.lt_of_lt_of_le V10.lt s11)
  have ne2 : b9 ≠ i11 := Nat.ne_of_lt (Nat.lt_of_lt_of_le Y10.lt s11)
  have Z11 : n0 ≤ T11.heap.size := Nat.le_trans Z10 K11.1
  have Vi11 := V10.keep K11 nin0
  have Yi11 := Yi10.keep K11
  have Yb11 := Y10.keep K11
  have Fo11 := Fo10.keep K11 nin0
  have Fr11 := Fr10.keep K11 nin0
  have N11 := Fr.app N10 N11q
  obtain ⟨_, _, ⟨T12, L12, k12, n12⟩, -, X12, ⟨Lc12, hQ12, l12, y12, z12⟩, st12⟩ := Jvm.LawKit.callS X11 hx (y := (⟨"com/example/limpet/limpet/ExecutionResultPinLaw", "same", "([BIBBB)Z"⟩ : MethodName)) hown (mvT hZ (hw _ (List.mem_of_getElem? (i := 35) rfl))) (mvT hZ (hw _ (List.mem_of_getElem? (i := 36) rfl))) (mvT hZ (hw _ (List.mem_of_getElem? (i := 5) rfl))) (mvT hZ (hw _ (List.mem_of_getElem? (i := 37) rfl))) (by decide) (backOf (W := 0) (rmS l Z a0 hw [] kk i11 (p1 &&& (3 : Int32)) (p2.toInt8.toInt32) (p3.toInt8.toInt32) (p4.toInt8.toInt32) T11.heap n0 Z11 V11 hn) hZ (hw _ (List.mem_of_getElem? (i := 37) rfl)) (hw _ (List.mem_of_getElem? (i := 5) rfl)) (by decide) (by decide)) (g := (mkF m 87 #[.val (.int p1), .val (.int p2), .val (.int p3), .val (.int p4), .val (.int p5), .val (.int (p1 &&& (3 : Int32))), .val (.int (p2.toInt8.toInt32)), .val (.int (p3.toInt8.toInt32)), .val (.int (p4.toInt8.toInt32)), .val (.ref w6), .val (.ref i8), .val (.ref b9), .val (.ref i11), .unset] [(.int (p4.toInt8.toInt32)), (.int (p3.toInt8.toInt32)), (.int (p2.toInt8.toInt32)), (.int (p1 &&& (3 : Int32))), (.ref i11)])) rfl (by rw [hml]; rfl) (argsL := [(.ref i11), (.int (p1 &&& (3 : Int32))), (.int (p2.toInt8.toInt32)), (.int (p3.toInt8.toInt32)), (.int (p4.toInt8.toInt32))]) (rest := []) (lenOf pd_0_5 rfl) rfl (by show 2 * 0 + _ ≤ _; exact Nat.le_of_eq rfl) (hb hby at_87) (fun _ _ => ⟨rfl, rfl, (Nat.le_of_ble_eq_true rfl), (Nat.le_of_ble_eq_true rfl)⟩)
  dsimp only [Pt.U, Pt.locs, Pt.cells, Pt.slots] at X12 l12 y12 z12 st12 hQ12
  subst l12 y12 z12
  obtain ⟨rfl, N12q, hE12⟩ := hQ12
  have N12 := Fr.app N11 N12q
  have Vi14 : Arv Z T12.heap i8 kk .byte (p1 &&& (3 : Int32)) (own_bytes (p2.toInt8.toInt32) (p3.toInt8.toInt32) (p4.toInt8.toInt32)) (.int 0) := by rw [hE12]; exact Vi11
  have Yi14 : Exa Z T12.heap i8 "[B" := by rw [hE12]; exact Yi11
  have Yb14 : Exa Z T12.heap b9 "com/example/limpet/limpet/Execution" := by rw [hE12]; exact Yb11
  have Fo14 : Fld Z T12.heap b9 "com/example/limpet/limpet/Execution" "outcome" "Lcom/example/limpet/limpet/Execution$Outcome;" (.ref w6) := by rw [hE12]; exact Fo11
  have Fr14 : Fld Z T12.heap b9 "com/example/limpet/limpet/Execution" "result" "[B" (.ref i8) := by rw [hE12]; exact Fr11
  have lt11 : i11 < T12.heap.size := by rw [hE12]; exact V11.lt
  have Z14 : n0 ≤ T12.heap.size := by rw [hE12]; exact Z11
  obtain ⟨cq13, kq13, q13a, q13b, q13c⟩ := isOf hZ rfl Yb14
  obtain ⟨_, _, ⟨T13, L13, k13, n13⟩, -, X13, ⟨Lc13, hQ13, l13, y13, z13⟩, st13⟩ := X12.virtualBack hx (y := (⟨"com/example/limpet/limpet/Execution", "result", "()[B"⟩ : MethodName)) (z := (⟨"com/example/limpet/limpet/Execution", "result", "()[B"⟩ : MethodName)) hown (mvT hZ (hw _ (List.mem_of_getElem? (i := 21) rfl))) (mvT hZ (hw _ (List.mem_of_getElem? (i := 22) rfl))) (notFace_of_selects (args := #[]) (mvT hZ (hw _ (List.mem_of_getElem? (i := 24) rfl)))) (mvT hZ (hw _ (List.mem_of_getElem? (i := 24) rfl))) (mvT hZ (hw _ (List.mem_of_getElem? (i := 23) rfl))) (by decide) (backOf (W := 0) (rm4 l Z a0 hw [] kk (p1 &&& (3 : Int32)) (own_bytes (p2.toInt8.toInt32) (p3.toInt8.toInt32) (p4.toInt8.toInt32)) b9 i8 T12.heap n0 Z14 Fr14 Yi14 Vi14 hcap) hZ (hw _ (List.mem_of_getElem? (i := 25) rfl)) (hw _ (List.mem_of_getElem? (i := 10) rfl)) (by decide) (by decide)) q13a q13c (g := (mkF m 114 #[.val (.int p1), .val (.int p2), .val (.int p3), .val (.int p4), .val (.int p5), .val (.int (p1 &&& (3 : Int32))), .val (.int (p2.toInt8.toInt32)), .val (.int (p3.toInt8.toInt32)), .val (.int (p4.toInt8.toInt32)), .val (.ref w6), .val (.ref i8), .val (.ref b9), .val (.ref i11), .unset] [(.ref b9)])) rfl (by rw [hml]; rfl) (Steps.refl _) (argsL := []) (rest := []) (lenOf pd_0_3 rfl) rfl (by show 2 * 0 + _ ≤ _; exact Nat.le_of_eq rfl) (hb hby at_114) (fun _ _ => ⟨rfl, rfl, (Nat.le_of_ble_eq_true rfl), (Nat.le_of_ble_eq_true rfl)⟩)
  dsimp only [Pt.U, Pt.locs, Pt.cells, Pt.slots] at X13 l13 y13 z13 st13 hQ13
  subst l13 y13 z13
  obtain ⟨i15, rfl, N13q, K15, s15, m15, Y15, V15⟩ := hQ13
  have ne3 : i15 ≠ i11 := Ne.symm (Nat.ne_of_lt (Nat.lt_of_lt_of_le lt11 s15))
  have ne4 : i15 ≠ i8 := Ne.symm (Nat.ne_of_lt (Nat.lt_of_lt_of_le Vi14.lt s15))
  have Z15 : n0 ≤ T13.heap.size := Nat.le_trans Z14 K15.1
  have N13 := Fr.app N12 N13q
  obtain ⟨_, _, ⟨T14, L14, k14, n14⟩, -, X14, ⟨Lc14, hQ14, l14, y14, z14⟩, st14⟩ := Jvm.LawKit.callS X13 hx (y := (⟨"com/example/limpet/limpet/ExecutionResultPinLaw", "same", "([BIBBB)Z"⟩ : MethodName)) hown (mvT hZ (hw _ (List.mem_of_getElem? (i := 35) rfl))) (mvT hZ (hw _ (List.mem_of_getElem? (i := 36) rfl))) (mvT hZ (hw _ (List.mem_of_getElem? (i := 5) rfl))) (mvT hZ (hw _ (List.mem_of_getElem? (i := 37) rfl))) (by decide) (backOf (W := 0) (rmS l Z a0 hw [] kk i15 (p1 &&& (3 : Int32)) (p2.toInt8.toInt32) (p3.toInt8.toInt32) (p4.toInt8.toInt32) T13.heap n0 Z15 V15 hn) hZ (hw _ (List.mem_of_getElem? (i := 37) rfl)) (hw _ (List.mem_of_getElem? (i := 5) rfl)) (by decide) (by decide)) (g := (mkF m 145 #[.val (.int p1), .val (.int p2), .val (.int p3), .val (.int p4), .val (.int p5), .val (.int (p1 &&& (3 : Int32))), .val (.int (p2.toInt8.toInt32)), .val (.int (p3.toInt8.toInt32)), .val (.int (p4.toInt8.toInt32)), .val (.ref w6), .val (.ref i8), .val (.ref b9), .val (.ref i11), .val (.ref i15)] [(.int (p4.toInt8.toInt32)), (.int (p3.toInt8.toInt32)), (.int (p2.toInt8.toInt32)), (.int (p1 &&& (3 : Int32))), (.ref i15)])) rfl (by rw [hml]; rfl) (argsL := [(.ref i15), (.int (p1 &&& (3 : Int32))), (.int (p2.toInt8.toInt32)), (.int (p3.toInt8.toInt32)), (.int (p4.toInt8.toInt32))]) (rest := []) (lenOf pd_0_5 rfl) rfl (by show 2 * 0 + _ ≤ _; exact Nat.le_of_eq rfl) (hb hby at_145) (fun _ _ => ⟨rfl, rfl, (Nat.le_of_ble_eq_true rfl), (Nat.le_of_ble_eq_true rfl)⟩)
  dsimp only [Pt.U, Pt.locs, Pt.cells, Pt.slots] at X14 l14 y14 z14 st14 hQ14
  subst l14 y14 z14
  obtain ⟨rfl, N14q, hE16⟩ := hQ14
  have Yb16 : Exa Z T14.heap b9 "com/example/limpet/limpet/Execution" := by rw [hE16]; exact Yb14.keep K15
  have Fo16 : Fld Z T14.heap b9 "com/example/limpet/limpet/Execution" "outcome" "Lcom/example/limpet/limpet/Execution$Outcome;" (.ref w6) := by rw [hE16]; exact Fo14.keep K15 nin0
  have Z16 : n0 ≤ T14.heap.size := by rw [hE16]; exact Z15
  have N14 := Fr.app N13 N14q
  obtain ⟨cq15, kq15, q15a, q15b, q15c⟩ := isOf hZ rfl Yb16
  obtain ⟨_, _, ⟨T15, L15, k15, n15⟩, -, X15, ⟨Lc15, hQ15, l15, y15, z15⟩, st15⟩ := X14.virtualBack hx (y := (⟨"com/example/limpet/limpet/Execution", "outcome", "()Lcom/example/limpet/limpet/Execution$Outcome;"⟩ : MethodName)) (z := (⟨"com/example/limpet/limpet/Execution", "outcome", "()Lcom/example/limpet/limpet/Execution$Outcome;"⟩ : MethodName)) hown (mvT hZ (hw _ (List.mem_of_getElem? (i := 38) rfl))) (mvT hZ (hw _ (List.mem_of_getElem? (i := 39) rfl))) (notFace_of_selects (args := #[]) (mvT hZ (hw _ (List.mem_of_getElem? (i := 41) rfl)))) (mvT hZ (hw _ (List.mem_of_getElem? (i := 41) rfl))) (mvT hZ (hw _ (List.mem_of_getElem? (i := 40) rfl))) (by decide) (backOf (W := 0) (rm6 l Z a0 hw [] b9 w6 T14.heap n0 Z16 Fo16) hZ (hw _ (List.mem_of_getElem? (i := 42) rfl)) (hw _ (List.mem_of_getElem? (i := 10) rfl)) (by decide) (by decide)) q15a q15c (g := (mkF m 155 #[.val (.int p1), .val (.int p2), .val (.int p3), .val (.int p4), .val (.int p5), .val (.int (p1 &&& (3 : Int32))), .val (.int (p2.toInt8.toInt32)), .val (.int (p3.toInt8.toInt32)), .val (.int (p4.toInt8.toInt32)), .val (.ref w6), .val (.ref i8), .val (.ref b9), .val (.ref i11), .val (.ref i15)] [(.ref b9)])) rfl (by rw [hml]; rfl) (Steps.refl _) (argsL := []) (rest := []) (lenOf pd_0_6 rfl) rfl (by show 2 * 0 + _ ≤ _; exact Nat.le_of_eq rfl) (hb hby at_155) (fun _ _ => ⟨rfl, rfl, (Nat.le_of_ble_eq_true rfl), (Nat.le_of_ble_eq_true rfl)⟩)
  dsimp only [Pt.U, Pt.locs, Pt.cells, Pt.slots] at X15 l15 y15 z15 st15 hQ15
  subst l15 y15 z15
  obtain ⟨rfl, N15q, hE17⟩ := hQ15      -- what it returned, that it wrote nothing old, and the rest of your Q6
  have N15 := Fr.app N14 N15q
  obtain ⟨fs, hr, hrun, hended, hW, hsame⟩ := X15.leave (v := some (.int (1 : Int32))) (fun h => by rw [Bd.returns] at h; cases h)
  refine ⟨_, _, pre0 _ ?_, hrun, hended, _, _, rfl, ?_, ⟨_, rfl⟩, hW, hsame.mono (by decide) (by decide)⟩
  · show Steps p.tables e below (s₁.setTop (mkF m 0 #[.val (.int p1), .val (.int p2), .val (.int p3), .val (.int p4), .val (.int p5), .unset, .unset, .unset, .unset, .unset, .unset, .unset, .unset, .unset] [])) _
    refine XS.iloadN X0.here hx rfl (hb hby at_0) rfl ?_
    show Steps p.tables e below (s₁.setTop (mkF m 1 #[.val (.int p1), .val (.int p2), .val (.int p3), .val (.int p4), .val (.int p5), .unset, .unset, .unset, .unset, .unset, .unset, .unset, .unset, .unset] [(.int p1)])) _
    refine XS.iconst X0.here hx rfl (hb hby at_1) ?_
    show Steps p.tables e below (s₁.setTop (mkF m 2 #[.val (.int p1), .val (.int p2), .val (.int p3), .val (.int p4), .val (.int p5), .unset, .unset, .unset, .unset, .unset, .unset, .unset, .unset, .unset] [(.int (3 : Int32)), (.int p1)])) _
    refine XS.iand X0.here hx rfl (hb hby at_2) rfl ?_
    show Steps p.tables e below (s₁.setTop (mkF m 3 #[.val (.int p1), .val (.int p2), .val (.int p3), .val (.int p4), .val (.int p5), .unset, .unset, .unset, .unset, .unset, .unset, .unset, .unset, .unset] [(.int (p1 &&& (3 : Int32)))])) _
    refine XS.istore X0.here hx rfl (hb hby at_3) rfl (l' := #[.val (.int p1), .val (.int p2), .val (.int p3), .val (.int p4), .val (.int p5), .val (.int (p1 &&& (3 : Int32))), .unset, .unset, .unset, .unset, .unset, .unset, .unset, .unset]) rfl ?_
    show Steps p.tables e below (s₁.setTop (mkF m 5 #[.val (.int p1), .val (.int p2), .val (.int p3), .val (.int p4), .val (.int p5), .val (.int (p1 &&& (3 : Int32))), .unset, .unset, .unset, .unset, .unset, .unset, .unset, .unset] [])) _
    refine XS.iloadN X0.here hx rfl (hb hby at_5) rfl ?_
    show Steps p.tables e below (s₁.setTop (mkF m 6 #[.val (.int p1), .val (.int p2), .val (.int p3), .val (.int p4), .val (.int p5), .val (.int (p1 &&& (3 : Int32))), .unset, .unset, .unset, .unset, .unset, .unset, .unset, .unset] [(.int p2)])) _
    refine XS.i2b X0.here hx rfl (hb hby at_6) rfl ?_
    show Steps p.tables e below (s₁.setTop (mkF m 7 #[.val (.int p1), .val (.int p2), .val (.int p3), .val (.int p4), .val (.int p5), .val (.int (p1 &&& (3 : Int32))), .unset, .unset, .unset, .unset, .unset, .unset, .unset, .unset] [(.int (p2.toInt8.toInt32))])) _
    refine XS.istore X0.here hx rfl (hb hby at_7) rfl (l' := #[.val (.int p1), .val (.int p2), .val (.int p3), .val (.int p4), .val (.int p5), .val (.int (p1 &&& (3 : Int32))), .val (.int (p2.toInt8.toInt32)), .unset, .unset, .unset, .unset, .unset, .unset, .unset]) rfl ?_
    show Steps p.tables e below (s₁.setTop (mkF m 9 #[.val (.int p1), .val (.int p2), .val (.int p3), .val (.int p4), .val (.int p5), .val (.int (p1 &&& (3 : Int32))), .val (.int (p2.toInt8.toInt32)), .unset, .unset, .unset, .unset, .unset, .unset, .unset] [])) _
    refine XS.iloadN X0.here hx rfl (hb hby at_9) rfl ?_
    show Steps p.tables e below (s₁.setTop (mkF m 10 #[.val (.int p1), .val (.int p2), .val (.int p3), .val (.int p4), .val (.int p5), .val (.int (p1 &&& (3 : Int32))), .val (.int (p2.toInt8.toInt32)), .unset, .unset, .unset, .unset, .unset, .unset, .unset] [(.int p3)])) _
    refine XS.i2b X0.here hx rfl (hb hby at_10) rfl ?_
    show Steps p.tables e below (s₁.setTop (mkF m 11 #[.val (.int p1), .val (.int p2), .val (.int p3), .val (.int p4), .val (.int p5), .val (.int (p1 &&& (3 : Int32))), .val (.int (p2.toInt8.toInt32)), .unset, .unset, .unset, .unset, .unset, .unset, .unset] [(.int (p3.toInt8.toInt32))])) _
    refine XS.istore X0.here hx rfl (hb hby at_11) rfl (l' := #[.val (.int p1), .val (.int p2), .val (.int p3), .val (.int p4), .val (.int p5), .val (.int (p1 &&& (3 : Int32))), .val (.int (p2.toInt8.toInt32)), .val (.int (p3.toInt8.toInt32)), .unset, .unset, .unset, .unset, .unset, .unset]) rfl ?_
    show Steps p.tables e below (s₁.setTop (mkF m 13 #[.val (.int p1), .val (.int p2), .val (.int p3), .val (.int p4), .val (.int p5), .val (.int (p1 &&& (3 : Int32))), .val (.int (p2.toInt8.toInt32)), .val (.int (p3.toInt8.toInt32)), .unset, .unset, .unset, .unset, .unset, .unset] [])) _
    refine XS.iloadN X0.here hx rfl (hb hby at_13) rfl ?_
    show Steps p.tables e below (s₁.setTop (mkF m 14 #[.val (.int p1), .val (.int p2), .val (.int p3), .val (.int p4), .val (.int p5), .val (.int (p1 &&& (3 : Int32))), .val (.int (p2.toInt8.toInt32)), .val (.int (p3.toInt8.toInt32)), .unset, .unset, .unset, .unset, .unset, .unset] [(.int p4)])) _
    refine XS.i2b X0.here hx rfl (hb hby at_14) rfl ?_
    show Steps p.tables e below (s₁.setTop (mkF m 15 #[.val (.int p1), .val (.int p2), .val (.int p3), .val (.int p4), .val (.int p5), .val (.int (p1 &&& (3 : Int32))), .val (.int (p2.toInt8.toInt32)), .val (.int (p3.toInt8.toInt32)), .unset, .unset, .unset, .unset, .unset, .unset] [(.int (p4.toInt8.toInt32))])) _
    refine XS.istore X0.here hx rfl (hb hby at_15) rfl (l' := #[.val (.int p1), .val (.int p2), .val (.int p3), .val (.int p4), .val (.int p5), .val (.int (p1 &&& (3 : Int32))), .val (.int (p2.toInt8.toInt32)), .val (.int (p3.toInt8.toInt32)), .val (.int (p4.toInt8.toInt32)), .unset, .unset, .unset, .unset, .unset]) rfl ?_
    show Steps p.tables e below (s₁.setTop (mkF m 17 #[.val (.int p1), .val (.int p2), .val (.int p3), .val (.int p4), .val (.int p5), .val (.int (p1 &&& (3 : Int32))), .val (.int (p2.toInt8.toInt32)), .val (.int (p3.toInt8.toInt32)), .val (.int (p4.toInt8.toInt32)), .unset, .unset, .unset, .unset, .unset] [])) _
    refine XS.iload X0.here hx rfl (hb hby at_17) rfl ?_
    show Steps p.tables e below (s₁.setTop (mkF m 19 #[.val (.int p1), .val (.int p2), .val (.int p3), .val (.int p4), .val (.int p5), .val (.int (p1 &&& (3 : Int32))), .val (.int (p2.toInt8.toInt32)), .val (.int (p3.toInt8.toInt32)), .val (.int (p4.toInt8.toInt32)), .unset, .unset, .unset, .unset, .unset] [(.int p5)])) _
    refine XS.iconst X0.here hx rfl (hb hby at_19) ?_
    show Steps p.tables e below (s₁.setTop (mkF m 20 #[.val (.int p1), .val (.int p2), .val (.int p3), .val (.int p4), .val (.int p5), .val (.int (p1 &&& (3 : Int32))), .val (.int (p2.toInt8.toInt32)), .val (.int (p3.toInt8.toInt32)), .val (.int (p4.toInt8.toInt32)), .unset, .unset, .unset, .unset, .unset] [(.int (1 : Int32)), (.int p5)])) _
    refine XS.iand X0.here hx rfl (hb hby at_20) rfl ?_
    show Steps p.tables e below (s₁.setTop (mkF m 21 #[.val (.int p1), .val (.int p2), .val (.int p3), .val (.int p4), .val (.int p5), .val (.int (p1 &&& (3 : Int32))), .val (.int (p2.toInt8.toInt32)), .val (.int (p3.toInt8.toInt32)), .val (.int (p4.toInt8.toInt32)), .unset, .unset, .unset, .unset, .unset] [(.int (p5 &&& (1 : Int32)))])) _
    refine XS.ifNo X0.here hx rfl (hb hby at_21) rfl ((if0 _ _).trans (feq hc21).1) ?_
    show Steps p.tables e below (s₁.setTop (mkF m 24 #[.val (.int p1), .val (.int p2), .val (.int p3), .val (.int p4), .val (.int p5), .val (.int (p1 &&& (3 : Int32))), .val (.int (p2.toInt8.toInt32)), .val (.int (p3.toInt8.toInt32)), .val (.int (p4.toInt8.toInt32)), .unset, .unset, .unset, .unset, .unset] [])) _
    refine st7 _ ?_
    show Steps p.tables e below (T7.setTop (mkF m 27 #[.val (.int p1), .val (.int p2), .val (.int p3), .val (.int p4), .val (.int p5), .val (.int (p1 &&& (3 : Int32))), .val (.int (p2.toInt8.toInt32)), .val (.int (p3.toInt8.toInt32)), .val (.int (p4.toInt8.toInt32)), .unset, .unset, .unset, .unset, .unset] [(.ref w6)])) _
    refine XS.goto X7.here hx rfl (pc0 := 27) (pc' := 33) rfl (hb hby at_27) (by decide) (by decide) ?_
    show Steps p.tables e below (T7.setTop (mkF m 33 #[.val (.int p1), .val (.int p2), .val (.int p3), .val (.int p4), .val (.int p5), .val (.int (p1 &&& (3 : Int32))), .val (.int (p2.toInt8.toInt32)), .val (.int (p3.toInt8.toInt32)), .val (.int (p4.toInt8.toInt32)), .unset, .unset, .unset, .unset, .unset] [(.ref w6)])) _
    refine XS.astore X7.here hx rfl (hb hby at_33) rfl rfl (l' := #[.val (.int p1), .val (.int p2), .val (.int p3), .val (.int p4), .val (.int p5), .val (.int (p1 &&& (3 : Int32))), .val (.int (p2.toInt8.toInt32)), .val (.int (p3.toInt8.toInt32)), .val (.int (p4.toInt8.toInt32)), .val (.ref w6), .unset, .unset, .unset, .unset]) rfl ?_
    show Steps p.tables e below (T7.setTop (mkF m 35 #[.val (.int p1), .val (.int p2), .val (.int p3), .val (.int p4), .val (.int p5), .val (.int (p1 &&& (3 : Int32))), .val (.int (p2.toInt8.toInt32)), .val (.int (p3.toInt8.toInt32)), .val (.int (p4.toInt8.toInt32)), .val (.ref w6), .unset, .unset, .unset, .unset] [])) _
    refine XS.iload X7.here hx rfl (hb hby at_35) rfl ?_
    show Steps p.tables e below (T7.setTop (mkF m 37 #[.val (.int p1), .val (.int p2), .val (.int p3), .val (.int p4), .val (.int p5), .val (.int (p1 &&& (3 : Int32))), .val (.int (p2.toInt8.toInt32)), .val (.int (p3.toInt8.toInt32)), .val (.int (p4.toInt8.toInt32)), .val (.ref w6), .unset, .unset, .unset, .unset] [(.int (p1 &&& (3 : Int32)))])) _
    refine XS.iload X7.here hx rfl (hb hby at_37) rfl ?_
    show Steps p.tables e below (T7.setTop (mkF m 39 #[.val (.int p1), .val (.int p2), .val (.int p3), .val (.int p4), .val (.int p5), .val (.int (p1 &&& (3 : Int32))), .val (.int (p2.toInt8.toInt32)), .val (.int (p3.toInt8.toInt32)), .val (.int (p4.toInt8.toInt32)), .val (.ref w6), .unset, .unset, .unset, .unset] [(.int (p2.toInt8.toInt32)), (.int (p1 &&& (3 : Int32)))])) _
    refine XS.iload X7.here hx rfl (hb hby at_39) rfl ?_
    show Steps p.tables e below (T7.setTop (mkF m 41 #[.val (.int p1), .val (.int p2), .val (.int p3), .val (.int p4), .val (.int p5), .val (.int (p1 &&& (3 : Int32))), .val (.int (p2.toInt8.toInt32)), .val (.int (p3.toInt8.toInt32)), .val (.int (p4.toInt8.toInt32)), .val (.ref w6), .unset, .unset, .unset, .unset] [(.int (p3.toInt8.toInt32)), (.int (p2.toInt8.toInt32)), (.int (p1 &&& (3 : Int32)))])) _
    refine XS.iload X7.here hx rfl (hb hby at_41) rfl ?_
    show Steps p.tables e below (T7.setTop (mkF m 43 #[.val (.int p1), .val (.int p2), .val (.int p3), .val (.int p4), .val (.int p5), .val (.int (p1 &&& (3 : Int32))), .val (.int (p2.toInt8.toInt32)), .val (.int (p3.toInt8.toInt32)), .val (.int (p4.toInt8.toInt32)), .val (.ref w6), .unset, .unset, .unset, .unset] [(.int (p4.toInt8.toInt32)), (.int (p3.toInt8.toInt32)), (.int (p2.toInt8.toInt32)), (.int (p1 &&& (3 : Int32)))])) _
    refine st8 _ ?_
    show Steps p.tables e below (T8.setTop (mkF m 46 #[.val (.int p1), .val (.int p2), .val (.int p3), .val (.int p4), .val (.int p5), .val (.int (p1 &&& (3 : Int32))), .val (.int (p2.toInt8.toInt32)), .val (.int (p3.toInt8.toInt32)), .val (.int (p4.toInt8.toInt32)), .val (.ref w6), .unset, .unset, .unset, .unset] [(.ref i8)])) _
    refine XS.astore X8.here hx rfl (hb hby at_46) rfl rfl (l' := #[.val (.int p1), .val (.int p2), .val (.int p3), .val (.int p4), .val (.int p5), .val (.int (p1 &&& (3 : Int32))), .val (.int (p2.toInt8.toInt32)), .val (.int (p3.toInt8.toInt32)), .val (.int (p4.toInt8.toInt32)), .val (.ref w6), .val (.ref i8), .unset, .unset, .unset]) rfl ?_
    show Steps p.tables e below (T8.setTop (mkF m 48 #[.val (.int p1), .val (.int p2), .val (.int p3), .val (.int p4), .val (.int p5), .val (.int (p1 &&& (3 : Int32))), .val (.int (p2.toInt8.toInt32)), .val (.int (p3.toInt8.toInt32)), .val (.int (p4.toInt8.toInt32)), .val (.ref w6), .val (.ref i8), .unset, .unset, .unset] [])) _
    refine st9 _ ?_
    show Steps p.tables e below (T9.setTop (mkF m 51 #[.val (.int p1), .val (.int p2), .val (.int p3), .val (.int p4), .val (.int p5), .val (.int (p1 &&& (3 : Int32))), .val (.int (p2.toInt8.toInt32)), .val (.int (p3.toInt8.toInt32)), .val (.int (p4.toInt8.toInt32)), .val (.ref w6), .val (.ref i8), .unset, .unset, .unset] [(.ref b9)])) _
    refine XS.dup X9.here hx rfl (hb hby at_51) rfl rfl ?_
    show Steps p.tables e below (T9.setTop (mkF m 52 #[.val (.int p1), .val (.int p2), .val (.int p3), .val (.int p4), .val (.int p5), .val (.int (p1 &&& (3 : Int32))), .val (.int (p2.toInt8.toInt32)), .val (.int (p3.toInt8.toInt32)), .val (.int (p4.toInt8.toInt32)), .val (.ref w6), .val (.ref i8), .unset, .unset, .unset] [(.ref b9), (.ref b9)])) _
    refine XS.aload X9.here hx rfl (hb hby at_52) rfl rfl ?_
    show Steps p.tables e below (T9.setTop (mkF m 54 #[.val (.int p1), .val (.int p2), .val (.int p3), .val (.int p4), .val (.int p5), .val (.int (p1 &&& (3 : Int32))), .val (.int (p2.toInt8.toInt32)), .val (.int (p3.toInt8.toInt32)), .val (.int (p4.toInt8.toInt32)), .val (.ref w6), .val (.ref i8), .unset, .unset, .unset] [(.ref w6), (.ref b9), (.ref b9)])) _
    refine XS.aload X9.here hx rfl (hb hby at_54) rfl rfl ?_
    show Steps p.tables e below (T9.setTop (mkF m 56 #[.val (.int p1), .val (.int p2), .val (.int p3), .val (.int p4), .val (.int p5), .val (.int (p1 &&& (3 : Int32))), .val (.int (p2.toInt8.toInt32)), .val (.int (p3.toInt8.toInt32)), .val (.int (p4.toInt8.toInt32)), .val (.ref w6), .val (.ref i8), .unset, .unset, .unset] [(.ref i8), (.ref w6), (.ref b9), (.ref b9)])) _
    refine st10.trans ?_
    show Steps p.tables e below (T10.setTop (mkF m 59 #[.val (.int p1), .val (.int p2), .val (.int p3), .val (.int p4), .val (.int p5), .val (.int (p1 &&& (3 : Int32))), .val (.int (p2.toInt8.toInt32)), .val (.int (p3.toInt8.toInt32)), .val (.int (p4.toInt8.toInt32)), .val (.ref w6), .val (.ref i8), .unset, .unset, .unset] [(.ref b9)])) _
    refine XS.astore X10.here hx rfl (hb hby at_59) rfl rfl (l' := #[.val (.int p1), .val (.int p2), .val (.int p3), .val (.int p4), .val (.int p5), .val (.int (p1 &&& (3 : Int32))), .val (.int (p2.toInt8.toInt32)), .val (.int (p3.toInt8.toInt32)), .val (.int (p4.toInt8.toInt32)), .val (.ref w6), .val (.ref i8), .val (.ref b9), .unset, .unset]) rfl ?_
    show Steps p.tables e below (T10.setTop (mkF m 61 #[.val (.int p1), .val (.int p2), .val (.int p3), .val (.int p4), .val (.int p5), .val (.int (p1 &&& (3 : Int32))), .val (.int (p2.toInt8.toInt32)), .val (.int (p3.toInt8.toInt32)), .val (.int (p4.toInt8.toInt32)), .val (.ref w6), .val (.ref i8), .val (.ref b9), .unset, .unset] [])) _
    refine XS.aload X10.here hx rfl (hb hby at_61) rfl rfl ?_
    show Steps p.tables e below (T10.setTop (mkF m 63 #[.val (.int p1), .val (.int p2), .val (.int p3), .val (.int p4), .val (.int p5), .val (.int (p1 &&& (3 : Int32))), .val (.int (p2.toInt8.toInt32)), .val (.int (p3.toInt8.toInt32)), .val (.int (p4.toInt8.toInt32)), .val (.ref w6), .val (.ref i8), .val (.ref b9), .unset, .unset] [(.ref b9)])) _
    refine st11.trans ?_
    show Steps p.tables e below (T11.setTop (mkF m 66 #[.val (.int p1), .val (.int p2), .val (.int p3), .val (.int p4), .val (.int p5), .val (.int (p1 &&& (3 : Int32))), .val (.int (p2.toInt8.toInt32)), .val (.int (p3.toInt8.toInt32)), .val (.int (p4.toInt8.toInt32)), .val (.ref w6), .val (.ref i8), .val (.ref b9), .unset, .unset] [(.ref i11)])) _
    refine XS.astore X11.here hx rfl (hb hby at_66) rfl rfl (l' := #[.val (.int p1), .val (.int p2), .val (.int p3), .val (.int p4), .val (.int p5), .val (.int (p1 &&& (3 : Int32))), .val (.int (p2.toInt8.toInt32)), .val (.int (p3.toInt8.toInt32)), .val (.int (p4.toInt8.toInt32)), .val (.ref w6), .val (.ref i8), .val (.ref b9), .val (.ref i11), .unset]) rfl ?_
    show Steps p.tables e below (T11.setTop (mkF m 68 #[.val (.int p1), .val (.int p2), .val (.int p3), .val (.int p4), .val (.int p5), .val (.int (p1 &&& (3 : Int32))), .val (.int (p2.toInt8.toInt32)), .val (.int (p3.toInt8.toInt32)), .val (.int (p4.toInt8.toInt32)), .val (.ref w6), .val (.ref i8), .val (.ref b9), .val (.ref i11), .unset] [])) _
    refine XS.aload X11.here hx rfl (hb hby at_68) rfl rfl ?_
    show Steps p.tables e below (T11.setTop (mkF m 70 #[.val (.int p1), .val (.int p2), .val (.int p3), .val (.int p4), .val (.int p5), .val (.int (p1 &&& (3 : Int32))), .val (.int (p2.toInt8.toInt32)), .val (.int (p3.toInt8.toInt32)), .val (.int (p4.toInt8.toInt32)), .val (.ref w6), .val (.ref i8), .val (.ref b9), .val (.ref i11), .unset] [(.ref i11)])) _
    refine XS.aload X11.here hx rfl (hb hby at_70) rfl rfl ?_
    show Steps p.tables e below (T11.setTop (mkF m 72 #[.val (.int p1), .val (.int p2), .val (.int p3), .val (.int p4), .val (.int p5), .val (.int (p1 &&& (3 : Int32))), .val (.int (p2.toInt8.toInt32)), .val (.int (p3.toInt8.toInt32)), .val (.int (p4.toInt8.toInt32)), .val (.ref w6), .val (.ref i8), .val (.ref b9), .val (.ref i11), .unset] [(.ref i8), (.ref i11)])) _
    refine Jvm.RoadKit.acmp (g := (mkF m 72 #[.val (.int p1), .val (.int p2), .val (.int p3), .val (.int p4), .val (.int p5), .val (.int (p1 &&& (3 : Int32))), .val (.int (p2.toInt8.toInt32)), .val (.int (p3.toInt8.toInt32)), .val (.int (p4.toInt8.toInt32)), .val (.ref w6), .val (.ref i8), .val (.ref b9), .val (.ref i11), .unset] [(.ref i8), (.ref i11)])) X11 hx rfl rfl rfl (pc0 := 72) (pc' := 77) (same := false) rfl (hb hby at_72) rfl (decide_eq_false fun q => ne1 (Value.ref.inj q).symm) (by decide) (by decide) ?_
    show Steps p.tables e below (T11.setTop (mkF m 77 #[.val (.int p1), .val (.int p2), .val (.int p3), .val (.int p4), .val (.int p5), .val (.int (p1 &&& (3 : Int32))), .val (.int (p2.toInt8.toInt32)), .val (.int (p3.toInt8.toInt32)), .val (.int (p4.toInt8.toInt32)), .val (.ref w6), .val (.ref i8), .val (.ref b9), .val (.ref i11), .unset] [])) _
    refine XS.aload X11.here hx rfl (hb hby at_77) rfl rfl ?_
    show Steps p.tables e below (T11.setTop (mkF m 79 #[.val (.int p1), .val (.int p2), .val (.int p3), .val (.int p4), .val (.int p5), .val (.int (p1 &&& (3 : Int32))), .val (.int (p2.toInt8.toInt32)), .val (.int (p3.toInt8.toInt32)), .val (.int (p4.toInt8.toInt32)), .val (.ref w6), .val (.ref i8), .val (.ref b9), .val (.ref i11), .unset] [(.ref i11)])) _
    refine XS.iload X11.here hx rfl (hb hby at_79) rfl ?_
    show Steps p.tables e below (T11.setTop (mkF m 81 #[.val (.int p1), .val (.int p2), .val (.int p3), .val (.int p4), .val (.int p5), .val (.int (p1 &&& (3 : Int32))), .val (.int (p2.toInt8.toInt32)), .val (.int (p3.toInt8.toInt32)), .val (.int (p4.toInt8.toInt32)), .val (.ref w6), .val (.ref i8), .val (.ref b9), .val (.ref i11), .unset] [(.int (p1 &&& (3 : Int32))), (.ref i11)])) _
    refine XS.iload X11.here hx rfl (hb hby at_81) rfl ?_
    show Steps p.tables e below (T11.setTop (mkF m 83 #[.val (.int p1), .val (.int p2), .val (.int p3), .val (.int p4), .val (.int p5), .val (.int (p1 &&& (3 : Int32))), .val (.int (p2.toInt8.toInt32)), .val (.int (p3.toInt8.toInt32)), .val (.int (p4.toInt8.toInt32)), .val (.ref w6), .val (.ref i8), .val (.ref b9), .val (.ref i11), .unset] [(.int (p2.toInt8.toInt32)), (.int (p1 &&& (3 : Int32))), (.ref i11)])) _
    refine XS.iload X11.here hx rfl (hb hby at_83) rfl ?_
    show Steps p.tables e below (T11.setTop (mkF m 85 #[.val (.int p1), .val (.int p2), .val (.int p3), .val (.int p4), .val (.int p5), .val (.int (p1 &&& (3 : Int32))), .val (.int (p2.toInt8.toInt32)), .val (.int (p3.toInt8.toInt32)), .val (.int (p4.toInt8.toInt32)), .val (.ref w6), .val (.ref i8), .val (.ref b9), .val (.ref i11), .unset] [(.int (p3.toInt8.toInt32)), (.int (p2.toInt8.toInt32)), (.int (p1 &&& (3 : Int32))), (.ref i11)])) _
    refine XS.iload X11.here hx rfl (hb hby at_85) rfl ?_
    show Steps p.tables e below (T11.setTop (mkF m 87 #[.val (.int p1), .val (.int p2), .val (.int p3), .val (.int p4), .val (.int p5), .val (.int (p1 &&& (3 : Int32))), .val (.int (p2.toInt8.toInt32)), .val (.int (p3.toInt8.toInt32)), .val (.int (p4.toInt8.toInt32)), .val (.ref w6), .val (.ref i8), .val (.ref b9), .val (.ref i11), .unset] [(.int (p4.toInt8.toInt32)), (.int (p3.toInt8.toInt32)), (.int (p2.toInt8.toInt32)), (.int (p1 &&& (3 : Int32))), (.ref i11)])) _
    refine st12 _ ?_
    show Steps p.tables e below (T12.setTop (mkF m 90 #[.val (.int p1), .val (.int p2), .val (.int p3), .val (.int p4), .val (.int p5), .val (.int (p1 &&& (3 : Int32))), .val (.int (p2.toInt8.toInt32)), .val (.int (p3.toInt8.toInt32)), .val (.int (p4.toInt8.toInt32)), .val (.ref w6), .val (.ref i8), .val (.ref b9), .val (.ref i11), .unset] [(.int (1 : Int32))])) _
    refine XS.ifYes X12.here hx rfl (pc0 := 90) (pc' := 95) rfl (hb hby at_90) rfl ((if0 _ _).trans (feq (by decide : ¬ ((1 : Int32) = (0 : Int32)))).2) (by decide) (by decide) ?_
    show Steps p.tables e below (T12.setTop (mkF m 95 #[.val (.int p1), .val (.int p2), .val (.int p3), .val (.int p4), .val (.int p5), .val (.int (p1 &&& (3 : Int32))), .val (.int (p2.toInt8.toInt32)), .val (.int (p3.toInt8.toInt32)), .val (.int (p4.toInt8.toInt32)), .val (.ref w6), .val (.ref i8), .val (.ref b9), .val (.ref i11), .unset] [])) _
    refine XS.iload X12.here hx rfl (hb hby at_95) rfl ?_
    show Steps p.tables e below (T12.setTop (mkF m 97 #[.val (.int p1), .val (.int p2), .val (.int p3), .val (.int p4), .val (.int p5), .val (.int (p1 &&& (3 : Int32))), .val (.int (p2.toInt8.toInt32)), .val (.int (p3.toInt8.toInt32)), .val (.int (p4.toInt8.toInt32)), .val (.ref w6), .val (.ref i8), .val (.ref b9), .val (.ref i11), .unset] [(.int (p1 &&& (3 : Int32)))])) _
    refine XS.iconst X12.here hx rfl (hb hby at_97) ?_
    show Steps p.tables e below (T12.setTop (mkF m 98 #[.val (.int p1), .val (.int p2), .val (.int p3), .val (.int p4), .val (.int p5), .val (.int (p1 &&& (3 : Int32))), .val (.int (p2.toInt8.toInt32)), .val (.int (p3.toInt8.toInt32)), .val (.int (p4.toInt8.toInt32)), .val (.ref w6), .val (.ref i8), .val (.ref b9), .val (.ref i11), .unset] [(.int (1 : Int32)), (.int (p1 &&& (3 : Int32)))])) _
    refine XS.icmpYes X12.here hx rfl (pc0 := 98) (pc' := 112) rfl (hb hby at_98) rfl (tlt hc98).1 (by decide) (by decide) ?_
    show Steps p.tables e below (T12.setTop (mkF m 112 #[.val (.int p1), .val (.int p2), .val (.int p3), .val (.int p4), .val (.int p5), .val (.int (p1 &&& (3 : Int32))), .val (.int (p2.toInt8.toInt32)), .val (.int (p3.toInt8.toInt32)), .val (.int (p4.toInt8.toInt32)), .val (.ref w6), .val (.ref i8), .val (.ref b9), .val (.ref i11), .unset] [])) _
    refine XS.aload X12.here hx rfl (hb hby at_112) rfl rfl ?_
    show Steps p.tables e below (T12.setTop (mkF m 114 #[.val (.int p1), .val (.int p2), .val (.int p3), .val (.int p4), .val (.int p5), .val (.int (p1 &&& (3 : Int32))), .val (.int (p2.toInt8.toInt32)), .val (.int (p3.toInt8.toInt32)), .val (.int (p4.toInt8.toInt32)), .val (.ref w6), .val (.ref i8), .val (.ref b9), .val (.ref i11), .unset] [(.ref b9)])) _
    refine st13.trans ?_
    show Steps p.tables e below (T13.setTop (mkF m 117 #[.val (.int p1), .val (.int p2), .val (.int p3), .val (.int p4), .val (.int p5), .val (.int (p1 &&& (3 : Int32))), .val (.int (p2.toInt8.toInt32)), .val (.int (p3.toInt8.toInt32)), .val (.int (p4.toInt8.toInt32)), .val (.ref w6), .val (.ref i8), .val (.ref b9), .val (.ref i11), .unset] [(.ref i15)])) _
    refine XS.astore X13.here hx rfl (hb hby at_117) rfl rfl (l' := #[.val (.int p1), .val (.int p2), .val (.int p3), .val (.int p4), .val (.int p5), .val (.int (p1 &&& (3 : Int32))), .val (.int (p2.toInt8.toInt32)), .val (.int (p3.toInt8.toInt32)), .val (.int (p4.toInt8.toInt32)), .val (.ref w6), .val (.ref i8), .val (.ref b9), .val (.ref i11), .val (.ref i15)]) rfl ?_
    show Steps p.tables e below (T13.setTop (mkF m 119 #[.val (.int p1), .val (.int p2), .val (.int p3), .val (.int p4), .val (.int p5), .val (.int (p1 &&& (3 : Int32))), .val (.int (p2.toInt8.toInt32)), .val (.int (p3.toInt8.toInt32)), .val (.int (p4.toInt8.toInt32)), .val (.ref w6), .val (.ref i8), .val (.ref b9), .val (.ref i11), .val (.ref i15)] [])) _
    refine XS.aload X13.here hx rfl (hb hby at_119) rfl rfl ?_
    show Steps p.tables e below (T13.setTop (mkF m 121 #[.val (.int p1), .val (.int p2), .val (.int p3), .val (.int p4), .val (.int p5), .val (.int (p1 &&& (3 : Int32))), .val (.int (p2.toInt8.toInt32)), .val (.int (p3.toInt8.toInt32)), .val (.int (p4.toInt8.toInt32)), .val (.ref w6), .val (.ref i8), .val (.ref b9), .val (.ref i11), .val (.ref i15)] [(.ref i15)])) _
    refine XS.aload X13.here hx rfl (hb hby at_121) rfl rfl ?_
    show Steps p.tables e below (T13.setTop (mkF m 123 #[.val (.int p1), .val (.int p2), .val (.int p3), .val (.int p4), .val (.int p5), .val (.int (p1 &&& (3 : Int32))), .val (.int (p2.toInt8.toInt32)), .val (.int (p3.toInt8.toInt32)), .val (.int (p4.toInt8.toInt32)), .val (.ref w6), .val (.ref i8), .val (.ref b9), .val (.ref i11), .val (.ref i15)] [(.ref i11), (.ref i15)])) _
    refine Jvm.RoadKit.acmp (g := (mkF m 123 #[.val (.int p1), .val (.int p2), .val (.int p3), .val (.int p4), .val (.int p5), .val (.int (p1 &&& (3 : Int32))), .val (.int (p2.toInt8.toInt32)), .val (.int (p3.toInt8.toInt32)), .val (.int (p4.toInt8.toInt32)), .val (.ref w6), .val (.ref i8), .val (.ref b9), .val (.ref i11), .val (.ref i15)] [(.ref i11), (.ref i15)])) X13 hx rfl rfl rfl (pc0 := 123) (pc' := 126) (same := false) rfl (hb hby at_123) rfl (decide_eq_false fun q => ne3 (Value.ref.inj q)) (by decide) (by decide) ?_
    show Steps p.tables e below (T13.setTop (mkF m 126 #[.val (.int p1), .val (.int p2), .val (.int p3), .val (.int p4), .val (.int p5), .val (.int (p1 &&& (3 : Int32))), .val (.int (p2.toInt8.toInt32)), .val (.int (p3.toInt8.toInt32)), .val (.int (p4.toInt8.toInt32)), .val (.ref w6), .val (.ref i8), .val (.ref b9), .val (.ref i11), .val (.ref i15)] [])) _
    refine XS.aload X13.here hx rfl (hb hby at_126) rfl rfl ?_
    show Steps p.tables e below (T13.setTop (mkF m 128 #[.val (.int p1), .val (.int p2), .val (.int p3), .val (.int p4), .val (.int p5), .val (.int (p1 &&& (3 : Int32))), .val (.int (p2.toInt8.toInt32)), .val (.int (p3.toInt8.toInt32)), .val (.int (p4.toInt8.toInt32)), .val (.ref w6), .val (.ref i8), .val (.ref b9), .val (.ref i11), .val (.ref i15)] [(.ref i15)])) _
    refine XS.aload X13.here hx rfl (hb hby at_128) rfl rfl ?_
    show Steps p.tables e below (T13.setTop (mkF m 130 #[.val (.int p1), .val (.int p2), .val (.int p3), .val (.int p4), .val (.int p5), .val (.int (p1 &&& (3 : Int32))), .val (.int (p2.toInt8.toInt32)), .val (.int (p3.toInt8.toInt32)), .val (.int (p4.toInt8.toInt32)), .val (.ref w6), .val (.ref i8), .val (.ref b9), .val (.ref i11), .val (.ref i15)] [(.ref i8), (.ref i15)])) _
    refine Jvm.RoadKit.acmp (g := (mkF m 130 #[.val (.int p1), .val (.int p2), .val (.int p3), .val (.int p4), .val (.int p5), .val (.int (p1 &&& (3 : Int32))), .val (.int (p2.toInt8.toInt32)), .val (.int (p3.toInt8.toInt32)), .val (.int (p4.toInt8.toInt32)), .val (.ref w6), .val (.ref i8), .val (.ref b9), .val (.ref i11), .val (.ref i15)] [(.ref i8), (.ref i15)])) X13 hx rfl rfl rfl (pc0 := 130) (pc' := 135) (same := false) rfl (hb hby at_130) rfl (decide_eq_false fun q => ne4 (Value.ref.inj q)) (by decide) (by decide) ?_
    show Steps p.tables e below (T13.setTop (mkF m 135 #[.val (.int p1), .val (.int p2), .val (.int p3), .val (.int p4), .val (.int p5), .val (.int (p1 &&& (3 : Int32))), .val (.int (p2.toInt8.toInt32)), .val (.int (p3.toInt8.toInt32)), .val (.int (p4.toInt8.toInt32)), .val (.ref w6), .val (.ref i8), .val (.ref b9), .val (.ref i11), .val (.ref i15)] [])) _
    refine XS.aload X13.here hx rfl (hb hby at_135) rfl rfl ?_
    show Steps p.tables e below (T13.setTop (mkF m 137 #[.val (.int p1), .val (.int p2), .val (.int p3), .val (.int p4), .val (.int p5), .val (.int (p1 &&& (3 : Int32))), .val (.int (p2.toInt8.toInt32)), .val (.int (p3.toInt8.toInt32)), .val (.int (p4.toInt8.toInt32)), .val (.ref w6), .val (.ref i8), .val (.ref b9), .val (.ref i11), .val (.ref i15)] [(.ref i15)])) _
    refine XS.iload X13.here hx rfl (hb hby at_137) rfl ?_
    show Steps p.tables e below (T13.setTop (mkF m 139 #[.val (.int p1), .val (.int p2), .val (.int p3), .val (.int p4), .val (.int p5), .val (.int (p1 &&& (3 : Int32))), .val (.int (p2.toInt8.toInt32)), .val (.int (p3.toInt8.toInt32)), .val (.int (p4.toInt8.toInt32)), .val (.ref w6), .val (.ref i8), .val (.ref b9), .val (.ref i11), .val (.ref i15)] [(.int (p1 &&& (3 : Int32))), (.ref i15)])) _
    refine XS.iload X13.here hx rfl (hb hby at_139) rfl ?_
    show Steps p.tables e below (T13.setTop (mkF m 141 #[.val (.int p1), .val (.int p2), .val (.int p3), .val (.int p4), .val (.int p5), .val (.int (p1 &&& (3 : Int32))), .val (.int (p2.toInt8.toInt32)), .val (.int (p3.toInt8.toInt32)), .val (.int (p4.toInt8.toInt32)), .val (.ref w6), .val (.ref i8), .val (.ref b9), .val (.ref i11), .val (.ref i15)] [(.int (p2.toInt8.toInt32)), (.int (p1 &&& (3 : Int32))), (.ref i15)])) _
    refine XS.iload X13.here hx rfl (hb hby at_141) rfl ?_
    show Steps p.tables e below (T13.setTop (mkF m 143 #[.val (.int p1), .val (.int p2), .val (.int p3), .val (.int p4), .val (.int p5), .val (.int (p1 &&& (3 : Int32))), .val (.int (p2.toInt8.toInt32)), .val (.int (p3.toInt8.toInt32)), .val (.int (p4.toInt8.toInt32)), .val (.ref w6), .val (.ref i8), .val (.ref b9), .val (.ref i11), .val (.ref i15)] [(.int (p3.toInt8.toInt32)), (.int (p2.toInt8.toInt32)), (.int (p1 &&& (3 : Int32))), (.ref i15)])) _
    refine XS.iload X13.here hx rfl (hb hby at_143) rfl ?_
    show Steps p.tables e below (T13.setTop (mkF m 145 #[.val (.int p1), .val (.int p2), .val (.int p3), .val (.int p4), .val (.int p5), .val (.int (p1 &&& (3 : Int32))), .val (.int (p2.toInt8.toInt32)), .val (.int (p3.toInt8.toInt32)), .val (.int (p4.toInt8.toInt32)), .val (.ref w6), .val (.ref i8), .val (.ref b9), .val (.ref i11), .val (.ref i15)] [(.int (p4.toInt8.toInt32)), (.int (p3.toInt8.toInt32)), (.int (p2.toInt8.toInt32)), (.int (p1 &&& (3 : Int32))), (.ref i15)])) _
    refine st14 _ ?_
    show Steps p.tables e below (T14.setTop (mkF m 148 #[.val (.int p1), .val (.int p2), .val (.int p3), .val (.int p4), .val (.int p5), .val (.int (p1 &&& (3 : Int32))), .val (.int (p2.toInt8.toInt32)), .val (.int (p3.toInt8.toInt32)), .val (.int (p4.toInt8.toInt32)), .val (.ref w6), .val (.ref i8), .val (.ref b9), .val (.ref i11), .val (.ref i15)] [(.int (1 : Int32))])) _
    refine XS.ifYes X14.here hx rfl (pc0 := 148) (pc' := 153) rfl (hb hby at_148) rfl ((if0 _ _).trans (feq (by decide : ¬ ((1 : Int32) = (0 : Int32)))).2) (by decide) (by decide) ?_
    show Steps p.tables e below (T14.setTop (mkF m 153 #[.val (.int p1), .val (.int p2), .val (.int p3), .val (.int p4), .val (.int p5), .val (.int (p1 &&& (3 : Int32))), .val (.int (p2.toInt8.toInt32)), .val (.int (p3.toInt8.toInt32)), .val (.int (p4.toInt8.toInt32)), .val (.ref w6), .val (.ref i8), .val (.ref b9), .val (.ref i11), .val (.ref i15)] [])) _
    refine XS.aload X14.here hx rfl (hb hby at_153) rfl rfl ?_
    show Steps p.tables e below (T14.setTop (mkF m 155 #[.val (.int p1), .val (.int p2), .val (.int p3), .val (.int p4), .val (.int p5), .val (.int (p1 &&& (3 : Int32))), .val (.int (p2.toInt8.toInt32)), .val (.int (p3.toInt8.toInt32)), .val (.int (p4.toInt8.toInt32)), .val (.ref w6), .val (.ref i8), .val (.ref b9), .val (.ref i11), .val (.ref i15)] [(.ref b9)])) _
    refine st15.trans ?_
    show Steps p.tables e below (T15.setTop (mkF m 158 #[.val (.int p1), .val (.int p2), .val (.int p3), .val (.int p4), .val (.int p5), .val (.int (p1 &&& (3 : Int32))), .val (.int (p2.toInt8.toInt32)), .val (.int (p3.toInt8.toInt32)), .val (.int (p4.toInt8.toInt32)), .val (.ref w6), .val (.ref i8), .val (.ref b9), .val (.ref i11), .val (.ref i15)] [(.ref w6)])) _
    refine XS.aload X15.here hx rfl (hb hby at_158) rfl rfl ?_
    show Steps p.tables e below (T15.setTop (mkF m 160 #[.val (.int p1), .val (.int p2), .val (.int p3), .val (.int p4), .val (.int p5), .val (.int (p1 &&& (3 : Int32))), .val (.int (p2.toInt8.toInt32)), .val (.int (p3.toInt8.toInt32)), .val (.int (p4.toInt8.toInt32)), .val (.ref w6), .val (.ref i8), .val (.ref b9), .val (.ref i11), .val (.ref i15)] [(.ref w6), (.ref w6)])) _
    refine Jvm.RoadKit.acmp (g := (mkF m 160 #[.val (.int p1), .val (.int p2), .val (.int p3), .val (.int p4), .val (.int p5), .val (.int (p1 &&& (3 : Int32))), .val (.int (p2.toInt8.toInt32)), .val (.int (p3.toInt8.toInt32)), .val (.int (p4.toInt8.toInt32)), .val (.ref w6), .val (.ref i8), .val (.ref b9), .val (.ref i11), .val (.ref i15)] [(.ref w6), (.ref w6)])) X15 hx rfl rfl rfl (pc0 := 160) (pc' := 163) (same := true) rfl (hb hby at_160) rfl (decide_eq_true rfl) (by decide) (by decide) ?_
    show Steps p.tables e below (T15.setTop (mkF m 163 #[.val (.int p1), .val (.int p2), .val (.int p3), .val (.int p4), .val (.int p5), .val (.int (p1 &&& (3 : Int32))), .val (.int (p2.toInt8.toInt32)), .val (.int (p3.toInt8.toInt32)), .val (.int (p4.toInt8.toInt32)), .val (.ref w6), .val (.ref i8), .val (.ref b9), .val (.ref i11), .val (.ref i15)] [])) _
    refine XS.iconst X15.here hx rfl (hb hby at_163) ?_
    show Steps p.tables e below (T15.setTop (mkF m 164 #[.val (.int p1), .val (.int p2), .val (.int p3), .val (.int p4), .val (.int p5), .val (.int (p1 &&& (3 : Int32))), .val (.int (p2.toInt8.toInt32)), .val (.int (p3.toInt8.toInt32)), .val (.int (p4.toInt8.toInt32)), .val (.ref w6), .val (.ref i8), .val (.ref b9), .val (.ref i11), .val (.ref i15)] [(.int (1 : Int32))])) _
    refine XS.goto X15.here hx rfl (pc0 := 164) (pc' := 168) rfl (hb hby at_164) (by decide) (by decide) ?_
    show Steps p.tables e below (T15.setTop (mkF m 168 #[.val (.int p1), .val (.int p2), .val (.int p3), .val (.int p4), .val (.int p5), .val (.int (p1 &&& (3 : Int32))), .val (.int (p2.toInt8.toInt32)), .val (.int (p3.toInt8.toInt32)), .val (.int (p4.toInt8.toInt32)), .val (.ref w6), .val (.ref i8), .val (.ref b9), .val (.ref i11), .val (.ref i15)] [(.int (1 : Int32))])) _
    exact retN X15 hx (t := .boolean) Bd.returns (by simp) (hb hby at_168) hr
  · show Q0 n0 _ _
    exact ⟨rfl, N15⟩
set_option maxRecDepth 65536 in
set_option maxHeartbeats 40000000 in
theorem rm0_t1 (l : Launch) (Z : State) (a0 : Array Value) (hw : ∀ d ∈ tables_1, d.before a0 Z = true) (ws : List Jvm.Cond) (p1 : Int32) (p2 : Int32) (p3 : Int32) (p4 : Int32) (p5 : Int32) (w6 : Addr) (h0 : Heap) (n0 : Nat) (Z0 : n0 ≤ h0.size) (hn : (p1 &&& (3 : Int32)) = 0 ∨ (p1 &&& (3 : Int32)) = 1 ∨ (p1 &&& (3 : Int32)) = 2 ∨ (p1 &&& (3 : Int32)) = 3) (S_REPLAYED : Sta Z h0 "com/example/limpet/limpet/Execution$Outcome" "REPLAYED" "Lcom/example/limpet/limpet/Execution$Outcome;" (.ref w6)) (hc21 : (p5 &&& (1 : Int32)) = (0 : Int32)) (hc98 : ¬ ((p1 &&& (3 : Int32)) < (1 : Int32))) :
    MetFree l x (head1 (Jvm.Cond.code x code maxLocals ret :: ws) room_1) (fun a U => a = #[(.int p1), (.int p2), (.int p3), (.int p4), (.int p5)] ∧ Z.Warmed39 U.vm ∧ U.heap = h0) (fun _ _ _ _ _ => True) (fun _ U o U' => ∃ v L, o = .returned v ∧ Q0 n0 v L ∧ FrameEnd U o U' L room_1.cells room_1.slots) := by
  refine MetFree.of_bodySF (plainFor_of_name pn_0) hisR ?_
  intro p e s m args below meth c s₁ Bd hml0 hP hK
  obtain ⟨rfl, hZ, hh⟩ := hP
  have hx := Bd.exec
  have hby := Bd.bytes
  have hml : c.maxLocals = 14 := hml0
  have hown : s.vm.findClass "com/example/limpet/limpet/ExecutionResultPinLaw" = some m.cls := findClass_of_methodNamed Bd.named
  have hnm := (name_of_methodNamed Bd.named Bd.method).1
  have X0 : Stand p l e room_1 s m #[(.int p1), (.int p2), (.int p3), (.int p4), (.int p5)] below meth c s₁ [] 0 0 := Stand.of_body Bd
  have e0 : s₁.heap = h0 := by rw [← hh, Bd.state]; rfl
  have N0 := Fr.nil n0
  have pre0 : ∀ t, Steps p.tables e below (s₁.setTop (mkF m 0 #[.val (.int p1), .val (.int p2), .val (.int p3), .val (.int p4), .val (.int p5), .unset, .unset, .unset, .unset, .unset, .unset, .unset, .unset, .unset] [])) t → Steps p.tables e below (s₁.setTop (entryFrame m #[(.int p1), (.int p2), (.int p3), (.int p4), (.int p5)] maxLocals)) t := fun t k => castTop (ef_0 m p1 p2 p3 p4 p5) k
  obtain ⟨T7, X7, e7, st7⟩ := getS2 X0 hx hZ hown (host := "") (Or.inl (hw _ (List.mem_of_getElem? (i := 0) rfl))) Via.refl e0 S_REPLAYED (g := (mkF m 30 #[.val (.int p1), .val (.int p2), .val (.int p3), .val (.int p4), .val (.int p5), .val (.int (p1 &&& (3 : Int32))), .val (.int (p2.toInt8.toInt32)), .val (.int (p3.toInt8.toInt32)), .val (.int (p4.toInt8.toInt32)), .unset, .unset, .unset, .unset, .unset] [])) rfl (hb hby at_30)
  obtain ⟨_, _, ⟨T8, L8, k8, n8⟩, -, X8, ⟨Lc8, hQ8, l8, y8, z8⟩, st8⟩ := Jvm.LawKit.callS X7 hx (y := (⟨"com/example/limpet/limpet/ExecutionResultPinLaw", "make", "(IBBB)[B"⟩ : MethodName)) hown (mvT hZ (hw _ (List.mem_of_getElem? (i := 3) rfl))) (mvT hZ (hw _ (List.mem_of_getElem? (i := 4) rfl))) (mvT hZ (hw _ (List.mem_of_getElem? (i := 5) rfl))) (mvT hZ (hw _ (List.mem_of_getElem? (i := 6) rfl))) (by decide) (backOf (W := 0) (rmM l Z a0 hw [] (p1 &&& (3 : Int32)) (p2.toInt8.toInt32) (p3.toInt8.toInt32) (p4.toInt8.toInt32) h0 n0 Z0 hn) hZ (hw _ (List.mem_of_getElem? (i := 6) rfl)) (hw _ (List.mem_of_getElem? (i := 5) rfl)) (by decide) (by decide)) (g := (mkF m 43 #[.val (.int p1), .val (.int p2), .val (.int p3), .val (.int p4), .val (.int p5), .val (.int (p1 &&& (3 : Int32))), .val (.int (p2.toInt8.toInt32)), .val (.int (p3.toInt8.toInt32)), .val (.int (p4.toInt8.toInt32)), .val (.ref w6), .unset, .unset, .unset, .unset] [(.int (p4.toInt8.toInt32)), (.int (p3.toInt8.toInt32)), (.int (p2.toInt8.toInt32)), (.int (p1 &&& (3 : Int32)))])) rfl (by rw [hml]; rfl) (argsL := [(.int (p1 &&& (3 : Int32))), (.int (p2.toInt8.toInt32)), (.int (p3.toInt8.toInt32)), (.int (p4.toInt8.toInt32))]) (rest := []) (lenOf pd_0_0 rfl) rfl (by show 2 * 0 + _ ≤ _; exact Nat.le_of_eq rfl) (hb hby at_43) (fun _ _ => ⟨rfl, e7, (Nat.le_of_ble_eq_true rfl), (Nat.le_of_ble_eq_true rfl)⟩)
  dsimp only [Pt.U, Pt.locs, Pt.cells, Pt.slots] at X8 l8 y8 z8 st8 hQ8
  subst l8 y8 z8
  obtain ⟨i8, kk, rfl, N8q, K8, s8, m8, Y8, V8⟩ := hQ8
  simp only [own_n8] at V8
  have N8 := Fr.app N0 N8q
  obtain ⟨T9, h9, X9, e9, E9, A9, D9, -, st9⟩ := newO X8 hx hZ hown (hw _ (List.mem_of_getElem? (i := 8) rfl)) (hw _ (List.mem_of_getElem? (i := 9) rfl)) (hw _ (List.mem_of_getElem? (i := 10) rfl)) rfl (g := (mkF m 48 #[.val (.int p1), .val (.int p2), .val (.int p3), .val (.int p4), .val (.int p5), .val (.int (p1 &&& (3 : Int32))), .val (.int (p2.toInt8.toInt32)), .val (.int (p3.toInt8.toInt32)), .val (.int (p4.toInt8.toInt32)), .val (.ref w6), .val (.ref i8), .unset, .unset, .unset] [])) rfl (hb hby at_48) (by decide) (by decide)
  obtain ⟨b9, g9⟩ : ∃ z, z = T8.heap.size := ⟨_, rfl⟩      -- the fresh object's address
  rw [← g9] at A9 D9 st9      -- A9 : Exa Z h9 b9 "com/example/limpet/limpet/Execution"; E9 : Ext T8.heap h9 (carries every older fact: .ext E9)
  have F_outcome_b9 : Fld Z h9 b9 "com/example/limpet/limpet/Execution" "outcome" "Lcom/example/limpet/limpet/Execution$Outcome;" .null := D9 (Or.inr (hw _ (List.mem_of_getElem? (i := 18) rfl))) (ty := (.object "com/example/limpet/limpet/Execution$Outcome")) (by decide)
  have F_result_b9 : Fld Z h9 b9 "com/example/limpet/limpet/Execution" "result" "[B" .null := D9 (Or.inr (hw _ (List.mem_of_getElem? (i := 20) rfl))) (ty := (.array .byte)) (by decide)
  have E_b9 := A9
  have g_b9 : n0 ≤ b9 := Nat.le_trans (Nat.le_trans Z0 K8.1) (Nat.le_of_eq g9.symm)
  have sz_b9 : h0.size ≤ b9 := (Nat.le_trans K8.1 (Nat.le_of_eq g9.symm))
  have K9 : Keep h0 h9 [] := K8.ext E9
  obtain ⟨_, _, ⟨T10, L10, k10, n10⟩, -, X10, ⟨Lc10, hQ10, l10, y10, z10⟩, st10⟩ := X9.specialBack hx (y := (⟨"com/example/limpet/limpet/Execution", "<init>", "(Lcom/example/limpet/limpet/Execution$Outcome;[B)V"⟩ : MethodName)) rfl hown (mvT hZ (hw _ (List.mem_of_getElem? (i := 11) rfl))) (mvT hZ (hw _ (List.mem_of_getElem? (i := 12) rfl))) (mvT hZ (hw _ (List.mem_of_getElem? (i := 13) rfl))) (by decide) (backOf (W := 1) (rm2 l Z a0 hw [] b9 w6 i8 .null .null h9 n0 (Nat.le_trans (Nat.le_trans Z0 K8.1) E9.1) E_b9 F_outcome_b9 g_b9 F_result_b9) hZ (hw _ (List.mem_of_getElem? (i := 13) rfl)) (hw _ (List.mem_of_getElem? (i := 10) rfl)) (by decide) (by decide)) (g := (mkF m 56 #[.val (.int p1), .val (.int p2), .val (.int p3), .val (.int p4), .val (.int p5), .val (.int (p1 &&& (3 : Int32))), .val (.int (p2.toInt8.toInt32)), .val (.int (p3.toInt8.toInt32)), .val (.int (p4.toInt8.toInt32)), .val (.ref w6), .val (.ref i8), .unset, .unset, .unset] [(.ref i8), (.ref w6), (.ref b9), (.ref b9)])) rfl (by rw [hml]; rfl) (Steps.refl _) (a := b9) (argsL := [(.ref w6), (.ref i8)]) (rest := [(.ref b9)]) (lenOf pd_0_1 rfl) rfl (by show 2 * 0 + _ ≤ _; exact Nat.le_of_eq rfl) (hb hby at_56) (fun _ _ => ⟨rfl, e9, (Nat.le_of_ble_eq_true rfl), (Nat.le_of_ble_eq_true rfl)⟩)
  dsimp only [Pt.U, Pt.locs, Pt.cells, Pt.slots] at X10 l10 y10 z10 st10 hQ10
  subst l10 y10 z10
  obtain ⟨rfl, N10q, K10, Y10, Fo10, Fr10⟩ := hQ10
  have V10 := (V8.ext E9).keep K10 (ninS (Nat.ne_of_lt (Nat.lt_of_lt_of_le V8.lt (Nat.le_of_eq g9.symm))) nin0)
  have Yi10 := (Y8.ext E9).keep K10
  have Z10 : n0 ≤ T10.heap.size := Nat.le_trans (Nat.le_trans (Nat.le_trans Z0 K8.1) E9.1) K10.1
  have hcap : (p1 &&& (3 : Int32)).toNatClampNeg ≤ 3 := by rcases hn with h | h | h | h <;> rw [h] <;> decide
  have N10 := Fr.app N8 N10q
  obtain ⟨cq11, kq11, q11a, q11b, q11c⟩ := isOf hZ rfl Y10
  obtain ⟨_, _, ⟨T11, L11, k11, n11⟩, -, X11, ⟨Lc11, hQ11, l11, y11, z11⟩, st11⟩ := X10.virtualBack hx (y := (⟨"com/example/limpet/limpet/Execution", "result", "()[B"⟩ : MethodName)) (z := (⟨"com/example/limpet/limpet/Execution", "result", "()[B"⟩ : MethodName)) hown (mvT hZ (hw _ (List.mem_of_getElem? (i := 21) rfl))) (mvT hZ (hw _ (List.mem_of_getElem? (i := 22) rfl))) (notFace_of_selects (args := #[]) (mvT hZ (hw _ (List.mem_of_getElem? (i := 24) rfl)))) (mvT hZ (hw _ (List.mem_of_getElem? (i := 24) rfl))) (mvT hZ (hw _ (List.mem_of_getElem? (i := 23) rfl))) (by decide) (backOf (W := 0) (rm4 l Z a0 hw [] kk (p1 &&& (3 : Int32)) (own_bytes (p2.toInt8.toInt32) (p3.toInt8.toInt32) (p4.toInt8.toInt32)) b9 i8 T10.heap n0 Z10 Fr10 Yi10 V10 hcap) hZ (hw _ (List.mem_of_getElem? (i := 25) rfl)) (hw _ (List.mem_of_getElem? (i := 10) rfl)) (by decide) (by decide)) q11a q11c (g := (mkF m 63 #[.val (.int p1), .val (.int p2), .val (.int p3), .val (.int p4), .val (.int p5), .val (.int (p1 &&& (3 : Int32))), .val (.int (p2.toInt8.toInt32)), .val (.int (p3.toInt8.toInt32)), .val (.int (p4.toInt8.toInt32)), .val (.ref w6), .val (.ref i8), .val (.ref b9), .unset, .unset] [(.ref b9)])) rfl (by rw [hml]; rfl) (Steps.refl _) (argsL := []) (rest := []) (lenOf pd_0_3 rfl) rfl (by show 2 * 0 + _ ≤ _; exact Nat.le_of_eq rfl) (hb hby at_63) (fun _ _ => ⟨rfl, rfl, (Nat.le_of_ble_eq_true rfl), (Nat.le_of_ble_eq_true rfl)⟩)
  dsimp only [Pt.U, Pt.locs, Pt.cells, Pt.slots] at X11 l11 y11 z11 st11 hQ11
  subst l11 y11 z11
  obtain ⟨i11, rfl, N11q, K11, s11, m11, Y11, V11⟩ := hQ11
  have ne1 : i8 ≠ i11 := Nat.ne_of_lt (Nat.lt_of_lt_of_le V10.lt s11)
  have ne2 : b9 ≠ i11 := Nat.ne_of_lt (Nat.lt_of_lt_of_le Y10.lt s11)
  have Z11 : n0 ≤ T11.heap.size := Nat.le_trans Z10 K11.1
  have Vi11 := V10.keep K11 nin0
  have Yi11 := Yi10.keep K11
  have Yb11 := Y10.keep K11
  have Fo11 := Fo10.keep K11 nin0
  have Fr11 := Fr10.keep K11 nin0
  have N11 := Fr.app N10 N11q
  obtain ⟨_, _, ⟨T12, L12, k12, n12⟩, -, X12, ⟨Lc12, hQ12, l12, y12, z12⟩, st12⟩ := Jvm.LawKit.callS X11 hx (y := (⟨"com/example/limpet/limpet/ExecutionResultPinLaw", "same", "([BIBBB)Z"⟩ : MethodName)) hown (mvT hZ (hw _ (List.mem_of_getElem? (i := 35) rfl))) (mvT hZ (hw _ (List.mem_of_getElem? (i := 36) rfl))) (mvT hZ (hw _ (List.mem_of_getElem? (i := 5) rfl))) (mvT hZ (hw _ (List.mem_of_getElem? (i := 37) rfl))) (by decide) (backOf (W := 0) (rmS l Z a0 hw [] kk i11 (p1 &&& (3 : Int32)) (p2.toInt8.toInt32) (p3.toInt8.toInt32) (p4.toInt8.toInt32) T11.heap n0 Z11 V11 hn) hZ (hw _ (List.mem_of_getElem? (i := 37) rfl)) (hw _ (List.mem_of_getElem? (i := 5) rfl)) (by decide) (by decide)) (g := (mkF m 87 #[.val (.int p1), .val (.int p2), .val (.int p3), .val (.int p4), .val (.int p5), .val (.int (p1 &&& (3 : Int32))), .val (.int (p2.toInt8.toInt32)), .val (.int (p3.toInt8.toInt32)), .val (.int (p4.toInt8.toInt32)), .val (.ref w6), .val (.ref i8), .val (.ref b9), .val (.ref i11), .unset] [(.int (p4.toInt8.toInt32)), (.int (p3.toInt8.toInt32)), (.int (p2.toInt8.toInt32)), (.int (p1 &&& (3 : Int32))), (.ref i11)])) rfl (by rw [hml]; rfl) (argsL := [(.ref i11), (.int (p1 &&& (3 : Int32))), (.int (p2.toInt8.toInt32)), (.int (p3.toInt8.toInt32)), (.int (p4.toInt8.toInt32))]) (rest := []) (lenOf pd_0_5 rfl) rfl (by show 2 * 0 + _ ≤ _; exact Nat.le_of_eq rfl) (hb hby at_87) (fun _ _ => ⟨rfl, rfl, (Nat.le_of_ble_eq_true rfl), (Nat.le_of_ble_eq_true rfl)⟩)
  dsimp only [Pt.U, Pt.locs, Pt.cells, Pt.slots] at X12 l12 y12 z12 st12 hQ12
  subst l12 y12 z12
  obtain ⟨rfl, N12q, hE12⟩ := hQ12
  have V12 : Arv Z T12.heap i11 kk .byte (p1 &&& (3 : Int32)) (own_bytes (p2.toInt8.toInt32) (p3.toInt8.toInt32) (p4.toInt8.toInt32)) (.int 0) := by rw [hE12]; exact V11
  obtain ⟨cl_i, Ar_i, q_i, S_i, N_i, H_i, G_i⟩ := V12
  have hpos : (0 : Int32) < (p1 &&& (3 : Int32)) := by rcases hn with h | h | h | h <;> rw [h] at hc98 ⊢ <;> revert hc98 <;> decide
  have hin107 : ¬ ((0 : Int32) < 0 ∨ cl_i.slots.size ≤ ((0 : Int32)).toNatClampNeg) := inb_of S_i ⟨by decide, hpos⟩
  have hat107 : cl_i.slots[((0 : Int32)).toNatClampNeg]? = some (.int (p2.toInt8.toInt32)) := H_i 0 (Nat.lt_of_not_le fun q => hin107 (Or.inr q))
  have N12 := Fr.app N11 N12q
  obtain ⟨T14, h14, X14, e14, W14, st14⟩ := stB X12 hx hZ rfl Ar_i (j := (0 : Int32)) hin107 (g := (mkF m 111 #[.val (.int p1), .val (.int p2), .val (.int p3), .val (.int p4), .val (.int p5), .val (.int (p1 &&& (3 : Int32))), .val (.int (p2.toInt8.toInt32)), .val (.int (p3.toInt8.toInt32)), .val (.int (p4.toInt8.toInt32)), .val (.ref w6), .val (.ref i8), .val (.ref b9), .val (.ref i11), .unset] [(.int (((p2.toInt8.toInt32) + (1 : Int32)).toInt8.toInt32)), (.int (0 : Int32)), (.ref i11)])) rfl rfl (hb hby at_111)
  have N14 := Fr.snoc X14 N12 m11
  have Vi14 : Arv Z h14 i8 kk .byte (p1 &&& (3 : Int32)) (own_bytes (p2.toInt8.toInt32) (p3.toInt8.toInt32) (p4.toInt8.toInt32)) (.int 0) := (by rw [hE12]; exact Vi11 : Arv Z T12.heap i8 kk .byte (p1 &&& (3 : Int32)) (own_bytes (p2.toInt8.toInt32) (p3.toInt8.toInt32) (p4.toInt8.toInt32)) (.int 0)).other W14 ne1
  have Yi14 : Exa Z h14 i8 "[B" := (by rw [hE12]; exact Yi11 : Exa Z T12.heap i8 "[B").wr W14
  have Yb14 : Exa Z h14 b9 "com/example/limpet/limpet/Execution" := (by rw [hE12]; exact Yb11 : Exa Z T12.heap b9 "com/example/limpet/limpet/Execution").wr W14
  have Fo14 : Fld Z h14 b9 "com/example/limpet/limpet/Execution" "outcome" "Lcom/example/limpet/limpet/Execution$Outcome;" (.ref w6) := (by rw [hE12]; exact Fo11 : Fld Z T12.heap b9 "com/example/limpet/limpet/Execution" "outcome" "Lcom/example/limpet/limpet/Execution$Outcome;" (.ref w6)).other W14 (Or.inl ne2)
  have Fr14 : Fld Z h14 b9 "com/example/limpet/limpet/Execution" "result" "[B" (.ref i8) := (by rw [hE12]; exact Fr11 : Fld Z T12.heap b9 "com/example/limpet/limpet/Execution" "result" "[B" (.ref i8)).other W14 (Or.inl ne2)
  have lt11 : i11 < h14.size := by rw [W14.size, hE12]; exact V11.lt
  have Z14 : n0 ≤ h14.size := by rw [W14.size, hE12]; exact Z11
  obtain ⟨cq15, kq15, q15a, q15b, q15c⟩ := isOf hZ e14 Yb14
  obtain ⟨_, _, ⟨T15, L15, k15, n15⟩, -, X15, ⟨Lc15, hQ15, l15, y15, z15⟩, st15⟩ := X14.virtualBack hx (y := (⟨"com/example/limpet/limpet/Execution", "result", "()[B"⟩ : MethodName)) (z := (⟨"com/example/limpet/limpet/Execution", "result", "()[B"⟩ : MethodName)) hown (mvT hZ (hw _ (List.mem_of_getElem? (i := 21) rfl))) (mvT hZ (hw _ (List.mem_of_getElem? (i := 22) rfl))) (notFace_of_selects (args := #[]) (mvT hZ (hw _ (List.mem_of_getElem? (i := 24) rfl)))) (mvT hZ (hw _ (List.mem_of_getElem? (i := 24) rfl))) (mvT hZ (hw _ (List.mem_of_getElem? (i := 23) rfl))) (by decide) (backOf (W := 0) (rm4 l Z a0 hw [] kk (p1 &&& (3 : Int32)) (own_bytes (p2.toInt8.toInt32) (p3.toInt8.toInt32) (p4.toInt8.toInt32)) b9 i8 h14 n0 Z14 Fr14 Yi14 Vi14 hcap) hZ (hw _ (List.mem_of_getElem? (i := 25) rfl)) (hw _ (List.mem_of_getElem? (i := 10) rfl)) (by decide) (by decide)) q15a q15c (g := (mkF m 114 #[.val (.int p1), .val (.int p2), .val (.int p3), .val (.int p4), .val (.int p5), .val (.int (p1 &&& (3 : Int32))), .val (.int (p2.toInt8.toInt32)), .val (.int (p3.toInt8.toInt32)), .val (.int (p4.toInt8.toInt32)), .val (.ref w6), .val (.ref i8), .val (.ref b9), .val (.ref i11), .unset] [(.ref b9)])) rfl (by rw [hml]; rfl) (Steps.refl _) (argsL := []) (rest := []) (lenOf pd_0_3 rfl) rfl (by show 2 * 0 + _ ≤ _; exact Nat.le_of_eq rfl) (hb hby at_114) (fun _ _ => ⟨rfl, e14, (Nat.le_of_ble_eq_true rfl), (Nat.le_of_ble_eq_true rfl)⟩)
  dsimp only [Pt.U, Pt.locs, Pt.cells, Pt.slots] at X15 l15 y15 z15 st15 hQ15
  subst l15 y15 z15
  obtain ⟨i15, rfl, N15q, K15, s15, m15, Y15, V15⟩ := hQ15
  have ne3 : i15 ≠ i11 := Ne.symm (Nat.ne_of_lt (Nat.lt_of_lt_of_le lt11 s15))
  have ne4 : i15 ≠ i8 := Ne.symm (Nat.ne_of_lt (Nat.lt_of_lt_of_le Vi14.lt s15))
  have Z15 : n0 ≤ T15.heap.size := Nat.le_trans Z14 K15.1
  have N15 := Fr.app N14 N15q
  obtain ⟨_, _, ⟨T16, L16, k16, n16⟩, -, X16, ⟨Lc16, hQ16, l16, y16, z16⟩, st16⟩ := Jvm.LawKit.callS X15 hx (y := (⟨"com/example/limpet/limpet/ExecutionResultPinLaw", "same", "([BIBBB)Z"⟩ : MethodName)) hown (mvT hZ (hw _ (List.mem_of_getElem? (i := 35) rfl))) (mvT hZ (hw _ (List.mem_of_getElem? (i := 36) rfl))) (mvT hZ (hw _ (List.mem_of_getElem? (i := 5) rfl))) (mvT hZ (hw _ (List.mem_of_getElem? (i := 37) rfl))) (by decide) (backOf (W := 0) (rmS l Z a0 hw [] kk i15 (p1 &&& (3 : Int32)) (p2.toInt8.toInt32) (p3.toInt8.toInt32) (p4.toInt8.toInt32) T15.heap n0 Z15 V15 hn) hZ (hw _ (List.mem_of_getElem? (i := 37) rfl)) (hw _ (List.mem_of_getElem? (i := 5) rfl)) (by decide) (by decide)) (g := (mkF m 145 #[.val (.int p1), .val (.int p2), .val (.int p3), .val (.int p4), .val (.int p5), .val (.int (p1 &&& (3 : Int32))), .val (.int (p2.toInt8.toInt32)), .val (.int (p3.toInt8.toInt32)), .val (.int (p4.toInt8.toInt32)), .val (.ref w6), .val (.ref i8), .val (.ref b9), .val (.ref i11), .val (.ref i15)] [(.int (p4.toInt8.toInt32)), (.int (p3.toInt8.toInt32)), (.int (p2.toInt8.toInt32)), (.int (p1 &&& (3 : Int32))), (.ref i15)])) rfl (by rw [hml]; rfl) (argsL := [(.ref i15), (.int (p1 &&& (3 : Int32))), (.int (p2.toInt8.toInt32)), (.int (p3.toInt8.toInt32)), (.int (p4.toInt8.toInt32))]) (rest := []) (lenOf pd_0_5 rfl) rfl (by show 2 * 0 + _ ≤ _; exact Nat.le_of_eq rfl) (hb hby at_145) (fun _ _ => ⟨rfl, rfl, (Nat.le_of_ble_eq_true rfl), (Nat.le_of_ble_eq_true rfl)⟩)
  dsimp only [Pt.U, Pt.locs, Pt.cells, Pt.slots] at X16 l16 y16 z16 st16 hQ16
  subst l16 y16 z16
  obtain ⟨rfl, N16q, hE16⟩ := hQ16
  have Yb16 : Exa Z T16.heap b9 "com/example/limpet/limpet/Execution" := by rw [hE16]; exact Yb14.keep K15
  have Fo16 : Fld Z T16.heap b9 "com/example/limpet/limpet/Execution" "outcome" "Lcom/example/limpet/limpet/Execution$Outcome;" (.ref w6) := by rw [hE16]; exact Fo14.keep K15 nin0
  have Z16 : n0 ≤ T16.heap.size := by rw [hE16]; exact Z15
  have N16 := Fr.app N15 N16q
  obtain ⟨cq17, kq17, q17a, q17b, q17c⟩ := isOf hZ rfl Yb16
  obtain ⟨_, _, ⟨T17, L17, k17, n17⟩, -, X17, ⟨Lc17, hQ17, l17, y17, z17⟩, st17⟩ := X16.virtualBack hx (y := (⟨"com/example/limpet/limpet/Execution", "outcome", "()Lcom/example/limpet/limpet/Execution$Outcome;"⟩ : MethodName)) (z := (⟨"com/example/limpet/limpet/Execution", "outcome", "()Lcom/example/limpet/limpet/Execution$Outcome;"⟩ : MethodName)) hown (mvT hZ (hw _ (List.mem_of_getElem? (i := 38) rfl))) (mvT hZ (hw _ (List.mem_of_getElem? (i := 39) rfl))) (notFace_of_selects (args := #[]) (mvT hZ (hw _ (List.mem_of_getElem? (i := 41) rfl)))) (mvT hZ (hw _ (List.mem_of_getElem? (i := 41) rfl))) (mvT hZ (hw _ (List.mem_of_getElem? (i := 40) rfl))) (by decide) (backOf (W := 0) (rm6 l Z a0 hw [] b9 w6 T16.heap n0 Z16 Fo16) hZ (hw _ (List.mem_of_getElem? (i := 42) rfl)) (hw _ (List.mem_of_getElem? (i := 10) rfl)) (by decide) (by decide)) q17a q17c (g := (mkF m 155 #[.val (.int p1), .val (.int p2), .val (.int p3), .val (.int p4), .val (.int p5), .val (.int (p1 &&& (3 : Int32))), .val (.int (p2.toInt8.toInt32)), .val (.int (p3.toInt8.toInt32)), .val (.int (p4.toInt8.toInt32)), .val (.ref w6), .val (.ref i8), .val (.ref b9), .val (.ref i11), .val (.ref i15)] [(.ref b9)])) rfl (by rw [hml]; rfl) (Steps.refl _) (argsL := []) (rest := []) (lenOf pd_0_6 rfl) rfl (by show 2 * 0 + _ ≤ _; exact Nat.le_of_eq rfl) (hb hby at_155) (fun _ _ => ⟨rfl, rfl, (Nat.le_of_ble_eq_true rfl), (Nat.le_of_ble_eq_true rfl)⟩)
  dsimp only [Pt.U, Pt.locs, Pt.cells, Pt.slots] at X17 l17 y17 z17 st17 hQ17
  subst l17 y17 z17
  obtain ⟨rfl, N17q, hE17⟩ := hQ17      -- what it returned, that it wrote nothing old, and the rest of your Q6
  have N17 := Fr.app N16 N17q
  obtain ⟨fs, hr, hrun, hended, hW, hsame⟩ := X17.leave (v := some (.int (1 : Int32))) (fun h => by rw [Bd.returns] at h; cases h)
  refine ⟨_, _, pre0 _ ?_, hrun, hended, _, _, rfl, ?_, ⟨_, rfl⟩, hW, hsame.mono (by decide) (by decide)⟩
  · show Steps p.tables e below (s₁.setTop (mkF m 0 #[.val (.int p1), .val (.int p2), .val (.int p3), .val (.int p4), .val (.int p5), .unset, .unset, .unset, .unset, .unset, .unset, .unset, .unset, .unset] [])) _
    refine XS.iloadN X0.here hx rfl (hb hby at_0) rfl ?_
    show Steps p.tables e below (s₁.setTop (mkF m 1 #[.val (.int p1), .val (.int p2), .val (.int p3), .val (.int p4), .val (.int p5), .unset, .unset, .unset, .unset, .unset, .unset, .unset, .unset, .unset] [(.int p1)])) _
    refine XS.iconst X0.here hx rfl (hb hby at_1) ?_
    show Steps p.tables e below (s₁.setTop (mkF m 2 #[.val (.int p1), .val (.int p2), .val (.int p3), .val (.int p4), .val (.int p5), .unset, .unset, .unset, .unset, .unset, .unset, .unset, .unset, .unset] [(.int (3 : Int32)), (.int p1)])) _
    refine XS.iand X0.here hx rfl (hb hby at_2) rfl ?_
    show Steps p.tables e below (s₁.setTop (mkF m 3 #[.val (.int p1), .val (.int p2), .val (.int p3), .val (.int p4), .val (.int p5), .unset, .unset, .unset, .unset, .unset, .unset, .unset, .unset, .unset] [(.int (p1 &&& (3 : Int32)))])) _
    refine XS.istore X0.here hx rfl (hb hby at_3) rfl (l' := #[.val (.int p1), .val (.int p2), .val (.int p3), .val (.int p4), .val (.int p5), .val (.int (p1 &&& (3 : Int32))), .unset, .unset, .unset, .unset, .unset, .unset, .unset, .unset]) rfl ?_
    show Steps p.tables e below (s₁.setTop (mkF m 5 #[.val (.int p1), .val (.int p2), .val (.int p3), .val (.int p4), .val (.int p5), .val (.int (p1 &&& (3 : Int32))), .unset, .unset, .unset, .unset, .unset, .unset, .unset, .unset] [])) _
    refine XS.iloadN X0.here hx rfl (hb hby at_5) rfl ?_
    show Steps p.tables e below (s₁.setTop (mkF m 6 #[.val (.int p1), .val (.int p2), .val (.int p3), .val (.int p4), .val (.int p5), .val (.int (p1 &&& (3 : Int32))), .unset, .unset, .unset, .unset, .unset, .unset, .unset, .unset] [(.int p2)])) _
    refine XS.i2b X0.here hx rfl (hb hby at_6) rfl ?_
    show Steps p.tables e below (s₁.setTop (mkF m 7 #[.val (.int p1), .val (.int p2), .val (.int p3), .val (.int p4), .val (.int p5), .val (.int (p1 &&& (3 : Int32))), .unset, .unset, .unset, .unset, .unset, .unset, .unset, .unset] [(.int (p2.toInt8.toInt32))])) _
    refine XS.istore X0.here hx rfl (hb hby at_7) rfl (l' := #[.val (.int p1), .val (.int p2), .val (.int p3), .val (.int p4), .val (.int p5), .val (.int (p1 &&& (3 : Int32))), .val (.int (p2.toInt8.toInt32)), .unset, .unset, .unset, .unset, .unset, .unset, .unset]) rfl ?_
    show Steps p.tables e below (s₁.setTop (mkF m 9 #[.val (.int p1), .val (.int p2), .val (.int p3), .val (.int p4), .val (.int p5), .val (.int (p1 &&& (3 : Int32))), .val (.int (p2.toInt8.toInt32)), .unset, .unset, .unset, .unset, .unset, .unset, .unset] [])) _
    refine XS.iloadN X0.here hx rfl (hb hby at_9) rfl ?_
    show Steps p.tables e below (s₁.setTop (mkF m 10 #[.val (.int p1), .val (.int p2), .val (.int p3), .val (.int p4), .val (.int p5), .val (.int (p1 &&& (3 : Int32))), .val (.int (p2.toInt8.toInt32)), .unset, .unset, .unset, .unset, .unset, .unset, .unset] [(.int p3)])) _
    refine XS.i2b X0.here hx rfl (hb hby at_10) rfl ?_
    show Steps p.tables e below (s₁.setTop (mkF m 11 #[.val (.int p1), .val (.int p2), .val (.int p3), .val (.int p4), .val (.int p5), .val (.int (p1 &&& (3 : Int32))), .val (.int (p2.toInt8.toInt32)), .unset, .unset, .unset, .unset, .unset, .unset, .unset] [(.int (p3.toInt8.toInt32))])) _
    refine XS.istore X0.here hx rfl (hb hby at_11) rfl (l' := #[.val (.int p1), .val (.int p2), .val (.int p3), .val (.int p4), .val (.int p5), .val (.int (p1 &&& (3 : Int32))), .val (.int (p2.toInt8.toInt32)), .val (.int (p3.toInt8.toInt32)), .unset, .unset, .unset, .unset, .unset, .unset]) rfl ?_
    show Steps p.tables e below (s₁.setTop (mkF m 13 #[.val (.int p1), .val (.int p2), .val (.int p3), .val (.int p4), .val (.int p5), .val (.int (p1 &&& (3 : Int32))), .val (.int (p2.toInt8.toInt32)), .val (.int (p3.toInt8.toInt32)), .unset, .unset, .unset, .unset, .unset, .unset] [])) _
    refine XS.iloadN X0.here hx rfl (hb hby at_13) rfl ?_
    show Steps p.tables e below (s₁.setTop (mkF m 14 #[.val (.int p1), .val (.int p2), .val (.int p3), .val (.int p4), .val (.int p5), .val (.int (p1 &&& (3 : Int32))), .val (.int (p2.toInt8.toInt32)), .val (.int (p3.toInt8.toInt32)), .unset, .unset, .unset, .unset, .unset, .unset] [(.int p4)])) _
    refine XS.i2b X0.here hx rfl (hb hby at_14) rfl ?_
    show Steps p.tables e below (s₁.setTop (mkF m 15 #[.val (.int p1), .val (.int p2), .val (.int p3), .val (.int p4), .val (.int p5), .val (.int (p1 &&& (3 : Int32))), .val (.int (p2.toInt8.toInt32)), .val (.int (p3.toInt8.toInt32)), .unset, .unset, .unset, .unset, .unset, .unset] [(.int (p4.toInt8.toInt32))])) _
    refine XS.istore X0.here hx rfl (hb hby at_15) rfl (l' := #[.val (.int p1), .val (.int p2), .val (.int p3), .val (.int p4), .val (.int p5), .val (.int (p1 &&& (3 : Int32))), .val (.int (p2.toInt8.toInt32)), .val (.int (p3.toInt8.toInt32)), .val (.int (p4.toInt8.toInt32)), .unset, .unset, .unset, .unset, .unset]) rfl ?_
    show Steps p.tables e below (s₁.setTop (mkF m 17 #[.val (.int p1), .val (.int p2), .val (.int p3), .val (.int p4), .val (.int p5), .val (.int (p1 &&& (3 : Int32))), .val (.int (p2.toInt8.toInt32)), .val (.int (p3.toInt8.toInt32)), .val (.int (p4.toInt8.toInt32)), .unset, .unset, .unset, .unset, .unset] [])) _
    refine XS.iload X0.here hx rfl (hb hby at_17) rfl ?_
    show Steps p.tables e below (s₁.setTop (mkF m 19 #[.val (.int p1), .val (.int p2), .val (.int p3), .val (.int p4), .val (.int p5), .val (.int (p1 &&& (3 : Int32))), .val (.int (p2.toInt8.toInt32)), .val (.int (p3.toInt8.toInt32)), .val (.int (p4.toInt8.toInt32)), .unset, .unset, .unset, .unset, .unset] [(.int p5)])) _
    refine XS.iconst X0.here hx rfl (hb hby at_19) ?_
    show Steps p.tables e below (s₁.setTop (mkF m 20 #[.val (.int p1), .val (.int p2), .val (.int p3), .val (.int p4), .val (.int p5), .val (.int (p1 &&& (3 : Int32))), .val (.int (p2.toInt8.toInt32)), .val (.int (p3.toInt8.toInt32)), .val (.int (p4.toInt8.toInt32)), .unset, .unset, .unset, .unset, .unset] [(.int (1 : Int32)), (.int p5)])) _
    refine XS.iand X0.here hx rfl (hb hby at_20) rfl ?_
    show Steps p.tables e below (s₁.setTop (mkF m 21 #[.val (.int p1), .val (.int p2), .val (.int p3), .val (.int p4), .val (.int p5), .val (.int (p1 &&& (3 : Int32))), .val (.int (p2.toInt8.toInt32)), .val (.int (p3.toInt8.toInt32)), .val (.int (p4.toInt8.toInt32)), .unset, .unset, .unset, .unset, .unset] [(.int (p5 &&& (1 : Int32)))])) _
    refine XS.ifYes X0.here hx rfl (pc0 := 21) (pc' := 30) rfl (hb hby at_21) rfl ((if0 _ _).trans (teq hc21).1) (by decide) (by decide) ?_
    show Steps p.tables e below (s₁.setTop (mkF m 30 #[.val (.int p1), .val (.int p2), .val (.int p3), .val (.int p4), .val (.int p5), .val (.int (p1 &&& (3 : Int32))), .val (.int (p2.toInt8.toInt32)), .val (.int (p3.toInt8.toInt32)), .val (.int (p4.toInt8.toInt32)), .unset, .unset, .unset, .unset, .unset] [])) _
    refine st7 _ ?_
    show Steps p.tables e below (T7.setTop (mkF m 33 #[.val (.int p1), .val (.int p2), .val (.int p3), .val (.int p4), .val (.int p5), .val (.int (p1 &&& (3 : Int32))), .val (.int (p2.toInt8.toInt32)), .val (.int (p3.toInt8.toInt32)), .val (.int (p4.toInt8.toInt32)), .unset, .unset, .unset, .unset, .unset] [(.ref w6)])) _
    refine XS.astore X7.here hx rfl (hb hby at_33) rfl rfl (l' := #[.val (.int p1), .val (.int p2), .val (.int p3), .val (.int p4), .val (.int p5), .val (.int (p1 &&& (3 : Int32))), .val (.int (p2.toInt8.toInt32)), .val (.int (p3.toInt8.toInt32)), .val (.int (p4.toInt8.toInt32)), .val (.ref w6), .unset, .unset, .unset, .unset]) rfl ?_
    show Steps p.tables e below (T7.setTop (mkF m 35 #[.val (.int p1), .val (.int p2), .val (.int p3), .val (.int p4), .val (.int p5), .val (.int (p1 &&& (3 : Int32))), .val (.int (p2.toInt8.toInt32)), .val (.int (p3.toInt8.toInt32)), .val (.int (p4.toInt8.toInt32)), .val (.ref w6), .unset, .unset, .unset, .unset] [])) _
    refine XS.iload X7.here hx rfl (hb hby at_35) rfl ?_
    show Steps p.tables e below (T7.setTop (mkF m 37 #[.val (.int p1), .val (.int p2), .val (.int p3), .val (.int p4), .val (.int p5), .val (.int (p1 &&& (3 : Int32))), .val (.int (p2.toInt8.toInt32)), .val (.int (p3.toInt8.toInt32)), .val (.int (p4.toInt8.toInt32)), .val (.ref w6), .unset, .unset, .unset, .unset] [(.int (p1 &&& (3 : Int32)))])) _
    refine XS.iload X7.here hx rfl (hb hby at_37) rfl ?_
    show Steps p.tables e below (T7.setTop (mkF m 39 #[.val (.int p1), .val (.int p2), .val (.int p3), .val (.int p4), .val (.int p5), .val (.int (p1 &&& (3 : Int32))), .val (.int (p2.toInt8.toInt32)), .val (.int (p3.toInt8.toInt32)), .val (.int (p4.toInt8.toInt32)), .val (.ref w6), .unset, .unset, .unset, .unset] [(.int (p2.toInt8.toInt32)), (.int (p1 &&& (3 : Int32)))])) _
    refine XS.iload X7.here hx rfl (hb hby at_39) rfl ?_
    show Steps p.tables e below (T7.setTop (mkF m 41 #[.val (.int p1), .val (.int p2), .val (.int p3), .val (.int p4), .val (.int p5), .val (.int (p1 &&& (3 : Int32))), .val (.int (p2.toInt8.toInt32)), .val (.int (p3.toInt8.toInt32)), .val (.int (p4.toInt8.toInt32)), .val (.ref w6), .unset, .unset, .unset, .unset] [(.int (p3.toInt8.toInt32)), (.int (p2.toInt8.toInt32)), (.int (p1 &&& (3 : Int32)))])) _
    refine XS.iload X7.here hx rfl (hb hby at_41) rfl ?_
    show Steps p.tables e below (T7.setTop (mkF m 43 #[.val (.int p1), .val (.int p2), .val (.int p3), .val (.int p4), .val (.int p5), .val (.int (p1 &&& (3 : Int32))), .val (.int (p2.toInt8.toInt32)), .val (.int (p3.toInt8.toInt32)), .val (.int (p4.toInt8.toInt32)), .val (.ref w6), .unset, .unset, .unset, .unset] [(.int (p4.toInt8.toInt32)), (.int (p3.toInt8.toInt32)), (.int (p2.toInt8.toInt32)), (.int (p1 &&& (3 : Int32)))])) _
    refine st8 _ ?_
    show Steps p.tables e below (T8.setTop (mkF m 46 #[.val (.int p1), .val (.int p2), .val (.int p3), .val (.int p4), .val (.int p5), .val (.int (p1 &&& (3 : Int32))), .val (.int (p2.toInt8.toInt32)), .val (.int (p3.toInt8.toInt32)), .val (.int (p4.toInt8.toInt32)), .val (.ref w6), .unset, .unset, .unset, .unset] [(.ref i8)])) _
    refine XS.astore X8.here hx rfl (hb hby at_46) rfl rfl (l' := #[.val (.int p1), .val (.int p2), .val (.int p3), .val (.int p4), .val (.int p5), .val (.int (p1 &&& (3 : Int32))), .val (.int (p2.toInt8.toInt32)), .val (.int (p3.toInt8.toInt32)), .val (.int (p4.toInt8.toInt32)), .val (.ref w6), .val (.ref i8), .unset, .unset, .unset]) rfl ?_
    show Steps p.tables e below (T8.setTop (mkF m 48 #[.val (.int p1), .val (.int p2), .val (.int p3), .val (.int p4), .val (.int p5), .val (.int (p1 &&& (3 : Int32))), .val (.int (p2.toInt8.toInt32)), .val (.int (p3.toInt8.toInt32)), .val (.int (p4.toInt8.toInt32)), .val (.ref w6), .val (.ref i8), .unset, .unset, .unset] [])) _
    refine st9 _ ?_
    show Steps p.tables e below (T9.setTop (mkF m 51 #[.val (.int p1), .val (.int p2), .val (.int p3), .val (.int p4), .val (.int p5), .val (.int (p1 &&& (3 : Int32))), .val (.int (p2.toInt8.toInt32)), .val (.int (p3.toInt8.toInt32)), .val (.int (p4.toInt8.toInt32)), .val (.ref w6), .val (.ref i8), .unset, .unset, .unset] [(.ref b9)])) _
    refine XS.dup X9.here hx rfl (hb hby at_51) rfl rfl ?_
    show Steps p.tables e below (T9.setTop (mkF m 52 #[.val (.int p1), .val (.int p2), .val (.int p3), .val (.int p4), .val (.int p5), .val (.int (p1 &&& (3 : Int32))), .val (.int (p2.toInt8.toInt32)), .val (.int (p3.toInt8.toInt32)), .val (.int (p4.toInt8.toInt32)), .val (.ref w6), .val (.ref i8), .unset, .unset, .unset] [(.ref b9), (.ref b9)])) _
    refine XS.aload X9.here hx rfl (hb hby at_52) rfl rfl ?_
    show Steps p.tables e below (T9.setTop (mkF m 54 #[.val (.int p1), .val (.int p2), .val (.int p3), .val (.int p4), .val (.int p5), .val (.int (p1 &&& (3 : Int32))), .val (.int (p2.toInt8.toInt32)), .val (.int (p3.toInt8.toInt32)), .val (.int (p4.toInt8.toInt32)), .val (.ref w6), .val (.ref i8), .unset, .unset, .unset] [(.ref w6), (.ref b9), (.ref b9)])) _
    refine XS.aload X9.here hx rfl (hb hby at_54) rfl rfl ?_
    show Steps p.tables e below (T9.setTop (mkF m 56 #[.val (.int p1), .val (.int p2), .val (.int p3), .val (.int p4), .val (.int p5), .val (.int (p1 &&& (3 : Int32))), .val (.int (p2.toInt8.toInt32)), .val (.int (p3.toInt8.toInt32)), .val (.int (p4.toInt8.toInt32)), .val (.ref w6), .val (.ref i8), .unset, .unset, .unset] [(.ref i8), (.ref w6), (.ref b9), (.ref b9)])) _
    refine st10.trans ?_
    show Steps p.tables e below (T10.setTop (mkF m 59 #[.val (.int p1), .val (.int p2), .val (.int p3), .val (.int p4), .val (.int p5), .val (.int (p1 &&& (3 : Int32))), .val (.int (p2.toInt8.toInt32)), .val (.int (p3.toInt8.toInt32)), .val (.int (p4.toInt8.toInt32)), .val (.ref w6), .val (.ref i8), .unset, .unset, .unset] [(.ref b9)])) _
    refine XS.astore X10.here hx rfl (hb hby at_59) rfl rfl (l' := #[.val (.int p1), .val (.int p2), .val (.int p3), .val (.int p4), .val (.int p5), .val (.int (p1 &&& (3 : Int32))), .val (.int (p2.toInt8.toInt32)), .val (.int (p3.toInt8.toInt32)), .val (.int (p4.toInt8.toInt32)), .val (.ref w6), .val (.ref i8), .val (.ref b9), .unset, .unset]) rfl ?_
    show Steps p.tables e below (T10.setTop (mkF m 61 #[.val (.int p1), .val (.int p2), .val (.int p3), .val (.int p4), .val (.int p5), .val (.int (p1 &&& (3 : Int32))), .val (.int (p2.toInt8.toInt32)), .val (.int (p3.toInt8.toInt32)), .val (.int (p4.toInt8.toInt32)), .val (.ref w6), .val (.ref i8), .val (.ref b9), .unset, .unset] [])) _
    refine XS.aload X10.here hx rfl (hb hby at_61) rfl rfl ?_
    show Steps p.tables e below (T10.setTop (mkF m 63 #[.val (.int p1), .val (.int p2), .val (.int p3), .val (.int p4), .val (.int p5), .val (.int (p1 &&& (3 : Int32))), .val (.int (p2.toInt8.toInt32)), .val (.int (p3.toInt8.toInt32)), .val (.int (p4.toInt8.toInt32)), .val (.ref w6), .val (.ref i8), .val (.ref b9), .unset, .unset] [(.ref b9)])) _
    refine st11.trans ?_
    show Steps p.tables e below (T11.setTop (mkF m 66 #[.val (.int p1), .val (.int p2), .val (.int p3), .val (.int p4), .val (.int p5), .val (.int (p1 &&& (3 : Int32))), .val (.int (p2.toInt8.toInt32)), .val (.int (p3.toInt8.toInt32)), .val (.int (p4.toInt8.toInt32)), .val (.ref w6), .val (.ref i8), .val (.ref b9), .unset, .unset] [(.ref i11)])) _
    refine XS.astore X11.here hx rfl (hb hby at_66) rfl rfl (l' := #[.val (.int p1), .val (.int p2), .val (.int p3), .val (.int p4), .val (.int p5), .val (.int (p1 &&& (3 : Int32))), .val (.int (p2.toInt8.toInt32)), .val (.int (p3.toInt8.toInt32)), .val (.int (p4.toInt8.toInt32)), .val (.ref w6), .val (.ref i8), .val (.ref b9), .val (.ref i11), .unset]) rfl ?_
    show Steps p.tables e below (T11.setTop (mkF m 68 #[.val (.int p1), .val (.int p2), .val (.int p3), .val (.int p4), .val (.int p5), .val (.int (p1 &&& (3 : Int32))), .val (.int (p2.toInt8.toInt32)), .val (.int (p3.toInt8.toInt32)), .val (.int (p4.toInt8.toInt32)), .val (.ref w6), .val (.ref i8), .val (.ref b9), .val (.ref i11), .unset] [])) _
    refine XS.aload X11.here hx rfl (hb hby at_68) rfl rfl ?_
    show Steps p.tables e below (T11.setTop (mkF m 70 #[.val (.int p1), .val (.int p2), .val (.int p3), .val (.int p4), .val (.int p5), .val (.int (p1 &&& (3 : Int32))), .val (.int (p2.toInt8.toInt32)), .val (.int (p3.toInt8.toInt32)), .val (.int (p4.toInt8.toInt32)), .val (.ref w6), .val (.ref i8), .val (.ref b9), .val (.ref i11), .unset] [(.ref i11)])) _
    refine XS.aload X11.here hx rfl (hb hby at_70) rfl rfl ?_
    show Steps p.tables e below (T11.setTop (mkF m 72 #[.val (.int p1), .val (.int p2), .val (.int p3), .val (.int p4), .val (.int p5), .val (.int (p1 &&& (3 : Int32))), .val (.int (p2.toInt8.toInt32)), .val (.int (p3.toInt8.toInt32)), .val (.int (p4.toInt8.toInt32)), .val (.ref w6), .val (.ref i8), .val (.ref b9), .val (.ref i11), .unset] [(.ref i8), (.ref i11)])) _
    refine Jvm.RoadKit.acmp (g := (mkF m 72 #[.val (.int p1), .val (.int p2), .val (.int p3), .val (.int p4), .val (.int p5), .val (.int (p1 &&& (3 : Int32))), .val (.int (p2.toInt8.toInt32)), .val (.int (p3.toInt8.toInt32)), .val (.int (p4.toInt8.toInt32)), .val (.ref w6), .val (.ref i8), .val (.ref b9), .val (.ref i11), .unset] [(.ref i8), (.ref i11)])) X11 hx rfl rfl rfl (pc0 := 72) (pc' := 77) (same := false) rfl (hb hby at_72) rfl (decide_eq_false fun q => ne1 (Value.ref.inj q).symm) (by decide) (by decide) ?_
    show Steps p.tables e below (T11.setTop (mkF m 77 #[.val (.int p1), .val (.int p2), .val (.int p3), .val (.int p4), .val (.int p5), .val (.int (p1 &&& (3 : Int32))), .val (.int (p2.toInt8.toInt32)), .val (.int (p3.toInt8.toInt32)), .val (.int (p4.toInt8.toInt32)), .val (.ref w6), .val (.ref i8), .val (.ref b9), .val (.ref i11), .unset] [])) _
    refine XS.aload X11.here hx rfl (hb hby at_77) rfl rfl ?_
    show Steps p.tables e below (T11.setTop (mkF m 79 #[.val (.int p1), .val (.int p2), .val (.int p3), .val (.int p4), .val (.int p5), .val (.int (p1 &&& (3 : Int32))), .val (.int (p2.toInt8.toInt32)), .val (.int (p3.toInt8.toInt32)), .val (.int (p4.toInt8.toInt32)), .val (.ref w6), .val (.ref i8), .val (.ref b9), .val (.ref i11), .unset] [(.ref i11)])) _
    refine XS.iload X11.here hx rfl (hb hby at_79) rfl ?_
    show Steps p.tables e below (T11.setTop (mkF m 81 #[.val (.int p1), .val (.int p2), .val (.int p3), .val (.int p4), .val (.int p5), .val (.int (p1 &&& (3 : Int32))), .val (.int (p2.toInt8.toInt32)), .val (.int (p3.toInt8.toInt32)), .val (.int (p4.toInt8.toInt32)), .val (.ref w6), .val (.ref i8), .val (.ref b9), .val (.ref i11), .unset] [(.int (p1 &&& (3 : Int32))), (.ref i11)])) _
    refine XS.iload X11.here hx rfl (hb hby at_81) rfl ?_
    show Steps p.tables e below (T11.setTop (mkF m 83 #[.val (.int p1), .val (.int p2), .val (.int p3), .val (.int p4), .val (.int p5), .val (.int (p1 &&& (3 : Int32))), .val (.int (p2.toInt8.toInt32)), .val (.int (p3.toInt8.toInt32)), .val (.int (p4.toInt8.toInt32)), .val (.ref w6), .val (.ref i8), .val (.ref b9), .val (.ref i11), .unset] [(.int (p2.toInt8.toInt32)), (.int (p1 &&& (3 : Int32))), (.ref i11)])) _
    refine XS.iload X11.here hx rfl (hb hby at_83) rfl ?_
    show Steps p.tables e below (T11.setTop (mkF m 85 #[.val (.int p1), .val (.int p2), .val (.int p3), .val (.int p4), .val (.int p5), .val (.int (p1 &&& (3 : Int32))), .val (.int (p2.toInt8.toInt32)), .val (.int (p3.toInt8.toInt32)), .val (.int (p4.toInt8.toInt32)), .val (.ref w6), .val (.ref i8), .val (.ref b9), .val (.ref i11), .unset] [(.int (p3.toInt8.toInt32)), (.int (p2.toInt8.toInt32)), (.int (p1 &&& (3 : Int32))), (.ref i11)])) _
    refine XS.iload X11.here hx rfl (hb hby at_85) rfl ?_
    show Steps p.tables e below (T11.setTop (mkF m 87 #[.val (.int p1), .val (.int p2), .val (.int p3), .val (.int p4), .val (.int p5), .val (.int (p1 &&& (3 : Int32))), .val (.int (p2.toInt8.toInt32)), .val (.int (p3.toInt8.toInt32)), .val (.int (p4.toInt8.toInt32)), .val (.ref w6), .val (.ref i8), .val (.ref b9), .val (.ref i11), .unset] [(.int (p4.toInt8.toInt32)), (.int (p3.toInt8.toInt32)), (.int (p2.toInt8.toInt32)), (.int (p1 &&& (3 : Int32))), (.ref i11)])) _
    refine st12 _ ?_
    show Steps p.tables e below (T12.setTop (mkF m 90 #[.val (.int p1), .val (.int p2), .val (.int p3), .val (.int p4), .val (.int p5), .val (.int (p1 &&& (3 : Int32))), .val (.int (p2.toInt8.toInt32)), .val (.int (p3.toInt8.toInt32)), .val (.int (p4.toInt8.toInt32)), .val (.ref w6), .val (.ref i8), .val (.ref b9), .val (.ref i11), .unset] [(.int (1 : Int32))])) _
    refine XS.ifYes X12.here hx rfl (pc0 := 90) (pc' := 95) rfl (hb hby at_90) rfl ((if0 _ _).trans (feq (by decide : ¬ ((1 : Int32) = (0 : Int32)))).2) (by decide) (by decide) ?_
    show Steps p.tables e below (T12.setTop (mkF m 95 #[.val (.int p1), .val (.int p2), .val (.int p3), .val (.int p4), .val (.int p5), .val (.int (p1 &&& (3 : Int32))), .val (.int (p2.toInt8.toInt32)), .val (.int (p3.toInt8.toInt32)), .val (.int (p4.toInt8.toInt32)), .val (.ref w6), .val (.ref i8), .val (.ref b9), .val (.ref i11), .unset] [])) _
    refine XS.iload X12.here hx rfl (hb hby at_95) rfl ?_
    show Steps p.tables e below (T12.setTop (mkF m 97 #[.val (.int p1), .val (.int p2), .val (.int p3), .val (.int p4), .val (.int p5), .val (.int (p1 &&& (3 : Int32))), .val (.int (p2.toInt8.toInt32)), .val (.int (p3.toInt8.toInt32)), .val (.int (p4.toInt8.toInt32)), .val (.ref w6), .val (.ref i8), .val (.ref b9), .val (.ref i11), .unset] [(.int (p1 &&& (3 : Int32)))])) _
    refine XS.iconst X12.here hx rfl (hb hby at_97) ?_
    show Steps p.tables e below (T12.setTop (mkF m 98 #[.val (.int p1), .val (.int p2), .val (.int p3), .val (.int p4), .val (.int p5), .val (.int (p1 &&& (3 : Int32))), .val (.int (p2.toInt8.toInt32)), .val (.int (p3.toInt8.toInt32)), .val (.int (p4.toInt8.toInt32)), .val (.ref w6), .val (.ref i8), .val (.ref b9), .val (.ref i11), .unset] [(.int (1 : Int32)), (.int (p1 &&& (3 : Int32)))])) _
    refine XS.icmpNo X12.here hx rfl (hb hby at_98) rfl (flt hc98).1 ?_
    show Steps p.tables e below (T12.setTop (mkF m 101 #[.val (.int p1), .val (.int p2), .val (.int p3), .val (.int p4), .val (.int p5), .val (.int (p1 &&& (3 : Int32))), .val (.int (p2.toInt8.toInt32)), .val (.int (p3.toInt8.toInt32)), .val (.int (p4.toInt8.toInt32)), .val (.ref w6), .val (.ref i8), .val (.ref b9), .val (.ref i11), .unset] [])) _
    refine XS.aload X12.here hx rfl (hb hby at_101) rfl rfl ?_
    show Steps p.tables e below (T12.setTop (mkF m 103 #[.val (.int p1), .val (.int p2), .val (.int p3), .val (.int p4), .val (.int p5), .val (.int (p1 &&& (3 : Int32))), .val (.int (p2.toInt8.toInt32)), .val (.int (p3.toInt8.toInt32)), .val (.int (p4.toInt8.toInt32)), .val (.ref w6), .val (.ref i8), .val (.ref b9), .val (.ref i11), .unset] [(.ref i11)])) _
    refine XS.iconst X12.here hx rfl (hb hby at_103) ?_
    show Steps p.tables e below (T12.setTop (mkF m 104 #[.val (.int p1), .val (.int p2), .val (.int p3), .val (.int p4), .val (.int p5), .val (.int (p1 &&& (3 : Int32))), .val (.int (p2.toInt8.toInt32)), .val (.int (p3.toInt8.toInt32)), .val (.int (p4.toInt8.toInt32)), .val (.ref w6), .val (.ref i8), .val (.ref b9), .val (.ref i11), .unset] [(.int (0 : Int32)), (.ref i11)])) _
    refine XS.aload X12.here hx rfl (hb hby at_104) rfl rfl ?_
    show Steps p.tables e below (T12.setTop (mkF m 106 #[.val (.int p1), .val (.int p2), .val (.int p3), .val (.int p4), .val (.int p5), .val (.int (p1 &&& (3 : Int32))), .val (.int (p2.toInt8.toInt32)), .val (.int (p3.toInt8.toInt32)), .val (.int (p4.toInt8.toInt32)), .val (.ref w6), .val (.ref i8), .val (.ref b9), .val (.ref i11), .unset] [(.ref i11), (.int (0 : Int32)), (.ref i11)])) _
    refine XS.iconst X12.here hx rfl (hb hby at_106) ?_
    show Steps p.tables e below (T12.setTop (mkF m 107 #[.val (.int p1), .val (.int p2), .val (.int p3), .val (.int p4), .val (.int p5), .val (.int (p1 &&& (3 : Int32))), .val (.int (p2.toInt8.toInt32)), .val (.int (p3.toInt8.toInt32)), .val (.int (p4.toInt8.toInt32)), .val (.ref w6), .val (.ref i8), .val (.ref b9), .val (.ref i11), .unset] [(.int (0 : Int32)), (.ref i11), (.int (0 : Int32)), (.ref i11)])) _
    refine X12.baloadBytes hx (j := (0 : Int32)) (v := (.int (p2.toInt8.toInt32))) Ar_i.1 (State.isArrayOf_alike hZ.alike Ar_i.2.1) Ar_i.2.2 hin107 hat107 (g := (mkF m 107 #[.val (.int p1), .val (.int p2), .val (.int p3), .val (.int p4), .val (.int p5), .val (.int (p1 &&& (3 : Int32))), .val (.int (p2.toInt8.toInt32)), .val (.int (p3.toInt8.toInt32)), .val (.int (p4.toInt8.toInt32)), .val (.ref w6), .val (.ref i8), .val (.ref b9), .val (.ref i11), .unset] [(.int (0 : Int32)), (.ref i11), (.int (0 : Int32)), (.ref i11)])) rfl rfl (hb hby at_107) _ ?_
    show Steps p.tables e below (T12.setTop (mkF m 108 #[.val (.int p1), .val (.int p2), .val (.int p3), .val (.int p4), .val (.int p5), .val (.int (p1 &&& (3 : Int32))), .val (.int (p2.toInt8.toInt32)), .val (.int (p3.toInt8.toInt32)), .val (.int (p4.toInt8.toInt32)), .val (.ref w6), .val (.ref i8), .val (.ref b9), .val (.ref i11), .unset] [(.int (p2.toInt8.toInt32)), (.int (0 : Int32)), (.ref i11)])) _
    refine XS.iconst X12.here hx rfl (hb hby at_108) ?_
    show Steps p.tables e below (T12.setTop (mkF m 109 #[.val (.int p1), .val (.int p2), .val (.int p3), .val (.int p4), .val (.int p5), .val (.int (p1 &&& (3 : Int32))), .val (.int (p2.toInt8.toInt32)), .val (.int (p3.toInt8.toInt32)), .val (.int (p4.toInt8.toInt32)), .val (.ref w6), .val (.ref i8), .val (.ref b9), .val (.ref i11), .unset] [(.int (1 : Int32)), (.int (p2.toInt8.toInt32)), (.int (0 : Int32)), (.ref i11)])) _
    refine XS.iadd X12.here hx rfl (hb hby at_109) rfl ?_
    show Steps p.tables e below (T12.setTop (mkF m 110 #[.val (.int p1), .val (.int p2), .val (.int p3), .val (.int p4), .val (.int p5), .val (.int (p1 &&& (3 : Int32))), .val (.int (p2.toInt8.toInt32)), .val (.int (p3.toInt8.toInt32)), .val (.int (p4.toInt8.toInt32)), .val (.ref w6), .val (.ref i8), .val (.ref b9), .val (.ref i11), .unset] [(.int ((p2.toInt8.toInt32) + (1 : Int32))), (.int (0 : Int32)), (.ref i11)])) _
    refine XS.i2b X12.here hx rfl (hb hby at_110) rfl ?_
    show Steps p.tables e below (T12.setTop (mkF m 111 #[.val (.int p1), .val (.int p2), .val (.int p3), .val (.int p4), .val (.int p5), .val (.int (p1 &&& (3 : Int32))), .val (.int (p2.toInt8.toInt32)), .val (.int (p3.toInt8.toInt32)), .val (.int (p4.toInt8.toInt32)), .val (.ref w6), .val (.ref i8), .val (.ref b9), .val (.ref i11), .unset] [(.int (((p2.toInt8.toInt32) + (1 : Int32)).toInt8.toInt32)), (.int (0 : Int32)), (.ref i11)])) _
    refine st14 _ ?_
    show Steps p.tables e below (T14.setTop (mkF m 112 #[.val (.int p1), .val (.int p2), .val (.int p3), .val (.int p4), .val (.int p5), .val (.int (p1 &&& (3 : Int32))), .val (.int (p2.toInt8.toInt32)), .val (.int (p3.toInt8.toInt32)), .val (.int (p4.toInt8.toInt32)), .val (.ref w6), .val (.ref i8), .val (.ref b9), .val (.ref i11), .unset] [])) _
    refine XS.aload X14.here hx rfl (hb hby at_112) rfl rfl ?_
    show Steps p.tables e below (T14.setTop (mkF m 114 #[.val (.int p1), .val (.int p2), .val (.int p3), .val (.int p4), .val (.int p5), .val (.int (p1 &&& (3 : Int32))), .val (.int (p2.toInt8.toInt32)), .val (.int (p3.toInt8.toInt32)), .val (.int (p4.toInt8.toInt32)), .val (.ref w6), .val (.ref i8), .val (.ref b9), .val (.ref i11), .unset] [(.ref b9)])) _
    refine st15.trans ?_
    show Steps p.tables e below (T15.setTop (mkF m 117 #[.val (.int p1), .val (.int p2), .val (.int p3), .val (.int p4), .val (.int p5), .val (.int (p1 &&& (3 : Int32))), .val (.int (p2.toInt8.toInt32)), .val (.int (p3.toInt8.toInt32)), .val (.int (p4.toInt8.toInt32)), .val (.ref w6), .val (.ref i8), .val (.ref b9), .val (.ref i11), .unset] [(.ref i15)])) _
    refine XS.astore X15.here hx rfl (hb hby at_117) rfl rfl (l' := #[.val (.int p1), .val (.int p2), .val (.int p3), .val (.int p4), .val (.int p5), .val (.int (p1 &&& (3 : Int32))), .val (.int (p2.toInt8.toInt32)), .val (.int (p3.toInt8.toInt32)), .val (.int (p4.toInt8.toInt32)), .val (.ref w6), .val (.ref i8), .val (.ref b9), .val (.ref i11), .val (.ref i15)]) rfl ?_
    show Steps p.tables e below (T15.setTop (mkF m 119 #[.val (.int p1), .val (.int p2), .val (.int p3), .val (.int p4), .val (.int p5), .val (.int (p1 &&& (3 : Int32))), .val (.int (p2.toInt8.toInt32)), .val (.int (p3.toInt8.toInt32)), .val (.int (p4.toInt8.toInt32)), .val (.ref w6), .val (.ref i8), .val (.ref b9), .val (.ref i11), .val (.ref i15)] [])) _
    refine XS.aload X15.here hx rfl (hb hby at_119) rfl rfl ?_
    show Steps p.tables e below (T15.setTop (mkF m 121 #[.val (.int p1), .val (.int p2), .val (.int p3), .val (.int p4), .val (.int p5), .val (.int (p1 &&& (3 : Int32))), .val (.int (p2.toInt8.toInt32)), .val (.int (p3.toInt8.toInt32)), .val (.int (p4.toInt8.toInt32)), .val (.ref w6), .val (.ref i8), .val (.ref b9), .val (.ref i11), .val (.ref i15)] [(.ref i15)])) _
    refine XS.aload X15.here hx rfl (hb hby at_121) rfl rfl ?_
    show Steps p.tables e below (T15.setTop (mkF m 123 #[.val (.int p1), .val (.int p2), .val (.int p3), .val (.int p4), .val (.int p5), .val (.int (p1 &&& (3 : Int32))), .val (.int (p2.toInt8.toInt32)), .val (.int (p3.toInt8.toInt32)), .val (.int (p4.toInt8.toInt32)), .val (.ref w6), .val (.ref i8), .val (.ref b9), .val (.ref i11), .val (.ref i15)] [(.ref i11), (.ref i15)])) _
    refine Jvm.RoadKit.acmp (g := (mkF m 123 #[.val (.int p1), .val (.int p2), .val (.int p3), .val (.int p4), .val (.int p5), .val (.int (p1 &&& (3 : Int32))), .val (.int (p2.toInt8.toInt32)), .val (.int (p3.toInt8.toInt32)), .val (.int (p4.toInt8.toInt32)), .val (.ref w6), .val (.ref i8), .val (.ref b9), .val (.ref i11), .val (.ref i15)] [(.ref i11), (.ref i15)])) X15 hx rfl rfl rfl (pc0 := 123) (pc' := 126) (same := false) rfl (hb hby at_123) rfl (decide_eq_false fun q => ne3 (Value.ref.inj q)) (by decide) (by decide) ?_
    show Steps p.tables e below (T15.setTop (mkF m 126 #[.val (.int p1), .val (.int p2), .val (.int p3), .val (.int p4), .val (.int p5), .val (.int (p1 &&& (3 : Int32))), .val (.int (p2.toInt8.toInt32)), .val (.int (p3.toInt8.toInt32)), .val (.int (p4.toInt8.toInt32)), .val (.ref w6), .val (.ref i8), .val (.ref b9), .val (.ref i11), .val (.ref i15)] [])) _
    refine XS.aload X15.here hx rfl (hb hby at_126) rfl rfl ?_
    show Steps p.tables e below (T15.setTop (mkF m 128 #[.val (.int p1), .val (.int p2), .val (.int p3), .val (.int p4), .val (.int p5), .val (.int (p1 &&& (3 : Int32))), .val (.int (p2.toInt8.toInt32)), .val (.int (p3.toInt8.toInt32)), .val (.int (p4.toInt8.toInt32)), .val (.ref w6), .val (.ref i8), .val (.ref b9), .val (.ref i11), .val (.ref i15)] [(.ref i15)])) _
    refine XS.aload X15.here hx rfl (hb hby at_128) rfl rfl ?_
    show Steps p.tables e below (T15.setTop (mkF m 130 #[.val (.int p1), .val (.int p2), .val (.int p3), .val (.int p4), .val (.int p5), .val (.int (p1 &&& (3 : Int32))), .val (.int (p2.toInt8.toInt32)), .val (.int (p3.toInt8.toInt32)), .val (.int (p4.toInt8.toInt32)), .val (.ref w6), .val (.ref i8), .val (.ref b9), .val (.ref i11), .val (.ref i15)] [(.ref i8), (.ref i15)])) _
    refine Jvm.RoadKit.acmp (g := (mkF m 130 #[.val (.int p1), .val (.int p2), .val (.int p3), .val (.int p4), .val (.int p5), .val (.int (p1 &&& (3 : Int32))), .val (.int (p2.toInt8.toInt32)), .val (.int (p3.toInt8.toInt32)), .val (.int (p4.toInt8.toInt32)), .val (.ref w6), .val (.ref i8), .val (.ref b9), .val (.ref i11), .val (.ref i15)] [(.ref i8), (.ref i15)])) X15 hx rfl rfl rfl (pc0 := 130) (pc' := 135) (same := false) rfl (hb hby at_130) rfl (decide_eq_false fun q => ne4 (Value.ref.inj q)) (by decide) (by decide) ?_
    show Steps p.tables e below (T15.setTop (mkF m 135 #[.val (.int p1), .val (.int p2), .val (.int p3), .val (.int p4), .val (.int p5), .val (.int (p1 &&& (3 : Int32))), .val (.int (p2.toInt8.toInt32)), .val (.int (p3.toInt8.toInt32)), .val (.int (p4.toInt8.toInt32)), .val (.ref w6), .val (.ref i8), .val (.ref b9), .val (.ref i11), .val (.ref i15)] [])) _
    refine XS.aload X15.here hx rfl (hb hby at_135) rfl rfl ?_
    show Steps p.tables e below (T15.setTop (mkF m 137 #[.val (.int p1), .val (.int p2), .val (.int p3), .val (.int p4), .val (.int p5), .val (.int (p1 &&& (3 : Int32))), .val (.int (p2.toInt8.toInt32)), .val (.int (p3.toInt8.toInt32)), .val (.int (p4.toInt8.toInt32)), .val (.ref w6), .val (.ref i8), .val (.ref b9), .val (.ref i11), .val (.ref i15)] [(.ref i15)])) _
    refine XS.iload X15.here hx rfl (hb hby at_137) rfl ?_
    show Steps p.tables e below (T15.setTop (mkF m 139 #[.val (.int p1), .val (.int p2), .val (.int p3), .val (.int p4), .val (.int p5), .val (.int (p1 &&& (3 : Int32))), .val (.int (p2.toInt8.toInt32)), .val (.int (p3.toInt8.toInt32)), .val (.int (p4.toInt8.toInt32)), .val (.ref w6), .val (.ref i8), .val (.ref b9), .val (.ref i11), .val (.ref i15)] [(.int (p1 &&& (3 : Int32))), (.ref i15)])) _
    refine XS.iload X15.here hx rfl (hb hby at_139) rfl ?_
    show Steps p.tables e below (T15.setTop (mkF m 141 #[.val (.int p1), .val (.int p2), .val (.int p3), .val (.int p4), .val (.int p5), .val (.int (p1 &&& (3 : Int32))), .val (.int (p2.toInt8.toInt32)), .val (.int (p3.toInt8.toInt32)), .val (.int (p4.toInt8.toInt32)), .val (.ref w6), .val (.ref i8), .val (.ref b9), .val (.ref i11), .val (.ref i15)] [(.int (p2.toInt8.toInt32)), (.int (p1 &&& (3 : Int32))), (.ref i15)])) _
    refine XS.iload X15.here hx rfl (hb hby at_141) rfl ?_
    show Steps p.tables e below (T15.setTop (mkF m 143 #[.val (.int p1), .val (.int p2), .val (.int p3), .val (.int p4), .val (.int p5), .val (.int (p1 &&& (3 : Int32))), .val (.int (p2.toInt8.toInt32)), .val (.int (p3.toInt8.toInt32)), .val (.int (p4.toInt8.toInt32)), .val (.ref w6), .val (.ref i8), .val (.ref b9), .val (.ref i11), .val (.ref i15)] [(.int (p3.toInt8.toInt32)), (.int (p2.toInt8.toInt32)), (.int (p1 &&& (3 : Int32))), (.ref i15)])) _
    refine XS.iload X15.here hx rfl (hb hby at_143) rfl ?_
    show Steps p.tables e below (T15.setTop (mkF m 145 #[.val (.int p1), .val (.int p2), .val (.int p3), .val (.int p4), .val (.int p5), .val (.int (p1 &&& (3 : Int32))), .val (.int (p2.toInt8.toInt32)), .val (.int (p3.toInt8.toInt32)), .val (.int (p4.toInt8.toInt32)), .val (.ref w6), .val (.ref i8), .val (.ref b9), .val (.ref i11), .val (.ref i15)] [(.int (p4.toInt8.toInt32)), (.int (p3.toInt8.toInt32)), (.int (p2.toInt8.toInt32)), (.int (p1 &&& (3 : Int32))), (.ref i15)])) _
    refine st16 _ ?_
    show Steps p.tables e below (T16.setTop (mkF m 148 #[.val (.int p1), .val (.int p2), .val (.int p3), .val (.int p4), .val (.int p5), .val (.int (p1 &&& (3 : Int32))), .val (.int (p2.toInt8.toInt32)), .val (.int (p3.toInt8.toInt32)), .val (.int (p4.toInt8.toInt32)), .val (.ref w6), .val (.ref i8), .val (.ref b9), .val (.ref i11), .val (.ref i15)] [(.int (1 : Int32))])) _
    refine XS.ifYes X16.here hx rfl (pc0 := 148) (pc' := 153) rfl (hb hby at_148) rfl ((if0 _ _).trans (feq (by decide : ¬ ((1 : Int32) = (0 : Int32)))).2) (by decide) (by decide) ?_
    show Steps p.tables e below (T16.setTop (mkF m 153 #[.val (.int p1), .val (.int p2), .val (.int p3), .val (.int p4), .val (.int p5), .val (.int (p1 &&& (3 : Int32))), .val (.int (p2.toInt8.toInt32)), .val (.int (p3.toInt8.toInt32)), .val (.int (p4.toInt8.toInt32)), .val (.ref w6), .val (.ref i8), .val (.ref b9), .val (.ref i11), .val (.ref i15)] [])) _
    refine XS.aload X16.here hx rfl (hb hby at_153) rfl rfl ?_
    show Steps p.tables e below (T16.setTop (mkF m 155 #[.val (.int p1), .val (.int p2), .val (.int p3), .val (.int p4), .val (.int p5), .val (.int (p1 &&& (3 : Int32))), .val (.int (p2.toInt8.toInt32)), .val (.int (p3.toInt8.toInt32)), .val (.int (p4.toInt8.toInt32)), .val (.ref w6), .val (.ref i8), .val (.ref b9), .val (.ref i11), .val (.ref i15)] [(.ref b9)])) _
    refine st17.trans ?_
    show Steps p.tables e below (T17.setTop (mkF m 158 #[.val (.int p1), .val (.int p2), .val (.int p3), .val (.int p4), .val (.int p5), .val (.int (p1 &&& (3 : Int32))), .val (.int (p2.toInt8.toInt32)), .val (.int (p3.toInt8.toInt32)), .val (.int (p4.toInt8.toInt32)), .val (.ref w6), .val (.ref i8), .val (.ref b9), .val (.ref i11), .val (.ref i15)] [(.ref w6)])) _
    refine XS.aload X17.here hx rfl (hb hby at_158) rfl rfl ?_
    show Steps p.tables e below (T17.setTop (mkF m 160 #[.val (.int p1), .val (.int p2), .val (.int p3), .val (.int p4), .val (.int p5), .val (.int (p1 &&& (3 : Int32))), .val (.int (p2.toInt8.toInt32)), .val (.int (p3.toInt8.toInt32)), .val (.int (p4.toInt8.toInt32)), .val (.ref w6), .val (.ref i8), .val (.ref b9), .val (.ref i11), .val (.ref i15)] [(.ref w6), (.ref w6)])) _
    refine Jvm.RoadKit.acmp (g := (mkF m 160 #[.val (.int p1), .val (.int p2), .val (.int p3), .val (.int p4), .val (.int p5), .val (.int (p1 &&& (3 : Int32))), .val (.int (p2.toInt8.toInt32)), .val (.int (p3.toInt8.toInt32)), .val (.int (p4.toInt8.toInt32)), .val (.ref w6), .val (.ref i8), .val (.ref b9), .val (.ref i11), .val (.ref i15)] [(.ref w6), (.ref w6)])) X17 hx rfl rfl rfl (pc0 := 160) (pc' := 163) (same := true) rfl (hb hby at_160) rfl (decide_eq_true rfl) (by decide) (by decide) ?_
    show Steps p.tables e below (T17.setTop (mkF m 163 #[.val (.int p1), .val (.int p2), .val (.int p3), .val (.int p4), .val (.int p5), .val (.int (p1 &&& (3 : Int32))), .val (.int (p2.toInt8.toInt32)), .val (.int (p3.toInt8.toInt32)), .val (.int (p4.toInt8.toInt32)), .val (.ref w6), .val (.ref i8), .val (.ref b9), .val (.ref i11), .val (.ref i15)] [])) _
    refine XS.iconst X17.here hx rfl (hb hby at_163) ?_
    show Steps p.tables e below (T17.setTop (mkF m 164 #[.val (.int p1), .val (.int p2), .val (.int p3), .val (.int p4), .val (.int p5), .val (.int (p1 &&& (3 : Int32))), .val (.int (p2.toInt8.toInt32)), .val (.int (p3.toInt8.toInt32)), .val (.int (p4.toInt8.toInt32)), .val (.ref w6), .val (.ref i8), .val (.ref b9), .val (.ref i11), .val (.ref i15)] [(.int (1 : Int32))])) _
    refine XS.goto X17.here hx rfl (pc0 := 164) (pc' := 168) rfl (hb hby at_164) (by decide) (by decide) ?_
    show Steps p.tables e below (T17.setTop (mkF m 168 #[.val (.int p1), .val (.int p2), .val (.int p3), .val (.int p4), .val (.int p5), .val (.int (p1 &&& (3 : Int32))), .val (.int (p2.toInt8.toInt32)), .val (.int (p3.toInt8.toInt32)), .val (.int (p4.toInt8.toInt32)), .val (.ref w6), .val (.ref i8), .val (.ref b9), .val (.ref i11), .val (.ref i15)] [(.int (1 : Int32))])) _
    exact retN X17 hx (t := .boolean) Bd.returns (by simp) (hb hby at_168) hr
  · show Q0 n0 _ _
    exact ⟨rfl, N17⟩
set_option maxRecDepth 65536 in
set_option maxHeartbeats 40000000 in
theorem rm0_t0 (l : Launch) (Z : State) (a0 : Array Value) (hw : ∀ d ∈ tables_1, d.before a0 Z = true) (ws : List Jvm.Cond) (p1 : Int32) (p2 : Int32) (p3 : Int32) (p4 : Int32) (p5 : Int32) (w6 : Addr) (h0 : Heap) (n0 : Nat) (Z0 : n0 ≤ h0.size) (hn : (p1 &&& (3 : Int32)) = 0 ∨ (p1 &&& (3 : Int32)) = 1 ∨ (p1 &&& (3 : Int32)) = 2 ∨ (p1 &&& (3 : Int32)) = 3) (S_REPLAYED : Sta Z h0 "com/example/limpet/limpet/Execution$Outcome" "REPLAYED" "Lcom/example/limpet/limpet/Execution$Outcome;" (.ref w6)) (hc21 : (p5 &&& (1 : Int32)) = (0 : Int32)) (hc98 : (p1 &&& (3 : Int32)) < (1 : Int32)) :
    MetFree l x (head1 (Jvm.Cond.code x code maxLocals ret :: ws) room_1) (fun a U => a = #[(.int p1), (.int p2), (.int p3), (.int p4), (.int p5)] ∧ Z.Warmed39 U.vm ∧ U.heap = h0) (fun _ _ _ _ _ => True) (fun _ U o U' => ∃ v L, o = .returned v ∧ Q0 n0 v L ∧ FrameEnd U o U' L room_1.cells room_1.slots) := by
  refine MetFree.of_bodySF (plainFor_of_name pn_0) hisR ?_
  intro p e s m args below meth c s₁ Bd hml0 hP hK
  obtain ⟨rfl, hZ, hh⟩ := hP
  have hx := Bd.exec
  have hby := Bd.bytes
  have hml : c.maxLocals = 14 := hml0
  have hown : s.vm.findClass "com/example/limpet/limpet/ExecutionResultPinLaw" = some m.cls := findClass_of_methodNamed Bd.named
  have hnm := (name_of_methodNamed Bd.named Bd.method).1
  have X0 : Stand p l e room_1 s m #[(.int p1), (.int p2), (.int p3), (.int p4), (.int p5)] below meth c s₁ [] 0 0 := Stand.of_body Bd
  have e0 : s₁.heap = h0 := by rw [← hh, Bd.state]; rfl
  have N0 := Fr.nil n0
  have pre0 : ∀ t, Steps p.tables e below (s₁.setTop (mkF m 0 #[.val (.int p1), .val (.int p2), .val (.int p3), .val (.int p4), .val (.int p5), .unset, .unset, .unset, .unset, .unset, .unset, .unset, .unset, .unset] [])) t → Steps p.tables e below (s₁.setTop (entryFrame m #[(.int p1), (.int p2), (.int p3), (.int p4), (.int p5)] maxLocals)) t := fun t k => castTop (ef_0 m p1 p2 p3 p4 p5) k
  obtain ⟨T7, X7, e7, st7⟩ := getS2 X0 hx hZ hown (host := "") (Or.inl (hw _ (List.mem_of_getElem? (i := 0) rfl))) Via.refl e0 S_REPLAYED (g := (mkF m 30 #[.val (.int p1), .val (.int p2), .val (.int p3), .val (.int p4), .val (.int p5), .val (.int (p1 &&& (3 : Int32))), .val (.int (p2.toInt8.toInt32)), .val (.int (p3.toInt8.toInt32)), .val (.int (p4.toInt8.toInt32)), .unset, .unset, .unset, .unset, .unset] [])) rfl (hb hby at_30)
  obtain ⟨_, _, ⟨T8, L8, k8, n8⟩, -, X8, ⟨Lc8, hQ8, l8, y8, z8⟩, st8⟩ := Jvm.LawKit.callS X7 hx (y := (⟨"com/example/limpet/limpet/ExecutionResultPinLaw", "make", "(IBBB)[B"⟩ : MethodName)) hown (mvT hZ (hw _ (List.mem_of_getElem? (i := 3) rfl))) (mvT hZ (hw _ (List.mem_of_getElem? (i := 4) rfl))) (mvT hZ (hw _ (List.mem_of_getElem? (i := 5) rfl))) (mvT hZ (hw _ (List.mem_of_getElem? (i := 6) rfl))) (by decide) (backOf (W := 0) (rmM l Z a0 hw [] (p1 &&& (3 : Int32)) (p2.toInt8.toInt32) (p3.toInt8.toInt32) (p4.toInt8.toInt32) h0 n0 Z0 hn) hZ (hw _ (List.mem_of_getElem? (i := 6) rfl)) (hw _ (List.mem_of_getElem? (i := 5) rfl)) (by decide) (by decide)) (g := (mkF m 43 #[.val (.int p1), .val (.int p2), .val (.int p3), .val (.int p4), .val (.int p5), .val (.int (p1 &&& (3 : Int32))), .val (.int (p2.toInt8.toInt32)), .val (.int (p3.toInt8.toInt32)), .val (.int (p4.toInt8.toInt32)), .val (.ref w6), .unset, .unset, .unset, .unset] [(.int (p4.toInt8.toInt32)), (.int (p3.toInt8.toInt32)), (.int (p2.toInt8.toInt32)), (.int (p1 &&& (3 : Int32)))])) rfl (by rw [hml]; rfl) (argsL := [(.int (p1 &&& (3 : Int32))), (.int (p2.toInt8.toInt32)), (.int (p3.toInt8.toInt32)), (.int (p4.toInt8.toInt32))]) (rest := []) (lenOf pd_0_0 rfl) rfl (by show 2 * 0 + _ ≤ _; exact Nat.le_of_eq rfl) (hb hby at_43) (fun _ _ => ⟨rfl, e7, (Nat.le_of_ble_eq_true rfl), (Nat.le_of_ble_eq_true rfl)⟩)
  dsimp only [Pt.U, Pt.locs, Pt.cells, Pt.slots] at X8 l8 y8 z8 st8 hQ8
  subst l8 y8 z8
  obtain ⟨i8, kk, rfl, N8q, K8, s8, m8, Y8, V8⟩ := hQ8
  simp only [own_n8] at V8
  have N8 := Fr.app N0 N8q
  obtain ⟨T9, h9, X9, e9, E9, A9, D9, -, st9⟩ := newO X8 hx hZ hown (hw _ (List.mem_of_getElem? (i := 8) rfl)) (hw _ (List.mem_of_getElem? (i := 9) rfl)) (hw _ (List.mem_of_getElem? (i := 10) rfl)) rfl (g := (mkF m 48 #[.val (.int p1), .val (.int p2), .val (.int p3), .val (.int p4), .val (.int p5), .val (.int (p1 &&& (3 : Int32))), .val (.int (p2.toInt8.toInt32)), .val (.int (p3.toInt8.toInt32)), .val (.int (p4.toInt8.toInt32)), .val (.ref w6), .val (.ref i8), .unset, .unset, .unset] [])) rfl (hb hby at_48) (by decide) (by decide)
  obtain ⟨b9, g9⟩ : ∃ z, z = T8.heap.size := ⟨_, rfl⟩      -- the fresh object's address
  rw [← g9] at A9 D9 st9      -- A9 : Exa Z h9 b9 "com/example/limpet/limpet/Execution"; E9 : Ext T8.heap h9 (carries every older fact: .ext E9)
  have F_outcome_b9 : Fld Z h9 b9 "com/example/limpet/limpet/Execution" "outcome" "Lcom/example/limpet/limpet/Execution$Outcome;" .null := D9 (Or.inr (hw _ (List.mem_of_getElem? (i := 18) rfl))) (ty := (.object "com/example/limpet/limpet/Execution$Outcome")) (by decide)
  have F_result_b9 : Fld Z h9 b9 "com/example/limpet/limpet/Execution" "result" "[B" .null := D9 (Or.inr (hw _ (List.mem_of_getElem? (i := 20) rfl))) (ty := (.array .byte)) (by decide)
  have E_b9 := A9
  have g_b9 : n0 ≤ b9 := Nat.le_trans (Nat.le_trans Z0 K8.1) (Nat.le_of_eq g9.symm)
  have sz_b9 : h0.size ≤ b9 := (Nat.le_trans K8.1 (Nat.le_of_eq g9.symm))
  have K9 : Keep h0 h9 [] := K8.ext E9
  obtain ⟨_, _, ⟨T10, L10, k10, n10⟩, -, X10, ⟨Lc10, hQ10, l10, y10, z10⟩, st10⟩ := X9.specialBack hx (y := (⟨"com/example/limpet/limpet/Execution", "<init>", "(Lcom/example/limpet/limpet/Execution$Outcome;[B)V"⟩ : MethodName)) rfl hown (mvT hZ (hw _ (List.mem_of_getElem? (i := 11) rfl))) (mvT hZ (hw _ (List.mem_of_getElem? (i := 12) rfl))) (mvT hZ (hw _ (List.mem_of_getElem? (i := 13) rfl))) (by decide) (backOf (W := 1) (rm2 l Z a0 hw [] b9 w6 i8 .null .null h9 n0 (Nat.le_trans (Nat.le_trans Z0 K8.1) E9.1) E_b9 F_outcome_b9 g_b9 F_result_b9) hZ (hw _ (List.mem_of_getElem? (i := 13) rfl)) (hw _ (List.mem_of_getElem? (i := 10) rfl)) (by decide) (by decide)) (g := (mkF m 56 #[.val (.int p1), .val (.int p2), .val (.int p3), .val (.int p4), .val (.int p5), .val (.int (p1 &&& (3 : Int32))), .val (.int (p2.toInt8.toInt32)), .val (.int (p3.toInt8.toInt32)), .val (.int (p4.toInt8.toInt32)), .val (.ref w6), .val (.ref i8), .unset, .unset, .unset] [(.ref i8), (.ref w6), (.ref b9), (.ref b9)])) rfl (by rw [hml]; rfl) (Steps.refl _) (a := b9) (argsL := [(.ref w6), (.ref i8)]) (rest := [(.ref b9)]) (lenOf pd_0_1 rfl) rfl (by show 2 * 0 + _ ≤ _; exact Nat.le_of_eq rfl) (hb hby at_56) (fun _ _ => ⟨rfl, e9, (Nat.le_of_ble_eq_true rfl), (Nat.le_of_ble_eq_true rfl)⟩)
  dsimp only [Pt.U, Pt.locs, Pt.cells, Pt.slots] at X10 l10 y10 z10 st10 hQ10
  subst l10 y10 z10
  obtain ⟨rfl, N10q, K10, Y10, Fo10, Fr10⟩ := hQ10
  have V10 := (V8.ext E9).keep K10 (ninS (Nat.ne_of_lt (Nat.lt_of_lt_of_le V8.lt (Nat.le_of_eq g9.symm))) nin0)
  have Yi10 := (Y8.ext E9).keep K10
  have Z10 : n0 ≤ T10.heap.size := Nat.le_trans (Nat.le_trans (Nat.le_trans Z0 K8.1) E9.1) K10.1
  have hcap : (p1 &&& (3 : Int32)).toNatClampNeg ≤ 3 := by rcases hn with h | h | h | h <;> rw [h] <;> decide
  have N10 := Fr.app N8 N10q
  obtain ⟨cq11, kq11, q11a, q11b, q11c⟩ := isOf hZ rfl Y10
  obtain ⟨_, _, ⟨T11, L11, k11, n11⟩, -, X11, ⟨Lc11, hQ11, l11, y11, z11⟩, st11⟩ := X10.virtualBack hx (y := (⟨"com/example/limpet/limpet/Execution", "result", "()[B"⟩ : MethodName)) (z := (⟨"com/example/limpet/limpet/Execution", "result", "()[B"⟩ : MethodName)) hown (mvT hZ (hw _ (List.mem_of_getElem? (i := 21) rfl))) (mvT hZ (hw _ (List.mem_of_getElem? (i := 22) rfl))) (notFace_of_selects (args := #[]) (mvT hZ (hw _ (List.mem_of_getElem? (i := 24) rfl)))) (mvT hZ (hw _ (List.mem_of_getElem? (i := 24) rfl))) (mvT hZ (hw _ (List.mem_of_getElem? (i := 23) rfl))) (by decide) (backOf (W := 0) (rm4 l Z a0 hw [] kk (p1 &&& (3 : Int32)) (own_bytes (p2.toInt8.toInt32) (p3.toInt8.toInt32) (p4.toInt8.toInt32)) b9 i8 T10.heap n0 Z10 Fr10 Yi10 V10 hcap) hZ (hw _ (List.mem_of_getElem? (i := 25) rfl)) (hw _ (List.mem_of_getElem? (i := 10) rfl)) (by decide) (by decide)) q11a q11c (g := (mkF m 63 #[.val (.int p1), .val (.int p2), .val (.int p3), .val (.int p4), .val (.int p5), .val (.int (p1 &&& (3 : Int32))), .val (.int (p2.toInt8.toInt32)), .val (.int (p3.toInt8.toInt32)), .val (.int (p4.toInt8.toInt32)), .val (.ref w6), .val (.ref i8), .val (.ref b9), .unset, .unset] [(.ref b9)])) rfl (by rw [hml]; rfl) (Steps.refl _) (argsL := []) (rest := []) (lenOf pd_0_3 rfl) rfl (by show 2 * 0 + _ ≤ _; exact Nat.le_of_eq rfl) (hb hby at_63) (fun _ _ => ⟨rfl, rfl, (Nat.le_of_ble_eq_true rfl), (Nat.le_of_ble_eq_true rfl)⟩)
  dsimp only [Pt.U, Pt.locs, Pt.cells, Pt.slots] at X11 l11 y11 z11 st11 hQ11
  subst l11 y11 z11
  obtain ⟨i11, rfl, N11q, K11, s11, m11, Y11, V11⟩ := hQ11
  have ne1 : i8 ≠ i11 := Nat.ne_of_lt (Nat.lt_of_lt_of_le V10.lt s11)
  have ne2 : b9 ≠ i11 := Nat.ne_of_lt (Nat.lt_of_lt_of_le Y10.lt s11)
  have Z11 : n0 ≤ T11.heap.size := Nat.le_trans Z10 K11.1
  have Vi11 := V10.keep K11 nin0
  have Yi11 := Yi10.keep K11
  have Yb11 := Y10.keep K11
  have Fo11 := Fo10.keep K11 nin0
  have Fr11 := Fr10.keep K11 nin0
  have N11 := Fr.app N10 N11q
  obtain ⟨_, _, ⟨T12, L12, k12, n12⟩, -, X12, ⟨Lc12, hQ12, l12, y12, z12⟩, st12⟩ := Jvm.LawKit.callS X11 hx (y := (⟨"com/example/limpet/limpet/ExecutionResultPinLaw", "same", "([BIBBB)Z"⟩ : MethodName)) hown (mvT hZ (hw _ (List.mem_of_getElem? (i := 35) rfl))) (mvT hZ (hw _ (List.mem_of_getElem? (i := 36) rfl))) (mvT hZ (hw _ (List.mem_of_getElem? (i := 5) rfl))) (mvT hZ (hw _ (List.mem_of_getElem? (i := 37) rfl))) (by decide) (backOf (W := 0) (rmS l Z a0 hw [] kk i11 (p1 &&& (3 : Int32)) (p2.toInt8.toInt32) (p3.toInt8.toInt32) (p4.toInt8.toInt32) T11.heap n0 Z11 V11 hn) hZ (hw _ (List.mem_of_getElem? (i := 37) rfl)) (hw _ (List.mem_of_getElem? (i := 5) rfl)) (by decide) (by decide)) (g := (mkF m 87 #[.val (.int p1), .val (.int p2), .val (.int p3), .val (.int p4), .val (.int p5), .val (.int (p1 &&& (3 : Int32))), .val (.int (p2.toInt8.toInt32)), .val (.int (p3.toInt8.toInt32)), .val (.int (p4.toInt8.toInt32)), .val (.ref w6), .val (.ref i8), .val (.ref b9), .val (.ref i11), .unset] [(.int (p4.toInt8.toInt32)), (.int (p3.toInt8.toInt32)), (.int (p2.toInt8.toInt32)), (.int (p1 &&& (3 : Int32))), (.ref i11)])) rfl (by rw [hml]; rfl) (argsL := [(.ref i11), (.int (p1 &&& (3 : Int32))), (.int (p2.toInt8.toInt32)), (.int (p3.toInt8.toInt32)), (.int (p4.toInt8.toInt32))]) (rest := []) (lenOf pd_0_5 rfl) rfl (by show 2 * 0 + _ ≤ _; exact Nat.le_of_eq rfl) (hb hby at_87) (fun _ _ => ⟨rfl, rfl, (Nat.le_of_ble_eq_true rfl), (Nat.le_of_ble_eq_true rfl)⟩)
  dsimp only [Pt.U, Pt.locs, Pt.cells, Pt.slots] at X12 l12 y12 z12 st12 hQ12
  subst l12 y12 z12
  obtain ⟨rfl, N12q, hE12⟩ := hQ12
  have N12 := Fr.app N11 N12q
  have Vi14 : Arv Z T12.heap i8 kk .byte (p1 &&& (3 : Int32)) (own_bytes (p2.toInt8.toInt32) (p3.toInt8.toInt32) (p4.toInt8.toInt32)) (.int 0) := by rw [hE12]; exact Vi11
  have Yi14 : Exa Z T12.heap i8 "[B" := by rw [hE12]; exact Yi11
  have Yb14 : Exa Z T12.heap b9 "com/example/limpet/limpet/Execution" := by rw [hE12]; exact Yb11
  have Fo14 : Fld Z T12.heap b9 "com/example/limpet/limpet/Execution" "outcome" "Lcom/example/limpet/limpet/Execution$Outcome;" (.ref w6) := by rw [hE12]; exact Fo11
  have Fr14 : Fld Z T12.heap b9 "com/example/limpet/limpet/Execution" "result" "[B" (.ref i8) := by rw [hE12]; exact Fr11
  have lt11 : i11 < T12.heap.size := by rw [hE12]; exact V11.lt
  have Z14 : n0 ≤ T12.heap.size := by rw [hE12]; exact Z11
  obtain ⟨cq13, kq13, q13a, q13b, q13c⟩ := isOf hZ rfl Yb14
  obtain ⟨_, _, ⟨T13, L13, k13, n13⟩, -, X13, ⟨Lc13, hQ13, l13, y13, z13⟩, st13⟩ := X12.virtualBack hx (y := (⟨"com/example/limpet/limpet/Execution", "result", "()[B"⟩ : MethodName)) (z := (⟨"com/example/limpet/limpet/Execution", "result", "()[B"⟩ : MethodName)) hown (mvT hZ (hw _ (List.mem_of_getElem? (i := 21) rfl))) (mvT hZ (hw _ (List.mem_of_getElem? (i := 22) rfl))) (notFace_of_selects (args := #[]) (mvT hZ (hw _ (List.mem_of_getElem? (i := 24) rfl)))) (mvT hZ (hw _ (List.mem_of_getElem? (i := 24) rfl))) (mvT hZ (hw _ (List.mem_of_getElem? (i := 23) rfl))) (by decide) (backOf (W := 0) (rm4 l Z a0 hw [] kk (p1 &&& (3 : Int32)) (own_bytes (p2.toInt8.toInt32) (p3.toInt8.toInt32) (p4.toInt8.toInt32)) b9 i8 T12.heap n0 Z14 Fr14 Yi14 Vi14 hcap) hZ (hw _ (List.mem_of_getElem? (i := 25) rfl)) (hw _ (List.mem_of_getElem? (i := 10) rfl)) (by decide) (by decide)) q13a q13c (g := (mkF m 114 #[.val (.int p1), .val (.int p2), .val (.int p3), .val (.int p4), .val (.int p5), .val (.int (p1 &&& (3 : Int32))), .val (.int (p2.toInt8.toInt32)), .val (.int (p3.toInt8.toInt32)), .val (.int (p4.toInt8.toInt32)), .val (.ref w6), .val (.ref i8), .val (.ref b9), .val (.ref i11), .unset] [(.ref b9)])) rfl (by rw [hml]; rfl) (Steps.refl _) (argsL := []) (rest := []) (lenOf pd_0_3 rfl) rfl (by show 2 * 0 + _ ≤ _; exact Nat.le_of_eq rfl) (hb hby at_114) (fun _ _ => ⟨rfl, rfl, (Nat.le_of_ble_eq_true rfl), (Nat.le_of_ble_eq_true rfl)⟩)
  dsimp only [Pt.U, Pt.locs, Pt.cells, Pt.slots] at X13 l13 y13 z13 st13 hQ13
  subst l13 y13 z13
  obtain ⟨i15, rfl, N13q, K15, s15, m15, Y15, V15⟩ := hQ13
  have ne3 : i15 ≠ i11 := Ne.symm (Nat.ne_of_lt (Nat.lt_of_lt_of_le lt11 s15))
  have ne4 : i15 ≠ i8 := Ne.symm (Nat.ne_of_lt (Nat.lt_of_lt_of_le Vi14.lt s15))
  have Z15 : n0 ≤ T13.heap.size := Nat.le_trans Z14 K15.1
  have N13 := Fr.app N12 N13q
  obtain ⟨_, _, ⟨T14, L14, k14, n14⟩, -, X14, ⟨Lc14, hQ14, l14, y14, z14⟩, st14⟩ := Jvm.LawKit.callS X13 hx (y := (⟨"com/example/limpet/limpet/ExecutionResultPinLaw", "same", "([BIBBB)Z"⟩ : MethodName)) hown (mvT hZ (hw _ (List.mem_of_getElem? (i := 35) rfl))) (mvT hZ (hw _ (List.mem_of_getElem? (i := 36) rfl))) (mvT hZ (hw _ (List.mem_of_getElem? (i := 5) rfl))) (mvT hZ (hw _ (List.mem_of_getElem? (i := 37) rfl))) (by decide) (backOf (W := 0) (rmS l Z a0 hw [] kk i15 (p1 &&& (3 : Int32)) (p2.toInt8.toInt32) (p3.toInt8.toInt32) (p4.toInt8.toInt32) T13.heap n0 Z15 V15 hn) hZ (hw _ (List.mem_of_getElem? (i := 37) rfl)) (hw _ (List.mem_of_getElem? (i := 5) rfl)) (by decide) (by decide)) (g := (mkF m 145 #[.val (.int p1), .val (.int p2), .val (.int p3), .val (.int p4), .val (.int p5), .val (.int (p1 &&& (3 : Int32))), .val (.int (p2.toInt8.toInt32)), .val (.int (p3.toInt8.toInt32)), .val (.int (p4.toInt8.toInt32)), .val (.ref w6), .val (.ref i8), .val (.ref b9), .val (.ref i11), .val (.ref i15)] [(.int (p4.toInt8.toInt32)), (.int (p3.toInt8.toInt32)), (.int (p2.toInt8.toInt32)), (.int (p1 &&& (3 : Int32))), (.ref i15)])) rfl (by rw [hml]; rfl) (argsL := [(.ref i15), (.int (p1 &&& (3 : Int32))), (.int (p2.toInt8.toInt32)), (.int (p3.toInt8.toInt32)), (.int (p4.toInt8.toInt32))]) (rest := []) (lenOf pd_0_5 rfl) rfl (by show 2 * 0 + _ ≤ _; exact Nat.le_of_eq rfl) (hb hby at_145) (fun _ _ => ⟨rfl, rfl, (Nat.le_of_ble_eq_true rfl), (Nat.le_of_ble_eq_true rfl)⟩)
  dsimp only [Pt.U, Pt.locs, Pt.cells, Pt.slots] at X14 l14 y14 z14 st14 hQ14
  subst l14 y14 z14
  obtain ⟨rfl, N14q, hE16⟩ := hQ14
  have Yb16 : Exa Z T14.heap b9 "com/example/limpet/limpet/Execution" := by rw [hE16]; exact Yb14.keep K15
  have Fo16 : Fld Z T14.heap b9 "com/example/limpet/limpet/Execution" "outcome" "Lcom/example/limpet/limpet/Execution$Outcome;" (.ref w6) := by rw [hE16]; exact Fo14.keep K15 nin0
  have Z16 : n0 ≤ T14.heap.size := by rw [hE16]; exact Z15
  have N14 := Fr.app N13 N14q
  obtain ⟨cq15, kq15, q15a, q15b, q15c⟩ := isOf hZ rfl Yb16
  obtain ⟨_, _, ⟨T15, L15, k15, n15⟩, -, X15, ⟨Lc15, hQ15, l15, y15, z15⟩, st15⟩ := X14.virtualBack hx (y := (⟨"com/example/limpet/limpet/Execution", "outcome", "()Lcom/example/limpet/limpet/Execution$Outcome;"⟩ : MethodName)) (z := (⟨"com/example/limpet/limpet/Execution", "outcome", "()Lcom/example/limpet/limpet/Execution$Outcome;"⟩ : MethodName)) hown (mvT hZ (hw _ (List.mem_of_getElem? (i := 38) rfl))) (mvT hZ (hw _ (List.mem_of_getElem? (i := 39) rfl))) (notFace_of_selects (args := #[]) (mvT hZ (hw _ (List.mem_of_getElem? (i := 41) rfl)))) (mvT hZ (hw _ (List.mem_of_getElem? (i := 41) rfl))) (mvT hZ (hw _ (List.mem_of_getElem? (i := 40) rfl))) (by decide) (backOf (W := 0) (rm6 l Z a0 hw [] b9 w6 T14.heap n0 Z16 Fo16) hZ (hw _ (List.mem_of_getElem? (i := 42) rfl)) (hw _ (List.mem_of_getElem? (i := 10) rfl)) (by decide) (by decide)) q15a q15c (g := (mkF m 155 #[.val (.int p1), .val (.int p2), .val (.int p3), .val (.int p4), .val (.int p5), .val (.int (p1 &&& (3 : Int32))), .val (.int (p2.toInt8.toInt32)), .val (.int (p3.toInt8.toInt32)), .val (.int (p4.toInt8.toInt32)), .val (.ref w6), .val (.ref i8), .val (.ref b9), .val (.ref i11), .val (.ref i15)] [(.ref b9)])) rfl (by rw [hml]; rfl) (Steps.refl _) (argsL := []) (rest := []) (lenOf pd_0_6 rfl) rfl (by show 2 * 0 + _ ≤ _; exact Nat.le_of_eq rfl) (hb hby at_155) (fun _ _ => ⟨rfl, rfl, (Nat.le_of_ble_eq_true rfl), (Nat.le_of_ble_eq_true rfl)⟩)
  dsimp only [Pt.U, Pt.locs, Pt.cells, Pt.slots] at X15 l15 y15 z15 st15 hQ15
  subst l15 y15 z15
  obtain ⟨rfl, N15q, hE17⟩ := hQ15      -- what it returned, that it wrote nothing old, and the rest of your Q6
  have N15 := Fr.app N14 N15q
  obtain ⟨fs, hr, hrun, hended, hW, hsame⟩ := X15.leave (v := some (.int (1 : Int32))) (fun h => by rw [Bd.returns] at h; cases h)
  refine ⟨_, _, pre0 _ ?_, hrun, hended, _, _, rfl, ?_, ⟨_, rfl⟩, hW, hsame.mono (by decide) (by decide)⟩
  · show Steps p.tables e below (s₁.setTop (mkF m 0 #[.val (.int p1), .val (.int p2), .val (.int p3), .val (.int p4), .val (.int p5), .unset, .unset, .unset, .unset, .unset, .unset, .unset, .unset, .unset] [])) _
    refine XS.iloadN X0.here hx rfl (hb hby at_0) rfl ?_
    show Steps p.tables e below (s₁.setTop (mkF m 1 #[.val (.int p1), .val (.int p2), .val (.int p3), .val (.int p4), .val (.int p5), .unset, .unset, .unset, .unset, .unset, .unset, .unset, .unset, .unset] [(.int p1)])) _
    refine XS.iconst X0.here hx rfl (hb hby at_1) ?_
    show Steps p.tables e below (s₁.setTop (mkF m 2 #[.val (.int p1), .val (.int p2), .val (.int p3), .val (.int p4), .val (.int p5), .unset, .unset, .unset, .unset, .unset, .unset, .unset, .unset, .unset] [(.int (3 : Int32)), (.int p1)])) _
    refine XS.iand X0.here hx rfl (hb hby at_2) rfl ?_
    show Steps p.tables e below (s₁.setTop (mkF m 3 #[.val (.int p1), .val (.int p2), .val (.int p3), .val (.int p4), .val (.int p5), .unset, .unset, .unset, .unset, .unset, .unset, .unset, .unset, .unset] [(.int (p1 &&& (3 : Int32)))])) _
    refine XS.istore X0.here hx rfl (hb hby at_3) rfl (l' := #[.val (.int p1), .val (.int p2), .val (.int p3), .val (.int p4), .val (.int p5), .val (.int (p1 &&& (3 : Int32))), .unset, .unset, .unset, .unset, .unset, .unset, .unset, .unset]) rfl ?_
    show Steps p.tables e below (s₁.setTop (mkF m 5 #[.val (.int p1), .val (.int p2), .val (.int p3), .val (.int p4), .val (.int p5), .val (.int (p1 &&& (3 : Int32))), .unset, .unset, .unset, .unset, .unset, .unset, .unset, .unset] [])) _
    refine XS.iloadN X0.here hx rfl (hb hby at_5) rfl ?_
    show Steps p.tables e below (s₁.setTop (mkF m 6 #[.val (.int p1), .val (.int p2), .val (.int p3), .val (.int p4), .val (.int p5), .val (.int (p1 &&& (3 : Int32))), .unset, .unset, .unset, .unset, .unset, .unset, .unset, .unset] [(.int p2)])) _
    refine XS.i2b X0.here hx rfl (hb hby at_6) rfl ?_
    show Steps p.tables e below (s₁.setTop (mkF m 7 #[.val (.int p1), .val (.int p2), .val (.int p3), .val (.int p4), .val (.int p5), .val (.int (p1 &&& (3 : Int32))), .unset, .unset, .unset, .unset, .unset, .unset, .unset, .unset] [(.int (p2.toInt8.toInt32))])) _
    refine XS.istore X0.here hx rfl (hb hby at_7) rfl (l' := #[.val (.int p1), .val (.int p2), .val (.int p3), .val (.int p4), .val (.int p5), .val (.int (p1 &&& (3 : Int32))), .val (.int (p2.toInt8.toInt32)), .unset, .unset, .unset, .unset, .unset, .unset, .unset]) rfl ?_
    show Steps p.tables e below (s₁.setTop (mkF m 9 #[.val (.int p1), .val (.int p2), .val (.int p3), .val (.int p4), .val (.int p5), .val (.int (p1 &&& (3 : Int32))), .val (.int (p2.toInt8.toInt32)), .unset, .unset, .unset, .unset, .unset, .unset, .unset] [])) _
    refine XS.iloadN X0.here hx rfl (hb hby at_9) rfl ?_
    show Steps p.tables e below (s₁.setTop (mkF m 10 #[.val (.int p1), .val (.int p2), .val (.int p3), .val (.int p4), .val (.int p5), .val (.int (p1 &&& (3 : Int32))), .val (.int (p2.toInt8.toInt32)), .unset, .unset, .unset, .unset, .unset, .unset, .unset] [(.int p3)])) _
    refine XS.i2b X0.here hx rfl (hb hby at_10) rfl ?_
    show Steps p.tables e below (s₁.setTop (mkF m 11 #[.val (.int p1), .val (.int p2), .val (.int p3), .val (.int p4), .val (.int p5), .val (.int (p1 &&& (3 : Int32))), .val (.int (p2.toInt8.toInt32)), .unset, .unset, .unset, .unset, .unset, .unset, .unset] [(.int (p3.toInt8.toInt32))])) _
    refine XS.istore X0.here hx rfl (hb hby at_11) rfl (l' := #[.val (.int p1), .val (.int p2), .val (.int p3), .val (.int p4), .val (.int p5), .val (.int (p1 &&& (3 : Int32))), .val (.int (p2.toInt8.toInt32)), .val (.int (p3.toInt8.toInt32)), .unset, .unset, .unset, .unset, .unset, .unset]) rfl ?_
    show Steps p.tables e below (s₁.setTop (mkF m 13 #[.val (.int p1), .val (.int p2), .val (.int p3), .val (.int p4), .val (.int p5), .val (.int (p1 &&& (3 : Int32))), .val (.int (p2.toInt8.toInt32)), .val (.int (p3.toInt8.toInt32)), .unset, .unset, .unset, .unset, .unset, .unset] [])) _
    refine XS.iloadN X0.here hx rfl (hb hby at_13) rfl ?_
    show Steps p.tables e below (s₁.setTop (mkF m 14 #[.val (.int p1), .val (.int p2), .val (.int p3), .val (.int p4), .val (.int p5), .val (.int (p1 &&& (3 : Int32))), .val (.int (p2.toInt8.toInt32)), .val (.int (p3.toInt8.toInt32)), .unset, .unset, .unset, .unset, .unset, .unset] [(.int p4)])) _
    refine XS.i2b X0.here hx rfl (hb hby at_14) rfl ?_
    show Steps p.tables e below (s₁.setTop (mkF m 15 #[.val (.int p1), .val (.int p2), .val (.int p3), .val (.int p4), .val (.int p5), .val (.int (p1 &&& (3 : Int32))), .val (.int (p2.toInt8.toInt32)), .val (.int (p3.toInt8.toInt32)), .unset, .unset, .unset, .unset, .unset, .unset] [(.int (p4.toInt8.toInt32))])) _
    refine XS.istore X0.here hx rfl (hb hby at_15) rfl (l' := #[.val (.int p1), .val (.int p2), .val (.int p3), .val (.int p4), .val (.int p5), .val (.int (p1 &&& (3 : Int32))), .val (.int (p2.toInt8.toInt32)), .val (.int (p3.toInt8.toInt32)), .val (.int (p4.toInt8.toInt32)), .unset, .unset, .unset, .unset, .unset]) rfl ?_
    show Steps p.tables e below (s₁.setTop (mkF m 17 #[.val (.int p1), .val (.int p2), .val (.int p3), .val (.int p4), .val (.int p5), .val (.int (p1 &&& (3 : Int32))), .val (.int (p2.toInt8.toInt32)), .val (.int (p3.toInt8.toInt32)), .val (.int (p4.toInt8.toInt32)), .unset, .unset, .unset, .unset, .unset] [])) _
    refine XS.iload X0.here hx rfl (hb hby at_17) rfl ?_
    show Steps p.tables e below (s₁.setTop (mkF m 19 #[.val (.int p1), .val (.int p2), .val (.int p3), .val (.int p4), .val (.int p5), .val (.int (p1 &&& (3 : Int32))), .val (.int (p2.toInt8.toInt32)), .val (.int (p3.toInt8.toInt32)), .val (.int (p4.toInt8.toInt32)), .unset, .unset, .unset, .unset, .unset] [(.int p5)])) _
    refine XS.iconst X0.here hx rfl (hb hby at_19) ?_
    show Steps p.tables e below (s₁.setTop (mkF m 20 #[.val (.int p1), .val (.int p2), .val (.int p3), .val (.int p4), .val (.int p5), .val (.int (p1 &&& (3 : Int32))), .val (.int (p2.toInt8.toInt32)), .val (.int (p3.toInt8.toInt32)), .val (.int (p4.toInt8.toInt32)), .unset, .unset, .unset, .unset, .unset] [(.int (1 : Int32)), (.int p5)])) _
    refine XS.iand X0.here hx rfl (hb hby at_20) rfl ?_
    show Steps p.tables e below (s₁.setTop (mkF m 21 #[.val (.int p1), .val (.int p2), .val (.int p3), .val (.int p4), .val (.int p5), .val (.int (p1 &&& (3 : Int32))), .val (.int (p2.toInt8.toInt32)), .val (.int (p3.toInt8.toInt32)), .val (.int (p4.toInt8.toInt32)), .unset, .unset, .unset, .unset, .unset] [(.int (p5 &&& (1 : Int32)))])) _
    refine XS.ifYes X0.here hx rfl (pc0 := 21) (pc' := 30) rfl (hb hby at_21) rfl ((if0 _ _).trans (teq hc21).1) (by decide) (by decide) ?_
    show Steps p.tables e below (s₁.setTop (mkF m 30 #[.val (.int p1), .val (.int p2), .val (.int p3), .val (.int p4), .val (.int p5), .val (.int (p1 &&& (3 : Int32))), .val (.int (p2.toInt8.toInt32)), .val (.int (p3.toInt8.toInt32)), .val (.int (p4.toInt8.toInt32)), .unset, .unset, .unset, .unset, .unset] [])) _
    refine st7 _ ?_
    show Steps p.tables e below (T7.setTop (mkF m 33 #[.val (.int p1), .val (.int p2), .val (.int p3), .val (.int p4), .val (.int p5), .val (.int (p1 &&& (3 : Int32))), .val (.int (p2.toInt8.toInt32)), .val (.int (p3.toInt8.toInt32)), .val (.int (p4.toInt8.toInt32)), .unset, .unset, .unset, .unset, .unset] [(.ref w6)])) _
    refine XS.astore X7.here hx rfl (hb hby at_33) rfl rfl (l' := #[.val (.int p1), .val (.int p2), .val (.int p3), .val (.int p4), .val (.int p5), .val (.int (p1 &&& (3 : Int32))), .val (.int (p2.toInt8.toInt32)), .val (.int (p3.toInt8.toInt32)), .val (.int (p4.toInt8.toInt32)), .val (.ref w6), .unset, .unset, .unset, .unset]) rfl ?_
    show Steps p.tables e below (T7.setTop (mkF m 35 #[.val (.int p1), .val (.int p2), .val (.int p3), .val (.int p4), .val (.int p5), .val (.int (p1 &&& (3 : Int32))), .val (.int (p2.toInt8.toInt32)), .val (.int (p3.toInt8.toInt32)), .val (.int (p4.toInt8.toInt32)), .val (.ref w6), .unset, .unset, .unset, .unset] [])) _
    refine XS.iload X7.here hx rfl (hb hby at_35) rfl ?_
    show Steps p.tables e below (T7.setTop (mkF m 37 #[.val (.int p1), .val (.int p2), .val (.int p3), .val (.int p4), .val (.int p5), .val (.int (p1 &&& (3 : Int32))), .val (.int (p2.toInt8.toInt32)), .val (.int (p3.toInt8.toInt32)), .val (.int (p4.toInt8.toInt32)), .val (.ref w6), .unset, .unset, .unset, .unset] [(.int (p1 &&& (3 : Int32)))])) _
    refine XS.iload X7.here hx rfl (hb hby at_37) rfl ?_
    show Steps p.tables e below (T7.setTop (mkF m 39 #[.val (.int p1), .val (.int p2), .val (.int p3), .val (.int p4), .val (.int p5), .val (.int (p1 &&& (3 : Int32))), .val (.int (p2.toInt8.toInt32)), .val (.int (p3.toInt8.toInt32)), .val (.int (p4.toInt8.toInt32)), .val (.ref w6), .unset, .unset, .unset, .unset] [(.int (p2.toInt8.toInt32)), (.int (p1 &&& (3 : Int32)))])) _
    refine XS.iload X7.here hx rfl (hb hby at_39) rfl ?_
    show Steps p.tables e below (T7.setTop (mkF m 41 #[.val (.int p1), .val (.int p2), .val (.int p3), .val (.int p4), .val (.int p5), .val (.int (p1 &&& (3 : Int32))), .val (.int (p2.toInt8.toInt32)), .val (.int (p3.toInt8.toInt32)), .val (.int (p4.toInt8.toInt32)), .val (.ref w6), .unset, .unset, .unset, .unset] [(.int (p3.toInt8.toInt32)), (.int (p2.toInt8.toInt32)), (.int (p1 &&& (3 : Int32)))])) _
    refine XS.iload X7.here hx rfl (hb hby at_41) rfl ?_
    show Steps p.tables e below (T7.setTop (mkF m 43 #[.val (.int p1), .val (.int p2), .val (.int p3), .val (.int p4), .val (.int p5), .val (.int (p1 &&& (3 : Int32))), .val (.int (p2.toInt8.toInt32)), .val (.int (p3.toInt8.toInt32)), .val (.int (p4.toInt8.toInt32)), .val (.ref w6), .unset, .unset, .unset, .unset] [(.int (p4.toInt8.toInt32)), (.int (p3.toInt8.toInt32)), (.int (p2.toInt8.toInt32)), (.int (p1 &&& (3 : Int32)))])) _
    refine st8 _ ?_
    show Steps p.tables e below (T8.setTop (mkF m 46 #[.val (.int p1), .val (.int p2), .val (.int p3), .val (.int p4), .val (.int p5), .val (.int (p1 &&& (3 : Int32))), .val (.int (p2.toInt8.toInt32)), .val (.int (p3.toInt8.toInt32)), .val (.int (p4.toInt8.toInt32)), .val (.ref w6), .unset, .unset, .unset, .unset] [(.ref i8)])) _
    refine XS.astore X8.here hx rfl (hb hby at_46) rfl rfl (l' := #[.val (.int p1), .val (.int p2), .val (.int p3), .val (.int p4), .val (.int p5), .val (.int (p1 &&& (3 : Int32))), .val (.int (p2.toInt8.toInt32)), .val (.int (p3.toInt8.toInt32)), .val (.int (p4.toInt8.toInt32)), .val (.ref w6), .val (.ref i8), .unset, .unset, .unset]) rfl ?_
    show Steps p.tables e below (T8.setTop (mkF m 48 #[.val (.int p1), .val (.int p2), .val (.int p3), .val (.int p4), .val (.int p5), .val (.int (p1 &&& (3 : Int32))), .val (.int (p2.toInt8.toInt32)), .val (.int (p3.toInt8.toInt32)), .val (.int (p4.toInt8.toInt32)), .val (.ref w6), .val (.ref i8), .unset, .unset, .unset] [])) _
    refine st9 _ ?_
    show Steps p.tables e below (T9.setTop (mkF m 51 #[.val (.int p1), .val (.int p2), .val (.int p3), .val (.int p4), .val (.int p5), .val (.int (p1 &&& (3 : Int32))), .val (.int (p2.toInt8.toInt32)), .val (.int (p3.toInt8.toInt32)), .val (.int (p4.toInt8.toInt32)), .val (.ref w6), .val (.ref i8), .unset, .unset, .unset] [(.ref b9)])) _
    refine XS.dup X9.here hx rfl (hb hby at_51) rfl rfl ?_
    show Steps p.tables e below (T9.setTop (mkF m 52 #[.val (.int p1), .val (.int p2), .val (.int p3), .val (.int p4), .val (.int p5), .val (.int (p1 &&& (3 : Int32))), .val (.int (p2.toInt8.toInt32)), .val (.int (p3.toInt8.toInt32)), .val (.int (p4.toInt8.toInt32)), .val (.ref w6), .val (.ref i8), .unset, .unset, .unset] [(.ref b9), (.ref b9)])) _
    refine XS.aload X9.here hx rfl (hb hby at_52) rfl rfl ?_
    show Steps p.tables e below (T9.setTop (mkF m 54 #[.val (.int p1), .val (.int p2), .val (.int p3), .val (.int p4), .val (.int p5), .val (.int (p1 &&& (3 : Int32))), .val (.int (p2.toInt8.toInt32)), .val (.int (p3.toInt8.toInt32)), .val (.int (p4.toInt8.toInt32)), .val (.ref w6), .val (.ref i8), .unset, .unset, .unset] [(.ref w6), (.ref b9), (.ref b9)])) _
    refine XS.aload X9.here hx rfl (hb hby at_54) rfl rfl ?_
    show Steps p.tables e below (T9.setTop (mkF m 56 #[.val (.int p1), .val (.int p2), .val (.int p3), .val (.int p4), .val (.int p5), .val (.int (p1 &&& (3 : Int32))), .val (.int (p2.toInt8.toInt32)), .val (.int (p3.toInt8.toInt32)), .val (.int (p4.toInt8.toInt32)), .val (.ref w6), .val (.ref i8), .unset, .unset, .unset] [(.ref i8), (.ref w6), (.ref b9), (.ref b9)])) _
    refine st10.trans ?_
    show Steps p.tables e below (T10.setTop (mkF m 59 #[.val (.int p1), .val (.int p2), .val (.int p3), .val (.int p4), .val (.int p5), .val (.int (p1 &&& (3 : Int32))), .val (.int (p2.toInt8.toInt32)), .val (.int (p3.toInt8.toInt32)), .val (.int (p4.toInt8.toInt32)), .val (.ref w6), .val (.ref i8), .unset, .unset, .unset] [(.ref b9)])) _
    refine XS.astore X10.here hx rfl (hb hby at_59) rfl rfl (l' := #[.val (.int p1), .val (.int p2), .val (.int p3), .val (.int p4), .val (.int p5), .val (.int (p1 &&& (3 : Int32))), .val (.int (p2.toInt8.toInt32)), .val (.int (p3.toInt8.toInt32)), .val (.int (p4.toInt8.toInt32)), .val (.ref w6), .val (.ref i8), .val (.ref b9), .unset, .unset]) rfl ?_
    show Steps p.tables e below (T10.setTop (mkF m 61 #[.val (.int p1), .val (.int p2), .val (.int p3), .val (.int p4), .val (.int p5), .val (.int (p1 &&& (3 : Int32))), .val (.int (p2.toInt8.toInt32)), .val (.int (p3.toInt8.toInt32)), .val (.int (p4.toInt8.toInt32)), .val (.ref w6), .val (.ref i8), .val (.ref b9), .unset, .unset] [])) _
    refine XS.aload X10.here hx rfl (hb hby at_61) rfl rfl ?_
    show Steps p.tables e below (T10.setTop (mkF m 63 #[.val (.int p1), .val (.int p2), .val (.int p3), .val (.int p4), .val (.int p5), .val (.int (p1 &&& (3 : Int32))), .val (.int (p2.toInt8.toInt32)), .val (.int (p3.toInt8.toInt32)), .val (.int (p4.toInt8.toInt32)), .val (.ref w6), .val (.ref i8), .val (.ref b9), .unset, .unset] [(.ref b9)])) _
    refine st11.trans ?_
    show Steps p.tables e below (T11.setTop (mkF m 66 #[.val (.int p1), .val (.int p2), .val (.int p3), .val (.int p4), .val (.int p5), .val (.int (p1 &&& (3 : Int32))), .val (.int (p2.toInt8.toInt32)), .val (.int (p3.toInt8.toInt32)), .val (.int (p4.toInt8.toInt32)), .val (.ref w6), .val (.ref i8), .val (.ref b9), .unset, .unset] [(.ref i11)])) _
    refine XS.astore X11.here hx rfl (hb hby at_66) rfl rfl (l' := #[.val (.int p1), .val (.int p2), .val (.int p3), .val (.int p4), .val (.int p5), .val (.int (p1 &&& (3 : Int32))), .val (.int (p2.toInt8.toInt32)), .val (.int (p3.toInt8.toInt32)), .val (.int (p4.toInt8.toInt32)), .val (.ref w6), .val (.ref i8), .val (.ref b9), .val (.ref i11), .unset]) rfl ?_
    show Steps p.tables e below (T11.setTop (mkF m 68 #[.val (.int p1), .val (.int p2), .val (.int p3), .val (.int p4), .val (.int p5), .val (.int (p1 &&& (3 : Int32))), .val (.int (p2.toInt8.toInt32)), .val (.int (p3.toInt8.toInt32)), .val (.int (p4.toInt8.toInt32)), .val (.ref w6), .val (.ref i8), .val (.ref b9), .val (.ref i11), .unset] [])) _
    refine XS.aload X11.here hx rfl (hb hby at_68) rfl rfl ?_
    show Steps p.tables e below (T11.setTop (mkF m 70 #[.val (.int p1), .val (.int p2), .val (.int p3), .val (.int p4), .val (.int p5), .val (.int (p1 &&& (3 : Int32))), .val (.int (p2.toInt8.toInt32)), .val (.int (p3.toInt8.toInt32)), .val (.int (p4.toInt8.toInt32)), .val (.ref w6), .val (.ref i8), .val (.ref b9), .val (.ref i11), .unset] [(.ref i11)])) _
    refine XS.aload X11.here hx rfl (hb hby at_70) rfl rfl ?_
    show Steps p.tables e below (T11.setTop (mkF m 72 #[.val (.int p1), .val (.int p2), .val (.int p3), .val (.int p4), .val (.int p5), .val (.int (p1 &&& (3 : Int32))), .val (.int (p2.toInt8.toInt32)), .val (.int (p3.toInt8.toInt32)), .val (.int (p4.toInt8.toInt32)), .val (.ref w6), .val (.ref i8), .val (.ref b9), .val (.ref i11), .unset] [(.ref i8), (.ref i11)])) _
    refine Jvm.RoadKit.acmp (g := (mkF m 72 #[.val (.int p1), .val (.int p2), .val (.int p3), .val (.int p4), .val (.int p5), .val (.int (p1 &&& (3 : Int32))), .val (.int (p2.toInt8.toInt32)), .val (.int (p3.toInt8.toInt32)), .val (.int (p4.toInt8.toInt32)), .val (.ref w6), .val (.ref i8), .val (.ref b9), .val (.ref i11), .unset] [(.ref i8), (.ref i11)])) X11 hx rfl rfl rfl (pc0 := 72) (pc' := 77) (same := false) rfl (hb hby at_72) rfl (decide_eq_false fun q => ne1 (Value.ref.inj q).symm) (by decide) (by decide) ?_
    show Steps p.tables e below (T11.setTop (mkF m 77 #[.val (.int p1), .val (.int p2), .val (.int p3), .val (.int p4), .val (.int p5), .val (.int (p1 &&& (3 : Int32))), .val (.int (p2.toInt8.toInt32)), .val (.int (p3.toInt8.toInt32)), .val (.int (p4.toInt8.toInt32)), .val (.ref w6), .val (.ref i8), .val (.ref b9), .val (.ref i11), .unset] [])) _
    refine XS.aload X11.here hx rfl (hb hby at_77) rfl rfl ?_
    show Steps p.tables e below (T11.setTop (mkF m 79 #[.val (.int p1), .val (.int p2), .val (.int p3), .val (.int p4), .val (.int p5), .val (.int (p1 &&& (3 : Int32))), .val (.int (p2.toInt8.toInt32)), .val (.int (p3.toInt8.toInt32)), .val (.int (p4.toInt8.toInt32)), .val (.ref w6), .val (.ref i8), .val (.ref b9), .val (.ref i11), .unset] [(.ref i11)])) _
    refine XS.iload X11.here hx rfl (hb hby at_79) rfl ?_
    show Steps p.tables e below (T11.setTop (mkF m 81 #[.val (.int p1), .val (.int p2), .val (.int p3), .val (.int p4), .val (.int p5), .val (.int (p1 &&& (3 : Int32))), .val (.int (p2.toInt8.toInt32)), .val (.int (p3.toInt8.toInt32)), .val (.int (p4.toInt8.toInt32)), .val (.ref w6), .val (.ref i8), .val (.ref b9), .val (.ref i11), .unset] [(.int (p1 &&& (3 : Int32))), (.ref i11)])) _
    refine XS.iload X11.here hx rfl (hb hby at_81) rfl ?_
    show Steps p.tables e below (T11.setTop (mkF m 83 #[.val (.int p1), .val (.int p2), .val (.int p3), .val (.int p4), .val (.int p5), .val (.int (p1 &&& (3 : Int32))), .val (.int (p2.toInt8.toInt32)), .val (.int (p3.toInt8.toInt32)), .val (.int (p4.toInt8.toInt32)), .val (.ref w6), .val (.ref i8), .val (.ref b9), .val (.ref i11), .unset] [(.int (p2.toInt8.toInt32)), (.int (p1 &&& (3 : Int32))), (.ref i11)])) _
    refine XS.iload X11.here hx rfl (hb hby at_83) rfl ?_
    show Steps p.tables e below (T11.setTop (mkF m 85 #[.val (.int p1), .val (.int p2), .val (.int p3), .val (.int p4), .val (.int p5), .val (.int (p1 &&& (3 : Int32))), .val (.int (p2.toInt8.toInt32)), .val (.int (p3.toInt8.toInt32)), .val (.int (p4.toInt8.toInt32)), .val (.ref w6), .val (.ref i8), .val (.ref b9), .val (.ref i11), .unset] [(.int (p3.toInt8.toInt32)), (.int (p2.toInt8.toInt32)), (.int (p1 &&& (3 : Int32))), (.ref i11)])) _
    refine XS.iload X11.here hx rfl (hb hby at_85) rfl ?_
    show Steps p.tables e below (T11.setTop (mkF m 87 #[.val (.int p1), .val (.int p2), .val (.int p3), .val (.int p4), .val (.int p5), .val (.int (p1 &&& (3 : Int32))), .val (.int (p2.toInt8.toInt32)), .val (.int (p3.toInt8.toInt32)), .val (.int (p4.toInt8.toInt32)), .val (.ref w6), .val (.ref i8), .val (.ref b9), .val (.ref i11), .unset] [(.int (p4.toInt8.toInt32)), (.int (p3.toInt8.toInt32)), (.int (p2.toInt8.toInt32)), (.int (p1 &&& (3 : Int32))), (.ref i11)])) _
    refine st12 _ ?_
    show Steps p.tables e below (T12.setTop (mkF m 90 #[.val (.int p1), .val (.int p2), .val (.int p3), .val (.int p4), .val (.int p5), .val (.int (p1 &&& (3 : Int32))), .val (.int (p2.toInt8.toInt32)), .val (.int (p3.toInt8.toInt32)), .val (.int (p4.toInt8.toInt32)), .val (.ref w6), .val (.ref i8), .val (.ref b9), .val (.ref i11), .unset] [(.int (1 : Int32))])) _
    refine XS.ifYes X12.here hx rfl (pc0 := 90) (pc' := 95) rfl (hb hby at_90) rfl ((if0 _ _).trans (feq (by decide : ¬ ((1 : Int32) = (0 : Int32)))).2) (by decide) (by decide) ?_
    show Steps p.tables e below (T12.setTop (mkF m 95 #[.val (.int p1), .val (.int p2), .val (.int p3), .val (.int p4), .val (.int p5), .val (.int (p1 &&& (3 : Int32))), .val (.int (p2.toInt8.toInt32)), .val (.int (p3.toInt8.toInt32)), .val (.int (p4.toInt8.toInt32)), .val (.ref w6), .val (.ref i8), .val (.ref b9), .val (.ref i11), .unset] [])) _
    refine XS.iload X12.here hx rfl (hb hby at_95) rfl ?_
    show Steps p.tables e below (T12.setTop (mkF m 97 #[.val (.int p1), .val (.int p2), .val (.int p3), .val (.int p4), .val (.int p5), .val (.int (p1 &&& (3 : Int32))), .val (.int (p2.toInt8.toInt32)), .val (.int (p3.toInt8.toInt32)), .val (.int (p4.toInt8.toInt32)), .val (.ref w6), .val (.ref i8), .val (.ref b9), .val (.ref i11), .unset] [(.int (p1 &&& (3 : Int32)))])) _
    refine XS.iconst X12.here hx rfl (hb hby at_97) ?_
    show Steps p.tables e below (T12.setTop (mkF m 98 #[.val (.int p1), .val (.int p2), .val (.int p3), .val (.int p4), .val (.int p5), .val (.int (p1 &&& (3 : Int32))), .val (.int (p2.toInt8.toInt32)), .val (.int (p3.toInt8.toInt32)), .val (.int (p4.toInt8.toInt32)), .val (.ref w6), .val (.ref i8), .val (.ref b9), .val (.ref i11), .unset] [(.int (1 : Int32)), (.int (p1 &&& (3 : Int32)))])) _
    refine XS.icmpYes X12.here hx rfl (pc0 := 98) (pc' := 112) rfl (hb hby at_98) rfl (tlt hc98).1 (by decide) (by decide) ?_
    show Steps p.tables e below (T12.setTop (mkF m 112 #[.val (.int p1), .val (.int p2), .val (.int p3), .val (.int p4), .val (.int p5), .val (.int (p1 &&& (3 : Int32))), .val (.int (p2.toInt8.toInt32)), .val (.int (p3.toInt8.toInt32)), .val (.int (p4.toInt8.toInt32)), .val (.ref w6), .val (.ref i8), .val (.ref b9), .val (.ref i11), .unset] [])) _
    refine XS.aload X12.here hx rfl (hb hby at_112) rfl rfl ?_
    show Steps p.tables e below (T12.setTop (mkF m 114 #[.val (.int p1), .val (.int p2), .val (.int p3), .val (.int p4), .val (.int p5), .val (.int (p1 &&& (3 : Int32))), .val (.int (p2.toInt8.toInt32)), .val (.int (p3.toInt8.toInt32)), .val (.int (p4.toInt8.toInt32)), .val (.ref w6), .val (.ref i8), .val (.ref b9), .val (.ref i11), .unset] [(.ref b9)])) _
    refine st13.trans ?_
    show Steps p.tables e below (T13.setTop (mkF m 117 #[.val (.int p1), .val (.int p2), .val (.int p3), .val (.int p4), .val (.int p5), .val (.int (p1 &&& (3 : Int32))), .val (.int (p2.toInt8.toInt32)), .val (.int (p3.toInt8.toInt32)), .val (.int (p4.toInt8.toInt32)), .val (.ref w6), .val (.ref i8), .val (.ref b9), .val (.ref i11), .unset] [(.ref i15)])) _
    refine XS.astore X13.here hx rfl (hb hby at_117) rfl rfl (l' := #[.val (.int p1), .val (.int p2), .val (.int p3), .val (.int p4), .val (.int p5), .val (.int (p1 &&& (3 : Int32))), .val (.int (p2.toInt8.toInt32)), .val (.int (p3.toInt8.toInt32)), .val (.int (p4.toInt8.toInt32)), .val (.ref w6), .val (.ref i8), .val (.ref b9), .val (.ref i11), .val (.ref i15)]) rfl ?_
    show Steps p.tables e below (T13.setTop (mkF m 119 #[.val (.int p1), .val (.int p2), .val (.int p3), .val (.int p4), .val (.int p5), .val (.int (p1 &&& (3 : Int32))), .val (.int (p2.toInt8.toInt32)), .val (.int (p3.toInt8.toInt32)), .val (.int (p4.toInt8.toInt32)), .val (.ref w6), .val (.ref i8), .val (.ref b9), .val (.ref i11), .val (.ref i15)] [])) _
    refine XS.aload X13.here hx rfl (hb hby at_119) rfl rfl ?_
    show Steps p.tables e below (T13.setTop (mkF m 121 #[.val (.int p1), .val (.int p2), .val (.int p3), .val (.int p4), .val (.int p5), .val (.int (p1 &&& (3 : Int32))), .val (.int (p2.toInt8.toInt32)), .val (.int (p3.toInt8.toInt32)), .val (.int (p4.toInt8.toInt32)), .val (.ref w6), .val (.ref i8), .val (.ref b9), .val (.ref i11), .val (.ref i15)] [(.ref i15)])) _
    refine XS.aload X13.here hx rfl (hb hby at_121) rfl rfl ?_
    show Steps p.tables e below (T13.setTop (mkF m 123 #[.val (.int p1), .val (.int p2), .val (.int p3), .val (.int p4), .val (.int p5), .val (.int (p1 &&& (3 : Int32))), .val (.int (p2.toInt8.toInt32)), .val (.int (p3.toInt8.toInt32)), .val (.int (p4.toInt8.toInt32)), .val (.ref w6), .val (.ref i8), .val (.ref b9), .val (.ref i11), .val (.ref i15)] [(.ref i11), (.ref i15)])) _
    refine Jvm.RoadKit.acmp (g := (mkF m 123 #[.val (.int p1), .val (.int p2), .val (.int p3), .val (.int p4), .val (.int p5), .val (.int (p1 &&& (3 : Int32))), .val (.int (p2.toInt8.toInt32)), .val (.int (p3.toInt8.toInt32)), .val (.int (p4.toInt8.toInt32)), .val (.ref w6), .val (.ref i8), .val (.ref b9), .val (.ref i11), .val (.ref i15)] [(.ref i11), (.ref i15)])) X13 hx rfl rfl rfl (pc0 := 123) (pc' := 126) (same := false) rfl (hb hby at_123) rfl (decide_eq_false fun q => ne3 (Value.ref.inj q)) (by decide) (by decide) ?_
    show Steps p.tables e below (T13.setTop (mkF m 126 #[.val (.int p1), .val (.int p2), .val (.int p3), .val (.int p4), .val (.int p5), .val (.int (p1 &&& (3 : Int32))), .val (.int (p2.toInt8.toInt32)), .val (.int (p3.toInt8.toInt32)), .val (.int (p4.toInt8.toInt32)), .val (.ref w6), .val (.ref i8), .val (.ref b9), .val (.ref i11), .val (.ref i15)] [])) _
    refine XS.aload X13.here hx rfl (hb hby at_126) rfl rfl ?_
    show Steps p.tables e below (T13.setTop (mkF m 128 #[.val (.int p1), .val (.int p2), .val (.int p3), .val (.int p4), .val (.int p5), .val (.int (p1 &&& (3 : Int32))), .val (.int (p2.toInt8.toInt32)), .val (.int (p3.toInt8.toInt32)), .val (.int (p4.toInt8.toInt32)), .val (.ref w6), .val (.ref i8), .val (.ref b9), .val (.ref i11), .val (.ref i15)] [(.ref i15)])) _
    refine XS.aload X13.here hx rfl (hb hby at_128) rfl rfl ?_
    show Steps p.tables e below (T13.setTop (mkF m 130 #[.val (.int p1), .val (.int p2), .val (.int p3), .val (.int p4), .val (.int p5), .val (.int (p1 &&& (3 : Int32))), .val (.int (p2.toInt8.toInt32)), .val (.int (p3.toInt8.toInt32)), .val (.int (p4.toInt8.toInt32)), .val (.ref w6), .val (.ref i8), .val (.ref b9), .val (.ref i11), .val (.ref i15)] [(.ref i8), (.ref i15)])) _
    refine Jvm.RoadKit.acmp (g := (mkF m 130 #[.val (.int p1), .val (.int p2), .val (.int p3), .val (.int p4), .val (.int p5), .val (.int (p1 &&& (3 : Int32))), .val (.int (p2.toInt8.toInt32)), .val (.int (p3.toInt8.toInt32)), .val (.int (p4.toInt8.toInt32)), .val (.ref w6), .val (.ref i8), .val (.ref b9), .val (.ref i11), .val (.ref i15)] [(.ref i8), (.ref i15)])) X13 hx rfl rfl rfl (pc0 := 130) (pc' := 135) (same := false) rfl (hb hby at_130) rfl (decide_eq_false fun q => ne4 (Value.ref.inj q)) (by decide) (by decide) ?_
    show Steps p.tables e below (T13.setTop (mkF m 135 #[.val (.int p1), .val (.int p2), .val (.int p3), .val (.int p4), .val (.int p5), .val (.int (p1 &&& (3 : Int32))), .val (.int (p2.toInt8.toInt32)), .val (.int (p3.toInt8.toInt32)), .val (.int (p4.toInt8.toInt32)), .val (.ref w6), .val (.ref i8), .val (.ref b9), .val (.ref i11), .val (.ref i15)] [])) _
    refine XS.aload X13.here hx rfl (hb hby at_135) rfl rfl ?_
    show Steps p.tables e below (T13.setTop (mkF m 137 #[.val (.int p1), .val (.int p2), .val (.int p3), .val (.int p4), .val (.int p5), .val (.int (p1 &&& (3 : Int32))), .val (.int (p2.toInt8.toInt32)), .val (.int (p3.toInt8.toInt32)), .val (.int (p4.toInt8.toInt32)), .val (.ref w6), .val (.ref i8), .val (.ref b9), .val (.ref i11), .val (.ref i15)] [(.ref i15)])) _
    refine XS.iload X13.here hx rfl (hb hby at_137) rfl ?_
    show Steps p.tables e below (T13.setTop (mkF m 139 #[.val (.int p1), .val (.int p2), .val (.int p3), .val (.int p4), .val (.int p5), .val (.int (p1 &&& (3 : Int32))), .val (.int (p2.toInt8.toInt32)), .val (.int (p3.toInt8.toInt32)), .val (.int (p4.toInt8.toInt32)), .val (.ref w6), .val (.ref i8), .val (.ref b9), .val (.ref i11), .val (.ref i15)] [(.int (p1 &&& (3 : Int32))), (.ref i15)])) _
    refine XS.iload X13.here hx rfl (hb hby at_139) rfl ?_
    show Steps p.tables e below (T13.setTop (mkF m 141 #[.val (.int p1), .val (.int p2), .val (.int p3), .val (.int p4), .val (.int p5), .val (.int (p1 &&& (3 : Int32))), .val (.int (p2.toInt8.toInt32)), .val (.int (p3.toInt8.toInt32)), .val (.int (p4.toInt8.toInt32)), .val (.ref w6), .val (.ref i8), .val (.ref b9), .val (.ref i11), .val (.ref i15)] [(.int (p2.toInt8.toInt32)), (.int (p1 &&& (3 : Int32))), (.ref i15)])) _
    refine XS.iload X13.here hx rfl (hb hby at_141) rfl ?_
    show Steps p.tables e below (T13.setTop (mkF m 143 #[.val (.int p1), .val (.int p2), .val (.int p3), .val (.int p4), .val (.int p5), .val (.int (p1 &&& (3 : Int32))), .val (.int (p2.toInt8.toInt32)), .val (.int (p3.toInt8.toInt32)), .val (.int (p4.toInt8.toInt32)), .val (.ref w6), .val (.ref i8), .val (.ref b9), .val (.ref i11), .val (.ref i15)] [(.int (p3.toInt8.toInt32)), (.int (p2.toInt8.toInt32)), (.int (p1 &&& (3 : Int32))), (.ref i15)])) _
    refine XS.iload X13.here hx rfl (hb hby at_143) rfl ?_
    show Steps p.tables e below (T13.setTop (mkF m 145 #[.val (.int p1), .val (.int p2), .val (.int p3), .val (.int p4), .val (.int p5), .val (.int (p1 &&& (3 : Int32))), .val (.int (p2.toInt8.toInt32)), .val (.int (p3.toInt8.toInt32)), .val (.int (p4.toInt8.toInt32)), .val (.ref w6), .val (.ref i8), .val (.ref b9), .val (.ref i11), .val (.ref i15)] [(.int (p4.toInt8.toInt32)), (.int (p3.toInt8.toInt32)), (.int (p2.toInt8.toInt32)), (.int (p1 &&& (3 : Int32))), (.ref i15)])) _
    refine st14 _ ?_
    show Steps p.tables e below (T14.setTop (mkF m 148 #[.val (.int p1), .val (.int p2), .val (.int p3), .val (.int p4), .val (.int p5), .val (.int (p1 &&& (3 : Int32))), .val (.int (p2.toInt8.toInt32)), .val (.int (p3.toInt8.toInt32)), .val (.int (p4.toInt8.toInt32)), .val (.ref w6), .val (.ref i8), .val (.ref b9), .val (.ref i11), .val (.ref i15)] [(.int (1 : Int32))])) _
    refine XS.ifYes X14.here hx rfl (pc0 := 148) (pc' := 153) rfl (hb hby at_148) rfl ((if0 _ _).trans (feq (by decide : ¬ ((1 : Int32) = (0 : Int32)))).2) (by decide) (by decide) ?_
    show Steps p.tables e below (T14.setTop (mkF m 153 #[.val (.int p1), .val (.int p2), .val (.int p3), .val (.int p4), .val (.int p5), .val (.int (p1 &&& (3 : Int32))), .val (.int (p2.toInt8.toInt32)), .val (.int (p3.toInt8.toInt32)), .val (.int (p4.toInt8.toInt32)), .val (.ref w6), .val (.ref i8), .val (.ref b9), .val (.ref i11), .val (.ref i15)] [])) _
    refine XS.aload X14.here hx rfl (hb hby at_153) rfl rfl ?_
    show Steps p.tables e below (T14.setTop (mkF m 155 #[.val (.int p1), .val (.int p2), .val (.int p3), .val (.int p4), .val (.int p5), .val (.int (p1 &&& (3 : Int32))), .val (.int (p2.toInt8.toInt32)), .val (.int (p3.toInt8.toInt32)), .val (.int (p4.toInt8.toInt32)), .val (.ref w6), .val (.ref i8), .val (.ref b9), .val (.ref i11), .val (.ref i15)] [(.ref b9)])) _
    refine st15.trans ?_
    show Steps p.tables e below (T15.setTop (mkF m 158 #[.val (.int p1), .val (.int p2), .val (.int p3), .val (.int p4), .val (.int p5), .val (.int (p1 &&& (3 : Int32))), .val (.int (p2.toInt8.toInt32)), .val (.int (p3.toInt8.toInt32)), .val (.int (p4.toInt8.toInt32)), .val (.ref w6), .val (.ref i8), .val (.ref b9), .val (.ref i11), .val (.ref i15)] [(.ref w6)])) _
    refine XS.aload X15.here hx rfl (hb hby at_158) rfl rfl ?_
    show Steps p.tables e below (T15.setTop (mkF m 160 #[.val (.int p1), .val (.int p2), .val (.int p3), .val (.int p4), .val (.int p5), .val (.int (p1 &&& (3 : Int32))), .val (.int (p2.toInt8.toInt32)), .val (.int (p3.toInt8.toInt32)), .val (.int (p4.toInt8.toInt32)), .val (.ref w6), .val (.ref i8), .val (.ref b9), .val (.ref i11), .val (.ref i15)] [(.ref w6), (.ref w6)])) _
    refine Jvm.RoadKit.acmp (g := (mkF m 160 #[.val (.int p1), .val (.int p2), .val (.int p3), .val (.int p4), .val (.int p5), .val (.int (p1 &&& (3 : Int32))), .val (.int (p2.toInt8.toInt32)), .val (.int (p3.toInt8.toInt32)), .val (.int (p4.toInt8.toInt32)), .val (.ref w6), .val (.ref i8), .val (.ref b9), .val (.ref i11), .val (.ref i15)] [(.ref w6), (.ref w6)])) X15 hx rfl rfl rfl (pc0 := 160) (pc' := 163) (same := true) rfl (hb hby at_160) rfl (decide_eq_true rfl) (by decide) (by decide) ?_
    show Steps p.tables e below (T15.setTop (mkF m 163 #[.val (.int p1), .val (.int p2), .val (.int p3), .val (.int p4), .val (.int p5), .val (.int (p1 &&& (3 : Int32))), .val (.int (p2.toInt8.toInt32)), .val (.int (p3.toInt8.toInt32)), .val (.int (p4.toInt8.toInt32)), .val (.ref w6), .val (.ref i8), .val (.ref b9), .val (.ref i11), .val (.ref i15)] [])) _
    refine XS.iconst X15.here hx rfl (hb hby at_163) ?_
    show Steps p.tables e below (T15.setTop (mkF m 164 #[.val (.int p1), .val (.int p2), .val (.int p3), .val (.int p4), .val (.int p5), .val (.int (p1 &&& (3 : Int32))), .val (.int (p2.toInt8.toInt32)), .val (.int (p3.toInt8.toInt32)), .val (.int (p4.toInt8.toInt32)), .val (.ref w6), .val (.ref i8), .val (.ref b9), .val (.ref i11), .val (.ref i15)] [(.int (1 : Int32))])) _
    refine XS.goto X15.here hx rfl (pc0 := 164) (pc' := 168) rfl (hb hby at_164) (by decide) (by decide) ?_
    show Steps p.tables e below (T15.setTop (mkF m 168 #[.val (.int p1), .val (.int p2), .val (.int p3), .val (.int p4), .val (.int p5), .val (.int (p1 &&& (3 : Int32))), .val (.int (p2.toInt8.toInt32)), .val (.int (p3.toInt8.toInt32)), .val (.int (p4.toInt8.toInt32)), .val (.ref w6), .val (.ref i8), .val (.ref b9), .val (.ref i11), .val (.ref i15)] [(.int (1 : Int32))])) _
    exact retN X15 hx (t := .boolean) Bd.returns (by simp) (hb hby at_168) hr
  · show Q0 n0 _ _
    exact ⟨rfl, N15⟩
theorem own_cases4 {k : Int32} (h0 : 0 ≤ k.toInt) (h1 : k.toInt < 4) : k = 0 ∨ k = 1 ∨ k = 2 ∨ k = 3 := by
  rcases (by omega : k.toInt = 0 ∨ k.toInt = 1 ∨ k.toInt = 2 ∨ k.toInt = 3) with h | h | h | h
  · exact Or.inl (Int32.toInt_inj.mp (h.trans (by decide)))
  · exact Or.inr (Or.inl (Int32.toInt_inj.mp (h.trans (by decide))))
  · exact Or.inr (Or.inr (Or.inl (Int32.toInt_inj.mp (h.trans (by decide)))))
  · exact Or.inr (Or.inr (Or.inr ((Int32.toInt_inj.mp (h.trans (by decide))))))
theorem rm0 (l : Launch) (Z : State) (a0 : Array Value) (hw : ∀ d ∈ tables_1, d.before a0 Z = true) (ws : List Jvm.Cond) (p1 p2 p3 p4 p5 : Int32) (wX wR : Addr) (h0 : Heap) (n0 : Nat) (Z0 : n0 ≤ h0.size) (S_EXECUTED : Sta Z h0 "com/example/limpet/limpet/Execution$Outcome" "EXECUTED" "Lcom/example/limpet/limpet/Execution$Outcome;" (.ref wX)) (S_REPLAYED : Sta Z h0 "com/example/limpet/limpet/Execution$Outcome" "REPLAYED" "Lcom/example/limpet/limpet/Execution$Outcome;" (.ref wR)) :
    MetFree l x (head1 (Jvm.Cond.code x code maxLocals ret :: ws) room_1) (fun a U => a = #[(.int p1), (.int p2), (.int p3), (.int p4), (.int p5)] ∧ Z.Warmed39 U.vm ∧ U.heap = h0) (fun _ _ _ _ _ => True) (fun _ U o U' => ∃ v L, o = .returned v ∧ Q0 n0 v L ∧ FrameEnd U o U' L room_1.cells room_1.slots) := by
  have hn : (p1 &&& (3 : Int32)) = 0 ∨ (p1 &&& (3 : Int32)) = 1 ∨ (p1 &&& (3 : Int32)) = 2 ∨ (p1 &&& (3 : Int32)) = 3 := by
    have e1 : (p1 &&& 3).toInt = p1.toInt % 2 ^ 2 := Jvm.Kit.i32_mask p1 3 (k := 2) (by decide) (by decide)
    exact own_cases4 (by rw [e1]; exact Int.emod_nonneg _ (by decide)) (by rw [e1]; exact Int.emod_lt_of_pos _ (by decide))
  by_cases hf : (p5 &&& (1 : Int32)) = (0 : Int32)
  · by_cases hc : (p1 &&& (3 : Int32)) < (1 : Int32)
    · exact rm0_t0 l Z a0 hw ws p1 p2 p3 p4 p5 wR h0 n0 Z0 hn S_REPLAYED hf hc
    · exact rm0_t1 l Z a0 hw ws p1 p2 p3 p4 p5 wR h0 n0 Z0 hn S_REPLAYED hf hc
  · by_cases hc : (p1 &&& (3 : Int32)) < (1 : Int32)
    · exact rm0_f0 l Z a0 hw ws p1 p2 p3 p4 p5 wX h0 n0 Z0 hn S_EXECUTED hf hc
    · exact rm0_f1 l Z a0 hw ws p1 p2 p3 p4 p5 wX h0 n0 Z0 hn S_EXECUTED hf hc
set_option maxRecDepth 65536 in
set_option maxHeartbeats 40000000 in
theorem comes_1 {Post : Tables → Env → Array Value → State → Outcome → State → Prop} (hpost : ∀ tb e args s v u, (limb_1_1.after args s (.returned v) u = true ∧ limb_1_2.after args s (.returned v) u = true ∧ True) → FrameEnd s (.returned v) u (Jvm.fieldLocs frame_1_writes args s ++ Jvm.arrayLocs frame_1_arrays args s ++ Jvm.staticLocs frame_1_statics s) 16 128 → Post tb e args s (.returned v) u) :
    ArmFor flags0 classFile x code maxLocals ret World_1 tables_1 room_1 Calls_1 rest_1 Pre_1 Post := by
  intro l hfl _ _ p e ha hc hk s m args below hf hA hF happ hP
  obtain ⟨hcalls, hrest, hpre⟩ := hP
  obtain ⟨-, -, -, hnamed, -, -, -, hat⟩ := (Spec.applies_iff hf).mp happ
  obtain ⟨hg, hn⟩ := and_e (Cond.before_iff.mp (show (Jvm.Cond.and given_1 narrow_1).before args s = true from hpre))
  obtain ⟨g18, g19⟩ := and_e hg
  obtain ⟨g20, g21⟩ := and_e g19
  obtain ⟨g22, g23⟩ := and_e g21
  obtain ⟨g24, g25⟩ := and_e g23
  obtain ⟨g26, g27⟩ := and_e g25
  obtain ⟨w0, w1, w2, w3, w4, rfl⟩ : ∃ w0 w1 w2 w3 w4 : Value, args = #[w0, w1, w2, w3, w4] := by
    have hs : args.size = 5 := by simpa [Cond.value, given_1] using g18
    obtain ⟨L⟩ := args
    match L, hs with
    | [w0, w1, w2, w3, w4], _ => exact ⟨w0, w1, w2, w3, w4, rfl⟩
  have hw := fun d (hd : d ∈ tables_1) => atoms_spec (ws := Jvm.Cond.code x code maxLocals ret :: tables_1) hat d (List.mem_cons_of_mem _ hd)
  have hfit : Fit s := fun {y c} hc i hi => by
    obtain ⟨ha, rfl⟩ := Array.getElem?_eq_some_iff.mp hc
    have q := List.all_eq_true.mp ((Array.all_eq_true_iff_forall_mem.mp hF) _ (Array.getElem_mem ha)) i (List.mem_range.mpr hi)
    simpa [Array.getElem?_eq_getElem hi] using q
  obtain ⟨i0, ei0⟩ := is_v g20
  obtain rfl : w0 = (.int i0) := Option.some.inj ei0
  obtain ⟨i1, ei1⟩ := is_v g22
  obtain rfl : w1 = (.int i1) := Option.some.inj ei1
  obtain ⟨i2, ei2⟩ := is_v g24
  obtain rfl : w2 = (.int i2) := Option.some.inj ei2
  obtain ⟨i3, ei3⟩ := is_v g26
  obtain rfl : w3 = (.int i3) := Option.some.inj ei3
  obtain ⟨i4, ei4⟩ := is_v g27
  obtain rfl : w4 = (.int i4) := Option.some.inj ei4
  obtain ⟨xR, xX⟩ := and_e hn
  obtain ⟨wR, vR⟩ := exa_v xR
  have S_REPLAYED := Sta.start vR (Or.inr ⟨hw _ (List.mem_of_getElem? (i := 1) rfl), hw _ (List.mem_of_getElem? (i := 2) rfl)⟩)
  obtain ⟨wX, vX⟩ := exa_v xX
  have S_EXECUTED := Sta.start vX (Or.inr ⟨hw _ (List.mem_of_getElem? (i := 1) rfl), hw _ (List.mem_of_getElem? (i := 44) rfl)⟩)
  obtain ⟨n, o, h1, h2, h3, _, L, rfl, ⟨rfl, N⟩, hq⟩ := rm0 l s _ hw tables_1 i0 i1 i2 i3 i4 wX wR s.heap s.heap.size (Nat.le_refl _) S_EXECUTED S_REPLAYED p e ha hc hk s m _ below hf ((Spec.applies_iff_loose hf).mp happ).1 ⟨rfl, State.Warmed39.refl s, rfl⟩ trivial
  refine ⟨n, _, h1, h2, h3, hpost _ _ _ _ _ _ ⟨Cond.after_iff.mpr rfl, Cond.after_iff.mpr (eq_i res_at (Term.int_eval (1)) rfl), trivial⟩ ⟨hq.1, hq.2.1, (hq.2.2.sift fun y hy => Or.inr (N y hy)).mono (by decide) (by decide)⟩⟩
theorem main_1_1 : Claimed_1_1 := comes_1 fun _ _ _ _ _ _ h hF => ⟨h.1, hF⟩
theorem main_1_2 : Claimed_1_2 := comes_1 fun _ _ _ _ _ _ h hF => ⟨h.2.1, hF⟩
end Jvm.Pilot.@@N@@
namespace Jvm.Pilot.@@N@@
open Jvm Jvm.ClassFile Sem Op Lib Jvm.Free Jvm.Stand Jvm.Pilot.@@N@@.Jvm.D
/-! MADE BY PROGRAM (witnessworld.py) out of the Statement's table words and the real class files: 13 classes; the members and pool entries that the words name. The judged class is class 1, her method 3. -/
namespace start1
open Jvm.ClassFile
def u (s : String) : CpInfo := .utf8 (stringToUtf16 s)
/-- a pool by its gaps: so many unusable entries, then the entry; so many at the end -/
def gap : Nat → List CpInfo → List CpInfo
  | 0, r => r
  | n + 1, r => .unusable :: gap n r
def poolList (es : List (Nat × CpInfo)) (last : Nat) : List CpInfo := es.foldr (fun e r => gap e.1 (e.2 :: r)) (gap last [])
def pool (es : List (Nat × CpInfo)) (last : Nat) : Array CpInfo := ⟨poolList es last⟩
def fileOf (pool : Array CpInfo) (this : Nat) (attrs : Array Attribute := #[]) (ms : Array MethodInfo := #[]) (fl : Nat := 33) (sup : Nat := 0) (ifs : Array Nat := #[]) (fds : Array FieldInfo := #[]) : ClassFile where
  minorVersion := 0
  majorVersion := 65
  constantPool := pool
  accessFlags := fl
  thisClass := this
  superClass := sup
  interfaces := ifs
  fields := fds
  methods := ms
  attributes := attrs
def plain (name : String) (sup : Option ClassId) : Class where
  name := name
  kind := .ordinary
  loader := none
  accessFlags := 33
  super := sup
  interfaces := #[]
  cf := none
  fields := #[]
  methods := #[]
  instanceTypes := #[]
  staticTypes := #[]
  resolved := #[]
  callSites := []
  init := .initialized
  statics := none
  mirror := none

def pool0 : Array CpInfo := pool [(5, u "<init>"), (0, u "()V"), (1, .class_ 10), (1, u "java/lang/Object"), (85, u "clone"), (0, u "()Ljava/lang/Object;")] 26

def k0c0 : Code := { maxStack := 0, maxLocals := 1, code := object_method_1_code, exceptionTable := #[], attributes := #[] }
def k0m0 : Method := { name := "<init>", desc := "()V", sig := { parameters := [], returnType := none }, accessFlags := 1, code := some k0c0 }
def k0m1 : Method := { name := "clone", desc := "()Ljava/lang/Object;", sig := { parameters := [], returnType := some (.object "java/lang/Object") }, accessFlags := 260, code := none }
/-- java/lang/Object -/
def k0 : Class := { plain "java/lang/Object" none with
  accessFlags := 33
  interfaces := #[]
  cf := some (fileOf pool0 8 #[] #[{ accessFlags := 1, nameIndex := 5, descriptorIndex := 6, attributes := #[] }, { accessFlags := 260, nameIndex := 96, descriptorIndex := 97, attributes := #[] }] 33 0 #[] #[])
  fields := #[]
  methods := #[k0m0, k0m1]
  instanceTypes := #[]
  staticTypes := #[]
  resolved := Array.replicate 124 none
  statics := none }

def pool1 : Array CpInfo := pool [(2, .class_ 4), (1, u "java/lang/Object"), (0, u "<init>"), (0, u "()V"), (0, .fieldref 8 9), (0, .class_ 10), (0, .nameAndType 11 12), (0, u "com/example/limpet/limpet/Execution$Outcome"), (0, u "EXECUTED"), (0, u "Lcom/example/limpet/limpet/Execution$Outcome;"), (0, .fieldref 8 14), (0, .nameAndType 15 12), (0, u "REPLAYED"), (0, .methodref 17 18), (0, .class_ 19), (0, .nameAndType 20 21), (0, u "com/example/limpet/limpet/ExecutionResultPinLaw"), (0, u "make"), (0, u "(IBBB)[B"), (0, .class_ 23), (0, u "com/example/limpet/limpet/Execution"), (0, .methodref 22 25), (0, .nameAndType 5 26), (0, u "(Lcom/example/limpet/limpet/Execution$Outcome;[B)V"), (0, .methodref 22 28), (0, .nameAndType 29 30), (0, u "result"), (0, u "()[B"), (0, .methodref 17 32), (0, .nameAndType 33 34), (0, u "same"), (0, u "([BIBBB)Z"), (0, .methodref 22 36), (0, .nameAndType 37 38), (0, u "outcome"), (0, u "()Lcom/example/limpet/limpet/Execution$Outcome;"), (3, u "law"), (0, u "(IIIII)Z")] 6

def k1m0 : Method := { name := "<init>", desc := "()V", sig := { parameters := [], returnType := none }, accessFlags := 1, code := none }
def k1c1 : Code := { maxStack := 3, maxLocals := 5, code := method_2_code, exceptionTable := #[], attributes := #[] }
def k1m1 : Method := { name := "make", desc := "(IBBB)[B", sig := { parameters := [.int, .byte, .byte, .byte], returnType := some (.array .byte) }, accessFlags := 10, code := some k1c1 }
def k1c2 : Code := { maxStack := 2, maxLocals := 5, code := method_3_code, exceptionTable := #[], attributes := #[] }
def k1m2 : Method := { name := "same", desc := "([BIBBB)Z", sig := { parameters := [(.array .byte), .int, .byte, .byte, .byte], returnType := some .boolean }, accessFlags := 10, code := some k1c2 }
def k1c3 : Code := { maxStack := 5, maxLocals := 14, code := code, exceptionTable := #[], attributes := #[] }
def k1m3 : Method := { name := "law", desc := "(IIIII)Z", sig := { parameters := [.int, .int, .int, .int, .int], returnType := some .boolean }, accessFlags := 9, code := some k1c3 }
/-- com/example/limpet/limpet/ExecutionResultPinLaw -/
def k1 : Class := { plain "com/example/limpet/limpet/ExecutionResultPinLaw" (some 0) with
  accessFlags := 49
  interfaces := #[]
  cf := some (fileOf pool1 17 #[] #[{ accessFlags := 1, nameIndex := 5, descriptorIndex := 6, attributes := #[] }, { accessFlags := 10, nameIndex := 20, descriptorIndex := 21, attributes := #[] }, { accessFlags := 10, nameIndex := 33, descriptorIndex := 34, attributes := #[] }, { accessFlags := 9, nameIndex := 42, descriptorIndex := 43, attributes := #[] }] 49 2 #[] #[])
  fields := #[]
  methods := #[k1m0, k1m1, k1m2, k1m3]
  instanceTypes := #[]
  staticTypes := #[]
  resolved := Array.replicate 50 none
  statics := none }

def pool2 : Array CpInfo := pool [(1, .class_ 2), (0, u "java/lang/constant/Constable"), (0, .class_ 4), (0, u "java/lang/Object")] 6

/-- java/lang/constant/Constable -/
def k2 : Class := { plain "java/lang/constant/Constable" (some 0) with
  accessFlags := 1537
  interfaces := #[]
  cf := some (fileOf pool2 1 #[] #[] 1537 3 #[] #[])
  fields := #[]
  methods := #[]
  instanceTypes := #[]
  staticTypes := #[]
  resolved := Array.replicate 11 none
  statics := none }

def pool3 : Array CpInfo := pool [(1, .class_ 2), (0, u "java/lang/Comparable"), (0, .class_ 4), (0, u "java/lang/Object")] 7

/-- java/lang/Comparable -/
def k3 : Class := { plain "java/lang/Comparable" (some 0) with
  accessFlags := 1537
  interfaces := #[]
  cf := some (fileOf pool3 1 #[] #[] 1537 3 #[] #[])
  fields := #[]
  methods := #[]
  instanceTypes := #[]
  staticTypes := #[]
  resolved := Array.replicate 12 none
  statics := none }

def pool4 : Array CpInfo := pool [(1, .class_ 2), (0, u "java/io/Serializable"), (0, .class_ 4), (0, u "java/lang/Object")] 2

/-- java/io/Serializable -/
def k4 : Class := { plain "java/io/Serializable" (some 0) with
  accessFlags := 1537
  interfaces := #[]
  cf := some (fileOf pool4 1 #[] #[] 1537 3 #[] #[])
  fields := #[]
  methods := #[]
  instanceTypes := #[]
  staticTypes := #[]
  resolved := Array.replicate 7 none
  statics := none }

def pool5 : Array CpInfo := pool [(2, .class_ 4), (1, u "java/lang/Enum"), (0, u "name"), (0, u "Ljava/lang/String;"), (2, u "ordinal"), (0, u "I"), (1, .class_ 14), (1, u "java/lang/Object"), (4, u "hash"), (86, .class_ 108), (1, u "java/lang/Enum$EnumDesc"), (2, .class_ 112), (0, u "java/lang/constant/Constable"), (0, .class_ 114), (0, u "java/lang/Comparable"), (0, .class_ 116), (0, u "java/io/Serializable")] 87

/-- java/lang/Enum -/
def k5 : Class := { plain "java/lang/Enum" (some 0) with
  accessFlags := 1057
  interfaces := #[2, 3, 4]
  cf := some (fileOf pool5 2 #[.nestMembers #[106]] #[] 1057 12 #[111, 113, 115] #[{ accessFlags := 18, nameIndex := 5, descriptorIndex := 6, attributes := #[] }, { accessFlags := 18, nameIndex := 9, descriptorIndex := 10, attributes := #[] }, { accessFlags := 2, nameIndex := 19, descriptorIndex := 10, attributes := #[] }])
  fields := #[{ name := "name", type := (.object "java/lang/String"), accessFlags := 18, slot := 0, constantValue := 0 }, { name := "ordinal", type := .int, accessFlags := 18, slot := 1, constantValue := 0 }, { name := "hash", type := .int, accessFlags := 2, slot := 2, constantValue := 0 }]
  methods := #[]
  instanceTypes := #[(.object "java/lang/String"), .int, .int]
  staticTypes := #[]
  resolved := Array.replicate 204 none
  statics := none }

def pool6 : Array CpInfo := pool [(1, .class_ 2), (0, u "com/example/limpet/limpet/Execution$Outcome"), (2, u "EXECUTED"), (0, u "Lcom/example/limpet/limpet/Execution$Outcome;"), (2, u "REPLAYED"), (2, u "MISMATCH"), (2, u "IN_FLIGHT"), (2, u "$VALUES"), (0, u "[Lcom/example/limpet/limpet/Execution$Outcome;"), (6, .class_ 28), (1, u "java/lang/Enum"), (27, .class_ 57), (0, u "com/example/limpet/limpet/Execution")] 2

/-- com/example/limpet/limpet/Execution$Outcome -/
def k6 : Class := { plain "com/example/limpet/limpet/Execution$Outcome" (some 5) with
  accessFlags := 16433
  interfaces := #[]
  cf := some (fileOf pool6 1 #[.nestHost 56] #[] 16433 26 #[] #[{ accessFlags := 16409, nameIndex := 5, descriptorIndex := 6, attributes := #[] }, { accessFlags := 16409, nameIndex := 9, descriptorIndex := 6, attributes := #[] }, { accessFlags := 16409, nameIndex := 12, descriptorIndex := 6, attributes := #[] }, { accessFlags := 16409, nameIndex := 15, descriptorIndex := 6, attributes := #[] }, { accessFlags := 4122, nameIndex := 18, descriptorIndex := 19, attributes := #[] }])
  fields := #[{ name := "EXECUTED", type := (.object "com/example/limpet/limpet/Execution$Outcome"), accessFlags := 16409, slot := 0, constantValue := 0 }, { name := "REPLAYED", type := (.object "com/example/limpet/limpet/Execution$Outcome"), accessFlags := 16409, slot := 1, constantValue := 0 }, { name := "MISMATCH", type := (.object "com/example/limpet/limpet/Execution$Outcome"), accessFlags := 16409, slot := 2, constantValue := 0 }, { name := "IN_FLIGHT", type := (.object "com/example/limpet/limpet/Execution$Outcome"), accessFlags := 16409, slot := 3, constantValue := 0 }, { name := "$VALUES", type := (.array (.object "com/example/limpet/limpet/Execution$Outcome")), accessFlags := 4122, slot := 4, constantValue := 0 }]
  methods := #[]
  instanceTypes := #[(.object "java/lang/String"), .int, .int]
  staticTypes := #[(.object "com/example/limpet/limpet/Execution$Outcome"), (.object "com/example/limpet/limpet/Execution$Outcome"), (.object "com/example/limpet/limpet/Execution$Outcome"), (.object "com/example/limpet/limpet/Execution$Outcome"), (.array (.object "com/example/limpet/limpet/Execution$Outcome"))]
  resolved := Array.replicate 60 none
  statics := some 0 }

def pool7 : Array CpInfo := pool [(1, .methodref 2 3), (0, .class_ 4), (0, .nameAndType 5 6), (0, u "java/lang/Object"), (0, u "<init>"), (0, u "()V"), (0, .fieldref 8 9), (0, .class_ 10), (0, .nameAndType 11 12), (0, u "com/example/limpet/limpet/Execution"), (0, u "outcome"), (0, u "Lcom/example/limpet/limpet/Execution$Outcome;"), (0, .fieldref 8 14), (0, .nameAndType 15 16), (0, u "result"), (0, u "[B"), (15, .methodref 33 34), (0, .class_ 16), (0, .nameAndType 35 36), (0, u "clone"), (0, u "()Ljava/lang/Object;"), (0, u "(Lcom/example/limpet/limpet/Execution$Outcome;[B)V"), (2, u "()Lcom/example/limpet/limpet/Execution$Outcome;"), (0, u "()[B"), (4, .class_ 47), (0, u "com/example/limpet/limpet/Execution$Outcome")] 16

def k7c0 : Code := { maxStack := 2, maxLocals := 3, code := prog_10_method_1_code, exceptionTable := #[], attributes := #[] }
def k7m0 : Method := { name := "<init>", desc := "(Lcom/example/limpet/limpet/Execution$Outcome;[B)V", sig := { parameters := [(.object "com/example/limpet/limpet/Execution$Outcome"), (.array .byte)], returnType := none }, accessFlags := 0, code := some k7c0 }
def k7c1 : Code := { maxStack := 1, maxLocals := 1, code := prog_10_method_2_code, exceptionTable := #[], attributes := #[] }
def k7m1 : Method := { name := "outcome", desc := "()Lcom/example/limpet/limpet/Execution$Outcome;", sig := { parameters := [], returnType := some (.object "com/example/limpet/limpet/Execution$Outcome") }, accessFlags := 1, code := some k7c1 }
def k7c2 : Code := { maxStack := 3, maxLocals := 1, code := prog_10_method_3_code, exceptionTable := #[], attributes := #[] }
def k7m2 : Method := { name := "result", desc := "()[B", sig := { parameters := [], returnType := some (.array .byte) }, accessFlags := 1, code := some k7c2 }
/-- com/example/limpet/limpet/Execution -/
def k7 : Class := { plain "com/example/limpet/limpet/Execution" (some 0) with
  accessFlags := 33
  interfaces := #[]
  cf := some (fileOf pool7 8 #[.nestMembers #[46]] #[{ accessFlags := 0, nameIndex := 5, descriptorIndex := 37, attributes := #[] }, { accessFlags := 1, nameIndex := 11, descriptorIndex := 40, attributes := #[] }, { accessFlags := 1, nameIndex := 15, descriptorIndex := 41, attributes := #[] }] 33 2 #[] #[{ accessFlags := 18, nameIndex := 11, descriptorIndex := 12, attributes := #[] }, { accessFlags := 18, nameIndex := 15, descriptorIndex := 16, attributes := #[] }])
  fields := #[{ name := "outcome", type := (.object "com/example/limpet/limpet/Execution$Outcome"), accessFlags := 18, slot := 0, constantValue := 0 }, { name := "result", type := (.array .byte), accessFlags := 18, slot := 1, constantValue := 0 }]
  methods := #[k7m0, k7m1, k7m2]
  instanceTypes := #[(.object "com/example/limpet/limpet/Execution$Outcome"), (.array .byte)]
  staticTypes := #[]
  resolved := Array.replicate 64 none
  statics := none }

def pool8 : Array CpInfo := pool [(1, .class_ 2), (0, u "java/lang/Cloneable"), (0, .class_ 4), (0, u "java/lang/Object")] 2

/-- java/lang/Cloneable -/
def k8 : Class := { plain "java/lang/Cloneable" (some 0) with
  accessFlags := 1537
  interfaces := #[]
  cf := some (fileOf pool8 1 #[] #[] 1537 3 #[] #[])
  fields := #[]
  methods := #[]
  instanceTypes := #[]
  staticTypes := #[]
  resolved := Array.replicate 7 none
  statics := none }

/-- the primitive byte -/
def k9 : Class := { plain "byte" none with kind := .primitive 'B', accessFlags := 0x411 }
/-- [B -/
def k10 : Class := { plain "[B" (some 0) with kind := .array 9 .byte, interfaces := #[8, 4], accessFlags := 1041 }

/-- the primitive int -/
def k11 : Class := { plain "int" none with kind := .primitive 'I', accessFlags := 0x411 }
/-- [I -/
def k12 : Class := { plain "[I" (some 0) with kind := .array 11 .int, interfaces := #[8, 4], accessFlags := 1041 }

def heap : Heap := #[{ cls := 6, slots := #[.ref 1, .ref 2, .null, .null, .null], vm := .statics 6 },
  { cls := 6, slots := #[.null, .int 0, .int 0], vm := .none },
  { cls := 6, slots := #[.null, .int 1, .int 0], vm := .none }]
def classes : Array Class := #[k0, k1, k2, k3, k4, k5, k6, k7, k8, k9, k10, k11, k12]
def interned : List (Array UInt16 × Addr) := []
def slotsUsed : Nat := 11
def theMethod : MethodId := ⟨1, 3⟩
def args0 : Array Value := #[.int 2, .int 200, .int 5, .int 7, .int 1]
def aboutOver (below : List Frame) : State where
  vm := { classes := classes, interned := interned.toArray }
  heap := heap
  slotsUsed := slotsUsed
  threads := #[{ frames := .invoking theMethod args0 :: below }]
def below0 : List Frame := [.native { method := ⟨0, 0⟩, args := #[] }]
def about1 : State := aboutOver below0
def p0 : Program := .bare "" "" ""
def e0 : Env := launch0.env 0 0 0
theorem w_frames : about1.frames = Frame.invoking theMethod args0 :: below0 := rfl
set_option maxRecDepth 65536 in
theorem w_args : argsFit about1.vm theMethod args0 = true := by decide +kernel
set_option maxRecDepth 65536 in
theorem w_heap : heapFits about1 = true := by decide +kernel
set_option maxRecDepth 65536 in
theorem w_runnable : about1.curStatus? = some .runnable := by decide +kernel
set_option maxRecDepth 65536 in
theorem w_alone : about1.alone = true := by decide +kernel
set_option maxRecDepth 65536 in
theorem w_named : about1.methodNamed? x = some theMethod := by decide +kernel
set_option maxRecDepth 65536 in
theorem w_hears : about1.hears theMethod below0 = true := by decide +kernel
set_option maxRecDepth 65536 in
theorem w_ripe : about1.ripe theMethod args0 below0 = true := by decide +kernel
theorem w_running : about1.status = .running := rfl
set_option maxRecDepth 65536 in
theorem w_room : about1.hasRoom e0.platform room_1 = true :=
  launch0.hasRoom_least _ room_1 (by decide +kernel) (by decide +kernel) (by decide +kernel) (by decide +kernel) (by decide +kernel) (by decide +kernel)
theorem allAtoms_all (ts : List Jvm.Cond) (a : Array Jvm.Value) (st : Jvm.State) : (allAtoms ts).before a st = ts.all (fun c => c.before a st) := by
  induction ts with
  | nil => rfl
  | cons c t ih =>
    show (Jvm.Cond.and c (allAtoms t)).before a st = _
    rw [Jvm.Cond.before_and, ih, List.all_cons]
def words1 : List Jvm.Cond := Jvm.Cond.code x code maxLocals ret :: tables_1
/-- a 'code' word, met by the world's own term for the bytes: nothing is compared byte by byte -/
theorem code_word {y : MethodName} {bytes : ByteArray} {mx : Nat} {rt : Option FieldType} {a : Array Value} {s : State} {m : MethodId} {meth : Method} {c : Code} (h1 : s.methodNamed? y = some m) (h2 : s.vm.method? m = some meth) (h3 : meth.code = some c) (h4 : c.code = bytes)
    (h5 : (c.maxLocals == mx && c.exceptionTable.isEmpty && decide (c.maxStack ≤ mostOperands) && decide (meth.sig.returnType = rt) && !meth.locks && decide (parseMethodDescriptor y.desc = some meth.sig)) = true) : (Jvm.Cond.code y bytes mx rt).before a s = true := by
  simp only [Bool.and_eq_true, beq_iff_eq, Bool.not_eq_true', decide_eq_true_eq] at h5
  obtain ⟨⟨⟨⟨⟨g1, g2⟩, g3⟩, g4⟩, g5⟩, g6⟩ := h5
  simp [Cond.before, Cond.holds, Cond.value, h1, h2, h3, h4, g1, g2, g3, g4, g5, g6]
def isCode : Jvm.Cond → Bool
  | .code _ _ _ _ => true
  | _ => false
theorem all_split {L : List Jvm.Cond} {P : Jvm.Cond → Bool} (h1 : L.all (fun c => isCode c || P c) = true) (h2 : ∀ c ∈ L.filter isCode, P c = true) : L.all P = true := by
  refine List.all_eq_true.mpr fun c hc => ?_
  have h := List.all_eq_true.mp h1 c hc
  rcases Bool.eq_false_or_eq_true (isCode c) with hi | hi
  · exact h2 c (List.mem_filter.mpr ⟨hc, hi⟩)
  · simpa [hi] using h
set_option maxRecDepth 65536 in
theorem w_c0 : (Jvm.Cond.code x code maxLocals ret).before args0 about1 = true := code_word (m := ⟨1, 3⟩) (meth := k1m3) (c := k1c3) (by decide +kernel) rfl rfl rfl (by decide +kernel)
set_option maxRecDepth 65536 in
theorem w_c1 : (Jvm.Cond.code ({ cls := "com/example/limpet/limpet/ExecutionResultPinLaw", name := "make", desc := "(IBBB)[B" } : Jvm.MethodName) method_2_code (5 : Nat) (Option.some (Jvm.ClassFile.FieldType.array Jvm.ClassFile.FieldType.byte))).before args0 about1 = true := code_word (m := ⟨1, 1⟩) (meth := k1m1) (c := k1c1) (by decide +kernel) rfl rfl rfl (by decide +kernel)
set_option maxRecDepth 65536 in
theorem w_c2 : (Jvm.Cond.code ({ cls := "com/example/limpet/limpet/Execution", name := "<init>", desc := "(Lcom/example/limpet/limpet/Execution$Outcome;[B)V" } : Jvm.MethodName) prog_10_method_1_code (3 : Nat) (Option.none : Option Jvm.ClassFile.FieldType)).before args0 about1 = true := code_word (m := ⟨7, 0⟩) (meth := k7m0) (c := k7c0) (by decide +kernel) rfl rfl rfl (by decide +kernel)
set_option maxRecDepth 65536 in
theorem w_c3 : (Jvm.Cond.code ({ cls := "java/lang/Object", name := "<init>", desc := "()V" } : Jvm.MethodName) object_method_1_code (1 : Nat) (Option.none : Option Jvm.ClassFile.FieldType)).before args0 about1 = true := code_word (m := ⟨0, 0⟩) (meth := k0m0) (c := k0c0) (by decide +kernel) rfl rfl rfl (by decide +kernel)
set_option maxRecDepth 65536 in
theorem w_c4 : (Jvm.Cond.code ({ cls := "com/example/limpet/limpet/Execution", name := "result", desc := "()[B" } : Jvm.MethodName) prog_10_method_3_code (1 : Nat) (Option.some (Jvm.ClassFile.FieldType.array Jvm.ClassFile.FieldType.byte))).before args0 about1 = true := code_word (m := ⟨7, 2⟩) (meth := k7m2) (c := k7c2) (by decide +kernel) rfl rfl rfl (by decide +kernel)
set_option maxRecDepth 65536 in
theorem w_c5 : (Jvm.Cond.code ({ cls := "com/example/limpet/limpet/ExecutionResultPinLaw", name := "same", desc := "([BIBBB)Z" } : Jvm.MethodName) method_3_code (5 : Nat) (Option.some Jvm.ClassFile.FieldType.boolean)).before args0 about1 = true := code_word (m := ⟨1, 2⟩) (meth := k1m2) (c := k1c2) (by decide +kernel) rfl rfl rfl (by decide +kernel)
set_option maxRecDepth 65536 in
theorem w_c6 : (Jvm.Cond.code ({ cls := "com/example/limpet/limpet/Execution", name := "outcome", desc := "()Lcom/example/limpet/limpet/Execution$Outcome;" } : Jvm.MethodName) prog_10_method_2_code (1 : Nat) (Option.some (Jvm.ClassFile.FieldType.object "com/example/limpet/limpet/Execution$Outcome"))).before args0 about1 = true := code_word (m := ⟨7, 1⟩) (meth := k7m1) (c := k7c1) (by decide +kernel) rfl rfl rfl (by decide +kernel)
def codes1 : List Jvm.Cond := [Jvm.Cond.code x code maxLocals ret, Jvm.Cond.code ({ cls := "com/example/limpet/limpet/ExecutionResultPinLaw", name := "make", desc := "(IBBB)[B" } : Jvm.MethodName) method_2_code (5 : Nat) (Option.some (Jvm.ClassFile.FieldType.array Jvm.ClassFile.FieldType.byte)), Jvm.Cond.code ({ cls := "com/example/limpet/limpet/Execution", name := "<init>", desc := "(Lcom/example/limpet/limpet/Execution$Outcome;[B)V" } : Jvm.MethodName) prog_10_method_1_code (3 : Nat) (Option.none : Option Jvm.ClassFile.FieldType), Jvm.Cond.code ({ cls := "java/lang/Object", name := "<init>", desc := "()V" } : Jvm.MethodName) object_method_1_code (1 : Nat) (Option.none : Option Jvm.ClassFile.FieldType), Jvm.Cond.code ({ cls := "com/example/limpet/limpet/Execution", name := "result", desc := "()[B" } : Jvm.MethodName) prog_10_method_3_code (1 : Nat) (Option.some (Jvm.ClassFile.FieldType.array Jvm.ClassFile.FieldType.byte)), Jvm.Cond.code ({ cls := "com/example/limpet/limpet/ExecutionResultPinLaw", name := "same", desc := "([BIBBB)Z" } : Jvm.MethodName) method_3_code (5 : Nat) (Option.some Jvm.ClassFile.FieldType.boolean), Jvm.Cond.code ({ cls := "com/example/limpet/limpet/Execution", name := "outcome", desc := "()Lcom/example/limpet/limpet/Execution$Outcome;" } : Jvm.MethodName) prog_10_method_2_code (1 : Nat) (Option.some (Jvm.ClassFile.FieldType.object "com/example/limpet/limpet/Execution$Outcome"))]
set_option maxRecDepth 65536 in
theorem codes_eq : words1.filter isCode = codes1 := rfl
theorem w_codes : ∀ c ∈ words1.filter isCode, c.before args0 about1 = true := by
  rw [codes_eq]
  intro c hc
  simp only [codes1, List.mem_cons, List.not_mem_nil, or_false] at hc
  rcases hc with rfl | rfl | rfl | rfl | rfl | rfl | rfl
  · exact w_c0
  · exact w_c1
  · exact w_c2
  · exact w_c3
  · exact w_c4
  · exact w_c5
  · exact w_c6
set_option maxRecDepth 65536 in
theorem w_t1 : (words1.take 24).all (fun c => isCode c || c.before args0 about1) = true := by decide +kernel
set_option maxRecDepth 65536 in
theorem w_t2 : (words1.drop 24).all (fun c => isCode c || c.before args0 about1) = true := by decide +kernel
theorem w_tables : (allAtoms (Jvm.Cond.code x code maxLocals ret :: tables_1)).before args0 about1 = true := by
  rw [allAtoms_all]
  show words1.all (fun c => c.before args0 about1) = true
  refine all_split ?_ w_codes
  rw [← List.take_append_drop 24 words1, List.all_append, w_t1, w_t2]
  rfl
set_option maxRecDepth 65536 in
theorem w_case : (Jvm.Cond.and given_1 narrow_1).before args0 about1 = true := by decide +kernel
theorem w_applies : (headSpec (Jvm.Cond.code x code maxLocals ret :: tables_1) room_1).applies x e0.platform about1 = true :=
  (Spec.applies_iff w_frames).mpr ⟨w_running, w_runnable, w_alone, w_named, w_hears, w_ripe, w_room, w_tables⟩
theorem atStart : AtStart classFile x code maxLocals ret World_1 tables_1 room_1 Calls_1 rest_1 Pre_1 launch0 p0 e0 about1 theMethod args0 below0 :=
  ⟨lists_1, trivial, launch0.admits_env _ _ _, launch0.least_env, fairChoices_fair.cas, fairChoices_fair.clock, w_frames, w_args, w_heap, w_applies, trivial, trivial, w_case⟩
end start1
theorem witness_1 : WitnessClaimed_1 := ⟨start1.p0, start1.e0, start1.about1, start1.theMethod, start1.args0, start1.below0, start1.atStart⟩
end Jvm.Pilot.@@N@@
