import JvmDerived
import JvmDerived.Pilot.@@N@@Statement
import JvmDerived.Pilot.@@N@@Code
set_option linter.unusedVariables false
set_option linter.unusedSimpArgs false
@@BLOCK:NumsL.lean.txt@@
namespace Jvm.RoadKit
open Sem ClassFile Op Lib Jvm.Stand Jvm.Free Jvm.LawKit
section New
variable {p : Program} {l : Launch} {e : Env} {R : Room} {s : State} {m : MethodId} {args : Array Value} {below : List Frame} {meth : Method} {c : Code} {T : State} {locs : List Loc} {cells slots : Nat}
theorem retI (X : Stand p l e R s m args below meth c T locs cells slots) (hx : p.tables.exec = Jvm.exec) {pc : Nat} {Ls : Array Slot} {z : Int32} {rest : List Value} (hret : meth.sig.returnType = some .int) (hd : decode c.code pc = .ok (.ireturn, 1)) {fs : List Frame}
    (hl : ∀ (f : JFrame) (acts : List Action), f.method = m → f.locked = none → f.entered = [] → (doReturn e (T.setTop f) acts (some (.int z))).1 = T.setFrames fs) : Steps p.tables e below (T.setTop (mkF m pc Ls (.int z :: rest))) (T.setFrames fs) := by
  have hm' : T.vm.method? m = some meth := X.method'
  have hn : narrow .int (.int z) = .int z := rfl
  show Steps p.tables e below (T.setTop { method := m, pc := pc, locals := Ls, stack := _ :: rest, locked := none }) _
  jvm_step X.here [X.here.top, hx, hd, hm', hret, hn]
  first | (intro acts; rw [hl _ acts rfl rfl rfl]) | rw [hl _ _ rfl rfl rfl]
  exact Steps.refl _
end New
end Jvm.RoadKit
namespace Jvm.Pilot.@@N@@
open Jvm Jvm.ClassFile Sem Op Lib Jvm.Free Jvm.Stand Jvm.LawKit Jvm.RoadKit Bundle Jvm.Pilot.@@N@@.Jvm.D
theorem own_eqi {args : Array Value} {first s : State} {o : Option Outcome} {idx : List Nat} {t : Term} {n : Int32} (h : (Cond.eq t (.int n)).value args first o s idx = some true) : t.eval args first o idx s = some (.int n) := by
  obtain ⟨x, y, hx, hy, k1, k2⟩ := cmp_v (Or.inl h)
  have hy' : (Term.int n).eval args first o idx s = some (.int n) := Term.int_eval n
  cases hy.symm.trans hy'
  obtain ⟨z, rfl⟩ := k2
  rw [hx]
  have q : (Cond.eq t (.int n)).value args first o s idx = some (decide (z = n)) := by simp [Cond.value, hx, hy']
  rw [gotT q h]
theorem own_len {args : Array Value} {s : State} {t : Term} {a : Addr} {cl : Cell} {ty : FieldType} {n : Int32} (ht : t.eval args s none [] s = some (.ref a)) (A : Arr s s.heap a cl ty) (h : (Term.length t).eval args s none [] s = some (.int n)) : cl.slots.size = n.toNatClampNeg := by
  have hA := A.fin (Vm.Alike.refl s.vm)
  obtain ⟨x, cl', e1, e2, e3, e4⟩ := Jvm.Lib.length_spec h
  cases ht.symm.trans e1
  cases hA.symm.trans e2
  cases e4
  simp only [Int32.toNatClampNeg, len_toInt e3]
  rfl
def TB (Z : State) (h : Heap) (a : Addr) (cl : Cell) (z : Int32) : Prop := Arr Z h a cl .byte ∧ cl.slots.size = z.toNatClampNeg ∧ ¬ z < 0 ∧ ∀ i, i < cl.slots.size → cl.slots[i]? = some (.int (0 : Int32))
theorem own_tb {Z : State} {h : Heap} {a : Addr} {k : ClassId} {z : Int32} (V : Arv Z h a k .byte z [] (.int (0 : Int32))) : ∃ cl, TB Z h a cl z := by
  obtain ⟨c, A, q1, S, q3, H, G⟩ := V
  exact ⟨c, A, S, q3, fun i hi => by have := H i hi; simpa using this⟩
theorem own_stk {Z : State} {h0 h : Heap} {C n d : String} {v : Value} (K : Keep h0 h []) (S : Sta Z h0 C n d v) : Sta Z h C n d v := by
  obtain ⟨cf, i, k, f, st, cell, h1, h2, h3, h4, h5, h6, h7⟩ := S
  exact ⟨cf, i, k, f, st, cell, h1, h2, h3, h4, K.2.1 st cell h5 nin0, h6, h7⟩
theorem own_ark {Z : State} {h0 h : Heap} {a : Addr} {cl : Cell} {ty : FieldType} {ws : List Addr} (K : Keep h0 h ws) (q : a ∉ ws) (A : Arr Z h0 a cl ty) : Arr Z h a cl ty := ⟨K.2.1 a cl A.1 q, A.2⟩
theorem own_nn {z : Int32} (h : ¬ z < 0) : 0 ≤ z.toInt := by
  rw [Int32.lt_iff_toInt_lt] at h; have : (0 : Int32).toInt = 0 := rfl; omega
theorem own_in {cl : Cell} {z j : Int32} (S : cl.slots.size = z.toNatClampNeg) (h0 : 0 ≤ j.toInt) (h1 : j.toInt < z.toInt) : ¬ (j < 0 ∨ cl.slots.size ≤ j.toNatClampNeg) := by
  rw [S]; simp only [Int32.lt_iff_toInt_lt, Int32.toNatClampNeg]; have : (0 : Int32).toInt = 0 := rfl; omega
theorem own_lt {x y : Int32} (h : x.toInt < y.toInt) : x < y := Int32.lt_iff_toInt_lt.mpr h
theorem own_nlt {x y : Int32} (h : y.toInt ≤ x.toInt) : ¬ x < y := by rw [Int32.lt_iff_toInt_lt]; omega
theorem own_ge {x y : Int32} (h : ¬ x < y) : y.toInt ≤ x.toInt := by rw [Int32.lt_iff_toInt_lt] at h; omega
theorem own_lt0 {x : Int32} (h : (0 : Int32) < x) : 0 < x.toInt := Int32.lt_iff_toInt_lt.mp h
def QJ (h0 : Heap) (n0 : Nat) (v : Option Value) (h : Heap) (L : List Loc) : Prop := ∃ r : Int64, v = some (.long r) ∧ Fr n0 L ∧ h = h0
theorem d12_0 : decode jdk_35_method_51_code 0 = .ok (.lload_n 0, 1) := by decide +kernel
theorem d12_1 : decode jdk_35_method_51_code 1 = .ok (.iload_n 2, 1) := by decide +kernel
theorem d12_2 : decode jdk_35_method_51_code 2 = .ok (.lshl, 1) := by decide +kernel
theorem d12_3 : decode jdk_35_method_51_code 3 = .ok (.lload_n 0, 1) := by decide +kernel
theorem d12_4 : decode jdk_35_method_51_code 4 = .ok (.iload_n 2, 1) := by decide +kernel
theorem d12_5 : decode jdk_35_method_51_code 5 = .ok (.ineg, 1) := by decide +kernel
theorem d12_6 : decode jdk_35_method_51_code 6 = .ok (.lushr, 1) := by decide +kernel
theorem d12_7 : decode jdk_35_method_51_code 7 = .ok (.lor, 1) := by decide +kernel
theorem d12_8 : decode jdk_35_method_51_code 8 = .ok (.lreturn, 1) := by decide +kernel
theorem pn_12 : plainName "java/lang/Long" = true := by first | (simp [plainName, overriddenIn]; done) | decide +kernel
theorem ef_12 (m : MethodId) (x0 : Int64) (x1 : Int32) : entryFrame m #[(.long x0), (.int x1)] 3 = mkF m 0 #[.val (.long x0), .second, .val (.int x1)] [] := by first | (simp [entryFrame, mkF, argsToLocals, Value.category]; done) | rfl
set_option maxRecDepth 65536 in
set_option maxHeartbeats 40000000 in
theorem rm12 (l : Launch) (Z : State) (a0 : Array Value) (hw : ∀ d ∈ tables_1, d.before a0 Z = true) (ws : List Jvm.Cond) (q1 : Int64) (p2 : Int32) (h0 : Heap) (n0 : Nat) (Z0 : n0 ≤ h0.size) :
    MetFree l (⟨"java/lang/Long", "rotateLeft", "(JI)J"⟩ : MethodName) (head1 (Jvm.Cond.code (⟨"java/lang/Long", "rotateLeft", "(JI)J"⟩ : MethodName) jdk_35_method_51_code 3 (some .long) :: ws) ({ frames := 0, cells := 0, slots := 0, locals := 0 } : Room)) (fun a U => a = #[(.long q1), (.int p2)] ∧ Z.Warmed39 U.vm ∧ U.heap = h0) (fun _ _ _ _ _ => True) (fun _ U o U' => ∃ v L, o = .returned v ∧ QJ h0 n0 v U'.heap L ∧ FrameEnd U o U' L ({ frames := 0, cells := 0, slots := 0, locals := 0 } : Room).cells ({ frames := 0, cells := 0, slots := 0, locals := 0 } : Room).slots) := by
  refine MetFree.of_bodySF (plainFor_of_name pn_12) hisR ?_
  intro p e s m args below meth c s₁ Bd hml0 hP hK
  obtain ⟨rfl, hZ, hh⟩ := hP
  have hx := Bd.exec
  have hby := Bd.bytes
  have hml : c.maxLocals = 3 := hml0
  have hown : s.vm.findClass "java/lang/Long" = some m.cls := findClass_of_methodNamed Bd.named
  have hnm := (name_of_methodNamed Bd.named Bd.method).1
  have X0 : Stand p l e ({ frames := 0, cells := 0, slots := 0, locals := 0 } : Room) s m #[(.long q1), (.int p2)] below meth c s₁ [] 0 0 := Stand.of_body Bd
  have e0 : s₁.heap = h0 := by rw [← hh, Bd.state]; rfl
  have N0 := Fr.nil n0
  have pre0 : ∀ t, Steps p.tables e below (s₁.setTop (mkF m 0 #[.val (.long q1), .second, .val (.int p2)] [])) t → Steps p.tables e below (s₁.setTop (entryFrame m #[(.long q1), (.int p2)] 3)) t := fun t k => castTop (ef_12 m q1 p2) k

  obtain ⟨fs, hr, hrun, hended, hW, hsame⟩ := X0.leave (v := some (.long ((q1 <<< (p2 &&& 0x3f).toInt64) ||| ((q1.toUInt64 >>> ((-p2) &&& 0x3f).toInt64.toUInt64).toInt64)))) (fun h => by rw [Bd.returns] at h; cases h)
  refine ⟨_, _, pre0 _ ?_, hrun, hended, _, _, rfl, ?_, ⟨_, rfl⟩, hW, hsame.mono (by decide) (by decide)⟩
  · show Steps p.tables e below (s₁.setTop (mkF m 0 #[.val (.long q1), .second, .val (.int p2)] [])) _
    refine XS.lloadN X0.here hx rfl (hb hby d12_0) rfl ?_
    show Steps p.tables e below (s₁.setTop (mkF m 1 #[.val (.long q1), .second, .val (.int p2)] [(.long q1)])) _
    refine XS.iloadN X0.here hx rfl (hb hby d12_1) rfl ?_
    show Steps p.tables e below (s₁.setTop (mkF m 2 #[.val (.long q1), .second, .val (.int p2)] [(.int p2), (.long q1)])) _
    refine XS.lshl X0.here hx rfl (hb hby d12_2) rfl ?_
    show Steps p.tables e below (s₁.setTop (mkF m 3 #[.val (.long q1), .second, .val (.int p2)] [(.long (q1 <<< (p2 &&& 0x3f).toInt64))])) _
    refine XS.lloadN X0.here hx rfl (hb hby d12_3) rfl ?_
    show Steps p.tables e below (s₁.setTop (mkF m 4 #[.val (.long q1), .second, .val (.int p2)] [(.long q1), (.long (q1 <<< (p2 &&& 0x3f).toInt64))])) _
    refine XS.iloadN X0.here hx rfl (hb hby d12_4) rfl ?_
    show Steps p.tables e below (s₁.setTop (mkF m 5 #[.val (.long q1), .second, .val (.int p2)] [(.int p2), (.long q1), (.long (q1 <<< (p2 &&& 0x3f).toInt64))])) _
    refine XS.ineg X0.here hx rfl (hb hby d12_5) rfl ?_
    show Steps p.tables e below (s₁.setTop (mkF m 6 #[.val (.long q1), .second, .val (.int p2)] [(.int (-p2)), (.long q1), (.long (q1 <<< (p2 &&& 0x3f).toInt64))])) _
    refine XS.lushr X0.here hx rfl (hb hby d12_6) rfl ?_
    show Steps p.tables e below (s₁.setTop (mkF m 7 #[.val (.long q1), .second, .val (.int p2)] [(.long ((q1.toUInt64 >>> ((-p2) &&& 0x3f).toInt64.toUInt64).toInt64)), (.long (q1 <<< (p2 &&& 0x3f).toInt64))])) _
    refine XS.lor X0.here hx rfl (hb hby d12_7) rfl ?_
    show Steps p.tables e below (s₁.setTop (mkF m 8 #[.val (.long q1), .second, .val (.int p2)] [(.long ((q1 <<< (p2 &&& 0x3f).toInt64) ||| ((q1.toUInt64 >>> ((-p2) &&& 0x3f).toInt64.toUInt64).toInt64)))])) _
    exact X0.lreturnOut hx Bd.returns (hb hby d12_8) hr
  · show QJ h0 n0 _ s₁.heap _
    rw [e0]
    exact ⟨_, rfl, N0, rfl⟩
theorem d3_0 : decode prog_68_method_5_code 0 = .ok (.lload_n 0, 1) := by decide +kernel
theorem d3_1 : decode prog_68_method_5_code 1 = .ok (.lload_n 0, 1) := by decide +kernel
theorem d3_2 : decode prog_68_method_5_code 2 = .ok (.bipush 33, 2) := by decide +kernel
theorem d3_4 : decode prog_68_method_5_code 4 = .ok (.lushr, 1) := by decide +kernel
theorem d3_5 : decode prog_68_method_5_code 5 = .ok (.lxor, 1) := by decide +kernel
theorem d3_6 : decode prog_68_method_5_code 6 = .ok (.lstore_n 0, 1) := by decide +kernel
theorem d3_7 : decode prog_68_method_5_code 7 = .ok (.lload_n 0, 1) := by decide +kernel
theorem d3_8 : decode prog_68_method_5_code 8 = .ok (.ldc2_w 45, 3) := by decide +kernel
theorem d3_11 : decode prog_68_method_5_code 11 = .ok (.lmul, 1) := by decide +kernel
theorem d3_12 : decode prog_68_method_5_code 12 = .ok (.lstore_n 0, 1) := by decide +kernel
theorem d3_13 : decode prog_68_method_5_code 13 = .ok (.lload_n 0, 1) := by decide +kernel
theorem d3_14 : decode prog_68_method_5_code 14 = .ok (.lload_n 0, 1) := by decide +kernel
theorem d3_15 : decode prog_68_method_5_code 15 = .ok (.bipush 33, 2) := by decide +kernel
theorem d3_17 : decode prog_68_method_5_code 17 = .ok (.lushr, 1) := by decide +kernel
theorem d3_18 : decode prog_68_method_5_code 18 = .ok (.lxor, 1) := by decide +kernel
theorem d3_19 : decode prog_68_method_5_code 19 = .ok (.lstore_n 0, 1) := by decide +kernel
theorem d3_20 : decode prog_68_method_5_code 20 = .ok (.lload_n 0, 1) := by decide +kernel
theorem d3_21 : decode prog_68_method_5_code 21 = .ok (.ldc2_w 47, 3) := by decide +kernel
theorem d3_24 : decode prog_68_method_5_code 24 = .ok (.lmul, 1) := by decide +kernel
theorem d3_25 : decode prog_68_method_5_code 25 = .ok (.lstore_n 0, 1) := by decide +kernel
theorem d3_26 : decode prog_68_method_5_code 26 = .ok (.lload_n 0, 1) := by decide +kernel
theorem d3_27 : decode prog_68_method_5_code 27 = .ok (.lload_n 0, 1) := by decide +kernel
theorem d3_28 : decode prog_68_method_5_code 28 = .ok (.bipush 33, 2) := by decide +kernel
theorem d3_30 : decode prog_68_method_5_code 30 = .ok (.lushr, 1) := by decide +kernel
theorem d3_31 : decode prog_68_method_5_code 31 = .ok (.lxor, 1) := by decide +kernel
theorem d3_32 : decode prog_68_method_5_code 32 = .ok (.lstore_n 0, 1) := by decide +kernel
theorem d3_33 : decode prog_68_method_5_code 33 = .ok (.lload_n 0, 1) := by decide +kernel
theorem d3_34 : decode prog_68_method_5_code 34 = .ok (.lreturn, 1) := by decide +kernel
theorem pn_3 : plainName "com/example/stratifold/stratifold/Token" = true := by first | (simp [plainName, overriddenIn]; done) | decide +kernel
theorem ef_3 (m : MethodId) (x0 : Int64) : entryFrame m #[(.long x0)] 2 = mkF m 0 #[.val (.long x0), .second] [] := by first | (simp [entryFrame, mkF, argsToLocals, Value.category]; done) | rfl
set_option maxRecDepth 65536 in
set_option maxHeartbeats 40000000 in
theorem rm3 (l : Launch) (Z : State) (a0 : Array Value) (hw : ∀ d ∈ tables_1, d.before a0 Z = true) (ws : List Jvm.Cond) (q1 : Int64) (h0 : Heap) (n0 : Nat) (Z0 : n0 ≤ h0.size) :
    MetFree l (⟨"com/example/stratifold/stratifold/Token", "finalMix", "(J)J"⟩ : MethodName) (head1 (Jvm.Cond.code (⟨"com/example/stratifold/stratifold/Token", "finalMix", "(J)J"⟩ : MethodName) prog_68_method_5_code 2 (some .long) :: ws) ({ frames := 0, cells := 0, slots := 0, locals := 0 } : Room)) (fun a U => a = #[(.long q1)] ∧ Z.Warmed39 U.vm ∧ U.heap = h0) (fun _ _ _ _ _ => True) (fun _ U o U' => ∃ v L, o = .returned v ∧ QJ h0 n0 v U'.heap L ∧ FrameEnd U o U' L ({ frames := 0, cells := 0, slots := 0, locals := 0 } : Room).cells ({ frames := 0, cells := 0, slots := 0, locals := 0 } : Room).slots) := by
  refine MetFree.of_bodySF (plainFor_of_name pn_3) hisR ?_
  intro p e s m args below meth c s₁ Bd hml0 hP hK
  obtain ⟨rfl, hZ, hh⟩ := hP
  have hx := Bd.exec
  have hby := Bd.bytes
  have hml : c.maxLocals = 2 := hml0
  have hown : s.vm.findClass "com/example/stratifold/stratifold/Token" = some m.cls := findClass_of_methodNamed Bd.named
  have hnm := (name_of_methodNamed Bd.named Bd.method).1
  have X0 : Stand p l e ({ frames := 0, cells := 0, slots := 0, locals := 0 } : Room) s m #[(.long q1)] below meth c s₁ [] 0 0 := Stand.of_body Bd
  have e0 : s₁.heap = h0 := by rw [← hh, Bd.state]; rfl
  have N0 := Fr.nil n0
  have pre0 : ∀ t, Steps p.tables e below (s₁.setTop (mkF m 0 #[.val (.long q1), .second] [])) t → Steps p.tables e below (s₁.setTop (entryFrame m #[(.long q1)] 2)) t := fun t k => castTop (ef_3 m q1) k

  obtain ⟨fs, hr, hrun, hended, hW, hsame⟩ := X0.leave (v := some (.long (((((q1 ^^^ ((q1.toUInt64 >>> ((33 : Int32) &&& 0x3f).toInt64.toUInt64).toInt64)) * (-49064778989728563 : Int64)) ^^^ ((((q1 ^^^ ((q1.toUInt64 >>> ((33 : Int32) &&& 0x3f).toInt64.toUInt64).toInt64)) * (-49064778989728563 : Int64)).toUInt64 >>> ((33 : Int32) &&& 0x3f).toInt64.toUInt64).toInt64)) * (-4265267296055464877 : Int64)) ^^^ ((((((q1 ^^^ ((q1.toUInt64 >>> ((33 : Int32) &&& 0x3f).toInt64.toUInt64).toInt64)) * (-49064778989728563 : Int64)) ^^^ ((((q1 ^^^ ((q1.toUInt64 >>> ((33 : Int32) &&& 0x3f).toInt64.toUInt64).toInt64)) * (-49064778989728563 : Int64)).toUInt64 >>> ((33 : Int32) &&& 0x3f).toInt64.toUInt64).toInt64)) * (-4265267296055464877 : Int64)).toUInt64 >>> ((33 : Int32) &&& 0x3f).toInt64.toUInt64).toInt64)))) (fun h => by rw [Bd.returns] at h; cases h)
  refine ⟨_, _, pre0 _ ?_, hrun, hended, _, _, rfl, ?_, ⟨_, rfl⟩, hW, hsame.mono (by decide) (by decide)⟩
  · show Steps p.tables e below (s₁.setTop (mkF m 0 #[.val (.long q1), .second] [])) _
    refine XS.lloadN X0.here hx rfl (hb hby d3_0) rfl ?_
    show Steps p.tables e below (s₁.setTop (mkF m 1 #[.val (.long q1), .second] [(.long q1)])) _
    refine XS.lloadN X0.here hx rfl (hb hby d3_1) rfl ?_
    show Steps p.tables e below (s₁.setTop (mkF m 2 #[.val (.long q1), .second] [(.long q1), (.long q1)])) _
    refine XS.bipush X0.here hx rfl (hb hby d3_2) ?_
    show Steps p.tables e below (s₁.setTop (mkF m 4 #[.val (.long q1), .second] [(.int (33 : Int32)), (.long q1), (.long q1)])) _
    refine XS.lushr X0.here hx rfl (hb hby d3_4) rfl ?_
    show Steps p.tables e below (s₁.setTop (mkF m 5 #[.val (.long q1), .second] [(.long ((q1.toUInt64 >>> ((33 : Int32) &&& 0x3f).toInt64.toUInt64).toInt64)), (.long q1)])) _
    refine XS.lxor X0.here hx rfl (hb hby d3_5) rfl ?_
    show Steps p.tables e below (s₁.setTop (mkF m 6 #[.val (.long q1), .second] [(.long (q1 ^^^ ((q1.toUInt64 >>> ((33 : Int32) &&& 0x3f).toInt64.toUInt64).toInt64)))])) _
    refine XS.lstoreN X0.here hx rfl (hb hby d3_6) rfl (l' := #[.val (.long (q1 ^^^ ((q1.toUInt64 >>> ((33 : Int32) &&& 0x3f).toInt64.toUInt64).toInt64))), .second]) rfl ?_
    show Steps p.tables e below (s₁.setTop (mkF m 7 #[.val (.long (q1 ^^^ ((q1.toUInt64 >>> ((33 : Int32) &&& 0x3f).toInt64.toUInt64).toInt64))), .second] [])) _
    refine XS.lloadN X0.here hx rfl (hb hby d3_7) rfl ?_
    show Steps p.tables e below (s₁.setTop (mkF m 8 #[.val (.long (q1 ^^^ ((q1.toUInt64 >>> ((33 : Int32) &&& 0x3f).toInt64.toUInt64).toInt64))), .second] [(.long (q1 ^^^ ((q1.toUInt64 >>> ((33 : Int32) &&& 0x3f).toInt64.toUInt64).toInt64)))])) _
    refine X0.ldc2Long hx hown (mvT hZ (hw _ (List.mem_of_getElem? (i := 15) rfl))) (g := (mkF m 8 #[.val (.long (q1 ^^^ ((q1.toUInt64 >>> ((33 : Int32) &&& 0x3f).toInt64.toUInt64).toInt64))), .second] [(.long (q1 ^^^ ((q1.toUInt64 >>> ((33 : Int32) &&& 0x3f).toInt64.toUInt64).toInt64)))])) rfl (hb hby d3_8) _ ?_
    show Steps p.tables e below (s₁.setTop (mkF m 11 #[.val (.long (q1 ^^^ ((q1.toUInt64 >>> ((33 : Int32) &&& 0x3f).toInt64.toUInt64).toInt64))), .second] [(.long (-49064778989728563 : Int64)), (.long (q1 ^^^ ((q1.toUInt64 >>> ((33 : Int32) &&& 0x3f).toInt64.toUInt64).toInt64)))])) _
    refine XS.lmul X0.here hx rfl (hb hby d3_11) rfl ?_
    show Steps p.tables e below (s₁.setTop (mkF m 12 #[.val (.long (q1 ^^^ ((q1.toUInt64 >>> ((33 : Int32) &&& 0x3f).toInt64.toUInt64).toInt64))), .second] [(.long ((q1 ^^^ ((q1.toUInt64 >>> ((33 : Int32) &&& 0x3f).toInt64.toUInt64).toInt64)) * (-49064778989728563 : Int64)))])) _
    refine XS.lstoreN X0.here hx rfl (hb hby d3_12) rfl (l' := #[.val (.long ((q1 ^^^ ((q1.toUInt64 >>> ((33 : Int32) &&& 0x3f).toInt64.toUInt64).toInt64)) * (-49064778989728563 : Int64))), .second]) rfl ?_
    show Steps p.tables e below (s₁.setTop (mkF m 13 #[.val (.long ((q1 ^^^ ((q1.toUInt64 >>> ((33 : Int32) &&& 0x3f).toInt64.toUInt64).toInt64)) * (-49064778989728563 : Int64))), .second] [])) _
    refine XS.lloadN X0.here hx rfl (hb hby d3_13) rfl ?_
    show Steps p.tables e below (s₁.setTop (mkF m 14 #[.val (.long ((q1 ^^^ ((q1.toUInt64 >>> ((33 : Int32) &&& 0x3f).toInt64.toUInt64).toInt64)) * (-49064778989728563 : Int64))), .second] [(.long ((q1 ^^^ ((q1.toUInt64 >>> ((33 : Int32) &&& 0x3f).toInt64.toUInt64).toInt64)) * (-49064778989728563 : Int64)))])) _
    refine XS.lloadN X0.here hx rfl (hb hby d3_14) rfl ?_
    show Steps p.tables e below (s₁.setTop (mkF m 15 #[.val (.long ((q1 ^^^ ((q1.toUInt64 >>> ((33 : Int32) &&& 0x3f).toInt64.toUInt64).toInt64)) * (-49064778989728563 : Int64))), .second] [(.long ((q1 ^^^ ((q1.toUInt64 >>> ((33 : Int32) &&& 0x3f).toInt64.toUInt64).toInt64)) * (-49064778989728563 : Int64))), (.long ((q1 ^^^ ((q1.toUInt64 >>> ((33 : Int32) &&& 0x3f).toInt64.toUInt64).toInt64)) * (-49064778989728563 : Int64)))])) _
    refine XS.bipush X0.here hx rfl (hb hby d3_15) ?_
    show Steps p.tables e below (s₁.setTop (mkF m 17 #[.val (.long ((q1 ^^^ ((q1.toUInt64 >>> ((33 : Int32) &&& 0x3f).toInt64.toUInt64).toInt64)) * (-49064778989728563 : Int64))), .second] [(.int (33 : Int32)), (.long ((q1 ^^^ ((q1.toUInt64 >>> ((33 : Int32) &&& 0x3f).toInt64.toUInt64).toInt64)) * (-49064778989728563 : Int64))), (.long ((q1 ^^^ ((q1.toUInt64 >>> ((33 : Int32) &&& 0x3f).toInt64.toUInt64).toInt64)) * (-49064778989728563 : Int64)))])) _
    refine XS.lushr X0.here hx rfl (hb hby d3_17) rfl ?_
    show Steps p.tables e below (s₁.setTop (mkF m 18 #[.val (.long ((q1 ^^^ ((q1.toUInt64 >>> ((33 : Int32) &&& 0x3f).toInt64.toUInt64).toInt64)) * (-49064778989728563 : Int64))), .second] [(.long ((((q1 ^^^ ((q1.toUInt64 >>> ((33 : Int32) &&& 0x3f).toInt64.toUInt64).toInt64)) * (-49064778989728563 : Int64)).toUInt64 >>> ((33 : Int32) &&& 0x3f).toInt64.toUInt64).toInt64)), (.long ((q1 ^^^ ((q1.toUInt64 >>> ((33 : Int32) &&& 0x3f).toInt64.toUInt64).toInt64)) * (-49064778989728563 : Int64)))])) _
    refine XS.lxor X0.here hx rfl (hb hby d3_18) rfl ?_
    show Steps p.tables e below (s₁.setTop (mkF m 19 #[.val (.long ((q1 ^^^ ((q1.toUInt64 >>> ((33 : Int32) &&& 0x3f).toInt64.toUInt64).toInt64)) * (-49064778989728563 : Int64))), .second] [(.long (((q1 ^^^ ((q1.toUInt64 >>> ((33 : Int32) &&& 0x3f).toInt64.toUInt64).toInt64)) * (-49064778989728563 : Int64)) ^^^ ((((q1 ^^^ ((q1.toUInt64 >>> ((33 : Int32) &&& 0x3f).toInt64.toUInt64).toInt64)) * (-49064778989728563 : Int64)).toUInt64 >>> ((33 : Int32) &&& 0x3f).toInt64.toUInt64).toInt64)))])) _
    refine XS.lstoreN X0.here hx rfl (hb hby d3_19) rfl (l' := #[.val (.long (((q1 ^^^ ((q1.toUInt64 >>> ((33 : Int32) &&& 0x3f).toInt64.toUInt64).toInt64)) * (-49064778989728563 : Int64)) ^^^ ((((q1 ^^^ ((q1.toUInt64 >>> ((33 : Int32) &&& 0x3f).toInt64.toUInt64).toInt64)) * (-49064778989728563 : Int64)).toUInt64 >>> ((33 : Int32) &&& 0x3f).toInt64.toUInt64).toInt64))), .second]) rfl ?_
    show Steps p.tables e below (s₁.setTop (mkF m 20 #[.val (.long (((q1 ^^^ ((q1.toUInt64 >>> ((33 : Int32) &&& 0x3f).toInt64.toUInt64).toInt64)) * (-49064778989728563 : Int64)) ^^^ ((((q1 ^^^ ((q1.toUInt64 >>> ((33 : Int32) &&& 0x3f).toInt64.toUInt64).toInt64)) * (-49064778989728563 : Int64)).toUInt64 >>> ((33 : Int32) &&& 0x3f).toInt64.toUInt64).toInt64))), .second] [])) _
    refine XS.lloadN X0.here hx rfl (hb hby d3_20) rfl ?_
    show Steps p.tables e below (s₁.setTop (mkF m 21 #[.val (.long (((q1 ^^^ ((q1.toUInt64 >>> ((33 : Int32) &&& 0x3f).toInt64.toUInt64).toInt64)) * (-49064778989728563 : Int64)) ^^^ ((((q1 ^^^ ((q1.toUInt64 >>> ((33 : Int32) &&& 0x3f).toInt64.toUInt64).toInt64)) * (-49064778989728563 : Int64)).toUInt64 >>> ((33 : Int32) &&& 0x3f).toInt64.toUInt64).toInt64))), .second] [(.long (((q1 ^^^ ((q1.toUInt64 >>> ((33 : Int32) &&& 0x3f).toInt64.toUInt64).toInt64)) * (-49064778989728563 : Int64)) ^^^ ((((q1 ^^^ ((q1.toUInt64 >>> ((33 : Int32) &&& 0x3f).toInt64.toUInt64).toInt64)) * (-49064778989728563 : Int64)).toUInt64 >>> ((33 : Int32) &&& 0x3f).toInt64.toUInt64).toInt64)))])) _
    refine X0.ldc2Long hx hown (mvT hZ (hw _ (List.mem_of_getElem? (i := 16) rfl))) (g := (mkF m 21 #[.val (.long (((q1 ^^^ ((q1.toUInt64 >>> ((33 : Int32) &&& 0x3f).toInt64.toUInt64).toInt64)) * (-49064778989728563 : Int64)) ^^^ ((((q1 ^^^ ((q1.toUInt64 >>> ((33 : Int32) &&& 0x3f).toInt64.toUInt64).toInt64)) * (-49064778989728563 : Int64)).toUInt64 >>> ((33 : Int32) &&& 0x3f).toInt64.toUInt64).toInt64))), .second] [(.long (((q1 ^^^ ((q1.toUInt64 >>> ((33 : Int32) &&& 0x3f).toInt64.toUInt64).toInt64)) * (-49064778989728563 : Int64)) ^^^ ((((q1 ^^^ ((q1.toUInt64 >>> ((33 : Int32) &&& 0x3f).toInt64.toUInt64).toInt64)) * (-49064778989728563 : Int64)).toUInt64 >>> ((33 : Int32) &&& 0x3f).toInt64.toUInt64).toInt64)))])) rfl (hb hby d3_21) _ ?_
    show Steps p.tables e below (s₁.setTop (mkF m 24 #[.val (.long (((q1 ^^^ ((q1.toUInt64 >>> ((33 : Int32) &&& 0x3f).toInt64.toUInt64).toInt64)) * (-49064778989728563 : Int64)) ^^^ ((((q1 ^^^ ((q1.toUInt64 >>> ((33 : Int32) &&& 0x3f).toInt64.toUInt64).toInt64)) * (-49064778989728563 : Int64)).toUInt64 >>> ((33 : Int32) &&& 0x3f).toInt64.toUInt64).toInt64))), .second] [(.long (-4265267296055464877 : Int64)), (.long (((q1 ^^^ ((q1.toUInt64 >>> ((33 : Int32) &&& 0x3f).toInt64.toUInt64).toInt64)) * (-49064778989728563 : Int64)) ^^^ ((((q1 ^^^ ((q1.toUInt64 >>> ((33 : Int32) &&& 0x3f).toInt64.toUInt64).toInt64)) * (-49064778989728563 : Int64)).toUInt64 >>> ((33 : Int32) &&& 0x3f).toInt64.toUInt64).toInt64)))])) _
    refine XS.lmul X0.here hx rfl (hb hby d3_24) rfl ?_
    show Steps p.tables e below (s₁.setTop (mkF m 25 #[.val (.long (((q1 ^^^ ((q1.toUInt64 >>> ((33 : Int32) &&& 0x3f).toInt64.toUInt64).toInt64)) * (-49064778989728563 : Int64)) ^^^ ((((q1 ^^^ ((q1.toUInt64 >>> ((33 : Int32) &&& 0x3f).toInt64.toUInt64).toInt64)) * (-49064778989728563 : Int64)).toUInt64 >>> ((33 : Int32) &&& 0x3f).toInt64.toUInt64).toInt64))), .second] [(.long ((((q1 ^^^ ((q1.toUInt64 >>> ((33 : Int32) &&& 0x3f).toInt64.toUInt64).toInt64)) * (-49064778989728563 : Int64)) ^^^ ((((q1 ^^^ ((q1.toUInt64 >>> ((33 : Int32) &&& 0x3f).toInt64.toUInt64).toInt64)) * (-49064778989728563 : Int64)).toUInt64 >>> ((33 : Int32) &&& 0x3f).toInt64.toUInt64).toInt64)) * (-4265267296055464877 : Int64)))])) _
    refine XS.lstoreN X0.here hx rfl (hb hby d3_25) rfl (l' := #[.val (.long ((((q1 ^^^ ((q1.toUInt64 >>> ((33 : Int32) &&& 0x3f).toInt64.toUInt64).toInt64)) * (-49064778989728563 : Int64)) ^^^ ((((q1 ^^^ ((q1.toUInt64 >>> ((33 : Int32) &&& 0x3f).toInt64.toUInt64).toInt64)) * (-49064778989728563 : Int64)).toUInt64 >>> ((33 : Int32) &&& 0x3f).toInt64.toUInt64).toInt64)) * (-4265267296055464877 : Int64))), .second]) rfl ?_
    show Steps p.tables e below (s₁.setTop (mkF m 26 #[.val (.long ((((q1 ^^^ ((q1.toUInt64 >>> ((33 : Int32) &&& 0x3f).toInt64.toUInt64).toInt64)) * (-49064778989728563 : Int64)) ^^^ ((((q1 ^^^ ((q1.toUInt64 >>> ((33 : Int32) &&& 0x3f).toInt64.toUInt64).toInt64)) * (-49064778989728563 : Int64)).toUInt64 >>> ((33 : Int32) &&& 0x3f).toInt64.toUInt64).toInt64)) * (-4265267296055464877 : Int64))), .second] [])) _
    refine XS.lloadN X0.here hx rfl (hb hby d3_26) rfl ?_
    show Steps p.tables e below (s₁.setTop (mkF m 27 #[.val (.long ((((q1 ^^^ ((q1.toUInt64 >>> ((33 : Int32) &&& 0x3f).toInt64.toUInt64).toInt64)) * (-49064778989728563 : Int64)) ^^^ ((((q1 ^^^ ((q1.toUInt64 >>> ((33 : Int32) &&& 0x3f).toInt64.toUInt64).toInt64)) * (-49064778989728563 : Int64)).toUInt64 >>> ((33 : Int32) &&& 0x3f).toInt64.toUInt64).toInt64)) * (-4265267296055464877 : Int64))), .second] [(.long ((((q1 ^^^ ((q1.toUInt64 >>> ((33 : Int32) &&& 0x3f).toInt64.toUInt64).toInt64)) * (-49064778989728563 : Int64)) ^^^ ((((q1 ^^^ ((q1.toUInt64 >>> ((33 : Int32) &&& 0x3f).toInt64.toUInt64).toInt64)) * (-49064778989728563 : Int64)).toUInt64 >>> ((33 : Int32) &&& 0x3f).toInt64.toUInt64).toInt64)) * (-4265267296055464877 : Int64)))])) _
    refine XS.lloadN X0.here hx rfl (hb hby d3_27) rfl ?_
    show Steps p.tables e below (s₁.setTop (mkF m 28 #[.val (.long ((((q1 ^^^ ((q1.toUInt64 >>> ((33 : Int32) &&& 0x3f).toInt64.toUInt64).toInt64)) * (-49064778989728563 : Int64)) ^^^ ((((q1 ^^^ ((q1.toUInt64 >>> ((33 : Int32) &&& 0x3f).toInt64.toUInt64).toInt64)) * (-49064778989728563 : Int64)).toUInt64 >>> ((33 : Int32) &&& 0x3f).toInt64.toUInt64).toInt64)) * (-4265267296055464877 : Int64))), .second] [(.long ((((q1 ^^^ ((q1.toUInt64 >>> ((33 : Int32) &&& 0x3f).toInt64.toUInt64).toInt64)) * (-49064778989728563 : Int64)) ^^^ ((((q1 ^^^ ((q1.toUInt64 >>> ((33 : Int32) &&& 0x3f).toInt64.toUInt64).toInt64)) * (-49064778989728563 : Int64)).toUInt64 >>> ((33 : Int32) &&& 0x3f).toInt64.toUInt64).toInt64)) * (-4265267296055464877 : Int64))), (.long ((((q1 ^^^ ((q1.toUInt64 >>> ((33 : Int32) &&& 0x3f).toInt64.toUInt64).toInt64)) * (-49064778989728563 : Int64)) ^^^ ((((q1 ^^^ ((q1.toUInt64 >>> ((33 : Int32) &&& 0x3f).toInt64.toUInt64).toInt64)) * (-49064778989728563 : Int64)).toUInt64 >>> ((33 : Int32) &&& 0x3f).toInt64.toUInt64).toInt64)) * (-4265267296055464877 : Int64)))])) _
    refine XS.bipush X0.here hx rfl (hb hby d3_28) ?_
    show Steps p.tables e below (s₁.setTop (mkF m 30 #[.val (.long ((((q1 ^^^ ((q1.toUInt64 >>> ((33 : Int32) &&& 0x3f).toInt64.toUInt64).toInt64)) * (-49064778989728563 : Int64)) ^^^ ((((q1 ^^^ ((q1.toUInt64 >>> ((33 : Int32) &&& 0x3f).toInt64.toUInt64).toInt64)) * (-49064778989728563 : Int64)).toUInt64 >>> ((33 : Int32) &&& 0x3f).toInt64.toUInt64).toInt64)) * (-4265267296055464877 : Int64))), .second] [(.int (33 : Int32)), (.long ((((q1 ^^^ ((q1.toUInt64 >>> ((33 : Int32) &&& 0x3f).toInt64.toUInt64).toInt64)) * (-49064778989728563 : Int64)) ^^^ ((((q1 ^^^ ((q1.toUInt64 >>> ((33 : Int32) &&& 0x3f).toInt64.toUInt64).toInt64)) * (-49064778989728563 : Int64)).toUInt64 >>> ((33 : Int32) &&& 0x3f).toInt64.toUInt64).toInt64)) * (-4265267296055464877 : Int64))), (.long ((((q1 ^^^ ((q1.toUInt64 >>> ((33 : Int32) &&& 0x3f).toInt64.toUInt64).toInt64)) * (-49064778989728563 : Int64)) ^^^ ((((q1 ^^^ ((q1.toUInt64 >>> ((33 : Int32) &&& 0x3f).toInt64.toUInt64).toInt64)) * (-49064778989728563 : Int64)).toUInt64 >>> ((33 : Int32) &&& 0x3f).toInt64.toUInt64).toInt64)) * (-4265267296055464877 : Int64)))])) _
    refine XS.lushr X0.here hx rfl (hb hby d3_30) rfl ?_
    show Steps p.tables e below (s₁.setTop (mkF m 31 #[.val (.long ((((q1 ^^^ ((q1.toUInt64 >>> ((33 : Int32) &&& 0x3f).toInt64.toUInt64).toInt64)) * (-49064778989728563 : Int64)) ^^^ ((((q1 ^^^ ((q1.toUInt64 >>> ((33 : Int32) &&& 0x3f).toInt64.toUInt64).toInt64)) * (-49064778989728563 : Int64)).toUInt64 >>> ((33 : Int32) &&& 0x3f).toInt64.toUInt64).toInt64)) * (-4265267296055464877 : Int64))), .second] [(.long ((((((q1 ^^^ ((q1.toUInt64 >>> ((33 : Int32) &&& 0x3f).toInt64.toUInt64).toInt64)) * (-49064778989728563 : Int64)) ^^^ ((((q1 ^^^ ((q1.toUInt64 >>> ((33 : Int32) &&& 0x3f).toInt64.toUInt64).toInt64)) * (-49064778989728563 : Int64)).toUInt64 >>> ((33 : Int32) &&& 0x3f).toInt64.toUInt64).toInt64)) * (-4265267296055464877 : Int64)).toUInt64 >>> ((33 : Int32) &&& 0x3f).toInt64.toUInt64).toInt64)), (.long ((((q1 ^^^ ((q1.toUInt64 >>> ((33 : Int32) &&& 0x3f).toInt64.toUInt64).toInt64)) * (-49064778989728563 : Int64)) ^^^ ((((q1 ^^^ ((q1.toUInt64 >>> ((33 : Int32) &&& 0x3f).toInt64.toUInt64).toInt64)) * (-49064778989728563 : Int64)).toUInt64 >>> ((33 : Int32) &&& 0x3f).toInt64.toUInt64).toInt64)) * (-4265267296055464877 : Int64)))])) _
    refine XS.lxor X0.here hx rfl (hb hby d3_31) rfl ?_
    show Steps p.tables e below (s₁.setTop (mkF m 32 #[.val (.long ((((q1 ^^^ ((q1.toUInt64 >>> ((33 : Int32) &&& 0x3f).toInt64.toUInt64).toInt64)) * (-49064778989728563 : Int64)) ^^^ ((((q1 ^^^ ((q1.toUInt64 >>> ((33 : Int32) &&& 0x3f).toInt64.toUInt64).toInt64)) * (-49064778989728563 : Int64)).toUInt64 >>> ((33 : Int32) &&& 0x3f).toInt64.toUInt64).toInt64)) * (-4265267296055464877 : Int64))), .second] [(.long (((((q1 ^^^ ((q1.toUInt64 >>> ((33 : Int32) &&& 0x3f).toInt64.toUInt64).toInt64)) * (-49064778989728563 : Int64)) ^^^ ((((q1 ^^^ ((q1.toUInt64 >>> ((33 : Int32) &&& 0x3f).toInt64.toUInt64).toInt64)) * (-49064778989728563 : Int64)).toUInt64 >>> ((33 : Int32) &&& 0x3f).toInt64.toUInt64).toInt64)) * (-4265267296055464877 : Int64)) ^^^ ((((((q1 ^^^ ((q1.toUInt64 >>> ((33 : Int32) &&& 0x3f).toInt64.toUInt64).toInt64)) * (-49064778989728563 : Int64)) ^^^ ((((q1 ^^^ ((q1.toUInt64 >>> ((33 : Int32) &&& 0x3f).toInt64.toUInt64).toInt64)) * (-49064778989728563 : Int64)).toUInt64 >>> ((33 : Int32) &&& 0x3f).toInt64.toUInt64).toInt64)) * (-4265267296055464877 : Int64)).toUInt64 >>> ((33 : Int32) &&& 0x3f).toInt64.toUInt64).toInt64)))])) _
    refine XS.lstoreN X0.here hx rfl (hb hby d3_32) rfl (l' := #[.val (.long (((((q1 ^^^ ((q1.toUInt64 >>> ((33 : Int32) &&& 0x3f).toInt64.toUInt64).toInt64)) * (-49064778989728563 : Int64)) ^^^ ((((q1 ^^^ ((q1.toUInt64 >>> ((33 : Int32) &&& 0x3f).toInt64.toUInt64).toInt64)) * (-49064778989728563 : Int64)).toUInt64 >>> ((33 : Int32) &&& 0x3f).toInt64.toUInt64).toInt64)) * (-4265267296055464877 : Int64)) ^^^ ((((((q1 ^^^ ((q1.toUInt64 >>> ((33 : Int32) &&& 0x3f).toInt64.toUInt64).toInt64)) * (-49064778989728563 : Int64)) ^^^ ((((q1 ^^^ ((q1.toUInt64 >>> ((33 : Int32) &&& 0x3f).toInt64.toUInt64).toInt64)) * (-49064778989728563 : Int64)).toUInt64 >>> ((33 : Int32) &&& 0x3f).toInt64.toUInt64).toInt64)) * (-4265267296055464877 : Int64)).toUInt64 >>> ((33 : Int32) &&& 0x3f).toInt64.toUInt64).toInt64))), .second]) rfl ?_
    show Steps p.tables e below (s₁.setTop (mkF m 33 #[.val (.long (((((q1 ^^^ ((q1.toUInt64 >>> ((33 : Int32) &&& 0x3f).toInt64.toUInt64).toInt64)) * (-49064778989728563 : Int64)) ^^^ ((((q1 ^^^ ((q1.toUInt64 >>> ((33 : Int32) &&& 0x3f).toInt64.toUInt64).toInt64)) * (-49064778989728563 : Int64)).toUInt64 >>> ((33 : Int32) &&& 0x3f).toInt64.toUInt64).toInt64)) * (-4265267296055464877 : Int64)) ^^^ ((((((q1 ^^^ ((q1.toUInt64 >>> ((33 : Int32) &&& 0x3f).toInt64.toUInt64).toInt64)) * (-49064778989728563 : Int64)) ^^^ ((((q1 ^^^ ((q1.toUInt64 >>> ((33 : Int32) &&& 0x3f).toInt64.toUInt64).toInt64)) * (-49064778989728563 : Int64)).toUInt64 >>> ((33 : Int32) &&& 0x3f).toInt64.toUInt64).toInt64)) * (-4265267296055464877 : Int64)).toUInt64 >>> ((33 : Int32) &&& 0x3f).toInt64.toUInt64).toInt64))), .second] [])) _
    refine XS.lloadN X0.here hx rfl (hb hby d3_33) rfl ?_
    show Steps p.tables e below (s₁.setTop (mkF m 34 #[.val (.long (((((q1 ^^^ ((q1.toUInt64 >>> ((33 : Int32) &&& 0x3f).toInt64.toUInt64).toInt64)) * (-49064778989728563 : Int64)) ^^^ ((((q1 ^^^ ((q1.toUInt64 >>> ((33 : Int32) &&& 0x3f).toInt64.toUInt64).toInt64)) * (-49064778989728563 : Int64)).toUInt64 >>> ((33 : Int32) &&& 0x3f).toInt64.toUInt64).toInt64)) * (-4265267296055464877 : Int64)) ^^^ ((((((q1 ^^^ ((q1.toUInt64 >>> ((33 : Int32) &&& 0x3f).toInt64.toUInt64).toInt64)) * (-49064778989728563 : Int64)) ^^^ ((((q1 ^^^ ((q1.toUInt64 >>> ((33 : Int32) &&& 0x3f).toInt64.toUInt64).toInt64)) * (-49064778989728563 : Int64)).toUInt64 >>> ((33 : Int32) &&& 0x3f).toInt64.toUInt64).toInt64)) * (-4265267296055464877 : Int64)).toUInt64 >>> ((33 : Int32) &&& 0x3f).toInt64.toUInt64).toInt64))), .second] [(.long (((((q1 ^^^ ((q1.toUInt64 >>> ((33 : Int32) &&& 0x3f).toInt64.toUInt64).toInt64)) * (-49064778989728563 : Int64)) ^^^ ((((q1 ^^^ ((q1.toUInt64 >>> ((33 : Int32) &&& 0x3f).toInt64.toUInt64).toInt64)) * (-49064778989728563 : Int64)).toUInt64 >>> ((33 : Int32) &&& 0x3f).toInt64.toUInt64).toInt64)) * (-4265267296055464877 : Int64)) ^^^ ((((((q1 ^^^ ((q1.toUInt64 >>> ((33 : Int32) &&& 0x3f).toInt64.toUInt64).toInt64)) * (-49064778989728563 : Int64)) ^^^ ((((q1 ^^^ ((q1.toUInt64 >>> ((33 : Int32) &&& 0x3f).toInt64.toUInt64).toInt64)) * (-49064778989728563 : Int64)).toUInt64 >>> ((33 : Int32) &&& 0x3f).toInt64.toUInt64).toInt64)) * (-4265267296055464877 : Int64)).toUInt64 >>> ((33 : Int32) &&& 0x3f).toInt64.toUInt64).toInt64)))])) _
    exact X0.lreturnOut hx Bd.returns (hb hby d3_34) hr
  · show QJ h0 n0 _ s₁.heap _
    rw [e0]
    exact ⟨_, rfl, N0, rfl⟩
theorem d14_0 : decode prog_68_method_3_code 0 = .ok (.lload_n 0, 1) := by decide +kernel
theorem d14_1 : decode prog_68_method_3_code 1 = .ok (.ldc2_w 41, 3) := by decide +kernel
theorem d14_4 : decode prog_68_method_3_code 4 = .ok (.lmul, 1) := by decide +kernel
theorem d14_5 : decode prog_68_method_3_code 5 = .ok (.bipush 31, 2) := by decide +kernel
theorem d14_7 : decode prog_68_method_3_code 7 = .ok (.invokestatic 17, 3) := by decide +kernel
theorem d14_10 : decode prog_68_method_3_code 10 = .ok (.ldc2_w 43, 3) := by decide +kernel
theorem d14_13 : decode prog_68_method_3_code 13 = .ok (.lmul, 1) := by decide +kernel
theorem d14_14 : decode prog_68_method_3_code 14 = .ok (.lreturn, 1) := by decide +kernel
theorem pn_14 : plainName "com/example/stratifold/stratifold/Token" = true := by first | (simp [plainName, overriddenIn]; done) | decide +kernel
theorem pd_14_9 : parseMethodDescriptor "(JI)J" = some ⟨[.long, .int], some .long⟩ := by decide +kernel
theorem ef_14 (m : MethodId) (x0 : Int64) : entryFrame m #[(.long x0)] 2 = mkF m 0 #[.val (.long x0), .second] [] := by first | (simp [entryFrame, mkF, argsToLocals, Value.category]; done) | rfl
set_option maxRecDepth 65536 in
set_option maxHeartbeats 40000000 in
theorem rm14 (l : Launch) (Z : State) (a0 : Array Value) (hw : ∀ d ∈ tables_1, d.before a0 Z = true) (ws : List Jvm.Cond) (q1 : Int64) (h0 : Heap) (n0 : Nat) (Z0 : n0 ≤ h0.size) :
    MetFree l (⟨"com/example/stratifold/stratifold/Token", "mixK1", "(J)J"⟩ : MethodName) (head1 (Jvm.Cond.code (⟨"com/example/stratifold/stratifold/Token", "mixK1", "(J)J"⟩ : MethodName) prog_68_method_3_code 2 (some .long) :: ws) ({ frames := 1, cells := 0, slots := 0, locals := 14 } : Room)) (fun a U => a = #[(.long q1)] ∧ Z.Warmed39 U.vm ∧ U.heap = h0) (fun _ _ _ _ _ => True) (fun _ U o U' => ∃ v L, o = .returned v ∧ QJ h0 n0 v U'.heap L ∧ FrameEnd U o U' L ({ frames := 1, cells := 0, slots := 0, locals := 14 } : Room).cells ({ frames := 1, cells := 0, slots := 0, locals := 14 } : Room).slots) := by
  refine MetFree.of_bodySF (plainFor_of_name pn_14) hisR ?_
  intro p e s m args below meth c s₁ Bd hml0 hP hK
  obtain ⟨rfl, hZ, hh⟩ := hP
  have hx := Bd.exec
  have hby := Bd.bytes
  have hml : c.maxLocals = 2 := hml0
  have hown : s.vm.findClass "com/example/stratifold/stratifold/Token" = some m.cls := findClass_of_methodNamed Bd.named
  have hnm := (name_of_methodNamed Bd.named Bd.method).1
  have X0 : Stand p l e ({ frames := 1, cells := 0, slots := 0, locals := 14 } : Room) s m #[(.long q1)] below meth c s₁ [] 0 0 := Stand.of_body Bd
  have e0 : s₁.heap = h0 := by rw [← hh, Bd.state]; rfl
  have N0 := Fr.nil n0
  have pre0 : ∀ t, Steps p.tables e below (s₁.setTop (mkF m 0 #[.val (.long q1), .second] [])) t → Steps p.tables e below (s₁.setTop (entryFrame m #[(.long q1)] 2)) t := fun t k => castTop (ef_14 m q1) k
  obtain ⟨_, _, ⟨T2, L2, k2, n2⟩, -, X2, ⟨Lc2, hQ2, l2, y2, z2⟩, st2⟩ := Jvm.LawKit.callS X0 hx (y := (⟨"java/lang/Long", "rotateLeft", "(JI)J"⟩ : MethodName)) hown (mvT hZ (hw _ (List.mem_of_getElem? (i := 57) rfl))) (mvT hZ (hw _ (List.mem_of_getElem? (i := 58) rfl))) (mvT hZ (hw _ (List.mem_of_getElem? (i := 59) rfl))) (mvT hZ (hw _ (List.mem_of_getElem? (i := 60) rfl))) (by decide) (backOf (W := 0) (rm12 l Z a0 hw [] (q1 * (-8663945395140668459 : Int64)) (31 : Int32) h0 n0 Z0) hZ (hw _ (List.mem_of_getElem? (i := 60) rfl)) (hw _ (List.mem_of_getElem? (i := 59) rfl)) (by decide) (by decide)) (g := (mkF m 7 #[.val (.long q1), .second] [(.int (31 : Int32)), (.long (q1 * (-8663945395140668459 : Int64)))])) rfl (by rw [hml]; rfl) (argsL := [(.long (q1 * (-8663945395140668459 : Int64))), (.int (31 : Int32))]) (rest := []) (lenOf pd_14_9 rfl) rfl (by show 2 * 0 + _ ≤ _; exact Nat.le_of_eq rfl) (hb hby d14_7) (fun _ _ => ⟨rfl, e0, (Nat.le_of_ble_eq_true rfl), (Nat.le_of_ble_eq_true rfl)⟩)
  dsimp only [Pt.U, Pt.locs, Pt.cells, Pt.slots] at X2 l2 y2 z2 st2 hQ2
  subst l2 y2 z2
  obtain ⟨r2, rfl, N2q, hEL⟩ := hQ2
  have N2 := Fr.app N0 N2q
  obtain ⟨fs, hr, hrun, hended, hW, hsame⟩ := X2.leave (v := some (.long (r2 * (5545529020109919103 : Int64)))) (fun h => by rw [Bd.returns] at h; cases h)
  refine ⟨_, _, pre0 _ ?_, hrun, hended, _, _, rfl, ?_, ⟨_, rfl⟩, hW, hsame.mono (by decide) (by decide)⟩
  · show Steps p.tables e below (s₁.setTop (mkF m 0 #[.val (.long q1), .second] [])) _
    refine XS.lloadN X0.here hx rfl (hb hby d14_0) rfl ?_
    show Steps p.tables e below (s₁.setTop (mkF m 1 #[.val (.long q1), .second] [(.long q1)])) _
    refine X0.ldc2Long hx hown (mvT hZ (hw _ (List.mem_of_getElem? (i := 61) rfl))) (g := (mkF m 1 #[.val (.long q1), .second] [(.long q1)])) rfl (hb hby d14_1) _ ?_
    show Steps p.tables e below (s₁.setTop (mkF m 4 #[.val (.long q1), .second] [(.long (-8663945395140668459 : Int64)), (.long q1)])) _
    refine XS.lmul X0.here hx rfl (hb hby d14_4) rfl ?_
    show Steps p.tables e below (s₁.setTop (mkF m 5 #[.val (.long q1), .second] [(.long (q1 * (-8663945395140668459 : Int64)))])) _
    refine XS.bipush X0.here hx rfl (hb hby d14_5) ?_
    show Steps p.tables e below (s₁.setTop (mkF m 7 #[.val (.long q1), .second] [(.int (31 : Int32)), (.long (q1 * (-8663945395140668459 : Int64)))])) _
    refine st2 _ ?_
    show Steps p.tables e below (T2.setTop (mkF m 10 #[.val (.long q1), .second] [(.long r2)])) _
    refine X2.ldc2Long hx hown (mvT hZ (hw _ (List.mem_of_getElem? (i := 56) rfl))) (g := (mkF m 10 #[.val (.long q1), .second] [(.long r2)])) rfl (hb hby d14_10) _ ?_
    show Steps p.tables e below (T2.setTop (mkF m 13 #[.val (.long q1), .second] [(.long (5545529020109919103 : Int64)), (.long r2)])) _
    refine XS.lmul X2.here hx rfl (hb hby d14_13) rfl ?_
    show Steps p.tables e below (T2.setTop (mkF m 14 #[.val (.long q1), .second] [(.long (r2 * (5545529020109919103 : Int64)))])) _
    exact X2.lreturnOut hx Bd.returns (hb hby d14_14) hr
  · show QJ h0 n0 _ T2.heap _
    exact ⟨_, rfl, N2, hEL⟩
theorem d11_0 : decode prog_68_method_4_code 0 = .ok (.lload_n 0, 1) := by decide +kernel
theorem d11_1 : decode prog_68_method_4_code 1 = .ok (.ldc2_w 43, 3) := by decide +kernel
theorem d11_4 : decode prog_68_method_4_code 4 = .ok (.lmul, 1) := by decide +kernel
theorem d11_5 : decode prog_68_method_4_code 5 = .ok (.bipush 33, 2) := by decide +kernel
theorem d11_7 : decode prog_68_method_4_code 7 = .ok (.invokestatic 17, 3) := by decide +kernel
theorem d11_10 : decode prog_68_method_4_code 10 = .ok (.ldc2_w 41, 3) := by decide +kernel
theorem d11_13 : decode prog_68_method_4_code 13 = .ok (.lmul, 1) := by decide +kernel
theorem d11_14 : decode prog_68_method_4_code 14 = .ok (.lreturn, 1) := by decide +kernel
theorem pn_11 : plainName "com/example/stratifold/stratifold/Token" = true := by first | (simp [plainName, overriddenIn]; done) | decide +kernel
theorem pd_11_9 : parseMethodDescriptor "(JI)J" = some ⟨[.long, .int], some .long⟩ := by decide +kernel
theorem ef_11 (m : MethodId) (x0 : Int64) : entryFrame m #[(.long x0)] 2 = mkF m 0 #[.val (.long x0), .second] [] := by first | (simp [entryFrame, mkF, argsToLocals, Value.category]; done) | rfl
set_option maxRecDepth 65536 in
set_option maxHeartbeats 40000000 in
theorem rm11 (l : Launch) (Z : State) (a0 : Array Value) (hw : ∀ d ∈ tables_1, d.before a0 Z = true) (ws : List Jvm.Cond) (q1 : Int64) (h0 : Heap) (n0 : Nat) (Z0 : n0 ≤ h0.size) :
    MetFree l (⟨"com/example/stratifold/stratifold/Token", "mixK2", "(J)J"⟩ : MethodName) (head1 (Jvm.Cond.code (⟨"com/example/stratifold/stratifold/Token", "mixK2", "(J)J"⟩ : MethodName) prog_68_method_4_code 2 (some .long) :: ws) ({ frames := 1, cells := 0, slots := 0, locals := 14 } : Room)) (fun a U => a = #[(.long q1)] ∧ Z.Warmed39 U.vm ∧ U.heap = h0) (fun _ _ _ _ _ => True) (fun _ U o U' => ∃ v L, o = .returned v ∧ QJ h0 n0 v U'.heap L ∧ FrameEnd U o U' L ({ frames := 1, cells := 0, slots := 0, locals := 14 } : Room).cells ({ frames := 1, cells := 0, slots := 0, locals := 14 } : Room).slots) := by
  refine MetFree.of_bodySF (plainFor_of_name pn_11) hisR ?_
  intro p e s m args below meth c s₁ Bd hml0 hP hK
  obtain ⟨rfl, hZ, hh⟩ := hP
  have hx := Bd.exec
  have hby := Bd.bytes
  have hml : c.maxLocals = 2 := hml0
  have hown : s.vm.findClass "com/example/stratifold/stratifold/Token" = some m.cls := findClass_of_methodNamed Bd.named
  have hnm := (name_of_methodNamed Bd.named Bd.method).1
  have X0 : Stand p l e ({ frames := 1, cells := 0, slots := 0, locals := 14 } : Room) s m #[(.long q1)] below meth c s₁ [] 0 0 := Stand.of_body Bd
  have e0 : s₁.heap = h0 := by rw [← hh, Bd.state]; rfl
  have N0 := Fr.nil n0
  have pre0 : ∀ t, Steps p.tables e below (s₁.setTop (mkF m 0 #[.val (.long q1), .second] [])) t → Steps p.tables e below (s₁.setTop (entryFrame m #[(.long q1)] 2)) t := fun t k => castTop (ef_11 m q1) k
  obtain ⟨_, _, ⟨T2, L2, k2, n2⟩, -, X2, ⟨Lc2, hQ2, l2, y2, z2⟩, st2⟩ := Jvm.LawKit.callS X0 hx (y := (⟨"java/lang/Long", "rotateLeft", "(JI)J"⟩ : MethodName)) hown (mvT hZ (hw _ (List.mem_of_getElem? (i := 57) rfl))) (mvT hZ (hw _ (List.mem_of_getElem? (i := 58) rfl))) (mvT hZ (hw _ (List.mem_of_getElem? (i := 59) rfl))) (mvT hZ (hw _ (List.mem_of_getElem? (i := 60) rfl))) (by decide) (backOf (W := 0) (rm12 l Z a0 hw [] (q1 * (5545529020109919103 : Int64)) (33 : Int32) h0 n0 Z0) hZ (hw _ (List.mem_of_getElem? (i := 60) rfl)) (hw _ (List.mem_of_getElem? (i := 59) rfl)) (by decide) (by decide)) (g := (mkF m 7 #[.val (.long q1), .second] [(.int (33 : Int32)), (.long (q1 * (5545529020109919103 : Int64)))])) rfl (by rw [hml]; rfl) (argsL := [(.long (q1 * (5545529020109919103 : Int64))), (.int (33 : Int32))]) (rest := []) (lenOf pd_11_9 rfl) rfl (by show 2 * 0 + _ ≤ _; exact Nat.le_of_eq rfl) (hb hby d11_7) (fun _ _ => ⟨rfl, e0, (Nat.le_of_ble_eq_true rfl), (Nat.le_of_ble_eq_true rfl)⟩)
  dsimp only [Pt.U, Pt.locs, Pt.cells, Pt.slots] at X2 l2 y2 z2 st2 hQ2
  subst l2 y2 z2
  obtain ⟨r2, rfl, N2q, hEL⟩ := hQ2
  have N2 := Fr.app N0 N2q
  obtain ⟨fs, hr, hrun, hended, hW, hsame⟩ := X2.leave (v := some (.long (r2 * (-8663945395140668459 : Int64)))) (fun h => by rw [Bd.returns] at h; cases h)
  refine ⟨_, _, pre0 _ ?_, hrun, hended, _, _, rfl, ?_, ⟨_, rfl⟩, hW, hsame.mono (by decide) (by decide)⟩
  · show Steps p.tables e below (s₁.setTop (mkF m 0 #[.val (.long q1), .second] [])) _
    refine XS.lloadN X0.here hx rfl (hb hby d11_0) rfl ?_
    show Steps p.tables e below (s₁.setTop (mkF m 1 #[.val (.long q1), .second] [(.long q1)])) _
    refine X0.ldc2Long hx hown (mvT hZ (hw _ (List.mem_of_getElem? (i := 56) rfl))) (g := (mkF m 1 #[.val (.long q1), .second] [(.long q1)])) rfl (hb hby d11_1) _ ?_
    show Steps p.tables e below (s₁.setTop (mkF m 4 #[.val (.long q1), .second] [(.long (5545529020109919103 : Int64)), (.long q1)])) _
    refine XS.lmul X0.here hx rfl (hb hby d11_4) rfl ?_
    show Steps p.tables e below (s₁.setTop (mkF m 5 #[.val (.long q1), .second] [(.long (q1 * (5545529020109919103 : Int64)))])) _
    refine XS.bipush X0.here hx rfl (hb hby d11_5) ?_
    show Steps p.tables e below (s₁.setTop (mkF m 7 #[.val (.long q1), .second] [(.int (33 : Int32)), (.long (q1 * (5545529020109919103 : Int64)))])) _
    refine st2 _ ?_
    show Steps p.tables e below (T2.setTop (mkF m 10 #[.val (.long q1), .second] [(.long r2)])) _
    refine X2.ldc2Long hx hown (mvT hZ (hw _ (List.mem_of_getElem? (i := 61) rfl))) (g := (mkF m 10 #[.val (.long q1), .second] [(.long r2)])) rfl (hb hby d11_10) _ ?_
    show Steps p.tables e below (T2.setTop (mkF m 13 #[.val (.long q1), .second] [(.long (-8663945395140668459 : Int64)), (.long r2)])) _
    refine XS.lmul X2.here hx rfl (hb hby d11_13) rfl ?_
    show Steps p.tables e below (T2.setTop (mkF m 14 #[.val (.long q1), .second] [(.long (r2 * (-8663945395140668459 : Int64)))])) _
    exact X2.lreturnOut hx Bd.returns (hb hby d11_14) hr
  · show QJ h0 n0 _ T2.heap _
    exact ⟨_, rfl, N2, hEL⟩
theorem d13_0 : decode jdk_29_method_69_code 0 = .ok (.iload_n 0, 1) := by decide +kernel
theorem d13_1 : decode jdk_29_method_69_code 1 = .ok (.iload_n 1, 1) := by decide +kernel
theorem d13_2 : decode jdk_29_method_69_code 2 = .ok (.if_icmp .gt 7, 3) := by decide +kernel
theorem d13_5 : decode jdk_29_method_69_code 5 = .ok (.iload_n 0, 1) := by decide +kernel
theorem d13_6 : decode jdk_29_method_69_code 6 = .ok (.goto 4, 3) := by decide +kernel
theorem d13_10 : decode jdk_29_method_69_code 10 = .ok (.ireturn, 1) := by decide +kernel
theorem ef_13 (m : MethodId) (x0 : Int32) (x1 : Int32) : entryFrame m #[(.int x0), (.int x1)] 2 = mkF m 0 #[.val (.int x0), .val (.int x1)] [] := by first | (simp [entryFrame, mkF, argsToLocals, Value.category]; done) | rfl
def Q13_f (Z : State) (p1 : Int32) (p2 : Int32) (h0 : Heap) (n0 : Nat) (v : Option Value) (h : Heap) (L : List Loc) : Prop := v = some (.int p1) ∧ Fr n0 L ∧ h = h0
set_option maxRecDepth 65536 in
set_option maxHeartbeats 40000000 in
theorem rm13_f (l : Launch) (Z : State) (a0 : Array Value) (hw : ∀ d ∈ tables_1, d.before a0 Z = true) (ws : List Jvm.Cond) (p1 : Int32) (p2 : Int32) (h0 : Heap) (n0 : Nat) (Z0 : n0 ≤ h0.size) (hc2 : ¬ (p2 < p1)) :
    MetFree l (⟨"java/lang/Math", "min", "(II)I"⟩ : MethodName) (head1 (Jvm.Cond.code (⟨"java/lang/Math", "min", "(II)I"⟩ : MethodName) jdk_29_method_69_code 2 (some .int) :: ws) ({ frames := 0, cells := 0, slots := 0, locals := 0 } : Room)) (fun a U => a = #[(.int p1), (.int p2)] ∧ Z.Warmed39 U.vm ∧ U.heap = h0) (fun _ _ _ _ _ => True) (fun _ U o U' => ∃ v L, o = .returned v ∧ Q13_f Z p1 p2 h0 n0 v U'.heap L ∧ FrameEnd U o U' L ({ frames := 0, cells := 0, slots := 0, locals := 0 } : Room).cells ({ frames := 0, cells := 0, slots := 0, locals := 0 } : Room).slots) := by
  refine MetFree.of_bodySF (Jvm.Free.JP.mathPlain rfl (by decide +kernel)) hisR ?_
  intro p e s m args below meth c s₁ Bd hml0 hP hK
  obtain ⟨rfl, hZ, hh⟩ := hP
  have hx := Bd.exec
  have hby := Bd.bytes
  have hml : c.maxLocals = 2 := hml0
  have hown : s.vm.findClass "java/lang/Math" = some m.cls := findClass_of_methodNamed Bd.named
  have hnm := (name_of_methodNamed Bd.named Bd.method).1
  have X0 : Stand p l e ({ frames := 0, cells := 0, slots := 0, locals := 0 } : Room) s m #[(.int p1), (.int p2)] below meth c s₁ [] 0 0 := Stand.of_body Bd
  have e0 : s₁.heap = h0 := by rw [← hh, Bd.state]; rfl
  have N0 := Fr.nil n0
  have pre0 : ∀ t, Steps p.tables e below (s₁.setTop (mkF m 0 #[.val (.int p1), .val (.int p2)] [])) t → Steps p.tables e below (s₁.setTop (entryFrame m #[(.int p1), (.int p2)] 2)) t := fun t k => castTop (ef_13 m p1 p2) k

  obtain ⟨fs, hr, hrun, hended, hW, hsame⟩ := X0.leave (v := some (.int p1)) (fun h => by rw [Bd.returns] at h; cases h)
  refine ⟨_, _, pre0 _ ?_, hrun, hended, _, _, rfl, ?_, ⟨_, rfl⟩, hW, hsame.mono (by decide) (by decide)⟩
  · show Steps p.tables e below (s₁.setTop (mkF m 0 #[.val (.int p1), .val (.int p2)] [])) _
    refine XS.iloadN X0.here hx rfl (hb hby d13_0) rfl ?_
    show Steps p.tables e below (s₁.setTop (mkF m 1 #[.val (.int p1), .val (.int p2)] [(.int p1)])) _
    refine XS.iloadN X0.here hx rfl (hb hby d13_1) rfl ?_
    show Steps p.tables e below (s₁.setTop (mkF m 2 #[.val (.int p1), .val (.int p2)] [(.int p2), (.int p1)])) _
    refine XS.icmpNo X0.here hx rfl (hb hby d13_2) rfl (flt hc2).2.2.1 ?_
    show Steps p.tables e below (s₁.setTop (mkF m 5 #[.val (.int p1), .val (.int p2)] [])) _
    refine XS.iloadN X0.here hx rfl (hb hby d13_5) rfl ?_
    show Steps p.tables e below (s₁.setTop (mkF m 6 #[.val (.int p1), .val (.int p2)] [(.int p1)])) _
    refine XS.goto X0.here hx rfl (pc0 := 6) (pc' := 10) rfl (hb hby d13_6) (by decide) (by decide) ?_
    show Steps p.tables e below (s₁.setTop (mkF m 10 #[.val (.int p1), .val (.int p2)] [(.int p1)])) _
    exact retI X0 hx Bd.returns (hb hby d13_10) hr      -- retI stands in the head ('lawwalk <made dir>' prints it)
  · show Q13_f Z p1 p2 h0 n0 _ s₁.heap _
    rw [e0]
    exact ⟨rfl, N0, rfl⟩
theorem d13_9 : decode jdk_29_method_69_code 9 = .ok (.iload_n 1, 1) := by decide +kernel
def Q13_t (Z : State) (p1 : Int32) (p2 : Int32) (h0 : Heap) (n0 : Nat) (v : Option Value) (h : Heap) (L : List Loc) : Prop := v = some (.int p2) ∧ Fr n0 L ∧ h = h0
set_option maxRecDepth 65536 in
set_option maxHeartbeats 40000000 in
theorem rm13_t (l : Launch) (Z : State) (a0 : Array Value) (hw : ∀ d ∈ tables_1, d.before a0 Z = true) (ws : List Jvm.Cond) (p1 : Int32) (p2 : Int32) (h0 : Heap) (n0 : Nat) (Z0 : n0 ≤ h0.size) (hc2 : p2 < p1) :
    MetFree l (⟨"java/lang/Math", "min", "(II)I"⟩ : MethodName) (head1 (Jvm.Cond.code (⟨"java/lang/Math", "min", "(II)I"⟩ : MethodName) jdk_29_method_69_code 2 (some .int) :: ws) ({ frames := 0, cells := 0, slots := 0, locals := 0 } : Room)) (fun a U => a = #[(.int p1), (.int p2)] ∧ Z.Warmed39 U.vm ∧ U.heap = h0) (fun _ _ _ _ _ => True) (fun _ U o U' => ∃ v L, o = .returned v ∧ Q13_t Z p1 p2 h0 n0 v U'.heap L ∧ FrameEnd U o U' L ({ frames := 0, cells := 0, slots := 0, locals := 0 } : Room).cells ({ frames := 0, cells := 0, slots := 0, locals := 0 } : Room).slots) := by
  refine MetFree.of_bodySF (Jvm.Free.JP.mathPlain rfl (by decide +kernel)) hisR ?_
  intro p e s m args below meth c s₁ Bd hml0 hP hK
  obtain ⟨rfl, hZ, hh⟩ := hP
  have hx := Bd.exec
  have hby := Bd.bytes
  have hml : c.maxLocals = 2 := hml0
  have hown : s.vm.findClass "java/lang/Math" = some m.cls := findClass_of_methodNamed Bd.named
  have hnm := (name_of_methodNamed Bd.named Bd.method).1
  have X0 : Stand p l e ({ frames := 0, cells := 0, slots := 0, locals := 0 } : Room) s m #[(.int p1), (.int p2)] below meth c s₁ [] 0 0 := Stand.of_body Bd
  have e0 : s₁.heap = h0 := by rw [← hh, Bd.state]; rfl
  have N0 := Fr.nil n0
  have pre0 : ∀ t, Steps p.tables e below (s₁.setTop (mkF m 0 #[.val (.int p1), .val (.int p2)] [])) t → Steps p.tables e below (s₁.setTop (entryFrame m #[(.int p1), (.int p2)] 2)) t := fun t k => castTop (ef_13 m p1 p2) k

  obtain ⟨fs, hr, hrun, hended, hW, hsame⟩ := X0.leave (v := some (.int p2)) (fun h => by rw [Bd.returns] at h; cases h)
  refine ⟨_, _, pre0 _ ?_, hrun, hended, _, _, rfl, ?_, ⟨_, rfl⟩, hW, hsame.mono (by decide) (by decide)⟩
  · show Steps p.tables e below (s₁.setTop (mkF m 0 #[.val (.int p1), .val (.int p2)] [])) _
    refine XS.iloadN X0.here hx rfl (hb hby d13_0) rfl ?_
    show Steps p.tables e below (s₁.setTop (mkF m 1 #[.val (.int p1), .val (.int p2)] [(.int p1)])) _
    refine XS.iloadN X0.here hx rfl (hb hby d13_1) rfl ?_
    show Steps p.tables e below (s₁.setTop (mkF m 2 #[.val (.int p1), .val (.int p2)] [(.int p2), (.int p1)])) _
    refine XS.icmpYes X0.here hx rfl (pc0 := 2) (pc' := 9) rfl (hb hby d13_2) rfl (tlt hc2).2.2.1 (by decide) (by decide) ?_
    show Steps p.tables e below (s₁.setTop (mkF m 9 #[.val (.int p1), .val (.int p2)] [])) _
    refine XS.iloadN X0.here hx rfl (hb hby d13_9) rfl ?_
    show Steps p.tables e below (s₁.setTop (mkF m 10 #[.val (.int p1), .val (.int p2)] [(.int p2)])) _
    exact retI X0 hx Bd.returns (hb hby d13_10) hr      -- retI stands in the head ('lawwalk <made dir>' prints it)
  · show Q13_t Z p1 p2 h0 n0 _ s₁.heap _
    rw [e0]
    exact ⟨rfl, N0, rfl⟩
theorem d10_7 : decode prog_68_method_6_code 7 = .ok (.iload 5, 2) := by decide +kernel
theorem d10_9 : decode prog_68_method_6_code 9 = .ok (.ifCond .lt 26, 3) := by decide +kernel
theorem d10_12 : decode prog_68_method_6_code 12 = .ok (.lload_n 3, 1) := by decide +kernel
theorem d10_13 : decode prog_68_method_6_code 13 = .ok (.bipush 8, 2) := by decide +kernel
theorem d10_15 : decode prog_68_method_6_code 15 = .ok (.lshl, 1) := by decide +kernel
theorem d10_16 : decode prog_68_method_6_code 16 = .ok (.aload_n 0, 1) := by decide +kernel
theorem d10_17 : decode prog_68_method_6_code 17 = .ok (.iload_n 1, 1) := by decide +kernel
theorem d10_18 : decode prog_68_method_6_code 18 = .ok (.iload 5, 2) := by decide +kernel
theorem d10_20 : decode prog_68_method_6_code 20 = .ok (.iadd, 1) := by decide +kernel
theorem d10_21 : decode prog_68_method_6_code 21 = .ok (.baload, 1) := by decide +kernel
theorem d10_22 : decode prog_68_method_6_code 22 = .ok (.i2l, 1) := by decide +kernel
theorem d10_23 : decode prog_68_method_6_code 23 = .ok (.ldc2_w 49, 3) := by decide +kernel
theorem d10_26 : decode prog_68_method_6_code 26 = .ok (.land, 1) := by decide +kernel
theorem d10_27 : decode prog_68_method_6_code 27 = .ok (.lor, 1) := by decide +kernel
theorem d10_28 : decode prog_68_method_6_code 28 = .ok (.lstore_n 3, 1) := by decide +kernel
theorem d10_29 : decode prog_68_method_6_code 29 = .ok (.iinc 5 (-1), 3) := by decide +kernel
theorem d10_32 : decode prog_68_method_6_code 32 = .ok (.goto (-25), 3) := by decide +kernel
set_option maxRecDepth 65536 in
set_option maxHeartbeats 40000000 in
theorem tnE_t {p : Program} {l : Launch} {e : Env} {R : Room} {s : State} {m : MethodId} {args : Array Value} {below : List Frame} {meth : Method} {c : Code} {T0 : State} {locs : List Loc} {cells slots : Nat} {Z : State} {a0 : Array Value} {h0 : Heap} (a1 : Addr) (p2 : Int32) (p3 : Int32) (x3 : Int64) (ii : Int32) (w4 : Int32) (cl_a1 : Cell)
    (X0 : Stand p l e R s m args below meth c T0 locs cells slots) (hx : p.tables.exec = Jvm.exec) (hZ : Z.Warmed39 s.vm) (hw : ∀ d ∈ tables_1, d.before a0 Z = true) (hby : c.code = prog_68_method_6_code) (hml : c.maxLocals = 6) (hown : s.vm.findClass "com/example/stratifold/stratifold/Token" = some m.cls) (e0 : T0.heap = h0) (Ar_a1 : Arr Z h0 a1 cl_a1 .byte) (hin21 : ¬ ((p2 + ii) < 0 ∨ cl_a1.slots.size ≤ ((p2 + ii)).toNatClampNeg)) (hat21 : cl_a1.slots[((p2 + ii)).toNatClampNeg]? = some (.int w4)) (hc9 : ¬ (ii < (0 : Int32))) :
    ∃ (T' : State), Stand p l e R s m args below meth c T' locs cells slots ∧ T'.heap = h0 ∧
      ∀ target, Steps p.tables e below (T'.setTop (mkF m 7 #[.val (.ref a1), .val (.int p2), .val (.int p3), .val (.long ((x3 <<< ((8 : Int32) &&& 0x3f).toInt64) ||| ((w4.toInt64) &&& (255 : Int64)))), .second, .val (.int (ii + (-1 : Int32)))] [])) target → Steps p.tables e below (T0.setTop (mkF m 7 #[.val (.ref a1), .val (.int p2), .val (.int p3), .val (.long x3), .second, .val (.int ii)] [])) target := by

  refine ⟨T0, X0, e0, fun target kt => ?_⟩
  show Steps p.tables e below (T0.setTop (mkF m 7 #[.val (.ref a1), .val (.int p2), .val (.int p3), .val (.long x3), .second, .val (.int ii)] [])) _
  refine XS.iload X0.here hx rfl (hb hby d10_7) rfl ?_
  show Steps p.tables e below (T0.setTop (mkF m 9 #[.val (.ref a1), .val (.int p2), .val (.int p3), .val (.long x3), .second, .val (.int ii)] [(.int ii)])) _
  refine XS.ifNo X0.here hx rfl (hb hby d10_9) rfl ((if0 _ _).trans (flt hc9).1) ?_
  show Steps p.tables e below (T0.setTop (mkF m 12 #[.val (.ref a1), .val (.int p2), .val (.int p3), .val (.long x3), .second, .val (.int ii)] [])) _
  refine XS.lloadN X0.here hx rfl (hb hby d10_12) rfl ?_
  show Steps p.tables e below (T0.setTop (mkF m 13 #[.val (.ref a1), .val (.int p2), .val (.int p3), .val (.long x3), .second, .val (.int ii)] [(.long x3)])) _
  refine XS.bipush X0.here hx rfl (hb hby d10_13) ?_
  show Steps p.tables e below (T0.setTop (mkF m 15 #[.val (.ref a1), .val (.int p2), .val (.int p3), .val (.long x3), .second, .val (.int ii)] [(.int (8 : Int32)), (.long x3)])) _
  refine XS.lshl X0.here hx rfl (hb hby d10_15) rfl ?_
  show Steps p.tables e below (T0.setTop (mkF m 16 #[.val (.ref a1), .val (.int p2), .val (.int p3), .val (.long x3), .second, .val (.int ii)] [(.long (x3 <<< ((8 : Int32) &&& 0x3f).toInt64))])) _
  refine XS.aloadN X0.here hx rfl (hb hby d10_16) rfl rfl ?_
  show Steps p.tables e below (T0.setTop (mkF m 17 #[.val (.ref a1), .val (.int p2), .val (.int p3), .val (.long x3), .second, .val (.int ii)] [(.ref a1), (.long (x3 <<< ((8 : Int32) &&& 0x3f).toInt64))])) _
  refine XS.iloadN X0.here hx rfl (hb hby d10_17) rfl ?_
  show Steps p.tables e below (T0.setTop (mkF m 18 #[.val (.ref a1), .val (.int p2), .val (.int p3), .val (.long x3), .second, .val (.int ii)] [(.int p2), (.ref a1), (.long (x3 <<< ((8 : Int32) &&& 0x3f).toInt64))])) _
  refine XS.iload X0.here hx rfl (hb hby d10_18) rfl ?_
  show Steps p.tables e below (T0.setTop (mkF m 20 #[.val (.ref a1), .val (.int p2), .val (.int p3), .val (.long x3), .second, .val (.int ii)] [(.int ii), (.int p2), (.ref a1), (.long (x3 <<< ((8 : Int32) &&& 0x3f).toInt64))])) _
  refine XS.iadd X0.here hx rfl (hb hby d10_20) rfl ?_
  show Steps p.tables e below (T0.setTop (mkF m 21 #[.val (.ref a1), .val (.int p2), .val (.int p3), .val (.long x3), .second, .val (.int ii)] [(.int (p2 + ii)), (.ref a1), (.long (x3 <<< ((8 : Int32) &&& 0x3f).toInt64))])) _
  refine X0.baloadBytes hx (j := (p2 + ii)) (v := (.int w4)) (by rw [e0]; exact Ar_a1.1) (State.isArrayOf_alike hZ.alike Ar_a1.2.1) Ar_a1.2.2 hin21 hat21 (g := (mkF m 21 #[.val (.ref a1), .val (.int p2), .val (.int p3), .val (.long x3), .second, .val (.int ii)] [(.int (p2 + ii)), (.ref a1), (.long (x3 <<< ((8 : Int32) &&& 0x3f).toInt64))])) rfl rfl (hb hby d10_21) _ ?_
  show Steps p.tables e below (T0.setTop (mkF m 22 #[.val (.ref a1), .val (.int p2), .val (.int p3), .val (.long x3), .second, .val (.int ii)] [(.int w4), (.long (x3 <<< ((8 : Int32) &&& 0x3f).toInt64))])) _
  refine XS.i2l X0.here hx rfl (hb hby d10_22) rfl ?_
  show Steps p.tables e below (T0.setTop (mkF m 23 #[.val (.ref a1), .val (.int p2), .val (.int p3), .val (.long x3), .second, .val (.int ii)] [(.long (w4.toInt64)), (.long (x3 <<< ((8 : Int32) &&& 0x3f).toInt64))])) _
  refine X0.ldc2Long hx hown (mvT hZ (hw _ (List.mem_of_getElem? (i := 52) rfl))) (g := (mkF m 23 #[.val (.ref a1), .val (.int p2), .val (.int p3), .val (.long x3), .second, .val (.int ii)] [(.long (w4.toInt64)), (.long (x3 <<< ((8 : Int32) &&& 0x3f).toInt64))])) rfl (hb hby d10_23) _ ?_
  show Steps p.tables e below (T0.setTop (mkF m 26 #[.val (.ref a1), .val (.int p2), .val (.int p3), .val (.long x3), .second, .val (.int ii)] [(.long (255 : Int64)), (.long (w4.toInt64)), (.long (x3 <<< ((8 : Int32) &&& 0x3f).toInt64))])) _
  refine XS.land X0.here hx rfl (hb hby d10_26) rfl ?_
  show Steps p.tables e below (T0.setTop (mkF m 27 #[.val (.ref a1), .val (.int p2), .val (.int p3), .val (.long x3), .second, .val (.int ii)] [(.long ((w4.toInt64) &&& (255 : Int64))), (.long (x3 <<< ((8 : Int32) &&& 0x3f).toInt64))])) _
  refine XS.lor X0.here hx rfl (hb hby d10_27) rfl ?_
  show Steps p.tables e below (T0.setTop (mkF m 28 #[.val (.ref a1), .val (.int p2), .val (.int p3), .val (.long x3), .second, .val (.int ii)] [(.long ((x3 <<< ((8 : Int32) &&& 0x3f).toInt64) ||| ((w4.toInt64) &&& (255 : Int64))))])) _
  refine XS.lstoreN X0.here hx rfl (hb hby d10_28) rfl (l' := #[.val (.ref a1), .val (.int p2), .val (.int p3), .val (.long ((x3 <<< ((8 : Int32) &&& 0x3f).toInt64) ||| ((w4.toInt64) &&& (255 : Int64)))), .second, .val (.int ii)]) rfl ?_
  show Steps p.tables e below (T0.setTop (mkF m 29 #[.val (.ref a1), .val (.int p2), .val (.int p3), .val (.long ((x3 <<< ((8 : Int32) &&& 0x3f).toInt64) ||| ((w4.toInt64) &&& (255 : Int64)))), .second, .val (.int ii)] [])) _
  refine XS.iinc X0.here hx rfl (hb hby d10_29) rfl (l' := #[.val (.ref a1), .val (.int p2), .val (.int p3), .val (.long ((x3 <<< ((8 : Int32) &&& 0x3f).toInt64) ||| ((w4.toInt64) &&& (255 : Int64)))), .second, .val (.int (ii + (-1 : Int32)))]) rfl ?_
  show Steps p.tables e below (T0.setTop (mkF m 32 #[.val (.ref a1), .val (.int p2), .val (.int p3), .val (.long ((x3 <<< ((8 : Int32) &&& 0x3f).toInt64) ||| ((w4.toInt64) &&& (255 : Int64)))), .second, .val (.int (ii + (-1 : Int32)))] [])) _
  refine XS.goto X0.here hx rfl (pc0 := 32) (pc' := 7) rfl (hb hby d10_32) (by decide) (by decide) ?_
  exact kt
set_option maxRecDepth 65536 in
set_option maxHeartbeats 40000000 in
theorem tnE_l {p : Program} {l : Launch} {e : Env} {R : Room} {s : State} {m : MethodId} {args : Array Value} {below : List Frame} {meth : Method} {c : Code} {T0 : State} {locs : List Loc} {cells slots : Nat} {Z : State} {a0 : Array Value} {h0 : Heap} (a1 : Addr) (p2 : Int32) (p3 : Int32) (x3 : Int64) (ii : Int32)
    (X0 : Stand p l e R s m args below meth c T0 locs cells slots) (hx : p.tables.exec = Jvm.exec) (hZ : Z.Warmed39 s.vm) (hw : ∀ d ∈ tables_1, d.before a0 Z = true) (hby : c.code = prog_68_method_6_code) (hml : c.maxLocals = 6) (hown : s.vm.findClass "com/example/stratifold/stratifold/Token" = some m.cls) (e0 : T0.heap = h0) (hc9 : ii < (0 : Int32)) :
    ∃ (T' : State), Stand p l e R s m args below meth c T' locs cells slots ∧ T'.heap = h0 ∧
      ∀ target, Steps p.tables e below (T'.setTop (mkF m 35 #[.val (.ref a1), .val (.int p2), .val (.int p3), .val (.long x3), .second, .val (.int ii)] [])) target → Steps p.tables e below (T0.setTop (mkF m 7 #[.val (.ref a1), .val (.int p2), .val (.int p3), .val (.long x3), .second, .val (.int ii)] [])) target := by

  refine ⟨T0, X0, e0, fun target kt => ?_⟩
  show Steps p.tables e below (T0.setTop (mkF m 7 #[.val (.ref a1), .val (.int p2), .val (.int p3), .val (.long x3), .second, .val (.int ii)] [])) _
  refine XS.iload X0.here hx rfl (hb hby d10_7) rfl ?_
  show Steps p.tables e below (T0.setTop (mkF m 9 #[.val (.ref a1), .val (.int p2), .val (.int p3), .val (.long x3), .second, .val (.int ii)] [(.int ii)])) _
  refine XS.ifYes X0.here hx rfl (pc0 := 9) (pc' := 35) rfl (hb hby d10_9) rfl ((if0 _ _).trans (tlt hc9).1) (by decide) (by decide) ?_
  exact kt
theorem loopE {p : Program} {l : Launch} {e : Env} {R : Room} {s : State} {m : MethodId} {args : Array Value} {below : List Frame} {meth : Method} {c : Code} {locs : List Loc} {cells slots : Nat} {Z : State} {a0 : Array Value} {h0 : Heap} (a1 : Addr) (p2 p3 : Int32) (cl : Cell) (z : Int32) (hx : p.tables.exec = Jvm.exec) (hZ : Z.Warmed39 s.vm) (hw : ∀ d ∈ tables_1, d.before a0 Z = true) (hby : c.code = prog_68_method_6_code) (hml : c.maxLocals = 6) (hown : s.vm.findClass "com/example/stratifold/stratifold/Token" = some m.cls) (hT : TB Z h0 a1 cl z) (hlo : 0 ≤ p2.toInt) :
    ∀ (k : Nat) (T0 : State) (x3 : Int64) (ii : Int32), Stand p l e R s m args below meth c T0 locs cells slots → T0.heap = h0 → ii.toInt = (k : Int) - 1 → p2.toInt + k ≤ z.toInt →
    ∃ (T' : State) (y3 : Int64) (jj : Int32), Stand p l e R s m args below meth c T' locs cells slots ∧ T'.heap = h0 ∧ ∀ target, Steps p.tables e below (T'.setTop (mkF m 35 #[.val (.ref a1), .val (.int p2), .val (.int p3), .val (.long y3), .second, .val (.int jj)] [])) target → Steps p.tables e below (T0.setTop (mkF m 7 #[.val (.ref a1), .val (.int p2), .val (.int p3), .val (.long x3), .second, .val (.int ii)] [])) target := by
  intro k
  induction k with
  | zero =>
    intro T0 x3 ii X0 e0 hi _
    obtain ⟨T1, X1, e1, st1⟩ := tnE_l a1 p2 p3 x3 ii X0 hx hZ hw hby hml hown e0 (own_lt (by have : (0 : Int32).toInt = 0 := rfl; omega))
    exact ⟨T1, x3, ii, X1, e1, st1⟩
  | succ k ih =>
    intro T0 x3 ii X0 e0 hi hb
    have hz := own_nn hT.2.2.1
    have hzM := z.toInt_lt
    have e1 : (p2 + ii).toInt = p2.toInt + ii.toInt := Jvm.Kit.i32_add (by omega) (by omega)
    have e2 : (ii + (-1 : Int32)).toInt = ii.toInt - 1 := by
      have q : (-1 : Int32).toInt = -1 := rfl
      rw [Jvm.Kit.i32_add (by omega) (by omega), q]; omega
    have hin := own_in (j := p2 + ii) hT.2.1 (by omega) (by omega)
    obtain ⟨T1, X1, e1', st1⟩ := tnE_t a1 p2 p3 x3 ii 0 cl X0 hx hZ hw hby hml hown e0 hT.1 hin (hT.2.2.2 _ (Nat.lt_of_not_le fun q => hin (Or.inr q))) (own_nlt (by have : (0 : Int32).toInt = 0 := rfl; omega))
    obtain ⟨T2, y3, jj, X2, e2', st2⟩ := ih T1 _ _ X1 e1' (by rw [e2]; omega) (by omega)
    exact ⟨T2, y3, jj, X2, e2', fun target kt => st1 target (st2 target kt)⟩
theorem d10_0 : decode prog_68_method_6_code 0 = .ok (.lconst 0, 1) := by decide +kernel
theorem d10_1 : decode prog_68_method_6_code 1 = .ok (.lstore_n 3, 1) := by decide +kernel
theorem d10_2 : decode prog_68_method_6_code 2 = .ok (.iload_n 2, 1) := by decide +kernel
theorem d10_3 : decode prog_68_method_6_code 3 = .ok (.iconst 1, 1) := by decide +kernel
theorem d10_4 : decode prog_68_method_6_code 4 = .ok (.isub, 1) := by decide +kernel
theorem d10_5 : decode prog_68_method_6_code 5 = .ok (.istore 5, 2) := by decide +kernel
theorem d10_35 : decode prog_68_method_6_code 35 = .ok (.lload_n 3, 1) := by decide +kernel
theorem d10_36 : decode prog_68_method_6_code 36 = .ok (.lreturn, 1) := by decide +kernel
theorem pn_10 : plainName "com/example/stratifold/stratifold/Token" = true := by first | (simp [plainName, overriddenIn]; done) | decide +kernel
theorem ef_10 (m : MethodId) (x0 : Addr) (x1 : Int32) (x2 : Int32) : entryFrame m #[(.ref x0), (.int x1), (.int x2)] 6 = mkF m 0 #[.val (.ref x0), .val (.int x1), .val (.int x2), .unset, .unset, .unset] [] := by first | (simp [entryFrame, mkF, argsToLocals, Value.category]; done) | rfl
set_option maxRecDepth 65536 in
set_option maxHeartbeats 40000000 in
theorem rm10 (l : Launch) (Z : State) (a0 : Array Value) (hw : ∀ d ∈ tables_1, d.before a0 Z = true) (ws : List Jvm.Cond) (a1 : Addr) (p2 : Int32) (p3 : Int32) (h0 : Heap) (n0 : Nat) (Z0 : n0 ≤ h0.size) (cl : Cell) (z : Int32) (hT : TB Z h0 a1 cl z) (hlo : 0 ≤ p2.toInt) (hln : 0 ≤ p3.toInt) (hhi : p2.toInt + p3.toInt ≤ z.toInt) :
    MetFree l (⟨"com/example/stratifold/stratifold/Token", "littleEndian", "([BII)J"⟩ : MethodName) (head1 (Jvm.Cond.code (⟨"com/example/stratifold/stratifold/Token", "littleEndian", "([BII)J"⟩ : MethodName) prog_68_method_6_code 6 (some .long) :: ws) ({ frames := 0, cells := 0, slots := 0, locals := 0 } : Room)) (fun a U => a = #[(.ref a1), (.int p2), (.int p3)] ∧ Z.Warmed39 U.vm ∧ U.heap = h0) (fun _ _ _ _ _ => True) (fun _ U o U' => ∃ v L, o = .returned v ∧ QJ h0 n0 v U'.heap L ∧ FrameEnd U o U' L ({ frames := 0, cells := 0, slots := 0, locals := 0 } : Room).cells ({ frames := 0, cells := 0, slots := 0, locals := 0 } : Room).slots) := by
  refine MetFree.of_bodySF (plainFor_of_name pn_10) hisR ?_
  intro p e s m args below meth c s₁ Bd hml0 hP hK
  obtain ⟨rfl, hZ, hh⟩ := hP
  have hx := Bd.exec
  have hby := Bd.bytes
  have hml : c.maxLocals = 6 := hml0
  have hown : s.vm.findClass "com/example/stratifold/stratifold/Token" = some m.cls := findClass_of_methodNamed Bd.named
  have hnm := (name_of_methodNamed Bd.named Bd.method).1
  have X0 : Stand p l e ({ frames := 0, cells := 0, slots := 0, locals := 0 } : Room) s m #[(.ref a1), (.int p2), (.int p3)] below meth c s₁ [] 0 0 := Stand.of_body Bd
  have e0 : s₁.heap = h0 := by rw [← hh, Bd.state]; rfl
  have N0 := Fr.nil n0
  have pre0 : ∀ t, Steps p.tables e below (s₁.setTop (mkF m 0 #[.val (.ref a1), .val (.int p2), .val (.int p3), .unset, .unset, .unset] [])) t → Steps p.tables e below (s₁.setTop (entryFrame m #[(.ref a1), (.int p2), (.int p3)] 6)) t := fun t k => castTop (ef_10 m a1 p2 p3) k
  have hq1 : (1 : Int32).toInt = 1 := rfl
  have hp := p3.toInt_lt
  have ei : (p3 - (1 : Int32)).toInt = p3.toInt - 1 := by rw [Jvm.Kit.i32_sub (by omega) (by omega), hq1]
  obtain ⟨T1, y3, jj, X1, e1, st1⟩ := loopE a1 p2 p3 cl z hx hZ hw hby hml hown hT hlo p3.toInt.toNat s₁ (0 : Int64) (p3 - (1 : Int32)) X0 e0 (by rw [ei]; omega) (by omega)
  obtain ⟨fs, hr, hrun, hended, hW, hsame⟩ := X1.leave (v := some (.long y3)) (fun h => by rw [Bd.returns] at h; cases h)
  refine ⟨_, _, pre0 _ ?_, hrun, hended, _, _, rfl, ?_, ⟨_, rfl⟩, hW, hsame.mono (by decide) (by decide)⟩
  · show Steps p.tables e below (s₁.setTop (mkF m 0 #[.val (.ref a1), .val (.int p2), .val (.int p3), .unset, .unset, .unset] [])) _
    refine XS.lconst X0.here hx rfl (hb hby d10_0) ?_
    show Steps p.tables e below (s₁.setTop (mkF m 1 #[.val (.ref a1), .val (.int p2), .val (.int p3), .unset, .unset, .unset] [(.long (0 : Int64))])) _
    refine XS.lstoreN X0.here hx rfl (hb hby d10_1) rfl (l' := #[.val (.ref a1), .val (.int p2), .val (.int p3), .val (.long (0 : Int64)), .second, .unset]) rfl ?_
    show Steps p.tables e below (s₁.setTop (mkF m 2 #[.val (.ref a1), .val (.int p2), .val (.int p3), .val (.long (0 : Int64)), .second, .unset] [])) _
    refine XS.iloadN X0.here hx rfl (hb hby d10_2) rfl ?_
    show Steps p.tables e below (s₁.setTop (mkF m 3 #[.val (.ref a1), .val (.int p2), .val (.int p3), .val (.long (0 : Int64)), .second, .unset] [(.int p3)])) _
    refine XS.iconst X0.here hx rfl (hb hby d10_3) ?_
    show Steps p.tables e below (s₁.setTop (mkF m 4 #[.val (.ref a1), .val (.int p2), .val (.int p3), .val (.long (0 : Int64)), .second, .unset] [(.int (1 : Int32)), (.int p3)])) _
    refine XS.isub X0.here hx rfl (hb hby d10_4) rfl ?_
    show Steps p.tables e below (s₁.setTop (mkF m 5 #[.val (.ref a1), .val (.int p2), .val (.int p3), .val (.long (0 : Int64)), .second, .unset] [(.int (p3 - (1 : Int32)))])) _
    refine XS.istore X0.here hx rfl (hb hby d10_5) rfl (l' := #[.val (.ref a1), .val (.int p2), .val (.int p3), .val (.long (0 : Int64)), .second, .val (.int (p3 - (1 : Int32)))]) rfl ?_
    show Steps p.tables e below (s₁.setTop (mkF m 7 #[.val (.ref a1), .val (.int p2), .val (.int p3), .val (.long (0 : Int64)), .second, .val (.int (p3 - (1 : Int32)))] [])) _
    refine st1 _ ?_
    show Steps p.tables e below (T1.setTop (mkF m 35 #[.val (.ref a1), .val (.int p2), .val (.int p3), .val (.long y3), .second, .val (.int jj)] [])) _
    refine XS.lloadN X1.here hx rfl (hb hby d10_35) rfl ?_
    show Steps p.tables e below (T1.setTop (mkF m 36 #[.val (.ref a1), .val (.int p2), .val (.int p3), .val (.long y3), .second, .val (.int jj)] [(.long y3)])) _
    exact X1.lreturnOut hx Bd.returns (hb hby d10_36) hr
  · show QJ h0 n0 _ T1.heap _
    rw [e1]
    exact ⟨_, rfl, N0, rfl⟩
theorem d2_14 : decode prog_68_method_2_code 14 = .ok (.iload 6, 2) := by decide +kernel
theorem d2_16 : decode prog_68_method_2_code 16 = .ok (.iload 5, 2) := by decide +kernel
theorem d2_18 : decode prog_68_method_2_code 18 = .ok (.if_icmp .ge 85, 3) := by decide +kernel
theorem d2_21 : decode prog_68_method_2_code 21 = .ok (.iload 6, 2) := by decide +kernel
theorem d2_23 : decode prog_68_method_2_code 23 = .ok (.bipush 16, 2) := by decide +kernel
theorem d2_25 : decode prog_68_method_2_code 25 = .ok (.imul, 1) := by decide +kernel
theorem d2_26 : decode prog_68_method_2_code 26 = .ok (.istore 7, 2) := by decide +kernel
theorem d2_28 : decode prog_68_method_2_code 28 = .ok (.lload_n 1, 1) := by decide +kernel
theorem d2_29 : decode prog_68_method_2_code 29 = .ok (.aload_n 0, 1) := by decide +kernel
theorem d2_30 : decode prog_68_method_2_code 30 = .ok (.iload 7, 2) := by decide +kernel
theorem d2_32 : decode prog_68_method_2_code 32 = .ok (.bipush 8, 2) := by decide +kernel
theorem d2_34 : decode prog_68_method_2_code 34 = .ok (.invokestatic 7, 3) := by decide +kernel
theorem d2_37 : decode prog_68_method_2_code 37 = .ok (.invokestatic 13, 3) := by decide +kernel
theorem d2_40 : decode prog_68_method_2_code 40 = .ok (.lxor, 1) := by decide +kernel
theorem d2_41 : decode prog_68_method_2_code 41 = .ok (.lstore_n 1, 1) := by decide +kernel
theorem d2_42 : decode prog_68_method_2_code 42 = .ok (.lload_n 1, 1) := by decide +kernel
theorem d2_43 : decode prog_68_method_2_code 43 = .ok (.bipush 27, 2) := by decide +kernel
theorem d2_45 : decode prog_68_method_2_code 45 = .ok (.invokestatic 17, 3) := by decide +kernel
theorem d2_48 : decode prog_68_method_2_code 48 = .ok (.lload_n 3, 1) := by decide +kernel
theorem d2_49 : decode prog_68_method_2_code 49 = .ok (.ladd, 1) := by decide +kernel
theorem d2_50 : decode prog_68_method_2_code 50 = .ok (.lstore_n 1, 1) := by decide +kernel
theorem d2_51 : decode prog_68_method_2_code 51 = .ok (.lload_n 1, 1) := by decide +kernel
theorem d2_52 : decode prog_68_method_2_code 52 = .ok (.ldc2_w 23, 3) := by decide +kernel
theorem d2_55 : decode prog_68_method_2_code 55 = .ok (.lmul, 1) := by decide +kernel
theorem d2_56 : decode prog_68_method_2_code 56 = .ok (.ldc2_w 25, 3) := by decide +kernel
theorem d2_59 : decode prog_68_method_2_code 59 = .ok (.ladd, 1) := by decide +kernel
theorem d2_60 : decode prog_68_method_2_code 60 = .ok (.lstore_n 1, 1) := by decide +kernel
theorem d2_61 : decode prog_68_method_2_code 61 = .ok (.lload_n 3, 1) := by decide +kernel
theorem d2_62 : decode prog_68_method_2_code 62 = .ok (.aload_n 0, 1) := by decide +kernel
theorem d2_63 : decode prog_68_method_2_code 63 = .ok (.iload 7, 2) := by decide +kernel
theorem d2_65 : decode prog_68_method_2_code 65 = .ok (.bipush 8, 2) := by decide +kernel
theorem d2_67 : decode prog_68_method_2_code 67 = .ok (.iadd, 1) := by decide +kernel
theorem d2_68 : decode prog_68_method_2_code 68 = .ok (.bipush 8, 2) := by decide +kernel
theorem d2_70 : decode prog_68_method_2_code 70 = .ok (.invokestatic 7, 3) := by decide +kernel
theorem d2_73 : decode prog_68_method_2_code 73 = .ok (.invokestatic 27, 3) := by decide +kernel
theorem d2_76 : decode prog_68_method_2_code 76 = .ok (.lxor, 1) := by decide +kernel
theorem d2_77 : decode prog_68_method_2_code 77 = .ok (.lstore_n 3, 1) := by decide +kernel
theorem d2_78 : decode prog_68_method_2_code 78 = .ok (.lload_n 3, 1) := by decide +kernel
theorem d2_79 : decode prog_68_method_2_code 79 = .ok (.bipush 31, 2) := by decide +kernel
theorem d2_81 : decode prog_68_method_2_code 81 = .ok (.invokestatic 17, 3) := by decide +kernel
theorem d2_84 : decode prog_68_method_2_code 84 = .ok (.lload_n 1, 1) := by decide +kernel
theorem d2_85 : decode prog_68_method_2_code 85 = .ok (.ladd, 1) := by decide +kernel
theorem d2_86 : decode prog_68_method_2_code 86 = .ok (.lstore_n 3, 1) := by decide +kernel
theorem d2_87 : decode prog_68_method_2_code 87 = .ok (.lload_n 3, 1) := by decide +kernel
theorem d2_88 : decode prog_68_method_2_code 88 = .ok (.ldc2_w 23, 3) := by decide +kernel
theorem d2_91 : decode prog_68_method_2_code 91 = .ok (.lmul, 1) := by decide +kernel
theorem d2_92 : decode prog_68_method_2_code 92 = .ok (.ldc2_w 30, 3) := by decide +kernel
theorem d2_95 : decode prog_68_method_2_code 95 = .ok (.ladd, 1) := by decide +kernel
theorem d2_96 : decode prog_68_method_2_code 96 = .ok (.lstore_n 3, 1) := by decide +kernel
theorem d2_97 : decode prog_68_method_2_code 97 = .ok (.iinc 6 1, 3) := by decide +kernel
theorem d2_100 : decode prog_68_method_2_code 100 = .ok (.goto (-86), 3) := by decide +kernel
theorem pd_2_8 : parseMethodDescriptor "([BII)J" = some ⟨[(.array .byte), .int, .int], some .long⟩ := by decide +kernel
theorem pd_2_2 : parseMethodDescriptor "(J)J" = some ⟨[.long], some .long⟩ := by decide +kernel
theorem pd_2_9 : parseMethodDescriptor "(JI)J" = some ⟨[.long, .int], some .long⟩ := by decide +kernel
theorem ostnT_t_26 {z0 : Value} {z1 : Value} {z3 : Value} {z5 : Value} {z6 : Value} {s7 : Slot} {v : Int32} (h : One s7) : storeLocals #[.val z0, .val z1, .second, .val z3, .second, .val z5, .val z6, s7] 7 (.int v) = some #[.val z0, .val z1, .second, .val z3, .second, .val z5, .val z6, .val (.int v)] := by
  rcases h with rfl | ⟨w, rfl, hw⟩
  · rfl
  · cases w <;> first | rfl | (simp [Value.category] at hw)
set_option maxRecDepth 65536 in
set_option maxHeartbeats 40000000 in
theorem tnT_t {p : Program} {l : Launch} {e : Env} {s : State} {m : MethodId} {args : Array Value} {below : List Frame} {meth : Method} {c : Code} {T0 : State} {locs : List Loc} {Z : State} {a0 : Array Value} {h0 : Heap} (a1 : Addr) (x1 : Int64) (x3 : Int64) (nb : Int32) (ii : Int32) (s7 : Slot)
    (X0 : Stand p l e ({ frames := 2, cells := 0, slots := 0, locals := 40 } : Room) s m args below meth c T0 locs 0 0) (hx : p.tables.exec = Jvm.exec) (hZ : Z.Warmed39 s.vm) (hw : ∀ d ∈ tables_1, d.before a0 Z = true) (hby : c.code = prog_68_method_2_code) (hml : c.maxLocals = 8) (hown : s.vm.findClass "com/example/stratifold/stratifold/Token" = some m.cls) (e0 : T0.heap = h0) (n0 : Nat) (Z0 : n0 ≤ h0.size) (N0 : Fr n0 locs) (cl : Cell) (z : Int32) (hT : TB Z h0 a1 cl z) (hb16 : nb.toInt * 16 ≤ z.toInt) (hzM : z.toInt ≤ 65535) (hi0 : 0 ≤ ii.toInt) (hin : ii.toInt < nb.toInt) (hs7 : One s7) (hc18 : ii < nb) :
    ∃ (T' : State) (locs' : List Loc) (y1 y3 : Int64), Stand p l e ({ frames := 2, cells := 0, slots := 0, locals := 40 } : Room) s m args below meth c T' locs' 0 0 ∧ T'.heap = h0 ∧ Fr n0 locs' ∧
      ∀ target, Steps p.tables e below (T'.setTop (mkF m 14 #[.val (.ref a1), .val (.long y1), .second, .val (.long y3), .second, .val (.int nb), .val (.int (ii + (1 : Int32))), .val (.int (ii * (16 : Int32)))] [])) target → Steps p.tables e below (T0.setTop (mkF m 14 #[.val (.ref a1), .val (.long x1), .second, .val (.long x3), .second, .val (.int nb), .val (.int ii), s7] [])) target := by
  have hz := own_nn hT.2.2.1
  have q16 : (16 : Int32).toInt = 16 := rfl
  have q8 : (8 : Int32).toInt = 8 := rfl
  have m1 : (ii * (16 : Int32)).toInt = ii.toInt * 16 := by rw [Jvm.Kit.i32_mul (by rw [q16]; omega) (by rw [q16]; omega), q16]
  have m2 : ((ii * (16 : Int32)) + (8 : Int32)).toInt = ii.toInt * 16 + 8 := by rw [Jvm.Kit.i32_add (by rw [m1, q8]; omega) (by rw [m1, q8]; omega), m1, q8]
  obtain ⟨_, _, ⟨T2, L2, k2, n2⟩, -, X2, ⟨Lc2, hQ2, l2, y2, z2⟩, st2⟩ := Jvm.LawKit.callS X0 hx (y := (⟨"com/example/stratifold/stratifold/Token", "littleEndian", "([BII)J"⟩ : MethodName)) hown (mvT hZ (hw _ (List.mem_of_getElem? (i := 49) rfl))) (mvT hZ (hw _ (List.mem_of_getElem? (i := 50) rfl))) (mvT hZ (hw _ (List.mem_of_getElem? (i := 10) rfl))) (mvT hZ (hw _ (List.mem_of_getElem? (i := 51) rfl))) (by decide) (backOf (W := 2) (rm10 l Z a0 hw [] a1 (ii * (16 : Int32)) (8 : Int32) h0 n0 Z0 cl z hT (by omega) (by decide) (by rw [q8]; omega)) hZ (hw _ (List.mem_of_getElem? (i := 51) rfl)) (hw _ (List.mem_of_getElem? (i := 10) rfl)) (by decide) (by decide)) (g := (mkF m 34 #[.val (.ref a1), .val (.long x1), .second, .val (.long x3), .second, .val (.int nb), .val (.int ii), .val (.int (ii * (16 : Int32)))] [(.int (8 : Int32)), (.int (ii * (16 : Int32))), (.ref a1), (.long x1)])) rfl (by rw [hml]; rfl) (argsL := [(.ref a1), (.int (ii * (16 : Int32))), (.int (8 : Int32))]) (rest := [(.long x1)]) (lenOf pd_2_8 rfl) rfl (by show 2 * 0 + _ ≤ _; exact Nat.le_of_eq rfl) (hb hby d2_34) (fun _ _ => ⟨rfl, e0, (Nat.le_of_ble_eq_true rfl), (Nat.le_of_ble_eq_true rfl)⟩)
  dsimp only [Pt.U, Pt.locs, Pt.cells, Pt.slots] at X2 l2 y2 z2 st2 hQ2
  subst l2 y2 z2
  obtain ⟨r2, rfl, N2q, hE2⟩ := hQ2
  have N2 := Fr.app N0 N2q
  obtain ⟨_, _, ⟨T3, L3, k3, n3⟩, -, X3, ⟨Lc3, hQ3, l3, y3, z3⟩, st3⟩ := Jvm.LawKit.callS X2 hx (y := (⟨"com/example/stratifold/stratifold/Token", "mixK1", "(J)J"⟩ : MethodName)) hown (mvT hZ (hw _ (List.mem_of_getElem? (i := 66) rfl))) (mvT hZ (hw _ (List.mem_of_getElem? (i := 67) rfl))) (mvT hZ (hw _ (List.mem_of_getElem? (i := 10) rfl))) (mvT hZ (hw _ (List.mem_of_getElem? (i := 68) rfl))) (by decide) (backOf (W := 2) (rm14 l Z a0 hw [] r2 h0 n0 Z0) hZ (hw _ (List.mem_of_getElem? (i := 68) rfl)) (hw _ (List.mem_of_getElem? (i := 10) rfl)) (by decide) (by decide)) (g := (mkF m 37 #[.val (.ref a1), .val (.long x1), .second, .val (.long x3), .second, .val (.int nb), .val (.int ii), .val (.int (ii * (16 : Int32)))] [(.long r2), (.long x1)])) rfl (by rw [hml]; rfl) (argsL := [(.long r2)]) (rest := [(.long x1)]) (lenOf pd_2_2 rfl) rfl (by show 2 * 0 + _ ≤ _; exact Nat.le_of_eq rfl) (hb hby d2_37) (fun _ _ => ⟨rfl, hE2, (Nat.le_of_ble_eq_true rfl), (Nat.le_of_ble_eq_true rfl)⟩)
  dsimp only [Pt.U, Pt.locs, Pt.cells, Pt.slots] at X3 l3 y3 z3 st3 hQ3
  subst l3 y3 z3
  obtain ⟨r3, rfl, N3q, hE3⟩ := hQ3
  have N3 := Fr.app N2 N3q
  obtain ⟨_, _, ⟨T4, L4, k4, n4⟩, -, X4, ⟨Lc4, hQ4, l4, y4, z4⟩, st4⟩ := Jvm.LawKit.callS X3 hx (y := (⟨"java/lang/Long", "rotateLeft", "(JI)J"⟩ : MethodName)) hown (mvT hZ (hw _ (List.mem_of_getElem? (i := 57) rfl))) (mvT hZ (hw _ (List.mem_of_getElem? (i := 58) rfl))) (mvT hZ (hw _ (List.mem_of_getElem? (i := 59) rfl))) (mvT hZ (hw _ (List.mem_of_getElem? (i := 60) rfl))) (by decide) (backOf (W := 0) (rm12 l Z a0 hw [] (x1 ^^^ r3) (27 : Int32) h0 n0 Z0) hZ (hw _ (List.mem_of_getElem? (i := 60) rfl)) (hw _ (List.mem_of_getElem? (i := 59) rfl)) (by decide) (by decide)) (g := (mkF m 45 #[.val (.ref a1), .val (.long (x1 ^^^ r3)), .second, .val (.long x3), .second, .val (.int nb), .val (.int ii), .val (.int (ii * (16 : Int32)))] [(.int (27 : Int32)), (.long (x1 ^^^ r3))])) rfl (by rw [hml]; rfl) (argsL := [(.long (x1 ^^^ r3)), (.int (27 : Int32))]) (rest := []) (lenOf pd_2_9 rfl) rfl (by show 2 * 0 + _ ≤ _; exact Nat.le_of_eq rfl) (hb hby d2_45) (fun _ _ => ⟨rfl, hE3, (Nat.le_of_ble_eq_true rfl), (Nat.le_of_ble_eq_true rfl)⟩)
  dsimp only [Pt.U, Pt.locs, Pt.cells, Pt.slots] at X4 l4 y4 z4 st4 hQ4
  subst l4 y4 z4
  obtain ⟨r4, rfl, N4q, hE4⟩ := hQ4
  have N4 := Fr.app N3 N4q
  obtain ⟨_, _, ⟨T5, L5, k5, n5⟩, -, X5, ⟨Lc5, hQ5, l5, y5, z5⟩, st5⟩ := Jvm.LawKit.callS X4 hx (y := (⟨"com/example/stratifold/stratifold/Token", "littleEndian", "([BII)J"⟩ : MethodName)) hown (mvT hZ (hw _ (List.mem_of_getElem? (i := 49) rfl))) (mvT hZ (hw _ (List.mem_of_getElem? (i := 50) rfl))) (mvT hZ (hw _ (List.mem_of_getElem? (i := 10) rfl))) (mvT hZ (hw _ (List.mem_of_getElem? (i := 51) rfl))) (by decide) (backOf (W := 2) (rm10 l Z a0 hw [] a1 ((ii * (16 : Int32)) + (8 : Int32)) (8 : Int32) h0 n0 Z0 cl z hT (by omega) (by decide) (by rw [q8]; omega)) hZ (hw _ (List.mem_of_getElem? (i := 51) rfl)) (hw _ (List.mem_of_getElem? (i := 10) rfl)) (by decide) (by decide)) (g := (mkF m 70 #[.val (.ref a1), .val (.long (((r4 + x3) * (5 : Int64)) + (1390208809 : Int64))), .second, .val (.long x3), .second, .val (.int nb), .val (.int ii), .val (.int (ii * (16 : Int32)))] [(.int (8 : Int32)), (.int ((ii * (16 : Int32)) + (8 : Int32))), (.ref a1), (.long x3)])) rfl (by rw [hml]; rfl) (argsL := [(.ref a1), (.int ((ii * (16 : Int32)) + (8 : Int32))), (.int (8 : Int32))]) (rest := [(.long x3)]) (lenOf pd_2_8 rfl) rfl (by show 2 * 0 + _ ≤ _; exact Nat.le_of_eq rfl) (hb hby d2_70) (fun _ _ => ⟨rfl, hE4, (Nat.le_of_ble_eq_true rfl), (Nat.le_of_ble_eq_true rfl)⟩)
  dsimp only [Pt.U, Pt.locs, Pt.cells, Pt.slots] at X5 l5 y5 z5 st5 hQ5
  subst l5 y5 z5
  obtain ⟨r5, rfl, N5q, hE5⟩ := hQ5
  have N5 := Fr.app N4 N5q
  obtain ⟨_, _, ⟨T6, L6, k6, n6⟩, -, X6, ⟨Lc6, hQ6, l6, y6, z6⟩, st6⟩ := Jvm.LawKit.callS X5 hx (y := (⟨"com/example/stratifold/stratifold/Token", "mixK2", "(J)J"⟩ : MethodName)) hown (mvT hZ (hw _ (List.mem_of_getElem? (i := 53) rfl))) (mvT hZ (hw _ (List.mem_of_getElem? (i := 54) rfl))) (mvT hZ (hw _ (List.mem_of_getElem? (i := 10) rfl))) (mvT hZ (hw _ (List.mem_of_getElem? (i := 55) rfl))) (by decide) (backOf (W := 2) (rm11 l Z a0 hw [] r5 h0 n0 Z0) hZ (hw _ (List.mem_of_getElem? (i := 55) rfl)) (hw _ (List.mem_of_getElem? (i := 10) rfl)) (by decide) (by decide)) (g := (mkF m 73 #[.val (.ref a1), .val (.long (((r4 + x3) * (5 : Int64)) + (1390208809 : Int64))), .second, .val (.long x3), .second, .val (.int nb), .val (.int ii), .val (.int (ii * (16 : Int32)))] [(.long r5), (.long x3)])) rfl (by rw [hml]; rfl) (argsL := [(.long r5)]) (rest := [(.long x3)]) (lenOf pd_2_2 rfl) rfl (by show 2 * 0 + _ ≤ _; exact Nat.le_of_eq rfl) (hb hby d2_73) (fun _ _ => ⟨rfl, hE5, (Nat.le_of_ble_eq_true rfl), (Nat.le_of_ble_eq_true rfl)⟩)
  dsimp only [Pt.U, Pt.locs, Pt.cells, Pt.slots] at X6 l6 y6 z6 st6 hQ6
  subst l6 y6 z6
  obtain ⟨r6, rfl, N6q, hE6⟩ := hQ6
  have N6 := Fr.app N5 N6q
  obtain ⟨_, _, ⟨T7, L7, k7, n7⟩, -, X7, ⟨Lc7, hQ7, l7, y7, z7⟩, st7⟩ := Jvm.LawKit.callS X6 hx (y := (⟨"java/lang/Long", "rotateLeft", "(JI)J"⟩ : MethodName)) hown (mvT hZ (hw _ (List.mem_of_getElem? (i := 57) rfl))) (mvT hZ (hw _ (List.mem_of_getElem? (i := 58) rfl))) (mvT hZ (hw _ (List.mem_of_getElem? (i := 59) rfl))) (mvT hZ (hw _ (List.mem_of_getElem? (i := 60) rfl))) (by decide) (backOf (W := 0) (rm12 l Z a0 hw [] (x3 ^^^ r6) (31 : Int32) h0 n0 Z0) hZ (hw _ (List.mem_of_getElem? (i := 60) rfl)) (hw _ (List.mem_of_getElem? (i := 59) rfl)) (by decide) (by decide)) (g := (mkF m 81 #[.val (.ref a1), .val (.long (((r4 + x3) * (5 : Int64)) + (1390208809 : Int64))), .second, .val (.long (x3 ^^^ r6)), .second, .val (.int nb), .val (.int ii), .val (.int (ii * (16 : Int32)))] [(.int (31 : Int32)), (.long (x3 ^^^ r6))])) rfl (by rw [hml]; rfl) (argsL := [(.long (x3 ^^^ r6)), (.int (31 : Int32))]) (rest := []) (lenOf pd_2_9 rfl) rfl (by show 2 * 0 + _ ≤ _; exact Nat.le_of_eq rfl) (hb hby d2_81) (fun _ _ => ⟨rfl, hE6, (Nat.le_of_ble_eq_true rfl), (Nat.le_of_ble_eq_true rfl)⟩)
  dsimp only [Pt.U, Pt.locs, Pt.cells, Pt.slots] at X7 l7 y7 z7 st7 hQ7
  subst l7 y7 z7
  obtain ⟨r7, rfl, N7q, hE7⟩ := hQ7
  have N7 := Fr.app N6 N7q
  refine ⟨T7, _, (((r4 + x3) * (5 : Int64)) + (1390208809 : Int64)), (((r7 + (((r4 + x3) * (5 : Int64)) + (1390208809 : Int64))) * (5 : Int64)) + (944331445 : Int64)), X7, hE7, N7, fun target kt => ?_⟩
  show Steps p.tables e below (T0.setTop (mkF m 14 #[.val (.ref a1), .val (.long x1), .second, .val (.long x3), .second, .val (.int nb), .val (.int ii), s7] [])) _
  refine XS.iload X0.here hx rfl (hb hby d2_14) rfl ?_
  show Steps p.tables e below (T0.setTop (mkF m 16 #[.val (.ref a1), .val (.long x1), .second, .val (.long x3), .second, .val (.int nb), .val (.int ii), s7] [(.int ii)])) _
  refine XS.iload X0.here hx rfl (hb hby d2_16) rfl ?_
  show Steps p.tables e below (T0.setTop (mkF m 18 #[.val (.ref a1), .val (.long x1), .second, .val (.long x3), .second, .val (.int nb), .val (.int ii), s7] [(.int nb), (.int ii)])) _
  refine XS.icmpNo X0.here hx rfl (hb hby d2_18) rfl (tlt hc18).2.1 ?_
  show Steps p.tables e below (T0.setTop (mkF m 21 #[.val (.ref a1), .val (.long x1), .second, .val (.long x3), .second, .val (.int nb), .val (.int ii), s7] [])) _
  refine XS.iload X0.here hx rfl (hb hby d2_21) rfl ?_
  show Steps p.tables e below (T0.setTop (mkF m 23 #[.val (.ref a1), .val (.long x1), .second, .val (.long x3), .second, .val (.int nb), .val (.int ii), s7] [(.int ii)])) _
  refine XS.bipush X0.here hx rfl (hb hby d2_23) ?_
  show Steps p.tables e below (T0.setTop (mkF m 25 #[.val (.ref a1), .val (.long x1), .second, .val (.long x3), .second, .val (.int nb), .val (.int ii), s7] [(.int (16 : Int32)), (.int ii)])) _
  refine XS.imul X0.here hx rfl (hb hby d2_25) rfl ?_
  show Steps p.tables e below (T0.setTop (mkF m 26 #[.val (.ref a1), .val (.long x1), .second, .val (.long x3), .second, .val (.int nb), .val (.int ii), s7] [(.int (ii * (16 : Int32)))])) _
  refine XS.istore X0.here hx rfl (hb hby d2_26) rfl (l' := #[.val (.ref a1), .val (.long x1), .second, .val (.long x3), .second, .val (.int nb), .val (.int ii), .val (.int (ii * (16 : Int32)))]) (ostnT_t_26 hs7) ?_
  show Steps p.tables e below (T0.setTop (mkF m 28 #[.val (.ref a1), .val (.long x1), .second, .val (.long x3), .second, .val (.int nb), .val (.int ii), .val (.int (ii * (16 : Int32)))] [])) _
  refine XS.lloadN X0.here hx rfl (hb hby d2_28) rfl ?_
  show Steps p.tables e below (T0.setTop (mkF m 29 #[.val (.ref a1), .val (.long x1), .second, .val (.long x3), .second, .val (.int nb), .val (.int ii), .val (.int (ii * (16 : Int32)))] [(.long x1)])) _
  refine XS.aloadN X0.here hx rfl (hb hby d2_29) rfl rfl ?_
  show Steps p.tables e below (T0.setTop (mkF m 30 #[.val (.ref a1), .val (.long x1), .second, .val (.long x3), .second, .val (.int nb), .val (.int ii), .val (.int (ii * (16 : Int32)))] [(.ref a1), (.long x1)])) _
  refine XS.iload X0.here hx rfl (hb hby d2_30) rfl ?_
  show Steps p.tables e below (T0.setTop (mkF m 32 #[.val (.ref a1), .val (.long x1), .second, .val (.long x3), .second, .val (.int nb), .val (.int ii), .val (.int (ii * (16 : Int32)))] [(.int (ii * (16 : Int32))), (.ref a1), (.long x1)])) _
  refine XS.bipush X0.here hx rfl (hb hby d2_32) ?_
  show Steps p.tables e below (T0.setTop (mkF m 34 #[.val (.ref a1), .val (.long x1), .second, .val (.long x3), .second, .val (.int nb), .val (.int ii), .val (.int (ii * (16 : Int32)))] [(.int (8 : Int32)), (.int (ii * (16 : Int32))), (.ref a1), (.long x1)])) _
  refine st2 _ ?_
  show Steps p.tables e below (T2.setTop (mkF m 37 #[.val (.ref a1), .val (.long x1), .second, .val (.long x3), .second, .val (.int nb), .val (.int ii), .val (.int (ii * (16 : Int32)))] [(.long r2), (.long x1)])) _
  refine st3 _ ?_
  show Steps p.tables e below (T3.setTop (mkF m 40 #[.val (.ref a1), .val (.long x1), .second, .val (.long x3), .second, .val (.int nb), .val (.int ii), .val (.int (ii * (16 : Int32)))] [(.long r3), (.long x1)])) _
  refine XS.lxor X3.here hx rfl (hb hby d2_40) rfl ?_
  show Steps p.tables e below (T3.setTop (mkF m 41 #[.val (.ref a1), .val (.long x1), .second, .val (.long x3), .second, .val (.int nb), .val (.int ii), .val (.int (ii * (16 : Int32)))] [(.long (x1 ^^^ r3))])) _
  refine XS.lstoreN X3.here hx rfl (hb hby d2_41) rfl (l' := #[.val (.ref a1), .val (.long (x1 ^^^ r3)), .second, .val (.long x3), .second, .val (.int nb), .val (.int ii), .val (.int (ii * (16 : Int32)))]) rfl ?_
  show Steps p.tables e below (T3.setTop (mkF m 42 #[.val (.ref a1), .val (.long (x1 ^^^ r3)), .second, .val (.long x3), .second, .val (.int nb), .val (.int ii), .val (.int (ii * (16 : Int32)))] [])) _
  refine XS.lloadN X3.here hx rfl (hb hby d2_42) rfl ?_
  show Steps p.tables e below (T3.setTop (mkF m 43 #[.val (.ref a1), .val (.long (x1 ^^^ r3)), .second, .val (.long x3), .second, .val (.int nb), .val (.int ii), .val (.int (ii * (16 : Int32)))] [(.long (x1 ^^^ r3))])) _
  refine XS.bipush X3.here hx rfl (hb hby d2_43) ?_
  show Steps p.tables e below (T3.setTop (mkF m 45 #[.val (.ref a1), .val (.long (x1 ^^^ r3)), .second, .val (.long x3), .second, .val (.int nb), .val (.int ii), .val (.int (ii * (16 : Int32)))] [(.int (27 : Int32)), (.long (x1 ^^^ r3))])) _
  refine st4 _ ?_
  show Steps p.tables e below (T4.setTop (mkF m 48 #[.val (.ref a1), .val (.long (x1 ^^^ r3)), .second, .val (.long x3), .second, .val (.int nb), .val (.int ii), .val (.int (ii * (16 : Int32)))] [(.long r4)])) _
  refine XS.lloadN X4.here hx rfl (hb hby d2_48) rfl ?_
  show Steps p.tables e below (T4.setTop (mkF m 49 #[.val (.ref a1), .val (.long (x1 ^^^ r3)), .second, .val (.long x3), .second, .val (.int nb), .val (.int ii), .val (.int (ii * (16 : Int32)))] [(.long x3), (.long r4)])) _
  refine XS.ladd X4.here hx rfl (hb hby d2_49) rfl ?_
  show Steps p.tables e below (T4.setTop (mkF m 50 #[.val (.ref a1), .val (.long (x1 ^^^ r3)), .second, .val (.long x3), .second, .val (.int nb), .val (.int ii), .val (.int (ii * (16 : Int32)))] [(.long (r4 + x3))])) _
  refine XS.lstoreN X4.here hx rfl (hb hby d2_50) rfl (l' := #[.val (.ref a1), .val (.long (r4 + x3)), .second, .val (.long x3), .second, .val (.int nb), .val (.int ii), .val (.int (ii * (16 : Int32)))]) rfl ?_
  show Steps p.tables e below (T4.setTop (mkF m 51 #[.val (.ref a1), .val (.long (r4 + x3)), .second, .val (.long x3), .second, .val (.int nb), .val (.int ii), .val (.int (ii * (16 : Int32)))] [])) _
  refine XS.lloadN X4.here hx rfl (hb hby d2_51) rfl ?_
  show Steps p.tables e below (T4.setTop (mkF m 52 #[.val (.ref a1), .val (.long (r4 + x3)), .second, .val (.long x3), .second, .val (.int nb), .val (.int ii), .val (.int (ii * (16 : Int32)))] [(.long (r4 + x3))])) _
  refine X4.ldc2Long hx hown (mvT hZ (hw _ (List.mem_of_getElem? (i := 69) rfl))) (g := (mkF m 52 #[.val (.ref a1), .val (.long (r4 + x3)), .second, .val (.long x3), .second, .val (.int nb), .val (.int ii), .val (.int (ii * (16 : Int32)))] [(.long (r4 + x3))])) rfl (hb hby d2_52) _ ?_
  show Steps p.tables e below (T4.setTop (mkF m 55 #[.val (.ref a1), .val (.long (r4 + x3)), .second, .val (.long x3), .second, .val (.int nb), .val (.int ii), .val (.int (ii * (16 : Int32)))] [(.long (5 : Int64)), (.long (r4 + x3))])) _
  refine XS.lmul X4.here hx rfl (hb hby d2_55) rfl ?_
  show Steps p.tables e below (T4.setTop (mkF m 56 #[.val (.ref a1), .val (.long (r4 + x3)), .second, .val (.long x3), .second, .val (.int nb), .val (.int ii), .val (.int (ii * (16 : Int32)))] [(.long ((r4 + x3) * (5 : Int64)))])) _
  refine X4.ldc2Long hx hown (mvT hZ (hw _ (List.mem_of_getElem? (i := 70) rfl))) (g := (mkF m 56 #[.val (.ref a1), .val (.long (r4 + x3)), .second, .val (.long x3), .second, .val (.int nb), .val (.int ii), .val (.int (ii * (16 : Int32)))] [(.long ((r4 + x3) * (5 : Int64)))])) rfl (hb hby d2_56) _ ?_
  show Steps p.tables e below (T4.setTop (mkF m 59 #[.val (.ref a1), .val (.long (r4 + x3)), .second, .val (.long x3), .second, .val (.int nb), .val (.int ii), .val (.int (ii * (16 : Int32)))] [(.long (1390208809 : Int64)), (.long ((r4 + x3) * (5 : Int64)))])) _
  refine XS.ladd X4.here hx rfl (hb hby d2_59) rfl ?_
  show Steps p.tables e below (T4.setTop (mkF m 60 #[.val (.ref a1), .val (.long (r4 + x3)), .second, .val (.long x3), .second, .val (.int nb), .val (.int ii), .val (.int (ii * (16 : Int32)))] [(.long (((r4 + x3) * (5 : Int64)) + (1390208809 : Int64)))])) _
  refine XS.lstoreN X4.here hx rfl (hb hby d2_60) rfl (l' := #[.val (.ref a1), .val (.long (((r4 + x3) * (5 : Int64)) + (1390208809 : Int64))), .second, .val (.long x3), .second, .val (.int nb), .val (.int ii), .val (.int (ii * (16 : Int32)))]) rfl ?_
  show Steps p.tables e below (T4.setTop (mkF m 61 #[.val (.ref a1), .val (.long (((r4 + x3) * (5 : Int64)) + (1390208809 : Int64))), .second, .val (.long x3), .second, .val (.int nb), .val (.int ii), .val (.int (ii * (16 : Int32)))] [])) _
  refine XS.lloadN X4.here hx rfl (hb hby d2_61) rfl ?_
  show Steps p.tables e below (T4.setTop (mkF m 62 #[.val (.ref a1), .val (.long (((r4 + x3) * (5 : Int64)) + (1390208809 : Int64))), .second, .val (.long x3), .second, .val (.int nb), .val (.int ii), .val (.int (ii * (16 : Int32)))] [(.long x3)])) _
  refine XS.aloadN X4.here hx rfl (hb hby d2_62) rfl rfl ?_
  show Steps p.tables e below (T4.setTop (mkF m 63 #[.val (.ref a1), .val (.long (((r4 + x3) * (5 : Int64)) + (1390208809 : Int64))), .second, .val (.long x3), .second, .val (.int nb), .val (.int ii), .val (.int (ii * (16 : Int32)))] [(.ref a1), (.long x3)])) _
  refine XS.iload X4.here hx rfl (hb hby d2_63) rfl ?_
  show Steps p.tables e below (T4.setTop (mkF m 65 #[.val (.ref a1), .val (.long (((r4 + x3) * (5 : Int64)) + (1390208809 : Int64))), .second, .val (.long x3), .second, .val (.int nb), .val (.int ii), .val (.int (ii * (16 : Int32)))] [(.int (ii * (16 : Int32))), (.ref a1), (.long x3)])) _
  refine XS.bipush X4.here hx rfl (hb hby d2_65) ?_
  show Steps p.tables e below (T4.setTop (mkF m 67 #[.val (.ref a1), .val (.long (((r4 + x3) * (5 : Int64)) + (1390208809 : Int64))), .second, .val (.long x3), .second, .val (.int nb), .val (.int ii), .val (.int (ii * (16 : Int32)))] [(.int (8 : Int32)), (.int (ii * (16 : Int32))), (.ref a1), (.long x3)])) _
  refine XS.iadd X4.here hx rfl (hb hby d2_67) rfl ?_
  show Steps p.tables e below (T4.setTop (mkF m 68 #[.val (.ref a1), .val (.long (((r4 + x3) * (5 : Int64)) + (1390208809 : Int64))), .second, .val (.long x3), .second, .val (.int nb), .val (.int ii), .val (.int (ii * (16 : Int32)))] [(.int ((ii * (16 : Int32)) + (8 : Int32))), (.ref a1), (.long x3)])) _
  refine XS.bipush X4.here hx rfl (hb hby d2_68) ?_
  show Steps p.tables e below (T4.setTop (mkF m 70 #[.val (.ref a1), .val (.long (((r4 + x3) * (5 : Int64)) + (1390208809 : Int64))), .second, .val (.long x3), .second, .val (.int nb), .val (.int ii), .val (.int (ii * (16 : Int32)))] [(.int (8 : Int32)), (.int ((ii * (16 : Int32)) + (8 : Int32))), (.ref a1), (.long x3)])) _
  refine st5 _ ?_
  show Steps p.tables e below (T5.setTop (mkF m 73 #[.val (.ref a1), .val (.long (((r4 + x3) * (5 : Int64)) + (1390208809 : Int64))), .second, .val (.long x3), .second, .val (.int nb), .val (.int ii), .val (.int (ii * (16 : Int32)))] [(.long r5), (.long x3)])) _
  refine st6 _ ?_
  show Steps p.tables e below (T6.setTop (mkF m 76 #[.val (.ref a1), .val (.long (((r4 + x3) * (5 : Int64)) + (1390208809 : Int64))), .second, .val (.long x3), .second, .val (.int nb), .val (.int ii), .val (.int (ii * (16 : Int32)))] [(.long r6), (.long x3)])) _
  refine XS.lxor X6.here hx rfl (hb hby d2_76) rfl ?_
  show Steps p.tables e below (T6.setTop (mkF m 77 #[.val (.ref a1), .val (.long (((r4 + x3) * (5 : Int64)) + (1390208809 : Int64))), .second, .val (.long x3), .second, .val (.int nb), .val (.int ii), .val (.int (ii * (16 : Int32)))] [(.long (x3 ^^^ r6))])) _
  refine XS.lstoreN X6.here hx rfl (hb hby d2_77) rfl (l' := #[.val (.ref a1), .val (.long (((r4 + x3) * (5 : Int64)) + (1390208809 : Int64))), .second, .val (.long (x3 ^^^ r6)), .second, .val (.int nb), .val (.int ii), .val (.int (ii * (16 : Int32)))]) rfl ?_
  show Steps p.tables e below (T6.setTop (mkF m 78 #[.val (.ref a1), .val (.long (((r4 + x3) * (5 : Int64)) + (1390208809 : Int64))), .second, .val (.long (x3 ^^^ r6)), .second, .val (.int nb), .val (.int ii), .val (.int (ii * (16 : Int32)))] [])) _
  refine XS.lloadN X6.here hx rfl (hb hby d2_78) rfl ?_
  show Steps p.tables e below (T6.setTop (mkF m 79 #[.val (.ref a1), .val (.long (((r4 + x3) * (5 : Int64)) + (1390208809 : Int64))), .second, .val (.long (x3 ^^^ r6)), .second, .val (.int nb), .val (.int ii), .val (.int (ii * (16 : Int32)))] [(.long (x3 ^^^ r6))])) _
  refine XS.bipush X6.here hx rfl (hb hby d2_79) ?_
  show Steps p.tables e below (T6.setTop (mkF m 81 #[.val (.ref a1), .val (.long (((r4 + x3) * (5 : Int64)) + (1390208809 : Int64))), .second, .val (.long (x3 ^^^ r6)), .second, .val (.int nb), .val (.int ii), .val (.int (ii * (16 : Int32)))] [(.int (31 : Int32)), (.long (x3 ^^^ r6))])) _
  refine st7 _ ?_
  show Steps p.tables e below (T7.setTop (mkF m 84 #[.val (.ref a1), .val (.long (((r4 + x3) * (5 : Int64)) + (1390208809 : Int64))), .second, .val (.long (x3 ^^^ r6)), .second, .val (.int nb), .val (.int ii), .val (.int (ii * (16 : Int32)))] [(.long r7)])) _
  refine XS.lloadN X7.here hx rfl (hb hby d2_84) rfl ?_
  show Steps p.tables e below (T7.setTop (mkF m 85 #[.val (.ref a1), .val (.long (((r4 + x3) * (5 : Int64)) + (1390208809 : Int64))), .second, .val (.long (x3 ^^^ r6)), .second, .val (.int nb), .val (.int ii), .val (.int (ii * (16 : Int32)))] [(.long (((r4 + x3) * (5 : Int64)) + (1390208809 : Int64))), (.long r7)])) _
  refine XS.ladd X7.here hx rfl (hb hby d2_85) rfl ?_
  show Steps p.tables e below (T7.setTop (mkF m 86 #[.val (.ref a1), .val (.long (((r4 + x3) * (5 : Int64)) + (1390208809 : Int64))), .second, .val (.long (x3 ^^^ r6)), .second, .val (.int nb), .val (.int ii), .val (.int (ii * (16 : Int32)))] [(.long (r7 + (((r4 + x3) * (5 : Int64)) + (1390208809 : Int64))))])) _
  refine XS.lstoreN X7.here hx rfl (hb hby d2_86) rfl (l' := #[.val (.ref a1), .val (.long (((r4 + x3) * (5 : Int64)) + (1390208809 : Int64))), .second, .val (.long (r7 + (((r4 + x3) * (5 : Int64)) + (1390208809 : Int64)))), .second, .val (.int nb), .val (.int ii), .val (.int (ii * (16 : Int32)))]) rfl ?_
  show Steps p.tables e below (T7.setTop (mkF m 87 #[.val (.ref a1), .val (.long (((r4 + x3) * (5 : Int64)) + (1390208809 : Int64))), .second, .val (.long (r7 + (((r4 + x3) * (5 : Int64)) + (1390208809 : Int64)))), .second, .val (.int nb), .val (.int ii), .val (.int (ii * (16 : Int32)))] [])) _
  refine XS.lloadN X7.here hx rfl (hb hby d2_87) rfl ?_
  show Steps p.tables e below (T7.setTop (mkF m 88 #[.val (.ref a1), .val (.long (((r4 + x3) * (5 : Int64)) + (1390208809 : Int64))), .second, .val (.long (r7 + (((r4 + x3) * (5 : Int64)) + (1390208809 : Int64)))), .second, .val (.int nb), .val (.int ii), .val (.int (ii * (16 : Int32)))] [(.long (r7 + (((r4 + x3) * (5 : Int64)) + (1390208809 : Int64))))])) _
  refine X7.ldc2Long hx hown (mvT hZ (hw _ (List.mem_of_getElem? (i := 69) rfl))) (g := (mkF m 88 #[.val (.ref a1), .val (.long (((r4 + x3) * (5 : Int64)) + (1390208809 : Int64))), .second, .val (.long (r7 + (((r4 + x3) * (5 : Int64)) + (1390208809 : Int64)))), .second, .val (.int nb), .val (.int ii), .val (.int (ii * (16 : Int32)))] [(.long (r7 + (((r4 + x3) * (5 : Int64)) + (1390208809 : Int64))))])) rfl (hb hby d2_88) _ ?_
  show Steps p.tables e below (T7.setTop (mkF m 91 #[.val (.ref a1), .val (.long (((r4 + x3) * (5 : Int64)) + (1390208809 : Int64))), .second, .val (.long (r7 + (((r4 + x3) * (5 : Int64)) + (1390208809 : Int64)))), .second, .val (.int nb), .val (.int ii), .val (.int (ii * (16 : Int32)))] [(.long (5 : Int64)), (.long (r7 + (((r4 + x3) * (5 : Int64)) + (1390208809 : Int64))))])) _
  refine XS.lmul X7.here hx rfl (hb hby d2_91) rfl ?_
  show Steps p.tables e below (T7.setTop (mkF m 92 #[.val (.ref a1), .val (.long (((r4 + x3) * (5 : Int64)) + (1390208809 : Int64))), .second, .val (.long (r7 + (((r4 + x3) * (5 : Int64)) + (1390208809 : Int64)))), .second, .val (.int nb), .val (.int ii), .val (.int (ii * (16 : Int32)))] [(.long ((r7 + (((r4 + x3) * (5 : Int64)) + (1390208809 : Int64))) * (5 : Int64)))])) _
  refine X7.ldc2Long hx hown (mvT hZ (hw _ (List.mem_of_getElem? (i := 71) rfl))) (g := (mkF m 92 #[.val (.ref a1), .val (.long (((r4 + x3) * (5 : Int64)) + (1390208809 : Int64))), .second, .val (.long (r7 + (((r4 + x3) * (5 : Int64)) + (1390208809 : Int64)))), .second, .val (.int nb), .val (.int ii), .val (.int (ii * (16 : Int32)))] [(.long ((r7 + (((r4 + x3) * (5 : Int64)) + (1390208809 : Int64))) * (5 : Int64)))])) rfl (hb hby d2_92) _ ?_
  show Steps p.tables e below (T7.setTop (mkF m 95 #[.val (.ref a1), .val (.long (((r4 + x3) * (5 : Int64)) + (1390208809 : Int64))), .second, .val (.long (r7 + (((r4 + x3) * (5 : Int64)) + (1390208809 : Int64)))), .second, .val (.int nb), .val (.int ii), .val (.int (ii * (16 : Int32)))] [(.long (944331445 : Int64)), (.long ((r7 + (((r4 + x3) * (5 : Int64)) + (1390208809 : Int64))) * (5 : Int64)))])) _
  refine XS.ladd X7.here hx rfl (hb hby d2_95) rfl ?_
  show Steps p.tables e below (T7.setTop (mkF m 96 #[.val (.ref a1), .val (.long (((r4 + x3) * (5 : Int64)) + (1390208809 : Int64))), .second, .val (.long (r7 + (((r4 + x3) * (5 : Int64)) + (1390208809 : Int64)))), .second, .val (.int nb), .val (.int ii), .val (.int (ii * (16 : Int32)))] [(.long (((r7 + (((r4 + x3) * (5 : Int64)) + (1390208809 : Int64))) * (5 : Int64)) + (944331445 : Int64)))])) _
  refine XS.lstoreN X7.here hx rfl (hb hby d2_96) rfl (l' := #[.val (.ref a1), .val (.long (((r4 + x3) * (5 : Int64)) + (1390208809 : Int64))), .second, .val (.long (((r7 + (((r4 + x3) * (5 : Int64)) + (1390208809 : Int64))) * (5 : Int64)) + (944331445 : Int64))), .second, .val (.int nb), .val (.int ii), .val (.int (ii * (16 : Int32)))]) rfl ?_
  show Steps p.tables e below (T7.setTop (mkF m 97 #[.val (.ref a1), .val (.long (((r4 + x3) * (5 : Int64)) + (1390208809 : Int64))), .second, .val (.long (((r7 + (((r4 + x3) * (5 : Int64)) + (1390208809 : Int64))) * (5 : Int64)) + (944331445 : Int64))), .second, .val (.int nb), .val (.int ii), .val (.int (ii * (16 : Int32)))] [])) _
  refine XS.iinc X7.here hx rfl (hb hby d2_97) rfl (l' := #[.val (.ref a1), .val (.long (((r4 + x3) * (5 : Int64)) + (1390208809 : Int64))), .second, .val (.long (((r7 + (((r4 + x3) * (5 : Int64)) + (1390208809 : Int64))) * (5 : Int64)) + (944331445 : Int64))), .second, .val (.int nb), .val (.int (ii + (1 : Int32))), .val (.int (ii * (16 : Int32)))]) rfl ?_
  show Steps p.tables e below (T7.setTop (mkF m 100 #[.val (.ref a1), .val (.long (((r4 + x3) * (5 : Int64)) + (1390208809 : Int64))), .second, .val (.long (((r7 + (((r4 + x3) * (5 : Int64)) + (1390208809 : Int64))) * (5 : Int64)) + (944331445 : Int64))), .second, .val (.int nb), .val (.int (ii + (1 : Int32))), .val (.int (ii * (16 : Int32)))] [])) _
  refine XS.goto X7.here hx rfl (pc0 := 100) (pc' := 14) rfl (hb hby d2_100) (by decide) (by decide) ?_
  exact kt
set_option maxRecDepth 65536 in
set_option maxHeartbeats 40000000 in
theorem tnT_l {p : Program} {l : Launch} {e : Env} {R : Room} {s : State} {m : MethodId} {args : Array Value} {below : List Frame} {meth : Method} {c : Code} {T0 : State} {locs : List Loc} {cells slots : Nat} {Z : State} {a0 : Array Value} {h0 : Heap} (a1 : Addr) (x1 : Int64) (x3 : Int64) (nb : Int32) (ii : Int32) (s7 : Slot)
    (X0 : Stand p l e R s m args below meth c T0 locs cells slots) (hx : p.tables.exec = Jvm.exec) (hZ : Z.Warmed39 s.vm) (hw : ∀ d ∈ tables_1, d.before a0 Z = true) (hby : c.code = prog_68_method_2_code) (hml : c.maxLocals = 8) (hown : s.vm.findClass "com/example/stratifold/stratifold/Token" = some m.cls) (e0 : T0.heap = h0) (hc18 : ¬ (ii < nb)) :
    ∃ (T' : State), Stand p l e R s m args below meth c T' locs cells slots ∧ T'.heap = h0 ∧
      ∀ target, Steps p.tables e below (T'.setTop (mkF m 103 #[.val (.ref a1), .val (.long x1), .second, .val (.long x3), .second, .val (.int nb), .val (.int ii), s7] [])) target → Steps p.tables e below (T0.setTop (mkF m 14 #[.val (.ref a1), .val (.long x1), .second, .val (.long x3), .second, .val (.int nb), .val (.int ii), s7] [])) target := by

  refine ⟨T0, X0, e0, fun target kt => ?_⟩
  show Steps p.tables e below (T0.setTop (mkF m 14 #[.val (.ref a1), .val (.long x1), .second, .val (.long x3), .second, .val (.int nb), .val (.int ii), s7] [])) _
  refine XS.iload X0.here hx rfl (hb hby d2_14) rfl ?_
  show Steps p.tables e below (T0.setTop (mkF m 16 #[.val (.ref a1), .val (.long x1), .second, .val (.long x3), .second, .val (.int nb), .val (.int ii), s7] [(.int ii)])) _
  refine XS.iload X0.here hx rfl (hb hby d2_16) rfl ?_
  show Steps p.tables e below (T0.setTop (mkF m 18 #[.val (.ref a1), .val (.long x1), .second, .val (.long x3), .second, .val (.int nb), .val (.int ii), s7] [(.int nb), (.int ii)])) _
  refine XS.icmpYes X0.here hx rfl (pc0 := 18) (pc' := 103) rfl (hb hby d2_18) rfl (flt hc18).2.1 (by decide) (by decide) ?_
  exact kt
theorem loopT {p : Program} {l : Launch} {e : Env} {s : State} {m : MethodId} {args : Array Value} {below : List Frame} {meth : Method} {c : Code} {Z : State} {a0 : Array Value} {h0 : Heap} (a1 : Addr) (nb : Int32) (cl : Cell) (z : Int32) (hx : p.tables.exec = Jvm.exec) (hZ : Z.Warmed39 s.vm) (hw : ∀ d ∈ tables_1, d.before a0 Z = true) (hby : c.code = prog_68_method_2_code) (hml : c.maxLocals = 8) (hown : s.vm.findClass "com/example/stratifold/stratifold/Token" = some m.cls) (n0 : Nat) (Z0 : n0 ≤ h0.size) (hT : TB Z h0 a1 cl z) (hb16 : nb.toInt * 16 ≤ z.toInt) (hzM : z.toInt ≤ 65535) :
    ∀ (k : Nat) (T0 : State) (locs : List Loc) (x1 x3 : Int64) (ii : Int32) (s7 : Slot), Stand p l e ({ frames := 2, cells := 0, slots := 0, locals := 40 } : Room) s m args below meth c T0 locs 0 0 → T0.heap = h0 → Fr n0 locs → One s7 → 0 ≤ ii.toInt → ii.toInt + k = nb.toInt →
    ∃ (T' : State) (locs' : List Loc) (y1 y3 : Int64) (jj : Int32) (t7 : Slot), Stand p l e ({ frames := 2, cells := 0, slots := 0, locals := 40 } : Room) s m args below meth c T' locs' 0 0 ∧ T'.heap = h0 ∧ Fr n0 locs' ∧ One t7 ∧ ∀ target, Steps p.tables e below (T'.setTop (mkF m 103 #[.val (.ref a1), .val (.long y1), .second, .val (.long y3), .second, .val (.int nb), .val (.int jj), t7] [])) target → Steps p.tables e below (T0.setTop (mkF m 14 #[.val (.ref a1), .val (.long x1), .second, .val (.long x3), .second, .val (.int nb), .val (.int ii), s7] [])) target := by
  intro k
  induction k with
  | zero =>
    intro T0 locs x1 x3 ii s7 X0 e0 N0 h7 hi hk
    obtain ⟨T1, X1, e1, st1⟩ := tnT_l a1 x1 x3 nb ii s7 X0 hx hZ hw hby hml hown e0 (own_nlt (by omega))
    exact ⟨T1, locs, x1, x3, ii, s7, X1, e1, N0, h7, st1⟩
  | succ k ih =>
    intro T0 locs x1 x3 ii s7 X0 e0 N0 h7 hi hk
    have q1 : (1 : Int32).toInt = 1 := rfl
    obtain ⟨T1, l1, y1, y3, X1, e1, N1, st1⟩ := tnT_t a1 x1 x3 nb ii s7 X0 hx hZ hw hby hml hown e0 n0 Z0 N0 cl z hT hb16 hzM hi (by omega) h7 (own_lt (by omega))
    have ei : (ii + (1 : Int32)).toInt = ii.toInt + 1 := by rw [Jvm.Kit.i32_add (by rw [q1]; omega) (by rw [q1]; omega), q1]
    obtain ⟨T2, l2, w1, w3, jj, t7, X2, e2, N2, g7, st2⟩ := ih T1 l1 y1 y3 (ii + (1 : Int32)) (.val (.int (ii * (16 : Int32)))) X1 e1 N1 (One.val rfl) (by rw [ei]; omega) (by rw [ei]; omega)
    exact ⟨T2, l2, w1, w3, jj, t7, X2, e2, N2, g7, fun target kt => st1 target (st2 target kt)⟩
theorem d2_103 : decode prog_68_method_2_code 103 = .ok (.iload 5, 2) := by decide +kernel
theorem d2_105 : decode prog_68_method_2_code 105 = .ok (.bipush 16, 2) := by decide +kernel
theorem d2_107 : decode prog_68_method_2_code 107 = .ok (.imul, 1) := by decide +kernel
theorem d2_108 : decode prog_68_method_2_code 108 = .ok (.istore 6, 2) := by decide +kernel
theorem d2_110 : decode prog_68_method_2_code 110 = .ok (.aload_n 0, 1) := by decide +kernel
theorem d2_111 : decode prog_68_method_2_code 111 = .ok (.arraylength, 1) := by decide +kernel
theorem d2_112 : decode prog_68_method_2_code 112 = .ok (.iload 6, 2) := by decide +kernel
theorem d2_114 : decode prog_68_method_2_code 114 = .ok (.isub, 1) := by decide +kernel
theorem d2_115 : decode prog_68_method_2_code 115 = .ok (.istore 7, 2) := by decide +kernel
theorem d2_117 : decode prog_68_method_2_code 117 = .ok (.iload 7, 2) := by decide +kernel
theorem d2_119 : decode prog_68_method_2_code 119 = .ok (.bipush 8, 2) := by decide +kernel
theorem d2_121 : decode prog_68_method_2_code 121 = .ok (.if_icmp .le 23, 3) := by decide +kernel
theorem d2_144 : decode prog_68_method_2_code 144 = .ok (.iload 7, 2) := by decide +kernel
theorem d2_146 : decode prog_68_method_2_code 146 = .ok (.ifCond .le 22, 3) := by decide +kernel
theorem ostnT_0_115 {z0 : Value} {z1 : Value} {z3 : Value} {z5 : Value} {z6 : Value} {s7 : Slot} {v : Int32} (h : One s7) : storeLocals #[.val z0, .val z1, .second, .val z3, .second, .val z5, .val z6, s7] 7 (.int v) = some #[.val z0, .val z1, .second, .val z3, .second, .val z5, .val z6, .val (.int v)] := by
  rcases h with rfl | ⟨w, rfl, hw⟩
  · rfl
  · cases w <;> first | rfl | (simp [Value.category] at hw)
set_option maxRecDepth 65536 in
set_option maxHeartbeats 40000000 in
theorem tnT_0 {p : Program} {l : Launch} {e : Env} {s : State} {m : MethodId} {args : Array Value} {below : List Frame} {meth : Method} {c : Code} {T0 : State} {locs : List Loc} {Z : State} {a0 : Array Value} {h0 : Heap} (a1 : Addr) (x1 : Int64) (x3 : Int64) (nb : Int32) (ii : Int32) (s7 : Slot)
    (X0 : Stand p l e ({ frames := 2, cells := 0, slots := 0, locals := 40 } : Room) s m args below meth c T0 locs 0 0) (hx : p.tables.exec = Jvm.exec) (hZ : Z.Warmed39 s.vm) (hw : ∀ d ∈ tables_1, d.before a0 Z = true) (hby : c.code = prog_68_method_2_code) (hml : c.maxLocals = 8) (hown : s.vm.findClass "com/example/stratifold/stratifold/Token" = some m.cls) (e0 : T0.heap = h0) (n0 : Nat) (Z0 : n0 ≤ h0.size) (N0 : Fr n0 locs) (cl : Cell) (z : Int32) (hT : TB Z h0 a1 cl z) (hb16 : nb.toInt * 16 ≤ z.toInt) (hn0 : 0 ≤ nb.toInt) (hzM : z.toInt ≤ 65535) (hs7 : One s7) (hc121 : ¬ ((8 : Int32) < (z - (nb * (16 : Int32))))) (hc146 : ¬ ((0 : Int32) < (z - (nb * (16 : Int32))))) :
    ∃ (T' : State) (locs' : List Loc) (y1 y3 : Int64), Stand p l e ({ frames := 2, cells := 0, slots := 0, locals := 40 } : Room) s m args below meth c T' locs' 0 0 ∧ T'.heap = h0 ∧ Fr n0 locs' ∧
      ∀ target, Steps p.tables e below (T'.setTop (mkF m 168 #[.val (.ref a1), .val (.long y1), .second, .val (.long y3), .second, .val (.int nb), .val (.int (nb * (16 : Int32))), .val (.int (z - (nb * (16 : Int32))))] [])) target → Steps p.tables e below (T0.setTop (mkF m 103 #[.val (.ref a1), .val (.long x1), .second, .val (.long x3), .second, .val (.int nb), .val (.int ii), s7] [])) target := by
  have hz := own_nn hT.2.2.1
  have q16 : (16 : Int32).toInt = 16 := rfl
  have q8 : (8 : Int32).toInt = 8 := rfl
  have m1 : (nb * (16 : Int32)).toInt = nb.toInt * 16 := by rw [Jvm.Kit.i32_mul (by rw [q16]; omega) (by rw [q16]; omega), q16]
  have m2 : (z - (nb * (16 : Int32))).toInt = z.toInt - nb.toInt * 16 := by rw [Jvm.Kit.i32_sub (by rw [m1]; omega) (by rw [m1]; omega), m1]

  refine ⟨T0, _, x1, x3, X0, e0, N0, fun target kt => ?_⟩
  show Steps p.tables e below (T0.setTop (mkF m 103 #[.val (.ref a1), .val (.long x1), .second, .val (.long x3), .second, .val (.int nb), .val (.int ii), s7] [])) _
  refine XS.iload X0.here hx rfl (hb hby d2_103) rfl ?_
  show Steps p.tables e below (T0.setTop (mkF m 105 #[.val (.ref a1), .val (.long x1), .second, .val (.long x3), .second, .val (.int nb), .val (.int ii), s7] [(.int nb)])) _
  refine XS.bipush X0.here hx rfl (hb hby d2_105) ?_
  show Steps p.tables e below (T0.setTop (mkF m 107 #[.val (.ref a1), .val (.long x1), .second, .val (.long x3), .second, .val (.int nb), .val (.int ii), s7] [(.int (16 : Int32)), (.int nb)])) _
  refine XS.imul X0.here hx rfl (hb hby d2_107) rfl ?_
  show Steps p.tables e below (T0.setTop (mkF m 108 #[.val (.ref a1), .val (.long x1), .second, .val (.long x3), .second, .val (.int nb), .val (.int ii), s7] [(.int (nb * (16 : Int32)))])) _
  refine XS.istore X0.here hx rfl (hb hby d2_108) rfl (l' := #[.val (.ref a1), .val (.long x1), .second, .val (.long x3), .second, .val (.int nb), .val (.int (nb * (16 : Int32))), s7]) rfl ?_
  show Steps p.tables e below (T0.setTop (mkF m 110 #[.val (.ref a1), .val (.long x1), .second, .val (.long x3), .second, .val (.int nb), .val (.int (nb * (16 : Int32))), s7] [])) _
  refine XS.aloadN X0.here hx rfl (hb hby d2_110) rfl rfl ?_
  show Steps p.tables e below (T0.setTop (mkF m 111 #[.val (.ref a1), .val (.long x1), .second, .val (.long x3), .second, .val (.int nb), .val (.int (nb * (16 : Int32))), s7] [(.ref a1)])) _
  refine X0.arraylength hx (by rw [e0]; exact hT.1.1) (State.isArrayOf_alike hZ.alike hT.1.2.1) (g := (mkF m 111 #[.val (.ref a1), .val (.long x1), .second, .val (.long x3), .second, .val (.int nb), .val (.int (nb * (16 : Int32))), s7] [(.ref a1)])) rfl rfl (hb hby d2_111) _ ?_
  rw [len_of hT.2.1 hT.2.2.1]
  show Steps p.tables e below (T0.setTop (mkF m 112 #[.val (.ref a1), .val (.long x1), .second, .val (.long x3), .second, .val (.int nb), .val (.int (nb * (16 : Int32))), s7] [(.int z)])) _
  refine XS.iload X0.here hx rfl (hb hby d2_112) rfl ?_
  show Steps p.tables e below (T0.setTop (mkF m 114 #[.val (.ref a1), .val (.long x1), .second, .val (.long x3), .second, .val (.int nb), .val (.int (nb * (16 : Int32))), s7] [(.int (nb * (16 : Int32))), (.int z)])) _
  refine XS.isub X0.here hx rfl (hb hby d2_114) rfl ?_
  show Steps p.tables e below (T0.setTop (mkF m 115 #[.val (.ref a1), .val (.long x1), .second, .val (.long x3), .second, .val (.int nb), .val (.int (nb * (16 : Int32))), s7] [(.int (z - (nb * (16 : Int32))))])) _
  refine XS.istore X0.here hx rfl (hb hby d2_115) rfl (l' := #[.val (.ref a1), .val (.long x1), .second, .val (.long x3), .second, .val (.int nb), .val (.int (nb * (16 : Int32))), .val (.int (z - (nb * (16 : Int32))))]) (ostnT_0_115 hs7) ?_
  show Steps p.tables e below (T0.setTop (mkF m 117 #[.val (.ref a1), .val (.long x1), .second, .val (.long x3), .second, .val (.int nb), .val (.int (nb * (16 : Int32))), .val (.int (z - (nb * (16 : Int32))))] [])) _
  refine XS.iload X0.here hx rfl (hb hby d2_117) rfl ?_
  show Steps p.tables e below (T0.setTop (mkF m 119 #[.val (.ref a1), .val (.long x1), .second, .val (.long x3), .second, .val (.int nb), .val (.int (nb * (16 : Int32))), .val (.int (z - (nb * (16 : Int32))))] [(.int (z - (nb * (16 : Int32))))])) _
  refine XS.bipush X0.here hx rfl (hb hby d2_119) ?_
  show Steps p.tables e below (T0.setTop (mkF m 121 #[.val (.ref a1), .val (.long x1), .second, .val (.long x3), .second, .val (.int nb), .val (.int (nb * (16 : Int32))), .val (.int (z - (nb * (16 : Int32))))] [(.int (8 : Int32)), (.int (z - (nb * (16 : Int32))))])) _
  refine XS.icmpYes X0.here hx rfl (pc0 := 121) (pc' := 144) rfl (hb hby d2_121) rfl (flt hc121).2.2.2 (by decide) (by decide) ?_
  show Steps p.tables e below (T0.setTop (mkF m 144 #[.val (.ref a1), .val (.long x1), .second, .val (.long x3), .second, .val (.int nb), .val (.int (nb * (16 : Int32))), .val (.int (z - (nb * (16 : Int32))))] [])) _
  refine XS.iload X0.here hx rfl (hb hby d2_144) rfl ?_
  show Steps p.tables e below (T0.setTop (mkF m 146 #[.val (.ref a1), .val (.long x1), .second, .val (.long x3), .second, .val (.int nb), .val (.int (nb * (16 : Int32))), .val (.int (z - (nb * (16 : Int32))))] [(.int (z - (nb * (16 : Int32))))])) _
  refine XS.ifYes X0.here hx rfl (pc0 := 146) (pc' := 168) rfl (hb hby d2_146) rfl ((if0 _ _).trans (flt hc146).2.2.2) (by decide) (by decide) ?_
  exact kt
theorem d2_149 : decode prog_68_method_2_code 149 = .ok (.lload_n 1, 1) := by decide +kernel
theorem d2_150 : decode prog_68_method_2_code 150 = .ok (.aload_n 0, 1) := by decide +kernel
theorem d2_151 : decode prog_68_method_2_code 151 = .ok (.iload 6, 2) := by decide +kernel
theorem d2_153 : decode prog_68_method_2_code 153 = .ok (.iload 7, 2) := by decide +kernel
theorem d2_155 : decode prog_68_method_2_code 155 = .ok (.bipush 8, 2) := by decide +kernel
theorem d2_157 : decode prog_68_method_2_code 157 = .ok (.invokestatic 32, 3) := by decide +kernel
theorem d2_160 : decode prog_68_method_2_code 160 = .ok (.invokestatic 7, 3) := by decide +kernel
theorem d2_163 : decode prog_68_method_2_code 163 = .ok (.invokestatic 13, 3) := by decide +kernel
theorem d2_166 : decode prog_68_method_2_code 166 = .ok (.lxor, 1) := by decide +kernel
theorem d2_167 : decode prog_68_method_2_code 167 = .ok (.lstore_n 1, 1) := by decide +kernel
theorem pd_2_10 : parseMethodDescriptor "(II)I" = some ⟨[.int, .int], some .int⟩ := by decide +kernel
theorem ostnT_1_115 {z0 : Value} {z1 : Value} {z3 : Value} {z5 : Value} {z6 : Value} {s7 : Slot} {v : Int32} (h : One s7) : storeLocals #[.val z0, .val z1, .second, .val z3, .second, .val z5, .val z6, s7] 7 (.int v) = some #[.val z0, .val z1, .second, .val z3, .second, .val z5, .val z6, .val (.int v)] := by
  rcases h with rfl | ⟨w, rfl, hw⟩
  · rfl
  · cases w <;> first | rfl | (simp [Value.category] at hw)
set_option maxRecDepth 65536 in
set_option maxHeartbeats 40000000 in
theorem tnT_1 {p : Program} {l : Launch} {e : Env} {s : State} {m : MethodId} {args : Array Value} {below : List Frame} {meth : Method} {c : Code} {T0 : State} {locs : List Loc} {Z : State} {a0 : Array Value} {h0 : Heap} (a1 : Addr) (x1 : Int64) (x3 : Int64) (nb : Int32) (ii : Int32) (s7 : Slot)
    (X0 : Stand p l e ({ frames := 2, cells := 0, slots := 0, locals := 40 } : Room) s m args below meth c T0 locs 0 0) (hx : p.tables.exec = Jvm.exec) (hZ : Z.Warmed39 s.vm) (hw : ∀ d ∈ tables_1, d.before a0 Z = true) (hby : c.code = prog_68_method_2_code) (hml : c.maxLocals = 8) (hown : s.vm.findClass "com/example/stratifold/stratifold/Token" = some m.cls) (e0 : T0.heap = h0) (n0 : Nat) (Z0 : n0 ≤ h0.size) (N0 : Fr n0 locs) (cl : Cell) (z : Int32) (hT : TB Z h0 a1 cl z) (hb16 : nb.toInt * 16 ≤ z.toInt) (hn0 : 0 ≤ nb.toInt) (hzM : z.toInt ≤ 65535) (hs7 : One s7) (hc121 : ¬ ((8 : Int32) < (z - (nb * (16 : Int32))))) (hc146 : (0 : Int32) < (z - (nb * (16 : Int32)))) :
    ∃ (T' : State) (locs' : List Loc) (y1 y3 : Int64), Stand p l e ({ frames := 2, cells := 0, slots := 0, locals := 40 } : Room) s m args below meth c T' locs' 0 0 ∧ T'.heap = h0 ∧ Fr n0 locs' ∧
      ∀ target, Steps p.tables e below (T'.setTop (mkF m 168 #[.val (.ref a1), .val (.long y1), .second, .val (.long y3), .second, .val (.int nb), .val (.int (nb * (16 : Int32))), .val (.int (z - (nb * (16 : Int32))))] [])) target → Steps p.tables e below (T0.setTop (mkF m 103 #[.val (.ref a1), .val (.long x1), .second, .val (.long x3), .second, .val (.int nb), .val (.int ii), s7] [])) target := by
  have hz := own_nn hT.2.2.1
  have q16 : (16 : Int32).toInt = 16 := rfl
  have q8 : (8 : Int32).toInt = 8 := rfl
  have m1 : (nb * (16 : Int32)).toInt = nb.toInt * 16 := by rw [Jvm.Kit.i32_mul (by rw [q16]; omega) (by rw [q16]; omega), q16]
  have m2 : (z - (nb * (16 : Int32))).toInt = z.toInt - nb.toInt * 16 := by rw [Jvm.Kit.i32_sub (by rw [m1]; omega) (by rw [m1]; omega), m1]
  obtain ⟨_, _, ⟨T2, L2, k2, n2⟩, -, X2, ⟨Lc2, hQ2, l2, y2, z2⟩, st2⟩ := Jvm.LawKit.callS X0 hx (y := (⟨"java/lang/Math", "min", "(II)I"⟩ : MethodName)) hown (mvT hZ (hw _ (List.mem_of_getElem? (i := 62) rfl))) (mvT hZ (hw _ (List.mem_of_getElem? (i := 63) rfl))) (mvT hZ (hw _ (List.mem_of_getElem? (i := 64) rfl))) (mvT hZ (hw _ (List.mem_of_getElem? (i := 65) rfl))) (by decide) (backOf (W := 4) (rm13_f l Z a0 hw [] (z - (nb * (16 : Int32))) (8 : Int32) h0 n0 Z0 hc121) hZ (hw _ (List.mem_of_getElem? (i := 65) rfl)) (hw _ (List.mem_of_getElem? (i := 64) rfl)) (by decide) (by decide)) (g := (mkF m 157 #[.val (.ref a1), .val (.long x1), .second, .val (.long x3), .second, .val (.int nb), .val (.int (nb * (16 : Int32))), .val (.int (z - (nb * (16 : Int32))))] [(.int (8 : Int32)), (.int (z - (nb * (16 : Int32)))), (.int (nb * (16 : Int32))), (.ref a1), (.long x1)])) rfl (by rw [hml]; rfl) (argsL := [(.int (z - (nb * (16 : Int32)))), (.int (8 : Int32))]) (rest := [(.int (nb * (16 : Int32))), (.ref a1), (.long x1)]) (lenOf pd_2_10 rfl) rfl (by show 2 * 0 + _ ≤ _; exact Nat.le_of_eq rfl) (hb hby d2_157) (fun _ _ => ⟨rfl, e0, (Nat.le_of_ble_eq_true rfl), (Nat.le_of_ble_eq_true rfl)⟩)
  dsimp only [Pt.U, Pt.locs, Pt.cells, Pt.slots] at X2 l2 y2 z2 st2 hQ2
  subst l2 y2 z2
  obtain ⟨rfl, N2q, hE2⟩ := hQ2
  have N2 := Fr.app N0 N2q
  obtain ⟨_, _, ⟨T3, L3, k3, n3⟩, -, X3, ⟨Lc3, hQ3, l3, y3, z3⟩, st3⟩ := Jvm.LawKit.callS X2 hx (y := (⟨"com/example/stratifold/stratifold/Token", "littleEndian", "([BII)J"⟩ : MethodName)) hown (mvT hZ (hw _ (List.mem_of_getElem? (i := 49) rfl))) (mvT hZ (hw _ (List.mem_of_getElem? (i := 50) rfl))) (mvT hZ (hw _ (List.mem_of_getElem? (i := 10) rfl))) (mvT hZ (hw _ (List.mem_of_getElem? (i := 51) rfl))) (by decide) (backOf (W := 2) (rm10 l Z a0 hw [] a1 (nb * (16 : Int32)) (z - (nb * (16 : Int32))) h0 n0 Z0 cl z hT (by omega) (by have := own_ge hc121; have := own_lt0 hc146; omega) (by omega)) hZ (hw _ (List.mem_of_getElem? (i := 51) rfl)) (hw _ (List.mem_of_getElem? (i := 10) rfl)) (by decide) (by decide)) (g := (mkF m 160 #[.val (.ref a1), .val (.long x1), .second, .val (.long x3), .second, .val (.int nb), .val (.int (nb * (16 : Int32))), .val (.int (z - (nb * (16 : Int32))))] [(.int (z - (nb * (16 : Int32)))), (.int (nb * (16 : Int32))), (.ref a1), (.long x1)])) rfl (by rw [hml]; rfl) (argsL := [(.ref a1), (.int (nb * (16 : Int32))), (.int (z - (nb * (16 : Int32))))]) (rest := [(.long x1)]) (lenOf pd_2_8 rfl) rfl (by show 2 * 0 + _ ≤ _; exact Nat.le_of_eq rfl) (hb hby d2_160) (fun _ _ => ⟨rfl, hE2, (Nat.le_of_ble_eq_true rfl), (Nat.le_of_ble_eq_true rfl)⟩)
  dsimp only [Pt.U, Pt.locs, Pt.cells, Pt.slots] at X3 l3 y3 z3 st3 hQ3
  subst l3 y3 z3
  obtain ⟨r3, rfl, N3q, hE3⟩ := hQ3
  have N3 := Fr.app N2 N3q
  obtain ⟨_, _, ⟨T4, L4, k4, n4⟩, -, X4, ⟨Lc4, hQ4, l4, y4, z4⟩, st4⟩ := Jvm.LawKit.callS X3 hx (y := (⟨"com/example/stratifold/stratifold/Token", "mixK1", "(J)J"⟩ : MethodName)) hown (mvT hZ (hw _ (List.mem_of_getElem? (i := 66) rfl))) (mvT hZ (hw _ (List.mem_of_getElem? (i := 67) rfl))) (mvT hZ (hw _ (List.mem_of_getElem? (i := 10) rfl))) (mvT hZ (hw _ (List.mem_of_getElem? (i := 68) rfl))) (by decide) (backOf (W := 2) (rm14 l Z a0 hw [] r3 h0 n0 Z0) hZ (hw _ (List.mem_of_getElem? (i := 68) rfl)) (hw _ (List.mem_of_getElem? (i := 10) rfl)) (by decide) (by decide)) (g := (mkF m 163 #[.val (.ref a1), .val (.long x1), .second, .val (.long x3), .second, .val (.int nb), .val (.int (nb * (16 : Int32))), .val (.int (z - (nb * (16 : Int32))))] [(.long r3), (.long x1)])) rfl (by rw [hml]; rfl) (argsL := [(.long r3)]) (rest := [(.long x1)]) (lenOf pd_2_2 rfl) rfl (by show 2 * 0 + _ ≤ _; exact Nat.le_of_eq rfl) (hb hby d2_163) (fun _ _ => ⟨rfl, hE3, (Nat.le_of_ble_eq_true rfl), (Nat.le_of_ble_eq_true rfl)⟩)
  dsimp only [Pt.U, Pt.locs, Pt.cells, Pt.slots] at X4 l4 y4 z4 st4 hQ4
  subst l4 y4 z4
  obtain ⟨r4, rfl, N4q, hE4⟩ := hQ4
  have N4 := Fr.app N3 N4q
  refine ⟨T4, _, (x1 ^^^ r4), x3, X4, hE4, N4, fun target kt => ?_⟩
  show Steps p.tables e below (T0.setTop (mkF m 103 #[.val (.ref a1), .val (.long x1), .second, .val (.long x3), .second, .val (.int nb), .val (.int ii), s7] [])) _
  refine XS.iload X0.here hx rfl (hb hby d2_103) rfl ?_
  show Steps p.tables e below (T0.setTop (mkF m 105 #[.val (.ref a1), .val (.long x1), .second, .val (.long x3), .second, .val (.int nb), .val (.int ii), s7] [(.int nb)])) _
  refine XS.bipush X0.here hx rfl (hb hby d2_105) ?_
  show Steps p.tables e below (T0.setTop (mkF m 107 #[.val (.ref a1), .val (.long x1), .second, .val (.long x3), .second, .val (.int nb), .val (.int ii), s7] [(.int (16 : Int32)), (.int nb)])) _
  refine XS.imul X0.here hx rfl (hb hby d2_107) rfl ?_
  show Steps p.tables e below (T0.setTop (mkF m 108 #[.val (.ref a1), .val (.long x1), .second, .val (.long x3), .second, .val (.int nb), .val (.int ii), s7] [(.int (nb * (16 : Int32)))])) _
  refine XS.istore X0.here hx rfl (hb hby d2_108) rfl (l' := #[.val (.ref a1), .val (.long x1), .second, .val (.long x3), .second, .val (.int nb), .val (.int (nb * (16 : Int32))), s7]) rfl ?_
  show Steps p.tables e below (T0.setTop (mkF m 110 #[.val (.ref a1), .val (.long x1), .second, .val (.long x3), .second, .val (.int nb), .val (.int (nb * (16 : Int32))), s7] [])) _
  refine XS.aloadN X0.here hx rfl (hb hby d2_110) rfl rfl ?_
  show Steps p.tables e below (T0.setTop (mkF m 111 #[.val (.ref a1), .val (.long x1), .second, .val (.long x3), .second, .val (.int nb), .val (.int (nb * (16 : Int32))), s7] [(.ref a1)])) _
  refine X0.arraylength hx (by rw [e0]; exact hT.1.1) (State.isArrayOf_alike hZ.alike hT.1.2.1) (g := (mkF m 111 #[.val (.ref a1), .val (.long x1), .second, .val (.long x3), .second, .val (.int nb), .val (.int (nb * (16 : Int32))), s7] [(.ref a1)])) rfl rfl (hb hby d2_111) _ ?_
  rw [len_of hT.2.1 hT.2.2.1]
  show Steps p.tables e below (T0.setTop (mkF m 112 #[.val (.ref a1), .val (.long x1), .second, .val (.long x3), .second, .val (.int nb), .val (.int (nb * (16 : Int32))), s7] [(.int z)])) _
  refine XS.iload X0.here hx rfl (hb hby d2_112) rfl ?_
  show Steps p.tables e below (T0.setTop (mkF m 114 #[.val (.ref a1), .val (.long x1), .second, .val (.long x3), .second, .val (.int nb), .val (.int (nb * (16 : Int32))), s7] [(.int (nb * (16 : Int32))), (.int z)])) _
  refine XS.isub X0.here hx rfl (hb hby d2_114) rfl ?_
  show Steps p.tables e below (T0.setTop (mkF m 115 #[.val (.ref a1), .val (.long x1), .second, .val (.long x3), .second, .val (.int nb), .val (.int (nb * (16 : Int32))), s7] [(.int (z - (nb * (16 : Int32))))])) _
  refine XS.istore X0.here hx rfl (hb hby d2_115) rfl (l' := #[.val (.ref a1), .val (.long x1), .second, .val (.long x3), .second, .val (.int nb), .val (.int (nb * (16 : Int32))), .val (.int (z - (nb * (16 : Int32))))]) (ostnT_1_115 hs7) ?_
  show Steps p.tables e below (T0.setTop (mkF m 117 #[.val (.ref a1), .val (.long x1), .second, .val (.long x3), .second, .val (.int nb), .val (.int (nb * (16 : Int32))), .val (.int (z - (nb * (16 : Int32))))] [])) _
  refine XS.iload X0.here hx rfl (hb hby d2_117) rfl ?_
  show Steps p.tables e below (T0.setTop (mkF m 119 #[.val (.ref a1), .val (.long x1), .second, .val (.long x3), .second, .val (.int nb), .val (.int (nb * (16 : Int32))), .val (.int (z - (nb * (16 : Int32))))] [(.int (z - (nb * (16 : Int32))))])) _
  refine XS.bipush X0.here hx rfl (hb hby d2_119) ?_
  show Steps p.tables e below (T0.setTop (mkF m 121 #[.val (.ref a1), .val (.long x1), .second, .val (.long x3), .second, .val (.int nb), .val (.int (nb * (16 : Int32))), .val (.int (z - (nb * (16 : Int32))))] [(.int (8 : Int32)), (.int (z - (nb * (16 : Int32))))])) _
  refine XS.icmpYes X0.here hx rfl (pc0 := 121) (pc' := 144) rfl (hb hby d2_121) rfl (flt hc121).2.2.2 (by decide) (by decide) ?_
  show Steps p.tables e below (T0.setTop (mkF m 144 #[.val (.ref a1), .val (.long x1), .second, .val (.long x3), .second, .val (.int nb), .val (.int (nb * (16 : Int32))), .val (.int (z - (nb * (16 : Int32))))] [])) _
  refine XS.iload X0.here hx rfl (hb hby d2_144) rfl ?_
  show Steps p.tables e below (T0.setTop (mkF m 146 #[.val (.ref a1), .val (.long x1), .second, .val (.long x3), .second, .val (.int nb), .val (.int (nb * (16 : Int32))), .val (.int (z - (nb * (16 : Int32))))] [(.int (z - (nb * (16 : Int32))))])) _
  refine XS.ifNo X0.here hx rfl (hb hby d2_146) rfl ((if0 _ _).trans (tlt hc146).2.2.2) ?_
  show Steps p.tables e below (T0.setTop (mkF m 149 #[.val (.ref a1), .val (.long x1), .second, .val (.long x3), .second, .val (.int nb), .val (.int (nb * (16 : Int32))), .val (.int (z - (nb * (16 : Int32))))] [])) _
  refine XS.lloadN X0.here hx rfl (hb hby d2_149) rfl ?_
  show Steps p.tables e below (T0.setTop (mkF m 150 #[.val (.ref a1), .val (.long x1), .second, .val (.long x3), .second, .val (.int nb), .val (.int (nb * (16 : Int32))), .val (.int (z - (nb * (16 : Int32))))] [(.long x1)])) _
  refine XS.aloadN X0.here hx rfl (hb hby d2_150) rfl rfl ?_
  show Steps p.tables e below (T0.setTop (mkF m 151 #[.val (.ref a1), .val (.long x1), .second, .val (.long x3), .second, .val (.int nb), .val (.int (nb * (16 : Int32))), .val (.int (z - (nb * (16 : Int32))))] [(.ref a1), (.long x1)])) _
  refine XS.iload X0.here hx rfl (hb hby d2_151) rfl ?_
  show Steps p.tables e below (T0.setTop (mkF m 153 #[.val (.ref a1), .val (.long x1), .second, .val (.long x3), .second, .val (.int nb), .val (.int (nb * (16 : Int32))), .val (.int (z - (nb * (16 : Int32))))] [(.int (nb * (16 : Int32))), (.ref a1), (.long x1)])) _
  refine XS.iload X0.here hx rfl (hb hby d2_153) rfl ?_
  show Steps p.tables e below (T0.setTop (mkF m 155 #[.val (.ref a1), .val (.long x1), .second, .val (.long x3), .second, .val (.int nb), .val (.int (nb * (16 : Int32))), .val (.int (z - (nb * (16 : Int32))))] [(.int (z - (nb * (16 : Int32)))), (.int (nb * (16 : Int32))), (.ref a1), (.long x1)])) _
  refine XS.bipush X0.here hx rfl (hb hby d2_155) ?_
  show Steps p.tables e below (T0.setTop (mkF m 157 #[.val (.ref a1), .val (.long x1), .second, .val (.long x3), .second, .val (.int nb), .val (.int (nb * (16 : Int32))), .val (.int (z - (nb * (16 : Int32))))] [(.int (8 : Int32)), (.int (z - (nb * (16 : Int32)))), (.int (nb * (16 : Int32))), (.ref a1), (.long x1)])) _
  refine st2 _ ?_
  show Steps p.tables e below (T2.setTop (mkF m 160 #[.val (.ref a1), .val (.long x1), .second, .val (.long x3), .second, .val (.int nb), .val (.int (nb * (16 : Int32))), .val (.int (z - (nb * (16 : Int32))))] [(.int (z - (nb * (16 : Int32)))), (.int (nb * (16 : Int32))), (.ref a1), (.long x1)])) _
  refine st3 _ ?_
  show Steps p.tables e below (T3.setTop (mkF m 163 #[.val (.ref a1), .val (.long x1), .second, .val (.long x3), .second, .val (.int nb), .val (.int (nb * (16 : Int32))), .val (.int (z - (nb * (16 : Int32))))] [(.long r3), (.long x1)])) _
  refine st4 _ ?_
  show Steps p.tables e below (T4.setTop (mkF m 166 #[.val (.ref a1), .val (.long x1), .second, .val (.long x3), .second, .val (.int nb), .val (.int (nb * (16 : Int32))), .val (.int (z - (nb * (16 : Int32))))] [(.long r4), (.long x1)])) _
  refine XS.lxor X4.here hx rfl (hb hby d2_166) rfl ?_
  show Steps p.tables e below (T4.setTop (mkF m 167 #[.val (.ref a1), .val (.long x1), .second, .val (.long x3), .second, .val (.int nb), .val (.int (nb * (16 : Int32))), .val (.int (z - (nb * (16 : Int32))))] [(.long (x1 ^^^ r4))])) _
  refine XS.lstoreN X4.here hx rfl (hb hby d2_167) rfl (l' := #[.val (.ref a1), .val (.long (x1 ^^^ r4)), .second, .val (.long x3), .second, .val (.int nb), .val (.int (nb * (16 : Int32))), .val (.int (z - (nb * (16 : Int32))))]) rfl ?_
  exact kt
theorem d2_124 : decode prog_68_method_2_code 124 = .ok (.lload_n 3, 1) := by decide +kernel
theorem d2_125 : decode prog_68_method_2_code 125 = .ok (.aload_n 0, 1) := by decide +kernel
theorem d2_126 : decode prog_68_method_2_code 126 = .ok (.iload 6, 2) := by decide +kernel
theorem d2_128 : decode prog_68_method_2_code 128 = .ok (.bipush 8, 2) := by decide +kernel
theorem d2_130 : decode prog_68_method_2_code 130 = .ok (.iadd, 1) := by decide +kernel
theorem d2_131 : decode prog_68_method_2_code 131 = .ok (.iload 7, 2) := by decide +kernel
theorem d2_133 : decode prog_68_method_2_code 133 = .ok (.bipush 8, 2) := by decide +kernel
theorem d2_135 : decode prog_68_method_2_code 135 = .ok (.isub, 1) := by decide +kernel
theorem d2_136 : decode prog_68_method_2_code 136 = .ok (.invokestatic 7, 3) := by decide +kernel
theorem d2_139 : decode prog_68_method_2_code 139 = .ok (.invokestatic 27, 3) := by decide +kernel
theorem d2_142 : decode prog_68_method_2_code 142 = .ok (.lxor, 1) := by decide +kernel
theorem d2_143 : decode prog_68_method_2_code 143 = .ok (.lstore_n 3, 1) := by decide +kernel
theorem ostnT_2_115 {z0 : Value} {z1 : Value} {z3 : Value} {z5 : Value} {z6 : Value} {s7 : Slot} {v : Int32} (h : One s7) : storeLocals #[.val z0, .val z1, .second, .val z3, .second, .val z5, .val z6, s7] 7 (.int v) = some #[.val z0, .val z1, .second, .val z3, .second, .val z5, .val z6, .val (.int v)] := by
  rcases h with rfl | ⟨w, rfl, hw⟩
  · rfl
  · cases w <;> first | rfl | (simp [Value.category] at hw)
set_option maxRecDepth 65536 in
set_option maxHeartbeats 40000000 in
theorem tnT_2 {p : Program} {l : Launch} {e : Env} {s : State} {m : MethodId} {args : Array Value} {below : List Frame} {meth : Method} {c : Code} {T0 : State} {locs : List Loc} {Z : State} {a0 : Array Value} {h0 : Heap} (a1 : Addr) (x1 : Int64) (x3 : Int64) (nb : Int32) (ii : Int32) (s7 : Slot)
    (X0 : Stand p l e ({ frames := 2, cells := 0, slots := 0, locals := 40 } : Room) s m args below meth c T0 locs 0 0) (hx : p.tables.exec = Jvm.exec) (hZ : Z.Warmed39 s.vm) (hw : ∀ d ∈ tables_1, d.before a0 Z = true) (hby : c.code = prog_68_method_2_code) (hml : c.maxLocals = 8) (hown : s.vm.findClass "com/example/stratifold/stratifold/Token" = some m.cls) (e0 : T0.heap = h0) (n0 : Nat) (Z0 : n0 ≤ h0.size) (N0 : Fr n0 locs) (cl : Cell) (z : Int32) (hT : TB Z h0 a1 cl z) (hb16 : nb.toInt * 16 ≤ z.toInt) (hn0 : 0 ≤ nb.toInt) (hzM : z.toInt ≤ 65535) (hs7 : One s7) (hc121 : (8 : Int32) < (z - (nb * (16 : Int32)))) (hc146 : (0 : Int32) < (z - (nb * (16 : Int32)))) :
    ∃ (T' : State) (locs' : List Loc) (y1 y3 : Int64), Stand p l e ({ frames := 2, cells := 0, slots := 0, locals := 40 } : Room) s m args below meth c T' locs' 0 0 ∧ T'.heap = h0 ∧ Fr n0 locs' ∧
      ∀ target, Steps p.tables e below (T'.setTop (mkF m 168 #[.val (.ref a1), .val (.long y1), .second, .val (.long y3), .second, .val (.int nb), .val (.int (nb * (16 : Int32))), .val (.int (z - (nb * (16 : Int32))))] [])) target → Steps p.tables e below (T0.setTop (mkF m 103 #[.val (.ref a1), .val (.long x1), .second, .val (.long x3), .second, .val (.int nb), .val (.int ii), s7] [])) target := by
  have hz := own_nn hT.2.2.1
  have q16 : (16 : Int32).toInt = 16 := rfl
  have q8 : (8 : Int32).toInt = 8 := rfl
  have m1 : (nb * (16 : Int32)).toInt = nb.toInt * 16 := by rw [Jvm.Kit.i32_mul (by rw [q16]; omega) (by rw [q16]; omega), q16]
  have m2 : (z - (nb * (16 : Int32))).toInt = z.toInt - nb.toInt * 16 := by rw [Jvm.Kit.i32_sub (by rw [m1]; omega) (by rw [m1]; omega), m1]
  have hq8 : (8 : Int32).toInt < (z - (nb * (16 : Int32))).toInt := Int32.lt_iff_toInt_lt.mp hc121
  have m3 : ((nb * (16 : Int32)) + (8 : Int32)).toInt = nb.toInt * 16 + 8 := by rw [Jvm.Kit.i32_add (by rw [m1, q8]; omega) (by rw [m1, q8]; omega), m1, q8]
  have m4 : ((z - (nb * (16 : Int32))) - (8 : Int32)).toInt = z.toInt - nb.toInt * 16 - 8 := by rw [Jvm.Kit.i32_sub (by rw [m2, q8]; omega) (by rw [m2, q8]; omega), m2, q8]
  obtain ⟨_, _, ⟨T2, L2, k2, n2⟩, -, X2, ⟨Lc2, hQ2, l2, y2, z2⟩, st2⟩ := Jvm.LawKit.callS X0 hx (y := (⟨"com/example/stratifold/stratifold/Token", "littleEndian", "([BII)J"⟩ : MethodName)) hown (mvT hZ (hw _ (List.mem_of_getElem? (i := 49) rfl))) (mvT hZ (hw _ (List.mem_of_getElem? (i := 50) rfl))) (mvT hZ (hw _ (List.mem_of_getElem? (i := 10) rfl))) (mvT hZ (hw _ (List.mem_of_getElem? (i := 51) rfl))) (by decide) (backOf (W := 2) (rm10 l Z a0 hw [] a1 ((nb * (16 : Int32)) + (8 : Int32)) ((z - (nb * (16 : Int32))) - (8 : Int32)) h0 n0 Z0 cl z hT (by omega) (by omega) (by omega)) hZ (hw _ (List.mem_of_getElem? (i := 51) rfl)) (hw _ (List.mem_of_getElem? (i := 10) rfl)) (by decide) (by decide)) (g := (mkF m 136 #[.val (.ref a1), .val (.long x1), .second, .val (.long x3), .second, .val (.int nb), .val (.int (nb * (16 : Int32))), .val (.int (z - (nb * (16 : Int32))))] [(.int ((z - (nb * (16 : Int32))) - (8 : Int32))), (.int ((nb * (16 : Int32)) + (8 : Int32))), (.ref a1), (.long x3)])) rfl (by rw [hml]; rfl) (argsL := [(.ref a1), (.int ((nb * (16 : Int32)) + (8 : Int32))), (.int ((z - (nb * (16 : Int32))) - (8 : Int32)))]) (rest := [(.long x3)]) (lenOf pd_2_8 rfl) rfl (by show 2 * 0 + _ ≤ _; exact Nat.le_of_eq rfl) (hb hby d2_136) (fun _ _ => ⟨rfl, e0, (Nat.le_of_ble_eq_true rfl), (Nat.le_of_ble_eq_true rfl)⟩)
  dsimp only [Pt.U, Pt.locs, Pt.cells, Pt.slots] at X2 l2 y2 z2 st2 hQ2
  subst l2 y2 z2
  obtain ⟨r2, rfl, N2q, hE2⟩ := hQ2
  have N2 := Fr.app N0 N2q
  obtain ⟨_, _, ⟨T3, L3, k3, n3⟩, -, X3, ⟨Lc3, hQ3, l3, y3, z3⟩, st3⟩ := Jvm.LawKit.callS X2 hx (y := (⟨"com/example/stratifold/stratifold/Token", "mixK2", "(J)J"⟩ : MethodName)) hown (mvT hZ (hw _ (List.mem_of_getElem? (i := 53) rfl))) (mvT hZ (hw _ (List.mem_of_getElem? (i := 54) rfl))) (mvT hZ (hw _ (List.mem_of_getElem? (i := 10) rfl))) (mvT hZ (hw _ (List.mem_of_getElem? (i := 55) rfl))) (by decide) (backOf (W := 2) (rm11 l Z a0 hw [] r2 h0 n0 Z0) hZ (hw _ (List.mem_of_getElem? (i := 55) rfl)) (hw _ (List.mem_of_getElem? (i := 10) rfl)) (by decide) (by decide)) (g := (mkF m 139 #[.val (.ref a1), .val (.long x1), .second, .val (.long x3), .second, .val (.int nb), .val (.int (nb * (16 : Int32))), .val (.int (z - (nb * (16 : Int32))))] [(.long r2), (.long x3)])) rfl (by rw [hml]; rfl) (argsL := [(.long r2)]) (rest := [(.long x3)]) (lenOf pd_2_2 rfl) rfl (by show 2 * 0 + _ ≤ _; exact Nat.le_of_eq rfl) (hb hby d2_139) (fun _ _ => ⟨rfl, hE2, (Nat.le_of_ble_eq_true rfl), (Nat.le_of_ble_eq_true rfl)⟩)
  dsimp only [Pt.U, Pt.locs, Pt.cells, Pt.slots] at X3 l3 y3 z3 st3 hQ3
  subst l3 y3 z3
  obtain ⟨r3, rfl, N3q, hE3⟩ := hQ3
  have N3 := Fr.app N2 N3q
  obtain ⟨_, _, ⟨T4, L4, k4, n4⟩, -, X4, ⟨Lc4, hQ4, l4, y4, z4⟩, st4⟩ := Jvm.LawKit.callS X3 hx (y := (⟨"java/lang/Math", "min", "(II)I"⟩ : MethodName)) hown (mvT hZ (hw _ (List.mem_of_getElem? (i := 62) rfl))) (mvT hZ (hw _ (List.mem_of_getElem? (i := 63) rfl))) (mvT hZ (hw _ (List.mem_of_getElem? (i := 64) rfl))) (mvT hZ (hw _ (List.mem_of_getElem? (i := 65) rfl))) (by decide) (backOf (W := 4) (rm13_t l Z a0 hw [] (z - (nb * (16 : Int32))) (8 : Int32) h0 n0 Z0 hc121) hZ (hw _ (List.mem_of_getElem? (i := 65) rfl)) (hw _ (List.mem_of_getElem? (i := 64) rfl)) (by decide) (by decide)) (g := (mkF m 157 #[.val (.ref a1), .val (.long x1), .second, .val (.long (x3 ^^^ r3)), .second, .val (.int nb), .val (.int (nb * (16 : Int32))), .val (.int (z - (nb * (16 : Int32))))] [(.int (8 : Int32)), (.int (z - (nb * (16 : Int32)))), (.int (nb * (16 : Int32))), (.ref a1), (.long x1)])) rfl (by rw [hml]; rfl) (argsL := [(.int (z - (nb * (16 : Int32)))), (.int (8 : Int32))]) (rest := [(.int (nb * (16 : Int32))), (.ref a1), (.long x1)]) (lenOf pd_2_10 rfl) rfl (by show 2 * 0 + _ ≤ _; exact Nat.le_of_eq rfl) (hb hby d2_157) (fun _ _ => ⟨rfl, hE3, (Nat.le_of_ble_eq_true rfl), (Nat.le_of_ble_eq_true rfl)⟩)
  dsimp only [Pt.U, Pt.locs, Pt.cells, Pt.slots] at X4 l4 y4 z4 st4 hQ4
  subst l4 y4 z4
  obtain ⟨rfl, N4q, hE4⟩ := hQ4
  have N4 := Fr.app N3 N4q
  obtain ⟨_, _, ⟨T5, L5, k5, n5⟩, -, X5, ⟨Lc5, hQ5, l5, y5, z5⟩, st5⟩ := Jvm.LawKit.callS X4 hx (y := (⟨"com/example/stratifold/stratifold/Token", "littleEndian", "([BII)J"⟩ : MethodName)) hown (mvT hZ (hw _ (List.mem_of_getElem? (i := 49) rfl))) (mvT hZ (hw _ (List.mem_of_getElem? (i := 50) rfl))) (mvT hZ (hw _ (List.mem_of_getElem? (i := 10) rfl))) (mvT hZ (hw _ (List.mem_of_getElem? (i := 51) rfl))) (by decide) (backOf (W := 2) (rm10 l Z a0 hw [] a1 (nb * (16 : Int32)) (8 : Int32) h0 n0 Z0 cl z hT (by omega) (by decide) (by rw [q8]; omega)) hZ (hw _ (List.mem_of_getElem? (i := 51) rfl)) (hw _ (List.mem_of_getElem? (i := 10) rfl)) (by decide) (by decide)) (g := (mkF m 160 #[.val (.ref a1), .val (.long x1), .second, .val (.long (x3 ^^^ r3)), .second, .val (.int nb), .val (.int (nb * (16 : Int32))), .val (.int (z - (nb * (16 : Int32))))] [(.int (8 : Int32)), (.int (nb * (16 : Int32))), (.ref a1), (.long x1)])) rfl (by rw [hml]; rfl) (argsL := [(.ref a1), (.int (nb * (16 : Int32))), (.int (8 : Int32))]) (rest := [(.long x1)]) (lenOf pd_2_8 rfl) rfl (by show 2 * 0 + _ ≤ _; exact Nat.le_of_eq rfl) (hb hby d2_160) (fun _ _ => ⟨rfl, hE4, (Nat.le_of_ble_eq_true rfl), (Nat.le_of_ble_eq_true rfl)⟩)
  dsimp only [Pt.U, Pt.locs, Pt.cells, Pt.slots] at X5 l5 y5 z5 st5 hQ5
  subst l5 y5 z5
  obtain ⟨r5, rfl, N5q, hE5⟩ := hQ5
  have N5 := Fr.app N4 N5q
  obtain ⟨_, _, ⟨T6, L6, k6, n6⟩, -, X6, ⟨Lc6, hQ6, l6, y6, z6⟩, st6⟩ := Jvm.LawKit.callS X5 hx (y := (⟨"com/example/stratifold/stratifold/Token", "mixK1", "(J)J"⟩ : MethodName)) hown (mvT hZ (hw _ (List.mem_of_getElem? (i := 66) rfl))) (mvT hZ (hw _ (List.mem_of_getElem? (i := 67) rfl))) (mvT hZ (hw _ (List.mem_of_getElem? (i := 10) rfl))) (mvT hZ (hw _ (List.mem_of_getElem? (i := 68) rfl))) (by decide) (backOf (W := 2) (rm14 l Z a0 hw [] r5 h0 n0 Z0) hZ (hw _ (List.mem_of_getElem? (i := 68) rfl)) (hw _ (List.mem_of_getElem? (i := 10) rfl)) (by decide) (by decide)) (g := (mkF m 163 #[.val (.ref a1), .val (.long x1), .second, .val (.long (x3 ^^^ r3)), .second, .val (.int nb), .val (.int (nb * (16 : Int32))), .val (.int (z - (nb * (16 : Int32))))] [(.long r5), (.long x1)])) rfl (by rw [hml]; rfl) (argsL := [(.long r5)]) (rest := [(.long x1)]) (lenOf pd_2_2 rfl) rfl (by show 2 * 0 + _ ≤ _; exact Nat.le_of_eq rfl) (hb hby d2_163) (fun _ _ => ⟨rfl, hE5, (Nat.le_of_ble_eq_true rfl), (Nat.le_of_ble_eq_true rfl)⟩)
  dsimp only [Pt.U, Pt.locs, Pt.cells, Pt.slots] at X6 l6 y6 z6 st6 hQ6
  subst l6 y6 z6
  obtain ⟨r6, rfl, N6q, hE6⟩ := hQ6
  have N6 := Fr.app N5 N6q
  refine ⟨T6, _, (x1 ^^^ r6), (x3 ^^^ r3), X6, hE6, N6, fun target kt => ?_⟩
  show Steps p.tables e below (T0.setTop (mkF m 103 #[.val (.ref a1), .val (.long x1), .second, .val (.long x3), .second, .val (.int nb), .val (.int ii), s7] [])) _
  refine XS.iload X0.here hx rfl (hb hby d2_103) rfl ?_
  show Steps p.tables e below (T0.setTop (mkF m 105 #[.val (.ref a1), .val (.long x1), .second, .val (.long x3), .second, .val (.int nb), .val (.int ii), s7] [(.int nb)])) _
  refine XS.bipush X0.here hx rfl (hb hby d2_105) ?_
  show Steps p.tables e below (T0.setTop (mkF m 107 #[.val (.ref a1), .val (.long x1), .second, .val (.long x3), .second, .val (.int nb), .val (.int ii), s7] [(.int (16 : Int32)), (.int nb)])) _
  refine XS.imul X0.here hx rfl (hb hby d2_107) rfl ?_
  show Steps p.tables e below (T0.setTop (mkF m 108 #[.val (.ref a1), .val (.long x1), .second, .val (.long x3), .second, .val (.int nb), .val (.int ii), s7] [(.int (nb * (16 : Int32)))])) _
  refine XS.istore X0.here hx rfl (hb hby d2_108) rfl (l' := #[.val (.ref a1), .val (.long x1), .second, .val (.long x3), .second, .val (.int nb), .val (.int (nb * (16 : Int32))), s7]) rfl ?_
  show Steps p.tables e below (T0.setTop (mkF m 110 #[.val (.ref a1), .val (.long x1), .second, .val (.long x3), .second, .val (.int nb), .val (.int (nb * (16 : Int32))), s7] [])) _
  refine XS.aloadN X0.here hx rfl (hb hby d2_110) rfl rfl ?_
  show Steps p.tables e below (T0.setTop (mkF m 111 #[.val (.ref a1), .val (.long x1), .second, .val (.long x3), .second, .val (.int nb), .val (.int (nb * (16 : Int32))), s7] [(.ref a1)])) _
  refine X0.arraylength hx (by rw [e0]; exact hT.1.1) (State.isArrayOf_alike hZ.alike hT.1.2.1) (g := (mkF m 111 #[.val (.ref a1), .val (.long x1), .second, .val (.long x3), .second, .val (.int nb), .val (.int (nb * (16 : Int32))), s7] [(.ref a1)])) rfl rfl (hb hby d2_111) _ ?_
  rw [len_of hT.2.1 hT.2.2.1]
  show Steps p.tables e below (T0.setTop (mkF m 112 #[.val (.ref a1), .val (.long x1), .second, .val (.long x3), .second, .val (.int nb), .val (.int (nb * (16 : Int32))), s7] [(.int z)])) _
  refine XS.iload X0.here hx rfl (hb hby d2_112) rfl ?_
  show Steps p.tables e below (T0.setTop (mkF m 114 #[.val (.ref a1), .val (.long x1), .second, .val (.long x3), .second, .val (.int nb), .val (.int (nb * (16 : Int32))), s7] [(.int (nb * (16 : Int32))), (.int z)])) _
  refine XS.isub X0.here hx rfl (hb hby d2_114) rfl ?_
  show Steps p.tables e below (T0.setTop (mkF m 115 #[.val (.ref a1), .val (.long x1), .second, .val (.long x3), .second, .val (.int nb), .val (.int (nb * (16 : Int32))), s7] [(.int (z - (nb * (16 : Int32))))])) _
  refine XS.istore X0.here hx rfl (hb hby d2_115) rfl (l' := #[.val (.ref a1), .val (.long x1), .second, .val (.long x3), .second, .val (.int nb), .val (.int (nb * (16 : Int32))), .val (.int (z - (nb * (16 : Int32))))]) (ostnT_2_115 hs7) ?_
  show Steps p.tables e below (T0.setTop (mkF m 117 #[.val (.ref a1), .val (.long x1), .second, .val (.long x3), .second, .val (.int nb), .val (.int (nb * (16 : Int32))), .val (.int (z - (nb * (16 : Int32))))] [])) _
  refine XS.iload X0.here hx rfl (hb hby d2_117) rfl ?_
  show Steps p.tables e below (T0.setTop (mkF m 119 #[.val (.ref a1), .val (.long x1), .second, .val (.long x3), .second, .val (.int nb), .val (.int (nb * (16 : Int32))), .val (.int (z - (nb * (16 : Int32))))] [(.int (z - (nb * (16 : Int32))))])) _
  refine XS.bipush X0.here hx rfl (hb hby d2_119) ?_
  show Steps p.tables e below (T0.setTop (mkF m 121 #[.val (.ref a1), .val (.long x1), .second, .val (.long x3), .second, .val (.int nb), .val (.int (nb * (16 : Int32))), .val (.int (z - (nb * (16 : Int32))))] [(.int (8 : Int32)), (.int (z - (nb * (16 : Int32))))])) _
  refine XS.icmpNo X0.here hx rfl (hb hby d2_121) rfl (tlt hc121).2.2.2 ?_
  show Steps p.tables e below (T0.setTop (mkF m 124 #[.val (.ref a1), .val (.long x1), .second, .val (.long x3), .second, .val (.int nb), .val (.int (nb * (16 : Int32))), .val (.int (z - (nb * (16 : Int32))))] [])) _
  refine XS.lloadN X0.here hx rfl (hb hby d2_124) rfl ?_
  show Steps p.tables e below (T0.setTop (mkF m 125 #[.val (.ref a1), .val (.long x1), .second, .val (.long x3), .second, .val (.int nb), .val (.int (nb * (16 : Int32))), .val (.int (z - (nb * (16 : Int32))))] [(.long x3)])) _
  refine XS.aloadN X0.here hx rfl (hb hby d2_125) rfl rfl ?_
  show Steps p.tables e below (T0.setTop (mkF m 126 #[.val (.ref a1), .val (.long x1), .second, .val (.long x3), .second, .val (.int nb), .val (.int (nb * (16 : Int32))), .val (.int (z - (nb * (16 : Int32))))] [(.ref a1), (.long x3)])) _
  refine XS.iload X0.here hx rfl (hb hby d2_126) rfl ?_
  show Steps p.tables e below (T0.setTop (mkF m 128 #[.val (.ref a1), .val (.long x1), .second, .val (.long x3), .second, .val (.int nb), .val (.int (nb * (16 : Int32))), .val (.int (z - (nb * (16 : Int32))))] [(.int (nb * (16 : Int32))), (.ref a1), (.long x3)])) _
  refine XS.bipush X0.here hx rfl (hb hby d2_128) ?_
  show Steps p.tables e below (T0.setTop (mkF m 130 #[.val (.ref a1), .val (.long x1), .second, .val (.long x3), .second, .val (.int nb), .val (.int (nb * (16 : Int32))), .val (.int (z - (nb * (16 : Int32))))] [(.int (8 : Int32)), (.int (nb * (16 : Int32))), (.ref a1), (.long x3)])) _
  refine XS.iadd X0.here hx rfl (hb hby d2_130) rfl ?_
  show Steps p.tables e below (T0.setTop (mkF m 131 #[.val (.ref a1), .val (.long x1), .second, .val (.long x3), .second, .val (.int nb), .val (.int (nb * (16 : Int32))), .val (.int (z - (nb * (16 : Int32))))] [(.int ((nb * (16 : Int32)) + (8 : Int32))), (.ref a1), (.long x3)])) _
  refine XS.iload X0.here hx rfl (hb hby d2_131) rfl ?_
  show Steps p.tables e below (T0.setTop (mkF m 133 #[.val (.ref a1), .val (.long x1), .second, .val (.long x3), .second, .val (.int nb), .val (.int (nb * (16 : Int32))), .val (.int (z - (nb * (16 : Int32))))] [(.int (z - (nb * (16 : Int32)))), (.int ((nb * (16 : Int32)) + (8 : Int32))), (.ref a1), (.long x3)])) _
  refine XS.bipush X0.here hx rfl (hb hby d2_133) ?_
  show Steps p.tables e below (T0.setTop (mkF m 135 #[.val (.ref a1), .val (.long x1), .second, .val (.long x3), .second, .val (.int nb), .val (.int (nb * (16 : Int32))), .val (.int (z - (nb * (16 : Int32))))] [(.int (8 : Int32)), (.int (z - (nb * (16 : Int32)))), (.int ((nb * (16 : Int32)) + (8 : Int32))), (.ref a1), (.long x3)])) _
  refine XS.isub X0.here hx rfl (hb hby d2_135) rfl ?_
  show Steps p.tables e below (T0.setTop (mkF m 136 #[.val (.ref a1), .val (.long x1), .second, .val (.long x3), .second, .val (.int nb), .val (.int (nb * (16 : Int32))), .val (.int (z - (nb * (16 : Int32))))] [(.int ((z - (nb * (16 : Int32))) - (8 : Int32))), (.int ((nb * (16 : Int32)) + (8 : Int32))), (.ref a1), (.long x3)])) _
  refine st2 _ ?_
  show Steps p.tables e below (T2.setTop (mkF m 139 #[.val (.ref a1), .val (.long x1), .second, .val (.long x3), .second, .val (.int nb), .val (.int (nb * (16 : Int32))), .val (.int (z - (nb * (16 : Int32))))] [(.long r2), (.long x3)])) _
  refine st3 _ ?_
  show Steps p.tables e below (T3.setTop (mkF m 142 #[.val (.ref a1), .val (.long x1), .second, .val (.long x3), .second, .val (.int nb), .val (.int (nb * (16 : Int32))), .val (.int (z - (nb * (16 : Int32))))] [(.long r3), (.long x3)])) _
  refine XS.lxor X3.here hx rfl (hb hby d2_142) rfl ?_
  show Steps p.tables e below (T3.setTop (mkF m 143 #[.val (.ref a1), .val (.long x1), .second, .val (.long x3), .second, .val (.int nb), .val (.int (nb * (16 : Int32))), .val (.int (z - (nb * (16 : Int32))))] [(.long (x3 ^^^ r3))])) _
  refine XS.lstoreN X3.here hx rfl (hb hby d2_143) rfl (l' := #[.val (.ref a1), .val (.long x1), .second, .val (.long (x3 ^^^ r3)), .second, .val (.int nb), .val (.int (nb * (16 : Int32))), .val (.int (z - (nb * (16 : Int32))))]) rfl ?_
  show Steps p.tables e below (T3.setTop (mkF m 144 #[.val (.ref a1), .val (.long x1), .second, .val (.long (x3 ^^^ r3)), .second, .val (.int nb), .val (.int (nb * (16 : Int32))), .val (.int (z - (nb * (16 : Int32))))] [])) _
  refine XS.iload X3.here hx rfl (hb hby d2_144) rfl ?_
  show Steps p.tables e below (T3.setTop (mkF m 146 #[.val (.ref a1), .val (.long x1), .second, .val (.long (x3 ^^^ r3)), .second, .val (.int nb), .val (.int (nb * (16 : Int32))), .val (.int (z - (nb * (16 : Int32))))] [(.int (z - (nb * (16 : Int32))))])) _
  refine XS.ifNo X3.here hx rfl (hb hby d2_146) rfl ((if0 _ _).trans (tlt hc146).2.2.2) ?_
  show Steps p.tables e below (T3.setTop (mkF m 149 #[.val (.ref a1), .val (.long x1), .second, .val (.long (x3 ^^^ r3)), .second, .val (.int nb), .val (.int (nb * (16 : Int32))), .val (.int (z - (nb * (16 : Int32))))] [])) _
  refine XS.lloadN X3.here hx rfl (hb hby d2_149) rfl ?_
  show Steps p.tables e below (T3.setTop (mkF m 150 #[.val (.ref a1), .val (.long x1), .second, .val (.long (x3 ^^^ r3)), .second, .val (.int nb), .val (.int (nb * (16 : Int32))), .val (.int (z - (nb * (16 : Int32))))] [(.long x1)])) _
  refine XS.aloadN X3.here hx rfl (hb hby d2_150) rfl rfl ?_
  show Steps p.tables e below (T3.setTop (mkF m 151 #[.val (.ref a1), .val (.long x1), .second, .val (.long (x3 ^^^ r3)), .second, .val (.int nb), .val (.int (nb * (16 : Int32))), .val (.int (z - (nb * (16 : Int32))))] [(.ref a1), (.long x1)])) _
  refine XS.iload X3.here hx rfl (hb hby d2_151) rfl ?_
  show Steps p.tables e below (T3.setTop (mkF m 153 #[.val (.ref a1), .val (.long x1), .second, .val (.long (x3 ^^^ r3)), .second, .val (.int nb), .val (.int (nb * (16 : Int32))), .val (.int (z - (nb * (16 : Int32))))] [(.int (nb * (16 : Int32))), (.ref a1), (.long x1)])) _
  refine XS.iload X3.here hx rfl (hb hby d2_153) rfl ?_
  show Steps p.tables e below (T3.setTop (mkF m 155 #[.val (.ref a1), .val (.long x1), .second, .val (.long (x3 ^^^ r3)), .second, .val (.int nb), .val (.int (nb * (16 : Int32))), .val (.int (z - (nb * (16 : Int32))))] [(.int (z - (nb * (16 : Int32)))), (.int (nb * (16 : Int32))), (.ref a1), (.long x1)])) _
  refine XS.bipush X3.here hx rfl (hb hby d2_155) ?_
  show Steps p.tables e below (T3.setTop (mkF m 157 #[.val (.ref a1), .val (.long x1), .second, .val (.long (x3 ^^^ r3)), .second, .val (.int nb), .val (.int (nb * (16 : Int32))), .val (.int (z - (nb * (16 : Int32))))] [(.int (8 : Int32)), (.int (z - (nb * (16 : Int32)))), (.int (nb * (16 : Int32))), (.ref a1), (.long x1)])) _
  refine st4 _ ?_
  show Steps p.tables e below (T4.setTop (mkF m 160 #[.val (.ref a1), .val (.long x1), .second, .val (.long (x3 ^^^ r3)), .second, .val (.int nb), .val (.int (nb * (16 : Int32))), .val (.int (z - (nb * (16 : Int32))))] [(.int (8 : Int32)), (.int (nb * (16 : Int32))), (.ref a1), (.long x1)])) _
  refine st5 _ ?_
  show Steps p.tables e below (T5.setTop (mkF m 163 #[.val (.ref a1), .val (.long x1), .second, .val (.long (x3 ^^^ r3)), .second, .val (.int nb), .val (.int (nb * (16 : Int32))), .val (.int (z - (nb * (16 : Int32))))] [(.long r5), (.long x1)])) _
  refine st6 _ ?_
  show Steps p.tables e below (T6.setTop (mkF m 166 #[.val (.ref a1), .val (.long x1), .second, .val (.long (x3 ^^^ r3)), .second, .val (.int nb), .val (.int (nb * (16 : Int32))), .val (.int (z - (nb * (16 : Int32))))] [(.long r6), (.long x1)])) _
  refine XS.lxor X6.here hx rfl (hb hby d2_166) rfl ?_
  show Steps p.tables e below (T6.setTop (mkF m 167 #[.val (.ref a1), .val (.long x1), .second, .val (.long (x3 ^^^ r3)), .second, .val (.int nb), .val (.int (nb * (16 : Int32))), .val (.int (z - (nb * (16 : Int32))))] [(.long (x1 ^^^ r6))])) _
  refine XS.lstoreN X6.here hx rfl (hb hby d2_167) rfl (l' := #[.val (.ref a1), .val (.long (x1 ^^^ r6)), .second, .val (.long (x3 ^^^ r3)), .second, .val (.int nb), .val (.int (nb * (16 : Int32))), .val (.int (z - (nb * (16 : Int32))))]) rfl ?_
  exact kt
theorem d2_168 : decode prog_68_method_2_code 168 = .ok (.lload_n 1, 1) := by decide +kernel
theorem d2_169 : decode prog_68_method_2_code 169 = .ok (.aload_n 0, 1) := by decide +kernel
theorem d2_170 : decode prog_68_method_2_code 170 = .ok (.arraylength, 1) := by decide +kernel
theorem d2_171 : decode prog_68_method_2_code 171 = .ok (.i2l, 1) := by decide +kernel
theorem d2_172 : decode prog_68_method_2_code 172 = .ok (.lxor, 1) := by decide +kernel
theorem d2_173 : decode prog_68_method_2_code 173 = .ok (.lstore_n 1, 1) := by decide +kernel
theorem d2_174 : decode prog_68_method_2_code 174 = .ok (.lload_n 3, 1) := by decide +kernel
theorem d2_175 : decode prog_68_method_2_code 175 = .ok (.aload_n 0, 1) := by decide +kernel
theorem d2_176 : decode prog_68_method_2_code 176 = .ok (.arraylength, 1) := by decide +kernel
theorem d2_177 : decode prog_68_method_2_code 177 = .ok (.i2l, 1) := by decide +kernel
theorem d2_178 : decode prog_68_method_2_code 178 = .ok (.lxor, 1) := by decide +kernel
theorem d2_179 : decode prog_68_method_2_code 179 = .ok (.lstore_n 3, 1) := by decide +kernel
theorem d2_180 : decode prog_68_method_2_code 180 = .ok (.lload_n 1, 1) := by decide +kernel
theorem d2_181 : decode prog_68_method_2_code 181 = .ok (.lload_n 3, 1) := by decide +kernel
theorem d2_182 : decode prog_68_method_2_code 182 = .ok (.ladd, 1) := by decide +kernel
theorem d2_183 : decode prog_68_method_2_code 183 = .ok (.lstore_n 1, 1) := by decide +kernel
theorem d2_184 : decode prog_68_method_2_code 184 = .ok (.lload_n 3, 1) := by decide +kernel
theorem d2_185 : decode prog_68_method_2_code 185 = .ok (.lload_n 1, 1) := by decide +kernel
theorem d2_186 : decode prog_68_method_2_code 186 = .ok (.ladd, 1) := by decide +kernel
theorem d2_187 : decode prog_68_method_2_code 187 = .ok (.lstore_n 3, 1) := by decide +kernel
theorem d2_188 : decode prog_68_method_2_code 188 = .ok (.lload_n 1, 1) := by decide +kernel
theorem d2_189 : decode prog_68_method_2_code 189 = .ok (.invokestatic 38, 3) := by decide +kernel
theorem d2_192 : decode prog_68_method_2_code 192 = .ok (.lstore_n 1, 1) := by decide +kernel
theorem d2_193 : decode prog_68_method_2_code 193 = .ok (.lload_n 3, 1) := by decide +kernel
theorem d2_194 : decode prog_68_method_2_code 194 = .ok (.invokestatic 38, 3) := by decide +kernel
theorem d2_197 : decode prog_68_method_2_code 197 = .ok (.lstore_n 3, 1) := by decide +kernel
theorem d2_198 : decode prog_68_method_2_code 198 = .ok (.lload_n 1, 1) := by decide +kernel
theorem d2_199 : decode prog_68_method_2_code 199 = .ok (.lload_n 3, 1) := by decide +kernel
theorem d2_200 : decode prog_68_method_2_code 200 = .ok (.ladd, 1) := by decide +kernel
set_option maxRecDepth 65536 in
set_option maxHeartbeats 40000000 in
theorem tnT_f {p : Program} {l : Launch} {e : Env} {s : State} {m : MethodId} {args : Array Value} {below : List Frame} {meth : Method} {c : Code} {T0 : State} {locs : List Loc} {Z : State} {a0 : Array Value} {h0 : Heap} (a1 : Addr) (x1 : Int64) (x3 : Int64) (nb : Int32) (off : Int32) (tail : Int32)
    (X0 : Stand p l e ({ frames := 2, cells := 0, slots := 0, locals := 40 } : Room) s m args below meth c T0 locs 0 0) (hx : p.tables.exec = Jvm.exec) (hZ : Z.Warmed39 s.vm) (hw : ∀ d ∈ tables_1, d.before a0 Z = true) (hby : c.code = prog_68_method_2_code) (hml : c.maxLocals = 8) (hown : s.vm.findClass "com/example/stratifold/stratifold/Token" = some m.cls) (e0 : T0.heap = h0) (n0 : Nat) (Z0 : n0 ≤ h0.size) (N0 : Fr n0 locs) (cl : Cell) (z : Int32) (hT : TB Z h0 a1 cl z) (hzM : z.toInt ≤ 65535) :
    ∃ (T' : State) (locs' : List Loc) (y1 y3 y5 : Int64), Stand p l e ({ frames := 2, cells := 0, slots := 0, locals := 40 } : Room) s m args below meth c T' locs' 0 0 ∧ T'.heap = h0 ∧ Fr n0 locs' ∧
      ∀ target, Steps p.tables e below (T'.setTop (mkF m 201 #[.val (.ref a1), .val (.long y1), .second, .val (.long y3), .second, .val (.int nb), .val (.int off), .val (.int tail)] [(.long y5)])) target → Steps p.tables e below (T0.setTop (mkF m 168 #[.val (.ref a1), .val (.long x1), .second, .val (.long x3), .second, .val (.int nb), .val (.int off), .val (.int tail)] [])) target := by
  obtain ⟨_, _, ⟨T2, L2, k2, n2⟩, -, X2, ⟨Lc2, hQ2, l2, y2, z2⟩, st2⟩ := Jvm.LawKit.callS X0 hx (y := (⟨"com/example/stratifold/stratifold/Token", "finalMix", "(J)J"⟩ : MethodName)) hown (mvT hZ (hw _ (List.mem_of_getElem? (i := 12) rfl))) (mvT hZ (hw _ (List.mem_of_getElem? (i := 13) rfl))) (mvT hZ (hw _ (List.mem_of_getElem? (i := 10) rfl))) (mvT hZ (hw _ (List.mem_of_getElem? (i := 14) rfl))) (by decide) (backOf (W := 0) (rm3 l Z a0 hw [] ((x1 ^^^ (z.toInt64)) + (x3 ^^^ (z.toInt64))) h0 n0 Z0) hZ (hw _ (List.mem_of_getElem? (i := 14) rfl)) (hw _ (List.mem_of_getElem? (i := 10) rfl)) (by decide) (by decide)) (g := (mkF m 189 #[.val (.ref a1), .val (.long ((x1 ^^^ (z.toInt64)) + (x3 ^^^ (z.toInt64)))), .second, .val (.long ((x3 ^^^ (z.toInt64)) + ((x1 ^^^ (z.toInt64)) + (x3 ^^^ (z.toInt64))))), .second, .val (.int nb), .val (.int off), .val (.int tail)] [(.long ((x1 ^^^ (z.toInt64)) + (x3 ^^^ (z.toInt64))))])) rfl (by rw [hml]; rfl) (argsL := [(.long ((x1 ^^^ (z.toInt64)) + (x3 ^^^ (z.toInt64))))]) (rest := []) (lenOf pd_2_2 rfl) rfl (by show 2 * 0 + _ ≤ _; exact Nat.le_of_eq rfl) (hb hby d2_189) (fun _ _ => ⟨rfl, e0, (Nat.le_of_ble_eq_true rfl), (Nat.le_of_ble_eq_true rfl)⟩)
  dsimp only [Pt.U, Pt.locs, Pt.cells, Pt.slots] at X2 l2 y2 z2 st2 hQ2
  subst l2 y2 z2
  obtain ⟨r2, rfl, N2q, hE2⟩ := hQ2
  have N2 := Fr.app N0 N2q
  obtain ⟨_, _, ⟨T3, L3, k3, n3⟩, -, X3, ⟨Lc3, hQ3, l3, y3, z3⟩, st3⟩ := Jvm.LawKit.callS X2 hx (y := (⟨"com/example/stratifold/stratifold/Token", "finalMix", "(J)J"⟩ : MethodName)) hown (mvT hZ (hw _ (List.mem_of_getElem? (i := 12) rfl))) (mvT hZ (hw _ (List.mem_of_getElem? (i := 13) rfl))) (mvT hZ (hw _ (List.mem_of_getElem? (i := 10) rfl))) (mvT hZ (hw _ (List.mem_of_getElem? (i := 14) rfl))) (by decide) (backOf (W := 0) (rm3 l Z a0 hw [] ((x3 ^^^ (z.toInt64)) + ((x1 ^^^ (z.toInt64)) + (x3 ^^^ (z.toInt64)))) h0 n0 Z0) hZ (hw _ (List.mem_of_getElem? (i := 14) rfl)) (hw _ (List.mem_of_getElem? (i := 10) rfl)) (by decide) (by decide)) (g := (mkF m 194 #[.val (.ref a1), .val (.long r2), .second, .val (.long ((x3 ^^^ (z.toInt64)) + ((x1 ^^^ (z.toInt64)) + (x3 ^^^ (z.toInt64))))), .second, .val (.int nb), .val (.int off), .val (.int tail)] [(.long ((x3 ^^^ (z.toInt64)) + ((x1 ^^^ (z.toInt64)) + (x3 ^^^ (z.toInt64)))))])) rfl (by rw [hml]; rfl) (argsL := [(.long ((x3 ^^^ (z.toInt64)) + ((x1 ^^^ (z.toInt64)) + (x3 ^^^ (z.toInt64)))))]) (rest := []) (lenOf pd_2_2 rfl) rfl (by show 2 * 0 + _ ≤ _; exact Nat.le_of_eq rfl) (hb hby d2_194) (fun _ _ => ⟨rfl, hE2, (Nat.le_of_ble_eq_true rfl), (Nat.le_of_ble_eq_true rfl)⟩)
  dsimp only [Pt.U, Pt.locs, Pt.cells, Pt.slots] at X3 l3 y3 z3 st3 hQ3
  subst l3 y3 z3
  obtain ⟨r3, rfl, N3q, hE3⟩ := hQ3
  have N3 := Fr.app N2 N3q
  refine ⟨T3, _, r2, r3, (r2 + r3), X3, hE3, N3, fun target kt => ?_⟩
  show Steps p.tables e below (T0.setTop (mkF m 168 #[.val (.ref a1), .val (.long x1), .second, .val (.long x3), .second, .val (.int nb), .val (.int off), .val (.int tail)] [])) _
  refine XS.lloadN X0.here hx rfl (hb hby d2_168) rfl ?_
  show Steps p.tables e below (T0.setTop (mkF m 169 #[.val (.ref a1), .val (.long x1), .second, .val (.long x3), .second, .val (.int nb), .val (.int off), .val (.int tail)] [(.long x1)])) _
  refine XS.aloadN X0.here hx rfl (hb hby d2_169) rfl rfl ?_
  show Steps p.tables e below (T0.setTop (mkF m 170 #[.val (.ref a1), .val (.long x1), .second, .val (.long x3), .second, .val (.int nb), .val (.int off), .val (.int tail)] [(.ref a1), (.long x1)])) _
  refine X0.arraylength hx (by rw [e0]; exact hT.1.1) (State.isArrayOf_alike hZ.alike hT.1.2.1) (g := (mkF m 170 #[.val (.ref a1), .val (.long x1), .second, .val (.long x3), .second, .val (.int nb), .val (.int off), .val (.int tail)] [(.ref a1), (.long x1)])) rfl rfl (hb hby d2_170) _ ?_
  rw [len_of hT.2.1 hT.2.2.1]
  show Steps p.tables e below (T0.setTop (mkF m 171 #[.val (.ref a1), .val (.long x1), .second, .val (.long x3), .second, .val (.int nb), .val (.int off), .val (.int tail)] [(.int z), (.long x1)])) _
  refine XS.i2l X0.here hx rfl (hb hby d2_171) rfl ?_
  show Steps p.tables e below (T0.setTop (mkF m 172 #[.val (.ref a1), .val (.long x1), .second, .val (.long x3), .second, .val (.int nb), .val (.int off), .val (.int tail)] [(.long (z.toInt64)), (.long x1)])) _
  refine XS.lxor X0.here hx rfl (hb hby d2_172) rfl ?_
  show Steps p.tables e below (T0.setTop (mkF m 173 #[.val (.ref a1), .val (.long x1), .second, .val (.long x3), .second, .val (.int nb), .val (.int off), .val (.int tail)] [(.long (x1 ^^^ (z.toInt64)))])) _
  refine XS.lstoreN X0.here hx rfl (hb hby d2_173) rfl (l' := #[.val (.ref a1), .val (.long (x1 ^^^ (z.toInt64))), .second, .val (.long x3), .second, .val (.int nb), .val (.int off), .val (.int tail)]) rfl ?_
  show Steps p.tables e below (T0.setTop (mkF m 174 #[.val (.ref a1), .val (.long (x1 ^^^ (z.toInt64))), .second, .val (.long x3), .second, .val (.int nb), .val (.int off), .val (.int tail)] [])) _
  refine XS.lloadN X0.here hx rfl (hb hby d2_174) rfl ?_
  show Steps p.tables e below (T0.setTop (mkF m 175 #[.val (.ref a1), .val (.long (x1 ^^^ (z.toInt64))), .second, .val (.long x3), .second, .val (.int nb), .val (.int off), .val (.int tail)] [(.long x3)])) _
  refine XS.aloadN X0.here hx rfl (hb hby d2_175) rfl rfl ?_
  show Steps p.tables e below (T0.setTop (mkF m 176 #[.val (.ref a1), .val (.long (x1 ^^^ (z.toInt64))), .second, .val (.long x3), .second, .val (.int nb), .val (.int off), .val (.int tail)] [(.ref a1), (.long x3)])) _
  refine X0.arraylength hx (by rw [e0]; exact hT.1.1) (State.isArrayOf_alike hZ.alike hT.1.2.1) (g := (mkF m 176 #[.val (.ref a1), .val (.long (x1 ^^^ (z.toInt64))), .second, .val (.long x3), .second, .val (.int nb), .val (.int off), .val (.int tail)] [(.ref a1), (.long x3)])) rfl rfl (hb hby d2_176) _ ?_
  rw [len_of hT.2.1 hT.2.2.1]
  show Steps p.tables e below (T0.setTop (mkF m 177 #[.val (.ref a1), .val (.long (x1 ^^^ (z.toInt64))), .second, .val (.long x3), .second, .val (.int nb), .val (.int off), .val (.int tail)] [(.int z), (.long x3)])) _
  refine XS.i2l X0.here hx rfl (hb hby d2_177) rfl ?_
  show Steps p.tables e below (T0.setTop (mkF m 178 #[.val (.ref a1), .val (.long (x1 ^^^ (z.toInt64))), .second, .val (.long x3), .second, .val (.int nb), .val (.int off), .val (.int tail)] [(.long (z.toInt64)), (.long x3)])) _
  refine XS.lxor X0.here hx rfl (hb hby d2_178) rfl ?_
  show Steps p.tables e below (T0.setTop (mkF m 179 #[.val (.ref a1), .val (.long (x1 ^^^ (z.toInt64))), .second, .val (.long x3), .second, .val (.int nb), .val (.int off), .val (.int tail)] [(.long (x3 ^^^ (z.toInt64)))])) _
  refine XS.lstoreN X0.here hx rfl (hb hby d2_179) rfl (l' := #[.val (.ref a1), .val (.long (x1 ^^^ (z.toInt64))), .second, .val (.long (x3 ^^^ (z.toInt64))), .second, .val (.int nb), .val (.int off), .val (.int tail)]) rfl ?_
  show Steps p.tables e below (T0.setTop (mkF m 180 #[.val (.ref a1), .val (.long (x1 ^^^ (z.toInt64))), .second, .val (.long (x3 ^^^ (z.toInt64))), .second, .val (.int nb), .val (.int off), .val (.int tail)] [])) _
  refine XS.lloadN X0.here hx rfl (hb hby d2_180) rfl ?_
  show Steps p.tables e below (T0.setTop (mkF m 181 #[.val (.ref a1), .val (.long (x1 ^^^ (z.toInt64))), .second, .val (.long (x3 ^^^ (z.toInt64))), .second, .val (.int nb), .val (.int off), .val (.int tail)] [(.long (x1 ^^^ (z.toInt64)))])) _
  refine XS.lloadN X0.here hx rfl (hb hby d2_181) rfl ?_
  show Steps p.tables e below (T0.setTop (mkF m 182 #[.val (.ref a1), .val (.long (x1 ^^^ (z.toInt64))), .second, .val (.long (x3 ^^^ (z.toInt64))), .second, .val (.int nb), .val (.int off), .val (.int tail)] [(.long (x3 ^^^ (z.toInt64))), (.long (x1 ^^^ (z.toInt64)))])) _
  refine XS.ladd X0.here hx rfl (hb hby d2_182) rfl ?_
  show Steps p.tables e below (T0.setTop (mkF m 183 #[.val (.ref a1), .val (.long (x1 ^^^ (z.toInt64))), .second, .val (.long (x3 ^^^ (z.toInt64))), .second, .val (.int nb), .val (.int off), .val (.int tail)] [(.long ((x1 ^^^ (z.toInt64)) + (x3 ^^^ (z.toInt64))))])) _
  refine XS.lstoreN X0.here hx rfl (hb hby d2_183) rfl (l' := #[.val (.ref a1), .val (.long ((x1 ^^^ (z.toInt64)) + (x3 ^^^ (z.toInt64)))), .second, .val (.long (x3 ^^^ (z.toInt64))), .second, .val (.int nb), .val (.int off), .val (.int tail)]) rfl ?_
  show Steps p.tables e below (T0.setTop (mkF m 184 #[.val (.ref a1), .val (.long ((x1 ^^^ (z.toInt64)) + (x3 ^^^ (z.toInt64)))), .second, .val (.long (x3 ^^^ (z.toInt64))), .second, .val (.int nb), .val (.int off), .val (.int tail)] [])) _
  refine XS.lloadN X0.here hx rfl (hb hby d2_184) rfl ?_
  show Steps p.tables e below (T0.setTop (mkF m 185 #[.val (.ref a1), .val (.long ((x1 ^^^ (z.toInt64)) + (x3 ^^^ (z.toInt64)))), .second, .val (.long (x3 ^^^ (z.toInt64))), .second, .val (.int nb), .val (.int off), .val (.int tail)] [(.long (x3 ^^^ (z.toInt64)))])) _
  refine XS.lloadN X0.here hx rfl (hb hby d2_185) rfl ?_
  show Steps p.tables e below (T0.setTop (mkF m 186 #[.val (.ref a1), .val (.long ((x1 ^^^ (z.toInt64)) + (x3 ^^^ (z.toInt64)))), .second, .val (.long (x3 ^^^ (z.toInt64))), .second, .val (.int nb), .val (.int off), .val (.int tail)] [(.long ((x1 ^^^ (z.toInt64)) + (x3 ^^^ (z.toInt64)))), (.long (x3 ^^^ (z.toInt64)))])) _
  refine XS.ladd X0.here hx rfl (hb hby d2_186) rfl ?_
  show Steps p.tables e below (T0.setTop (mkF m 187 #[.val (.ref a1), .val (.long ((x1 ^^^ (z.toInt64)) + (x3 ^^^ (z.toInt64)))), .second, .val (.long (x3 ^^^ (z.toInt64))), .second, .val (.int nb), .val (.int off), .val (.int tail)] [(.long ((x3 ^^^ (z.toInt64)) + ((x1 ^^^ (z.toInt64)) + (x3 ^^^ (z.toInt64)))))])) _
  refine XS.lstoreN X0.here hx rfl (hb hby d2_187) rfl (l' := #[.val (.ref a1), .val (.long ((x1 ^^^ (z.toInt64)) + (x3 ^^^ (z.toInt64)))), .second, .val (.long ((x3 ^^^ (z.toInt64)) + ((x1 ^^^ (z.toInt64)) + (x3 ^^^ (z.toInt64))))), .second, .val (.int nb), .val (.int off), .val (.int tail)]) rfl ?_
  show Steps p.tables e below (T0.setTop (mkF m 188 #[.val (.ref a1), .val (.long ((x1 ^^^ (z.toInt64)) + (x3 ^^^ (z.toInt64)))), .second, .val (.long ((x3 ^^^ (z.toInt64)) + ((x1 ^^^ (z.toInt64)) + (x3 ^^^ (z.toInt64))))), .second, .val (.int nb), .val (.int off), .val (.int tail)] [])) _
  refine XS.lloadN X0.here hx rfl (hb hby d2_188) rfl ?_
  show Steps p.tables e below (T0.setTop (mkF m 189 #[.val (.ref a1), .val (.long ((x1 ^^^ (z.toInt64)) + (x3 ^^^ (z.toInt64)))), .second, .val (.long ((x3 ^^^ (z.toInt64)) + ((x1 ^^^ (z.toInt64)) + (x3 ^^^ (z.toInt64))))), .second, .val (.int nb), .val (.int off), .val (.int tail)] [(.long ((x1 ^^^ (z.toInt64)) + (x3 ^^^ (z.toInt64))))])) _
  refine st2 _ ?_
  show Steps p.tables e below (T2.setTop (mkF m 192 #[.val (.ref a1), .val (.long ((x1 ^^^ (z.toInt64)) + (x3 ^^^ (z.toInt64)))), .second, .val (.long ((x3 ^^^ (z.toInt64)) + ((x1 ^^^ (z.toInt64)) + (x3 ^^^ (z.toInt64))))), .second, .val (.int nb), .val (.int off), .val (.int tail)] [(.long r2)])) _
  refine XS.lstoreN X2.here hx rfl (hb hby d2_192) rfl (l' := #[.val (.ref a1), .val (.long r2), .second, .val (.long ((x3 ^^^ (z.toInt64)) + ((x1 ^^^ (z.toInt64)) + (x3 ^^^ (z.toInt64))))), .second, .val (.int nb), .val (.int off), .val (.int tail)]) rfl ?_
  show Steps p.tables e below (T2.setTop (mkF m 193 #[.val (.ref a1), .val (.long r2), .second, .val (.long ((x3 ^^^ (z.toInt64)) + ((x1 ^^^ (z.toInt64)) + (x3 ^^^ (z.toInt64))))), .second, .val (.int nb), .val (.int off), .val (.int tail)] [])) _
  refine XS.lloadN X2.here hx rfl (hb hby d2_193) rfl ?_
  show Steps p.tables e below (T2.setTop (mkF m 194 #[.val (.ref a1), .val (.long r2), .second, .val (.long ((x3 ^^^ (z.toInt64)) + ((x1 ^^^ (z.toInt64)) + (x3 ^^^ (z.toInt64))))), .second, .val (.int nb), .val (.int off), .val (.int tail)] [(.long ((x3 ^^^ (z.toInt64)) + ((x1 ^^^ (z.toInt64)) + (x3 ^^^ (z.toInt64)))))])) _
  refine st3 _ ?_
  show Steps p.tables e below (T3.setTop (mkF m 197 #[.val (.ref a1), .val (.long r2), .second, .val (.long ((x3 ^^^ (z.toInt64)) + ((x1 ^^^ (z.toInt64)) + (x3 ^^^ (z.toInt64))))), .second, .val (.int nb), .val (.int off), .val (.int tail)] [(.long r3)])) _
  refine XS.lstoreN X3.here hx rfl (hb hby d2_197) rfl (l' := #[.val (.ref a1), .val (.long r2), .second, .val (.long r3), .second, .val (.int nb), .val (.int off), .val (.int tail)]) rfl ?_
  show Steps p.tables e below (T3.setTop (mkF m 198 #[.val (.ref a1), .val (.long r2), .second, .val (.long r3), .second, .val (.int nb), .val (.int off), .val (.int tail)] [])) _
  refine XS.lloadN X3.here hx rfl (hb hby d2_198) rfl ?_
  show Steps p.tables e below (T3.setTop (mkF m 199 #[.val (.ref a1), .val (.long r2), .second, .val (.long r3), .second, .val (.int nb), .val (.int off), .val (.int tail)] [(.long r2)])) _
  refine XS.lloadN X3.here hx rfl (hb hby d2_199) rfl ?_
  show Steps p.tables e below (T3.setTop (mkF m 200 #[.val (.ref a1), .val (.long r2), .second, .val (.long r3), .second, .val (.int nb), .val (.int off), .val (.int tail)] [(.long r3), (.long r2)])) _
  refine XS.ladd X3.here hx rfl (hb hby d2_200) rfl ?_
  exact kt
theorem d2_0 : decode prog_68_method_2_code 0 = .ok (.lconst 0, 1) := by decide +kernel
theorem d2_1 : decode prog_68_method_2_code 1 = .ok (.lstore_n 1, 1) := by decide +kernel
theorem d2_2 : decode prog_68_method_2_code 2 = .ok (.lconst 0, 1) := by decide +kernel
theorem d2_3 : decode prog_68_method_2_code 3 = .ok (.lstore_n 3, 1) := by decide +kernel
theorem d2_4 : decode prog_68_method_2_code 4 = .ok (.aload_n 0, 1) := by decide +kernel
theorem d2_5 : decode prog_68_method_2_code 5 = .ok (.arraylength, 1) := by decide +kernel
theorem d2_6 : decode prog_68_method_2_code 6 = .ok (.bipush 16, 2) := by decide +kernel
theorem d2_8 : decode prog_68_method_2_code 8 = .ok (.idiv, 1) := by decide +kernel
theorem d2_9 : decode prog_68_method_2_code 9 = .ok (.istore 5, 2) := by decide +kernel
theorem d2_11 : decode prog_68_method_2_code 11 = .ok (.iconst 0, 1) := by decide +kernel
theorem d2_12 : decode prog_68_method_2_code 12 = .ok (.istore 6, 2) := by decide +kernel
theorem d2_201 : decode prog_68_method_2_code 201 = .ok (.lreturn, 1) := by decide +kernel
theorem pn_2 : plainName "com/example/stratifold/stratifold/Token" = true := by first | (simp [plainName, overriddenIn]; done) | decide +kernel
theorem ef_2 (m : MethodId) (x0 : Addr) : entryFrame m #[(.ref x0)] 8 = mkF m 0 #[.val (.ref x0), .unset, .unset, .unset, .unset, .unset, .unset, .unset] [] := by first | (simp [entryFrame, mkF, argsToLocals, Value.category]; done) | rfl
set_option maxRecDepth 65536 in
set_option maxHeartbeats 40000000 in
theorem tnT_s {p : Program} {l : Launch} {e : Env} {R : Room} {s : State} {m : MethodId} {args : Array Value} {below : List Frame} {meth : Method} {c : Code} {T0 : State} {locs : List Loc} {cells slots : Nat} {Z : State} {a0 : Array Value} {h0 : Heap} (a1 : Addr) (cl_a1 : Cell) (z_a1 : Int32)
    (X0 : Stand p l e R s m args below meth c T0 locs cells slots) (hx : p.tables.exec = Jvm.exec) (hZ : Z.Warmed39 s.vm) (hw : ∀ d ∈ tables_1, d.before a0 Z = true) (hby : c.code = prog_68_method_2_code) (hml : c.maxLocals = 8) (hown : s.vm.findClass "com/example/stratifold/stratifold/Token" = some m.cls) (e0 : T0.heap = h0) (Ar_a1 : Arr Z h0 a1 cl_a1 .byte) (S_a1 : cl_a1.slots.size = z_a1.toNatClampNeg) (N_a1 : ¬ z_a1 < 0) :
    ∃ (T' : State), Stand p l e R s m args below meth c T' locs cells slots ∧ T'.heap = h0 ∧
      ∀ target, Steps p.tables e below (T'.setTop (mkF m 14 #[.val (.ref a1), .val (.long (0 : Int64)), .second, .val (.long (0 : Int64)), .second, .val (.int (z_a1 / (16 : Int32))), .val (.int (0 : Int32)), .unset] [])) target → Steps p.tables e below (T0.setTop (mkF m 0 #[.val (.ref a1), .unset, .unset, .unset, .unset, .unset, .unset, .unset] [])) target := by

  refine ⟨T0, X0, e0, fun target kt => ?_⟩
  show Steps p.tables e below (T0.setTop (mkF m 0 #[.val (.ref a1), .unset, .unset, .unset, .unset, .unset, .unset, .unset] [])) _
  refine XS.lconst X0.here hx rfl (hb hby d2_0) ?_
  show Steps p.tables e below (T0.setTop (mkF m 1 #[.val (.ref a1), .unset, .unset, .unset, .unset, .unset, .unset, .unset] [(.long (0 : Int64))])) _
  refine XS.lstoreN X0.here hx rfl (hb hby d2_1) rfl (l' := #[.val (.ref a1), .val (.long (0 : Int64)), .second, .unset, .unset, .unset, .unset, .unset]) rfl ?_
  show Steps p.tables e below (T0.setTop (mkF m 2 #[.val (.ref a1), .val (.long (0 : Int64)), .second, .unset, .unset, .unset, .unset, .unset] [])) _
  refine XS.lconst X0.here hx rfl (hb hby d2_2) ?_
  show Steps p.tables e below (T0.setTop (mkF m 3 #[.val (.ref a1), .val (.long (0 : Int64)), .second, .unset, .unset, .unset, .unset, .unset] [(.long (0 : Int64))])) _
  refine XS.lstoreN X0.here hx rfl (hb hby d2_3) rfl (l' := #[.val (.ref a1), .val (.long (0 : Int64)), .second, .val (.long (0 : Int64)), .second, .unset, .unset, .unset]) rfl ?_
  show Steps p.tables e below (T0.setTop (mkF m 4 #[.val (.ref a1), .val (.long (0 : Int64)), .second, .val (.long (0 : Int64)), .second, .unset, .unset, .unset] [])) _
  refine XS.aloadN X0.here hx rfl (hb hby d2_4) rfl rfl ?_
  show Steps p.tables e below (T0.setTop (mkF m 5 #[.val (.ref a1), .val (.long (0 : Int64)), .second, .val (.long (0 : Int64)), .second, .unset, .unset, .unset] [(.ref a1)])) _
  refine X0.arraylength hx (by rw [e0]; exact Ar_a1.1) (State.isArrayOf_alike hZ.alike Ar_a1.2.1) (g := (mkF m 5 #[.val (.ref a1), .val (.long (0 : Int64)), .second, .val (.long (0 : Int64)), .second, .unset, .unset, .unset] [(.ref a1)])) rfl rfl (hb hby d2_5) _ ?_
  rw [len_of S_a1 N_a1]
  show Steps p.tables e below (T0.setTop (mkF m 6 #[.val (.ref a1), .val (.long (0 : Int64)), .second, .val (.long (0 : Int64)), .second, .unset, .unset, .unset] [(.int z_a1)])) _
  refine XS.bipush X0.here hx rfl (hb hby d2_6) ?_
  show Steps p.tables e below (T0.setTop (mkF m 8 #[.val (.ref a1), .val (.long (0 : Int64)), .second, .val (.long (0 : Int64)), .second, .unset, .unset, .unset] [(.int (16 : Int32)), (.int z_a1)])) _
  refine XS.idiv X0.here hx rfl (hb hby d2_8) rfl (by decide) ?_
  show Steps p.tables e below (T0.setTop (mkF m 9 #[.val (.ref a1), .val (.long (0 : Int64)), .second, .val (.long (0 : Int64)), .second, .unset, .unset, .unset] [(.int (z_a1 / (16 : Int32)))])) _
  refine XS.istore X0.here hx rfl (hb hby d2_9) rfl (l' := #[.val (.ref a1), .val (.long (0 : Int64)), .second, .val (.long (0 : Int64)), .second, .val (.int (z_a1 / (16 : Int32))), .unset, .unset]) rfl ?_
  show Steps p.tables e below (T0.setTop (mkF m 11 #[.val (.ref a1), .val (.long (0 : Int64)), .second, .val (.long (0 : Int64)), .second, .val (.int (z_a1 / (16 : Int32))), .unset, .unset] [])) _
  refine XS.iconst X0.here hx rfl (hb hby d2_11) ?_
  show Steps p.tables e below (T0.setTop (mkF m 12 #[.val (.ref a1), .val (.long (0 : Int64)), .second, .val (.long (0 : Int64)), .second, .val (.int (z_a1 / (16 : Int32))), .unset, .unset] [(.int (0 : Int32))])) _
  refine XS.istore X0.here hx rfl (hb hby d2_12) rfl (l' := #[.val (.ref a1), .val (.long (0 : Int64)), .second, .val (.long (0 : Int64)), .second, .val (.int (z_a1 / (16 : Int32))), .val (.int (0 : Int32)), .unset]) rfl ?_
  exact kt
set_option maxRecDepth 65536 in
set_option maxHeartbeats 40000000 in
theorem rm2 (l : Launch) (Z : State) (a0 : Array Value) (hw : ∀ d ∈ tables_1, d.before a0 Z = true) (ws : List Jvm.Cond) (a1 : Addr) (h0 : Heap) (n0 : Nat) (Z0 : n0 ≤ h0.size) (cl : Cell) (z : Int32) (hT : TB Z h0 a1 cl z) (hzM : z.toInt ≤ 65535) :
    MetFree l (⟨"com/example/stratifold/stratifold/Token", "of", "([B)J"⟩ : MethodName) (head1 (Jvm.Cond.code (⟨"com/example/stratifold/stratifold/Token", "of", "([B)J"⟩ : MethodName) prog_68_method_2_code 8 (some .long) :: ws) ({ frames := 2, cells := 0, slots := 0, locals := 40 } : Room)) (fun a U => a = #[(.ref a1)] ∧ Z.Warmed39 U.vm ∧ U.heap = h0) (fun _ _ _ _ _ => True) (fun _ U o U' => ∃ v L, o = .returned v ∧ QJ h0 n0 v U'.heap L ∧ FrameEnd U o U' L ({ frames := 2, cells := 0, slots := 0, locals := 40 } : Room).cells ({ frames := 2, cells := 0, slots := 0, locals := 40 } : Room).slots) := by
  refine MetFree.of_bodySF (plainFor_of_name pn_2) hisR ?_
  intro p e s m args below meth c s₁ Bd hml0 hP hK
  obtain ⟨rfl, hZ, hh⟩ := hP
  have hx := Bd.exec
  have hby := Bd.bytes
  have hml : c.maxLocals = 8 := hml0
  have hown : s.vm.findClass "com/example/stratifold/stratifold/Token" = some m.cls := findClass_of_methodNamed Bd.named
  have hnm := (name_of_methodNamed Bd.named Bd.method).1
  have X0 : Stand p l e ({ frames := 2, cells := 0, slots := 0, locals := 40 } : Room) s m #[(.ref a1)] below meth c s₁ [] 0 0 := Stand.of_body Bd
  have e0 : s₁.heap = h0 := by rw [← hh, Bd.state]; rfl
  have N0 := Fr.nil n0
  have pre0 : ∀ t, Steps p.tables e below (s₁.setTop (mkF m 0 #[.val (.ref a1), .unset, .unset, .unset, .unset, .unset, .unset, .unset] [])) t → Steps p.tables e below (s₁.setTop (entryFrame m #[(.ref a1)] 8)) t := fun t k => castTop (ef_2 m a1) k
  have hz := own_nn hT.2.2.1
  have q16 : (16 : Int32).toInt = 16 := rfl
  have q8 : (8 : Int32).toInt = 8 := rfl
  have q0 : (0 : Int32).toInt = 0 := rfl
  obtain ⟨nb, hnb⟩ : ∃ nb, nb = (z / (16 : Int32)) := ⟨_, rfl⟩
  have en : nb.toInt = z.toInt / 16 := by rw [hnb, Jvm.Kit.i32_div (by rw [q16]; omega), q16, Int.tdiv_eq_ediv_of_nonneg hz]
  have hb16 : nb.toInt * 16 ≤ z.toInt := by omega
  have hn0 : 0 ≤ nb.toInt := by omega
  obtain ⟨T1, X1, e1, st1⟩ := tnT_s a1 cl z X0 hx hZ hw hby hml hown e0 hT.1 hT.2.1 hT.2.2.1
  rw [← hnb] at st1
  obtain ⟨T2, l2, y1, y3, jj, t7, X2, e2, N2, g7, st2⟩ := loopT a1 nb cl z hx hZ hw hby hml hown n0 Z0 hT hb16 hzM nb.toInt.toNat T1 [] (0 : Int64) (0 : Int64) (0 : Int32) .unset X1 e1 N0 One.u (by decide) (by rw [q0]; omega)
  have m1 : (nb * (16 : Int32)).toInt = nb.toInt * 16 := by rw [Jvm.Kit.i32_mul (by rw [q16]; omega) (by rw [q16]; omega), q16]
  have m2 : (z - (nb * (16 : Int32))).toInt = z.toInt - nb.toInt * 16 := by rw [Jvm.Kit.i32_sub (by rw [m1]; omega) (by rw [m1]; omega), m1]
  obtain ⟨T3, l3, u1, u3, X3, e3, N3, st3⟩ : ∃ (T' : State) (locs' : List Loc) (u1 u3 : Int64), Stand p l e ({ frames := 2, cells := 0, slots := 0, locals := 40 } : Room) s m #[(.ref a1)] below meth c T' locs' 0 0 ∧ T'.heap = h0 ∧ Fr n0 locs' ∧ ∀ target, Steps p.tables e below (T'.setTop (mkF m 168 #[.val (.ref a1), .val (.long u1), .second, .val (.long u3), .second, .val (.int nb), .val (.int (nb * (16 : Int32))), .val (.int (z - (nb * (16 : Int32))))] [])) target → Steps p.tables e below (T2.setTop (mkF m 103 #[.val (.ref a1), .val (.long y1), .second, .val (.long y3), .second, .val (.int nb), .val (.int jj), t7] [])) target := by
    by_cases h8 : (8 : Int32) < (z - (nb * (16 : Int32)))
    · exact tnT_2 a1 y1 y3 nb jj t7 X2 hx hZ hw hby hml hown e2 n0 Z0 N2 cl z hT hb16 hn0 hzM g7 h8 (own_lt (by have := Int32.lt_iff_toInt_lt.mp h8; omega))
    · by_cases hp : (0 : Int32) < (z - (nb * (16 : Int32)))
      · exact tnT_1 a1 y1 y3 nb jj t7 X2 hx hZ hw hby hml hown e2 n0 Z0 N2 cl z hT hb16 hn0 hzM g7 h8 hp
      · exact tnT_0 a1 y1 y3 nb jj t7 X2 hx hZ hw hby hml hown e2 n0 Z0 N2 cl z hT hb16 hn0 hzM g7 h8 hp
  obtain ⟨T4, l4, v1, v3, v5, X4, e4, N4, st4⟩ := tnT_f a1 u1 u3 nb (nb * (16 : Int32)) (z - (nb * (16 : Int32))) X3 hx hZ hw hby hml hown e3 n0 Z0 N3 cl z hT hzM
  obtain ⟨fs, hr, hrun, hended, hW, hsame⟩ := X4.leave (v := some (.long v5)) (fun h => by rw [Bd.returns] at h; cases h)
  refine ⟨_, _, pre0 _ ?_, hrun, hended, _, _, rfl, ?_, ⟨_, rfl⟩, hW, hsame.mono (by decide) (by decide)⟩
  · refine st1 _ ?_
    refine st2 _ ?_
    refine st3 _ ?_
    refine st4 _ ?_
    show Steps p.tables e below (T4.setTop (mkF m 201 #[.val (.ref a1), .val (.long v1), .second, .val (.long v3), .second, .val (.int nb), .val (.int (nb * (16 : Int32))), .val (.int (z - (nb * (16 : Int32))))] [(.long v5)])) _
    exact X4.lreturnOut hx Bd.returns (hb hby d2_201) hr
  · show QJ h0 n0 _ T4.heap _
    rw [e4]
    exact ⟨_, rfl, N4, rfl⟩
theorem d4_0 : decode prog_38_method_2_code 0 = .ok (.aload_n 0, 1) := by decide +kernel
theorem d4_1 : decode prog_38_method_2_code 1 = .ok (.invokespecial 13, 3) := by decide +kernel
theorem d4_4 : decode prog_38_method_2_code 4 = .ok (.aload_n 0, 1) := by decide +kernel
theorem d4_5 : decode prog_38_method_2_code 5 = .ok (.lload_n 1, 1) := by decide +kernel
theorem d4_6 : decode prog_38_method_2_code 6 = .ok (.putfield 18, 3) := by decide +kernel
theorem d4_9 : decode prog_38_method_2_code 9 = .ok (.aload_n 0, 1) := by decide +kernel
theorem d4_10 : decode prog_38_method_2_code 10 = .ok (.aload_n 3, 1) := by decide +kernel
theorem d4_11 : decode prog_38_method_2_code 11 = .ok (.putfield 22, 3) := by decide +kernel
theorem d4_14 : decode prog_38_method_2_code 14 = .ok (.aload_n 0, 1) := by decide +kernel
theorem d4_15 : decode prog_38_method_2_code 15 = .ok (.aload 4, 2) := by decide +kernel
theorem d4_17 : decode prog_38_method_2_code 17 = .ok (.putfield 26, 3) := by decide +kernel
theorem d4_20 : decode prog_38_method_2_code 20 = .ok (.return_, 1) := by decide +kernel
theorem pn_4 : plainName "com/example/stratifold/stratifold/RowKey" = true := by first | (simp [plainName, overriddenIn]; done) | decide +kernel
theorem ef_4 (m : MethodId) (x0 : Addr) (x1 : Int64) (x2 : Addr) (x3 : Addr) : entryFrame m #[(.ref x0), (.long x1), (.ref x2), (.ref x3)] 5 = mkF m 0 #[.val (.ref x0), .val (.long x1), .second, .val (.ref x2), .val (.ref x3)] [] := by first | (simp [entryFrame, mkF, argsToLocals, Value.category]; done) | rfl
def Q4 (Z : State) (a1 : Addr) (q2 : Int64) (a3 : Addr) (a4 : Addr) (u_token_a1 : Value) (u_partition_a1 : Value) (u_clustering_a1 : Value) (h0 : Heap) (n0 : Nat) (v : Option Value) (h : Heap) (L : List Loc) : Prop := v = none ∧ Fr n0 L ∧ Keep h0 h [a1] ∧ Exa Z h a1 "com/example/stratifold/stratifold/RowKey" ∧ Fld Z h a1 "com/example/stratifold/stratifold/RowKey" "token" "J" (.long q2) ∧ Fld Z h a1 "com/example/stratifold/stratifold/RowKey" "partition" "[B" (.ref a3) ∧ Fld Z h a1 "com/example/stratifold/stratifold/RowKey" "clustering" "[B" (.ref a4)
set_option maxRecDepth 65536 in
set_option maxHeartbeats 40000000 in
theorem rm4 (l : Launch) (Z : State) (a0 : Array Value) (hw : ∀ d ∈ tables_1, d.before a0 Z = true) (ws : List Jvm.Cond) (a1 : Addr) (q2 : Int64) (a3 : Addr) (a4 : Addr) (u_token_a1 : Value) (u_partition_a1 : Value) (u_clustering_a1 : Value) (h0 : Heap) (n0 : Nat) (Z0 : n0 ≤ h0.size) (E_a1 : Exa Z h0 a1 "com/example/stratifold/stratifold/RowKey") (F_token_a1 : Fld Z h0 a1 "com/example/stratifold/stratifold/RowKey" "token" "J" u_token_a1) (g_a1 : n0 ≤ a1) (F_partition_a1 : Fld Z h0 a1 "com/example/stratifold/stratifold/RowKey" "partition" "[B" u_partition_a1) (F_clustering_a1 : Fld Z h0 a1 "com/example/stratifold/stratifold/RowKey" "clustering" "[B" u_clustering_a1) :
    MetFree l (⟨"com/example/stratifold/stratifold/RowKey", "<init>", "(J[B[B)V"⟩ : MethodName) (head1 (Jvm.Cond.code (⟨"com/example/stratifold/stratifold/RowKey", "<init>", "(J[B[B)V"⟩ : MethodName) prog_38_method_2_code 5 none :: ws) ({ frames := 1, cells := 0, slots := 0, locals := 12 } : Room)) (fun a U => a = #[(.ref a1), (.long q2), (.ref a3), (.ref a4)] ∧ Z.Warmed39 U.vm ∧ U.heap = h0) (fun _ _ _ _ _ => True) (fun _ U o U' => ∃ v L, o = .returned v ∧ Q4 Z a1 q2 a3 a4 u_token_a1 u_partition_a1 u_clustering_a1 h0 n0 v U'.heap L ∧ FrameEnd U o U' L ({ frames := 1, cells := 0, slots := 0, locals := 12 } : Room).cells ({ frames := 1, cells := 0, slots := 0, locals := 12 } : Room).slots) := by
  refine MetFree.of_bodySF (plainFor_of_name pn_4) hisR ?_
  intro p e s m args below meth c s₁ Bd hml0 hP hK
  obtain ⟨rfl, hZ, hh⟩ := hP
  have hx := Bd.exec
  have hby := Bd.bytes
  have hml : c.maxLocals = 5 := hml0
  have hown : s.vm.findClass "com/example/stratifold/stratifold/RowKey" = some m.cls := findClass_of_methodNamed Bd.named
  have hnm := (name_of_methodNamed Bd.named Bd.method).1
  have X0 : Stand p l e ({ frames := 1, cells := 0, slots := 0, locals := 12 } : Room) s m #[(.ref a1), (.long q2), (.ref a3), (.ref a4)] below meth c s₁ [] 0 0 := Stand.of_body Bd
  have e0 : s₁.heap = h0 := by rw [← hh, Bd.state]; rfl
  have N0 := Fr.nil n0
  have pre0 : ∀ t, Steps p.tables e below (s₁.setTop (mkF m 0 #[.val (.ref a1), .val (.long q2), .second, .val (.ref a3), .val (.ref a4)] [])) t → Steps p.tables e below (s₁.setTop (entryFrame m #[(.ref a1), (.long q2), (.ref a3), (.ref a4)] 5)) t := fun t k => castTop (ef_4 m a1 q2 a3 a4) k
  obtain ⟨T5, X5, e5, st5⟩ := initO X0 hx hZ hown (hw _ (List.mem_of_getElem? (i := 20) rfl)) (hw _ (List.mem_of_getElem? (i := 21) rfl)) (hw _ (List.mem_of_getElem? (i := 22) rfl)) e0 (g := (mkF m 1 #[.val (.ref a1), .val (.long q2), .second, .val (.ref a3), .val (.ref a4)] [(.ref a1)])) rfl (by rw [hml]; rfl) rfl (hb hby d4_1) (by decide) (W := 0) (by show 2 * 0 + _ ≤ _; exact Nat.le_of_eq rfl) (by decide)
  obtain ⟨T6, h6, X6, e6, W6, st6⟩ := putF X5 hx hZ hown (host := "") (Or.inl (hw _ (List.mem_of_getElem? (i := 23) rfl))) Via.refl e5 F_token_a1 E_a1 (Or.inr ⟨(hw _ (List.mem_of_getElem? (i := 24) rfl)), rfl, hnm⟩) (hw _ (List.mem_of_getElem? (i := 3) rfl)) (ty := .long) (by decide) rfl rfl (g := (mkF m 6 #[.val (.ref a1), .val (.long q2), .second, .val (.ref a3), .val (.ref a4)] [(.long q2), (.ref a1)])) rfl rfl (hb hby d4_6)
  have Fw6 := F_token_a1.same W6      -- the field now holds (.long q2)
  have K6 : Keep h0 h6 [a1] := (Keep.refl h0 [a1]).wr W6 (Or.inl (List.mem_of_getElem? (i := 0) rfl))
  have N6 := Fr.snoc X6 N0 g_a1
  obtain ⟨T7, h7, X7, e7, W7, st7⟩ := putF X6 hx hZ hown (host := "") (Or.inl (hw _ (List.mem_of_getElem? (i := 25) rfl))) Via.refl e6 (F_partition_a1.other W6 (Or.inr (slot_ne (Or.inr (hw _ (List.mem_of_getElem? (i := 26) rfl))) (Or.inr (hw _ (List.mem_of_getElem? (i := 24) rfl))) (by decide) (t := (.array .byte)) (t' := .long) (by decide) (by decide)))) (E_a1.wr W6) (Or.inr ⟨(hw _ (List.mem_of_getElem? (i := 26) rfl)), rfl, hnm⟩) (hw _ (List.mem_of_getElem? (i := 3) rfl)) (ty := (.array .byte)) (by decide) rfl rfl (g := (mkF m 11 #[.val (.ref a1), .val (.long q2), .second, .val (.ref a3), .val (.ref a4)] [(.ref a3), (.ref a1)])) rfl rfl (hb hby d4_11)
  have Fw7 := (F_partition_a1.other W6 (Or.inr (slot_ne (Or.inr (hw _ (List.mem_of_getElem? (i := 26) rfl))) (Or.inr (hw _ (List.mem_of_getElem? (i := 24) rfl))) (by decide) (t := (.array .byte)) (t' := .long) (by decide) (by decide)))).same W7      -- the field now holds (.ref a3)
  have K7 : Keep h0 h7 [a1] := K6.wr W7 (Or.inl (List.mem_of_getElem? (i := 0) rfl))
  have N7 := Fr.snoc X7 N6 g_a1
  obtain ⟨T8, h8, X8, e8, W8, st8⟩ := putF X7 hx hZ hown (host := "") (Or.inl (hw _ (List.mem_of_getElem? (i := 27) rfl))) Via.refl e7 ((F_clustering_a1.other W6 (Or.inr (slot_ne (Or.inr (hw _ (List.mem_of_getElem? (i := 28) rfl))) (Or.inr (hw _ (List.mem_of_getElem? (i := 24) rfl))) (by decide) (t := (.array .byte)) (t' := .long) (by decide) (by decide)))).other W7 (Or.inr (slot_ne (Or.inr (hw _ (List.mem_of_getElem? (i := 28) rfl))) (Or.inr (hw _ (List.mem_of_getElem? (i := 26) rfl))) (by decide) (t := (.array .byte)) (t' := (.array .byte)) (by decide) (by decide)))) ((E_a1.wr W6).wr W7) (Or.inr ⟨(hw _ (List.mem_of_getElem? (i := 28) rfl)), rfl, hnm⟩) (hw _ (List.mem_of_getElem? (i := 3) rfl)) (ty := (.array .byte)) (by decide) rfl rfl (g := (mkF m 17 #[.val (.ref a1), .val (.long q2), .second, .val (.ref a3), .val (.ref a4)] [(.ref a4), (.ref a1)])) rfl rfl (hb hby d4_17)
  have Fw8 := ((F_clustering_a1.other W6 (Or.inr (slot_ne (Or.inr (hw _ (List.mem_of_getElem? (i := 28) rfl))) (Or.inr (hw _ (List.mem_of_getElem? (i := 24) rfl))) (by decide) (t := (.array .byte)) (t' := .long) (by decide) (by decide)))).other W7 (Or.inr (slot_ne (Or.inr (hw _ (List.mem_of_getElem? (i := 28) rfl))) (Or.inr (hw _ (List.mem_of_getElem? (i := 26) rfl))) (by decide) (t := (.array .byte)) (t' := (.array .byte)) (by decide) (by decide)))).same W8      -- the field now holds (.ref a4)
  have K8 : Keep h0 h8 [a1] := K7.wr W8 (Or.inl (List.mem_of_getElem? (i := 0) rfl))
  have N8 := Fr.snoc X8 N7 g_a1
  obtain ⟨fs, hr, hrun, hended, hW, hsame⟩ := X8.leave (v := none) (fun _ => rfl)
  refine ⟨_, _, pre0 _ ?_, hrun, hended, _, _, rfl, ?_, ⟨_, rfl⟩, hW, hsame.mono (by decide) (by decide)⟩
  · show Steps p.tables e below (s₁.setTop (mkF m 0 #[.val (.ref a1), .val (.long q2), .second, .val (.ref a3), .val (.ref a4)] [])) _
    refine XS.aloadN X0.here hx rfl (hb hby d4_0) rfl rfl ?_
    show Steps p.tables e below (s₁.setTop (mkF m 1 #[.val (.ref a1), .val (.long q2), .second, .val (.ref a3), .val (.ref a4)] [(.ref a1)])) _
    refine st5 _ ?_
    show Steps p.tables e below (T5.setTop (mkF m 4 #[.val (.ref a1), .val (.long q2), .second, .val (.ref a3), .val (.ref a4)] [])) _
    refine XS.aloadN X5.here hx rfl (hb hby d4_4) rfl rfl ?_
    show Steps p.tables e below (T5.setTop (mkF m 5 #[.val (.ref a1), .val (.long q2), .second, .val (.ref a3), .val (.ref a4)] [(.ref a1)])) _
    refine XS.lloadN X5.here hx rfl (hb hby d4_5) rfl ?_
    show Steps p.tables e below (T5.setTop (mkF m 6 #[.val (.ref a1), .val (.long q2), .second, .val (.ref a3), .val (.ref a4)] [(.long q2), (.ref a1)])) _
    refine st6 _ ?_
    show Steps p.tables e below (T6.setTop (mkF m 9 #[.val (.ref a1), .val (.long q2), .second, .val (.ref a3), .val (.ref a4)] [])) _
    refine XS.aloadN X6.here hx rfl (hb hby d4_9) rfl rfl ?_
    show Steps p.tables e below (T6.setTop (mkF m 10 #[.val (.ref a1), .val (.long q2), .second, .val (.ref a3), .val (.ref a4)] [(.ref a1)])) _
    refine XS.aloadN X6.here hx rfl (hb hby d4_10) rfl rfl ?_
    show Steps p.tables e below (T6.setTop (mkF m 11 #[.val (.ref a1), .val (.long q2), .second, .val (.ref a3), .val (.ref a4)] [(.ref a3), (.ref a1)])) _
    refine st7 _ ?_
    show Steps p.tables e below (T7.setTop (mkF m 14 #[.val (.ref a1), .val (.long q2), .second, .val (.ref a3), .val (.ref a4)] [])) _
    refine XS.aloadN X7.here hx rfl (hb hby d4_14) rfl rfl ?_
    show Steps p.tables e below (T7.setTop (mkF m 15 #[.val (.ref a1), .val (.long q2), .second, .val (.ref a3), .val (.ref a4)] [(.ref a1)])) _
    refine XS.aload X7.here hx rfl (hb hby d4_15) rfl rfl ?_
    show Steps p.tables e below (T7.setTop (mkF m 17 #[.val (.ref a1), .val (.long q2), .second, .val (.ref a3), .val (.ref a4)] [(.ref a4), (.ref a1)])) _
    refine st8 _ ?_
    show Steps p.tables e below (T8.setTop (mkF m 20 #[.val (.ref a1), .val (.long q2), .second, .val (.ref a3), .val (.ref a4)] [])) _
    exact X8.returnOut hx Bd.returns (hb hby d4_20) hr
  · show Q4 Z a1 q2 a3 a4 u_token_a1 u_partition_a1 u_clustering_a1 h0 n0 _ T8.heap _
    rw [e8]
    exact ⟨rfl, N8, K8, (((E_a1.wr W6).wr W7).wr W8), ((Fw6.other W7 (Or.inr (slot_ne (Or.inr (hw _ (List.mem_of_getElem? (i := 24) rfl))) (Or.inr (hw _ (List.mem_of_getElem? (i := 26) rfl))) (by decide) (t := .long) (t' := (.array .byte)) (by decide) (by decide)))).other W8 (Or.inr (slot_ne (Or.inr (hw _ (List.mem_of_getElem? (i := 24) rfl))) (Or.inr (hw _ (List.mem_of_getElem? (i := 28) rfl))) (by decide) (t := .long) (t' := (.array .byte)) (by decide) (by decide)))), (Fw7.other W8 (Or.inr (slot_ne (Or.inr (hw _ (List.mem_of_getElem? (i := 26) rfl))) (Or.inr (hw _ (List.mem_of_getElem? (i := 28) rfl))) (by decide) (t := (.array .byte)) (t' := (.array .byte)) (by decide) (by decide)))), Fw8⟩
theorem d1_0 : decode prog_38_method_1_code 0 = .ok (.aload_n 0, 1) := by decide +kernel
theorem d1_1 : decode prog_38_method_1_code 1 = .ok (.aload_n 1, 1) := by decide +kernel
theorem d1_2 : decode prog_38_method_1_code 2 = .ok (.invokestatic 1, 3) := by decide +kernel
theorem d1_5 : decode prog_38_method_1_code 5 = .ok (.aload_n 1, 1) := by decide +kernel
theorem d1_6 : decode prog_38_method_1_code 6 = .ok (.aload_n 2, 1) := by decide +kernel
theorem d1_7 : decode prog_38_method_1_code 7 = .ok (.invokespecial 7, 3) := by decide +kernel
theorem d1_10 : decode prog_38_method_1_code 10 = .ok (.return_, 1) := by decide +kernel
theorem pn_1 : plainName "com/example/stratifold/stratifold/RowKey" = true := by first | (simp [plainName, overriddenIn]; done) | decide +kernel
theorem pd_1_1 : parseMethodDescriptor "([B)J" = some ⟨[(.array .byte)], some .long⟩ := by decide +kernel
theorem pd_1_3 : parseMethodDescriptor "(J[B[B)V" = some ⟨[.long, (.array .byte), (.array .byte)], none⟩ := by decide +kernel
theorem ef_1 (m : MethodId) (x0 : Addr) (x1 : Addr) (x2 : Addr) : entryFrame m #[(.ref x0), (.ref x1), (.ref x2)] 3 = mkF m 0 #[.val (.ref x0), .val (.ref x1), .val (.ref x2)] [] := by first | (simp [entryFrame, mkF, argsToLocals, Value.category]; done) | rfl
def QK (Z : State) (a1 a2 a3 : Addr) (h0 : Heap) (n0 : Nat) (v : Option Value) (h : Heap) (L : List Loc) : Prop := v = none ∧ Fr n0 L ∧ Keep h0 h [a1] ∧ Exa Z h a1 "com/example/stratifold/stratifold/RowKey" ∧ Fld Z h a1 "com/example/stratifold/stratifold/RowKey" "partition" "[B" (.ref a2) ∧ Fld Z h a1 "com/example/stratifold/stratifold/RowKey" "clustering" "[B" (.ref a3)
set_option maxRecDepth 65536 in
set_option maxHeartbeats 40000000 in
theorem rm1 (l : Launch) (Z : State) (a0 : Array Value) (hw : ∀ d ∈ tables_1, d.before a0 Z = true) (ws : List Jvm.Cond) (a1 : Addr) (a2 : Addr) (a3 : Addr) (h0 : Heap) (n0 : Nat) (Z0 : n0 ≤ h0.size) (cl : Cell) (z : Int32) (hT : TB Z h0 a2 cl z) (hzM : z.toInt ≤ 65535) (E_a1 : Exa Z h0 a1 "com/example/stratifold/stratifold/RowKey") (F_t : Fld Z h0 a1 "com/example/stratifold/stratifold/RowKey" "token" "J" (.long 0)) (F_p : Fld Z h0 a1 "com/example/stratifold/stratifold/RowKey" "partition" "[B" .null) (F_c : Fld Z h0 a1 "com/example/stratifold/stratifold/RowKey" "clustering" "[B" .null) (g_a1 : n0 ≤ a1) :
    MetFree l (⟨"com/example/stratifold/stratifold/RowKey", "<init>", "([B[B)V"⟩ : MethodName) (head1 (Jvm.Cond.code (⟨"com/example/stratifold/stratifold/RowKey", "<init>", "([B[B)V"⟩ : MethodName) prog_38_method_1_code 3 none :: ws) ({ frames := 3, cells := 0, slots := 0, locals := 60 } : Room)) (fun a U => a = #[(.ref a1), (.ref a2), (.ref a3)] ∧ Z.Warmed39 U.vm ∧ U.heap = h0) (fun _ _ _ _ _ => True) (fun _ U o U' => ∃ v L, o = .returned v ∧ QK Z a1 a2 a3 h0 n0 v U'.heap L ∧ FrameEnd U o U' L ({ frames := 3, cells := 0, slots := 0, locals := 60 } : Room).cells ({ frames := 3, cells := 0, slots := 0, locals := 60 } : Room).slots) := by
  refine MetFree.of_bodySF (plainFor_of_name pn_1) hisR ?_
  intro p e s m args below meth c s₁ Bd hml0 hP hK
  obtain ⟨rfl, hZ, hh⟩ := hP
  have hx := Bd.exec
  have hby := Bd.bytes
  have hml : c.maxLocals = 3 := hml0
  have hown : s.vm.findClass "com/example/stratifold/stratifold/RowKey" = some m.cls := findClass_of_methodNamed Bd.named
  have hnm := (name_of_methodNamed Bd.named Bd.method).1
  have X0 : Stand p l e ({ frames := 3, cells := 0, slots := 0, locals := 60 } : Room) s m #[(.ref a1), (.ref a2), (.ref a3)] below meth c s₁ [] 0 0 := Stand.of_body Bd
  have e0 : s₁.heap = h0 := by rw [← hh, Bd.state]; rfl
  have N0 := Fr.nil n0
  have pre0 : ∀ t, Steps p.tables e below (s₁.setTop (mkF m 0 #[.val (.ref a1), .val (.ref a2), .val (.ref a3)] [])) t → Steps p.tables e below (s₁.setTop (entryFrame m #[(.ref a1), (.ref a2), (.ref a3)] 3)) t := fun t k => castTop (ef_1 m a1 a2 a3) k
  obtain ⟨_, _, ⟨T4, L4, k4, n4⟩, -, X4, ⟨Lc4, hQ4, l4, y4, z4⟩, st4⟩ := Jvm.LawKit.callS X0 hx (y := (⟨"com/example/stratifold/stratifold/Token", "of", "([B)J"⟩ : MethodName)) hown (mvT hZ (hw _ (List.mem_of_getElem? (i := 8) rfl))) (mvT hZ (hw _ (List.mem_of_getElem? (i := 9) rfl))) (mvT hZ (hw _ (List.mem_of_getElem? (i := 10) rfl))) (mvT hZ (hw _ (List.mem_of_getElem? (i := 11) rfl))) (by decide) (backOf (W := 1) (rm2 l Z a0 hw [] a2 h0 n0 Z0 cl z hT hzM) hZ (hw _ (List.mem_of_getElem? (i := 11) rfl)) (hw _ (List.mem_of_getElem? (i := 10) rfl)) (by decide) (by decide)) (g := (mkF m 2 #[.val (.ref a1), .val (.ref a2), .val (.ref a3)] [(.ref a2), (.ref a1)])) rfl (by rw [hml]; rfl) (argsL := [(.ref a2)]) (rest := [(.ref a1)]) (lenOf pd_1_1 rfl) rfl (by show 2 * 0 + _ ≤ _; exact Nat.le_of_eq rfl) (hb hby d1_2) (fun _ _ => ⟨rfl, e0, (Nat.le_of_ble_eq_true rfl), (Nat.le_of_ble_eq_true rfl)⟩)
  dsimp only [Pt.U, Pt.locs, Pt.cells, Pt.slots] at X4 l4 y4 z4 st4 hQ4
  subst l4 y4 z4
  obtain ⟨r4, rfl, N4q, hE4⟩ := hQ4
  have N4 := Fr.app N0 N4q
  obtain ⟨_, _, ⟨T5, L5, k5, n5⟩, -, X5, ⟨Lc5, hQ5, l5, y5, z5⟩, st5⟩ := X4.specialBack hx (y := (⟨"com/example/stratifold/stratifold/RowKey", "<init>", "(J[B[B)V"⟩ : MethodName)) rfl hown (mvT hZ (hw _ (List.mem_of_getElem? (i := 17) rfl))) (mvT hZ (hw _ (List.mem_of_getElem? (i := 18) rfl))) (mvT hZ (hw _ (List.mem_of_getElem? (i := 19) rfl))) (by decide) (backOf (W := 0) (rm4 l Z a0 hw [] a1 r4 a2 a3 (.long 0) .null .null h0 n0 Z0 E_a1 F_t g_a1 F_p F_c) hZ (hw _ (List.mem_of_getElem? (i := 19) rfl)) (hw _ (List.mem_of_getElem? (i := 4) rfl)) (by decide) (by decide)) (g := (mkF m 7 #[.val (.ref a1), .val (.ref a2), .val (.ref a3)] [(.ref a3), (.ref a2), (.long r4), (.ref a1)])) rfl (by rw [hml]; rfl) (Steps.refl _) (a := a1) (argsL := [(.long r4), (.ref a2), (.ref a3)]) (rest := []) (lenOf pd_1_3 rfl) rfl (by show 2 * 0 + _ ≤ _; exact Nat.le_of_eq rfl) (hb hby d1_7) (fun _ _ => ⟨rfl, hE4, (Nat.le_of_ble_eq_true rfl), (Nat.le_of_ble_eq_true rfl)⟩)
  dsimp only [Pt.U, Pt.locs, Pt.cells, Pt.slots] at X5 l5 y5 z5 st5 hQ5
  subst l5 y5 z5
  obtain ⟨rfl, N5q, K5, Y5, -, Fp5, Fc5⟩ := hQ5
  have N5 := Fr.app N4 N5q
  obtain ⟨fs, hr, hrun, hended, hW, hsame⟩ := X5.leave (v := none) (fun _ => rfl)
  refine ⟨_, _, pre0 _ ?_, hrun, hended, _, _, rfl, ?_, ⟨_, rfl⟩, hW, hsame.mono (by decide) (by decide)⟩
  · show Steps p.tables e below (s₁.setTop (mkF m 0 #[.val (.ref a1), .val (.ref a2), .val (.ref a3)] [])) _
    refine XS.aloadN X0.here hx rfl (hb hby d1_0) rfl rfl ?_
    show Steps p.tables e below (s₁.setTop (mkF m 1 #[.val (.ref a1), .val (.ref a2), .val (.ref a3)] [(.ref a1)])) _
    refine XS.aloadN X0.here hx rfl (hb hby d1_1) rfl rfl ?_
    show Steps p.tables e below (s₁.setTop (mkF m 2 #[.val (.ref a1), .val (.ref a2), .val (.ref a3)] [(.ref a2), (.ref a1)])) _
    refine st4 _ ?_
    show Steps p.tables e below (T4.setTop (mkF m 5 #[.val (.ref a1), .val (.ref a2), .val (.ref a3)] [(.long r4), (.ref a1)])) _
    refine XS.aloadN X4.here hx rfl (hb hby d1_5) rfl rfl ?_
    show Steps p.tables e below (T4.setTop (mkF m 6 #[.val (.ref a1), .val (.ref a2), .val (.ref a3)] [(.ref a2), (.long r4), (.ref a1)])) _
    refine XS.aloadN X4.here hx rfl (hb hby d1_6) rfl rfl ?_
    show Steps p.tables e below (T4.setTop (mkF m 7 #[.val (.ref a1), .val (.ref a2), .val (.ref a3)] [(.ref a3), (.ref a2), (.long r4), (.ref a1)])) _
    refine st5.trans ?_
    show Steps p.tables e below (T5.setTop (mkF m 10 #[.val (.ref a1), .val (.ref a2), .val (.ref a3)] [])) _
    exact X5.returnOut hx Bd.returns (hb hby d1_10) hr
  · show QK Z a1 a2 a3 h0 n0 _ T5.heap _
    exact ⟨rfl, N5, K5, Y5, Fp5, Fc5⟩
theorem d6_0 : decode prog_38_method_7_code 0 = .ok (.new 8, 3) := by decide +kernel
theorem d6_3 : decode prog_38_method_7_code 3 = .ok (.dup, 1) := by decide +kernel
theorem d6_4 : decode prog_38_method_7_code 4 = .ok (.lload_n 0, 1) := by decide +kernel
theorem d6_5 : decode prog_38_method_7_code 5 = .ok (.getstatic 47, 3) := by decide +kernel
theorem d6_8 : decode prog_38_method_7_code 8 = .ok (.getstatic 47, 3) := by decide +kernel
theorem d6_11 : decode prog_38_method_7_code 11 = .ok (.invokespecial 7, 3) := by decide +kernel
theorem d6_14 : decode prog_38_method_7_code 14 = .ok (.areturn, 1) := by decide +kernel
theorem pn_6 : plainName "com/example/stratifold/stratifold/RowKey" = true := by first | (simp [plainName, overriddenIn]; done) | decide +kernel
theorem pd_6_3 : parseMethodDescriptor "(J[B[B)V" = some ⟨[.long, (.array .byte), (.array .byte)], none⟩ := by decide +kernel
theorem ef_6 (m : MethodId) (x0 : Int64) : entryFrame m #[(.long x0)] 2 = mkF m 0 #[.val (.long x0), .second] [] := by first | (simp [entryFrame, mkF, argsToLocals, Value.category]; done) | rfl
def QT (Z : State) (w3 : Addr) (h0 : Heap) (n0 : Nat) (v : Option Value) (h : Heap) (L : List Loc) : Prop := ∃ b : Addr, v = some (.ref b) ∧ Fr n0 L ∧ Keep h0 h [] ∧ Exa Z h b "com/example/stratifold/stratifold/RowKey" ∧ Fld Z h b "com/example/stratifold/stratifold/RowKey" "partition" "[B" (.ref w3) ∧ Fld Z h b "com/example/stratifold/stratifold/RowKey" "clustering" "[B" (.ref w3)
set_option maxRecDepth 65536 in
set_option maxHeartbeats 40000000 in
theorem rm6 (l : Launch) (Z : State) (a0 : Array Value) (hw : ∀ d ∈ tables_1, d.before a0 Z = true) (ws : List Jvm.Cond) (q1 : Int64) (w3 : Addr) (h0 : Heap) (n0 : Nat) (Z0 : n0 ≤ h0.size) (S_EMPTY : Sta Z h0 "com/example/stratifold/stratifold/RowKey" "EMPTY" "[B" (.ref w3)) :
    MetFree l (⟨"com/example/stratifold/stratifold/RowKey", "tokenStart", "(J)Lcom/example/stratifold/stratifold/RowKey;"⟩ : MethodName) (head1 (Jvm.Cond.code (⟨"com/example/stratifold/stratifold/RowKey", "tokenStart", "(J)Lcom/example/stratifold/stratifold/RowKey;"⟩ : MethodName) prog_38_method_7_code 2 (some (.object "com/example/stratifold/stratifold/RowKey")) :: ws) ({ frames := 2, cells := 1, slots := 3, locals := 40 } : Room)) (fun a U => a = #[(.long q1)] ∧ Z.Warmed39 U.vm ∧ U.heap = h0) (fun _ _ _ _ _ => True) (fun _ U o U' => ∃ v L, o = .returned v ∧ QT Z w3 h0 n0 v U'.heap L ∧ FrameEnd U o U' L ({ frames := 2, cells := 1, slots := 3, locals := 40 } : Room).cells ({ frames := 2, cells := 1, slots := 3, locals := 40 } : Room).slots) := by
  refine MetFree.of_bodySF (plainFor_of_name pn_6) hisR ?_
  intro p e s m args below meth c s₁ Bd hml0 hP hK
  obtain ⟨rfl, hZ, hh⟩ := hP
  have hx := Bd.exec
  have hby := Bd.bytes
  have hml : c.maxLocals = 2 := hml0
  have hown : s.vm.findClass "com/example/stratifold/stratifold/RowKey" = some m.cls := findClass_of_methodNamed Bd.named
  have hnm := (name_of_methodNamed Bd.named Bd.method).1
  have X0 : Stand p l e ({ frames := 2, cells := 1, slots := 3, locals := 40 } : Room) s m #[(.long q1)] below meth c s₁ [] 0 0 := Stand.of_body Bd
  have e0 : s₁.heap = h0 := by rw [← hh, Bd.state]; rfl
  have N0 := Fr.nil n0
  have pre0 : ∀ t, Steps p.tables e below (s₁.setTop (mkF m 0 #[.val (.long q1), .second] [])) t → Steps p.tables e below (s₁.setTop (entryFrame m #[(.long q1)] 2)) t := fun t k => castTop (ef_6 m q1) k
  obtain ⟨T2, h2, X2, e2, E2, A2, D2, -, st2⟩ := newO X0 hx hZ hown (hw _ (List.mem_of_getElem? (i := 32) rfl)) (hw _ (List.mem_of_getElem? (i := 3) rfl)) (hw _ (List.mem_of_getElem? (i := 4) rfl)) e0 (g := (mkF m 0 #[.val (.long q1), .second] [])) rfl (hb hby d6_0) (by decide) (by decide)
  obtain ⟨b2, g2⟩ : ∃ z, z = h0.size := ⟨_, rfl⟩
  rw [← g2] at A2 D2 st2
  have F_token_b2 : Fld Z h2 b2 "com/example/stratifold/stratifold/RowKey" "token" "J" (.long (0 : Int64)) := D2 (Or.inr (hw _ (List.mem_of_getElem? (i := 24) rfl))) (ty := .long) (by decide)
  have F_partition_b2 : Fld Z h2 b2 "com/example/stratifold/stratifold/RowKey" "partition" "[B" .null := D2 (Or.inr (hw _ (List.mem_of_getElem? (i := 26) rfl))) (ty := (.array .byte)) (by decide)
  have F_clustering_b2 : Fld Z h2 b2 "com/example/stratifold/stratifold/RowKey" "clustering" "[B" .null := D2 (Or.inr (hw _ (List.mem_of_getElem? (i := 28) rfl))) (ty := (.array .byte)) (by decide)
  have E_b2 := A2
  have g_b2 : n0 ≤ b2 := Nat.le_trans Z0 (Nat.le_of_eq g2.symm)
  have sz_b2 : h0.size ≤ b2 := (Nat.le_trans (Keep.refl h0 []).1 (Nat.le_of_eq g2.symm))
  have K2 : Keep h0 h2 [] := (Keep.refl h0 []).ext E2
  obtain ⟨T4, X4, e4, st4⟩ := getS2 X2 hx hZ hown (host := "") (Or.inl (hw _ (List.mem_of_getElem? (i := 33) rfl))) Via.refl e2 (own_stk K2 S_EMPTY) (g := (mkF m 5 #[.val (.long q1), .second] [(.long q1), (.ref b2), (.ref b2)])) rfl (hb hby d6_5)
  obtain ⟨T5, X5, e5, st5⟩ := getS2 X4 hx hZ hown (host := "") (Or.inl (hw _ (List.mem_of_getElem? (i := 33) rfl))) Via.refl e4 (own_stk K2 S_EMPTY) (g := (mkF m 8 #[.val (.long q1), .second] [(.ref w3), (.long q1), (.ref b2), (.ref b2)])) rfl (hb hby d6_8)
  obtain ⟨_, _, ⟨T6, L6, k6, n6⟩, -, X6, ⟨Lc6, hQ6, l6, y6, z6⟩, st6⟩ := X5.specialBack hx (y := (⟨"com/example/stratifold/stratifold/RowKey", "<init>", "(J[B[B)V"⟩ : MethodName)) rfl hown (mvT hZ (hw _ (List.mem_of_getElem? (i := 17) rfl))) (mvT hZ (hw _ (List.mem_of_getElem? (i := 18) rfl))) (mvT hZ (hw _ (List.mem_of_getElem? (i := 19) rfl))) (by decide) (backOf (W := 1) (rm4 l Z a0 hw [] b2 q1 w3 w3 (.long 0) .null .null h2 n0 (Nat.le_trans Z0 K2.1) E_b2 F_token_b2 g_b2 F_partition_b2 F_clustering_b2) hZ (hw _ (List.mem_of_getElem? (i := 19) rfl)) (hw _ (List.mem_of_getElem? (i := 4) rfl)) (by decide) (by decide)) (g := (mkF m 11 #[.val (.long q1), .second] [(.ref w3), (.ref w3), (.long q1), (.ref b2), (.ref b2)])) rfl (by rw [hml]; rfl) (Steps.refl _) (a := b2) (argsL := [(.long q1), (.ref w3), (.ref w3)]) (rest := [(.ref b2)]) (lenOf pd_6_3 rfl) rfl (by show 2 * 0 + _ ≤ _; exact Nat.le_of_eq rfl) (hb hby d6_11) (fun _ _ => ⟨rfl, e5, (Nat.le_of_ble_eq_true rfl), (Nat.le_of_ble_eq_true rfl)⟩)
  dsimp only [Pt.U, Pt.locs, Pt.cells, Pt.slots] at X6 l6 y6 z6 st6 hQ6
  subst l6 y6 z6
  obtain ⟨rfl, N6q, K6, Y6, -, Fp6, Fc6⟩ := hQ6
  have N6 := Fr.app N0 N6q
  obtain ⟨fs, hr, hrun, hended, hW, hsame⟩ := X6.leave (v := some (.ref b2)) (fun h => by rw [Bd.returns] at h; cases h)
  refine ⟨_, _, pre0 _ ?_, hrun, hended, _, _, rfl, ?_, ⟨_, rfl⟩, hW, hsame.mono (by decide) (by decide)⟩
  · show Steps p.tables e below (s₁.setTop (mkF m 0 #[.val (.long q1), .second] [])) _
    refine st2 _ ?_
    show Steps p.tables e below (T2.setTop (mkF m 3 #[.val (.long q1), .second] [(.ref b2)])) _
    refine XS.dup X2.here hx rfl (hb hby d6_3) rfl rfl ?_
    show Steps p.tables e below (T2.setTop (mkF m 4 #[.val (.long q1), .second] [(.ref b2), (.ref b2)])) _
    refine XS.lloadN X2.here hx rfl (hb hby d6_4) rfl ?_
    show Steps p.tables e below (T2.setTop (mkF m 5 #[.val (.long q1), .second] [(.long q1), (.ref b2), (.ref b2)])) _
    refine st4 _ ?_
    show Steps p.tables e below (T4.setTop (mkF m 8 #[.val (.long q1), .second] [(.ref w3), (.long q1), (.ref b2), (.ref b2)])) _
    refine st5 _ ?_
    show Steps p.tables e below (T5.setTop (mkF m 11 #[.val (.long q1), .second] [(.ref w3), (.ref w3), (.long q1), (.ref b2), (.ref b2)])) _
    refine st6.trans ?_
    show Steps p.tables e below (T6.setTop (mkF m 14 #[.val (.long q1), .second] [(.ref b2)])) _
    jvm_step X6.here [X6.here.top, hx, (hb hby d6_14), X6.method', Bd.returns, Value.isRef, FieldType.isReference]
    first | (intro acts; rw [hr _ acts rfl rfl rfl]) | rw [hr _ _ rfl rfl rfl]
    exact Steps.refl _
  · show QT Z w3 h0 n0 _ T6.heap _
    exact ⟨b2, rfl, N6, K2.trans K6 (allS (Or.inr sz_b2) all0), Y6, Fp6, Fc6⟩
theorem d8_0 : decode prog_38_method_9_code 0 = .ok (.aload_n 0, 1) := by decide +kernel
theorem d8_1 : decode prog_38_method_9_code 1 = .ok (.getfield 22, 3) := by decide +kernel
theorem d8_4 : decode prog_38_method_9_code 4 = .ok (.areturn, 1) := by decide +kernel
theorem pn_8 : plainName "com/example/stratifold/stratifold/RowKey" = true := by first | (simp [plainName, overriddenIn]; done) | decide +kernel
theorem ef_8 (m : MethodId) (x0 : Addr) : entryFrame m #[(.ref x0)] 1 = mkF m 0 #[.val (.ref x0)] [] := by first | (simp [entryFrame, mkF, argsToLocals, Value.category]; done) | rfl
def Q8 (Z : State) (a1 : Addr) (w2 : Addr) (h0 : Heap) (n0 : Nat) (v : Option Value) (h : Heap) (L : List Loc) : Prop := v = some (.ref w2) ∧ Fr n0 L ∧ h = h0
set_option maxRecDepth 65536 in
set_option maxHeartbeats 40000000 in
theorem rm8 (l : Launch) (Z : State) (a0 : Array Value) (hw : ∀ d ∈ tables_1, d.before a0 Z = true) (ws : List Jvm.Cond) (a1 : Addr) (w2 : Addr) (h0 : Heap) (n0 : Nat) (Z0 : n0 ≤ h0.size) (F_partition_a1 : Fld Z h0 a1 "com/example/stratifold/stratifold/RowKey" "partition" "[B" (.ref w2)) :
    MetFree l (⟨"com/example/stratifold/stratifold/RowKey", "partition", "()[B"⟩ : MethodName) (head1 (Jvm.Cond.code (⟨"com/example/stratifold/stratifold/RowKey", "partition", "()[B"⟩ : MethodName) prog_38_method_9_code 1 (some (.array .byte)) :: ws) ({ frames := 0, cells := 0, slots := 0, locals := 0 } : Room)) (fun a U => a = #[(.ref a1)] ∧ Z.Warmed39 U.vm ∧ U.heap = h0) (fun _ _ _ _ _ => True) (fun _ U o U' => ∃ v L, o = .returned v ∧ Q8 Z a1 w2 h0 n0 v U'.heap L ∧ FrameEnd U o U' L ({ frames := 0, cells := 0, slots := 0, locals := 0 } : Room).cells ({ frames := 0, cells := 0, slots := 0, locals := 0 } : Room).slots) := by
  refine MetFree.of_bodySF (plainFor_of_name pn_8) hisR ?_
  intro p e s m args below meth c s₁ Bd hml0 hP hK
  obtain ⟨rfl, hZ, hh⟩ := hP
  have hx := Bd.exec
  have hby := Bd.bytes
  have hml : c.maxLocals = 1 := hml0
  have hown : s.vm.findClass "com/example/stratifold/stratifold/RowKey" = some m.cls := findClass_of_methodNamed Bd.named
  have hnm := (name_of_methodNamed Bd.named Bd.method).1
  have X0 : Stand p l e ({ frames := 0, cells := 0, slots := 0, locals := 0 } : Room) s m #[(.ref a1)] below meth c s₁ [] 0 0 := Stand.of_body Bd
  have e0 : s₁.heap = h0 := by rw [← hh, Bd.state]; rfl
  have N0 := Fr.nil n0
  have pre0 : ∀ t, Steps p.tables e below (s₁.setTop (mkF m 0 #[.val (.ref a1)] [])) t → Steps p.tables e below (s₁.setTop (entryFrame m #[(.ref a1)] 1)) t := fun t k => castTop (ef_8 m a1) k
  obtain ⟨T3, X3, e3, st3⟩ := getF X0 hx hZ hown (host := "") (Or.inl (hw _ (List.mem_of_getElem? (i := 25) rfl))) Via.refl e0 F_partition_a1 (g := (mkF m 1 #[.val (.ref a1)] [(.ref a1)])) rfl rfl (hb hby d8_1)
  obtain ⟨fs, hr, hrun, hended, hW, hsame⟩ := X3.leave (v := some (.ref w2)) (fun h => by rw [Bd.returns] at h; cases h)
  refine ⟨_, _, pre0 _ ?_, hrun, hended, _, _, rfl, ?_, ⟨_, rfl⟩, hW, hsame.mono (by decide) (by decide)⟩
  · show Steps p.tables e below (s₁.setTop (mkF m 0 #[.val (.ref a1)] [])) _
    refine XS.aloadN X0.here hx rfl (hb hby d8_0) rfl rfl ?_
    show Steps p.tables e below (s₁.setTop (mkF m 1 #[.val (.ref a1)] [(.ref a1)])) _
    refine st3 _ ?_
    show Steps p.tables e below (T3.setTop (mkF m 4 #[.val (.ref a1)] [(.ref w2)])) _
    jvm_step X3.here [X3.here.top, hx, (hb hby d8_4), X3.method', Bd.returns, Value.isRef, FieldType.isReference]
    first | (intro acts; rw [hr _ acts rfl rfl rfl]) | rw [hr _ _ rfl rfl rfl]
    exact Steps.refl _
  · show Q8 Z a1 w2 h0 n0 _ T3.heap _
    rw [e3]
    exact ⟨rfl, N0, rfl⟩
theorem d9_0 : decode prog_38_method_10_code 0 = .ok (.aload_n 0, 1) := by decide +kernel
theorem d9_1 : decode prog_38_method_10_code 1 = .ok (.getfield 26, 3) := by decide +kernel
theorem d9_4 : decode prog_38_method_10_code 4 = .ok (.areturn, 1) := by decide +kernel
theorem pn_9 : plainName "com/example/stratifold/stratifold/RowKey" = true := by first | (simp [plainName, overriddenIn]; done) | decide +kernel
theorem ef_9 (m : MethodId) (x0 : Addr) : entryFrame m #[(.ref x0)] 1 = mkF m 0 #[.val (.ref x0)] [] := by first | (simp [entryFrame, mkF, argsToLocals, Value.category]; done) | rfl
def Q9 (Z : State) (a1 : Addr) (w2 : Addr) (h0 : Heap) (n0 : Nat) (v : Option Value) (h : Heap) (L : List Loc) : Prop := v = some (.ref w2) ∧ Fr n0 L ∧ h = h0
set_option maxRecDepth 65536 in
set_option maxHeartbeats 40000000 in
theorem rm9 (l : Launch) (Z : State) (a0 : Array Value) (hw : ∀ d ∈ tables_1, d.before a0 Z = true) (ws : List Jvm.Cond) (a1 : Addr) (w2 : Addr) (h0 : Heap) (n0 : Nat) (Z0 : n0 ≤ h0.size) (F_clustering_a1 : Fld Z h0 a1 "com/example/stratifold/stratifold/RowKey" "clustering" "[B" (.ref w2)) :
    MetFree l (⟨"com/example/stratifold/stratifold/RowKey", "clustering", "()[B"⟩ : MethodName) (head1 (Jvm.Cond.code (⟨"com/example/stratifold/stratifold/RowKey", "clustering", "()[B"⟩ : MethodName) prog_38_method_10_code 1 (some (.array .byte)) :: ws) ({ frames := 0, cells := 0, slots := 0, locals := 0 } : Room)) (fun a U => a = #[(.ref a1)] ∧ Z.Warmed39 U.vm ∧ U.heap = h0) (fun _ _ _ _ _ => True) (fun _ U o U' => ∃ v L, o = .returned v ∧ Q9 Z a1 w2 h0 n0 v U'.heap L ∧ FrameEnd U o U' L ({ frames := 0, cells := 0, slots := 0, locals := 0 } : Room).cells ({ frames := 0, cells := 0, slots := 0, locals := 0 } : Room).slots) := by
  refine MetFree.of_bodySF (plainFor_of_name pn_9) hisR ?_
  intro p e s m args below meth c s₁ Bd hml0 hP hK
  obtain ⟨rfl, hZ, hh⟩ := hP
  have hx := Bd.exec
  have hby := Bd.bytes
  have hml : c.maxLocals = 1 := hml0
  have hown : s.vm.findClass "com/example/stratifold/stratifold/RowKey" = some m.cls := findClass_of_methodNamed Bd.named
  have hnm := (name_of_methodNamed Bd.named Bd.method).1
  have X0 : Stand p l e ({ frames := 0, cells := 0, slots := 0, locals := 0 } : Room) s m #[(.ref a1)] below meth c s₁ [] 0 0 := Stand.of_body Bd
  have e0 : s₁.heap = h0 := by rw [← hh, Bd.state]; rfl
  have N0 := Fr.nil n0
  have pre0 : ∀ t, Steps p.tables e below (s₁.setTop (mkF m 0 #[.val (.ref a1)] [])) t → Steps p.tables e below (s₁.setTop (entryFrame m #[(.ref a1)] 1)) t := fun t k => castTop (ef_9 m a1) k
  obtain ⟨T3, X3, e3, st3⟩ := getF X0 hx hZ hown (host := "") (Or.inl (hw _ (List.mem_of_getElem? (i := 27) rfl))) Via.refl e0 F_clustering_a1 (g := (mkF m 1 #[.val (.ref a1)] [(.ref a1)])) rfl rfl (hb hby d9_1)
  obtain ⟨fs, hr, hrun, hended, hW, hsame⟩ := X3.leave (v := some (.ref w2)) (fun h => by rw [Bd.returns] at h; cases h)
  refine ⟨_, _, pre0 _ ?_, hrun, hended, _, _, rfl, ?_, ⟨_, rfl⟩, hW, hsame.mono (by decide) (by decide)⟩
  · show Steps p.tables e below (s₁.setTop (mkF m 0 #[.val (.ref a1)] [])) _
    refine XS.aloadN X0.here hx rfl (hb hby d9_0) rfl rfl ?_
    show Steps p.tables e below (s₁.setTop (mkF m 1 #[.val (.ref a1)] [(.ref a1)])) _
    refine st3 _ ?_
    show Steps p.tables e below (T3.setTop (mkF m 4 #[.val (.ref a1)] [(.ref w2)])) _
    jvm_step X3.here [X3.here.top, hx, (hb hby d9_4), X3.method', Bd.returns, Value.isRef, FieldType.isReference]
    first | (intro acts; rw [hr _ acts rfl rfl rfl]) | rw [hr _ _ rfl rfl rfl]
    exact Steps.refl _
  · show Q9 Z a1 w2 h0 n0 _ T3.heap _
    rw [e3]
    exact ⟨rfl, N0, rfl⟩
theorem d7_0 : decode prog_8_method_4_code 0 = .ok (.iconst 4, 1) := by decide +kernel
theorem d7_1 : decode prog_8_method_4_code 1 = .ok (.aload_n 0, 1) := by decide +kernel
theorem d7_2 : decode prog_8_method_4_code 2 = .ok (.invokevirtual 70, 3) := by decide +kernel
theorem d7_5 : decode prog_8_method_4_code 5 = .ok (.arraylength, 1) := by decide +kernel
theorem d7_6 : decode prog_8_method_4_code 6 = .ok (.iadd, 1) := by decide +kernel
theorem d7_7 : decode prog_8_method_4_code 7 = .ok (.aload_n 0, 1) := by decide +kernel
theorem d7_8 : decode prog_8_method_4_code 8 = .ok (.invokevirtual 73, 3) := by decide +kernel
theorem d7_11 : decode prog_8_method_4_code 11 = .ok (.arraylength, 1) := by decide +kernel
theorem d7_12 : decode prog_8_method_4_code 12 = .ok (.iadd, 1) := by decide +kernel
theorem d7_13 : decode prog_8_method_4_code 13 = .ok (.ireturn, 1) := by decide +kernel
theorem pn_7 : plainName "com/example/stratifold/stratifold/CellEncoding" = true := by first | (simp [plainName, overriddenIn]; done) | decide +kernel
theorem pd_7_7 : parseMethodDescriptor "()[B" = some ⟨[], some (.array .byte)⟩ := by decide +kernel
theorem ef_7 (m : MethodId) (x0 : Addr) : entryFrame m #[(.ref x0)] 1 = mkF m 0 #[.val (.ref x0)] [] := by first | (simp [entryFrame, mkF, argsToLocals, Value.category]; done) | rfl
def QB (zp zc : Int32) (h0 : Heap) (n0 : Nat) (v : Option Value) (h : Heap) (L : List Loc) : Prop := v = some (.int (((4 : Int32) + zp) + zc)) ∧ Fr n0 L ∧ h = h0
set_option maxRecDepth 65536 in
set_option maxHeartbeats 40000000 in
theorem rm7 (l : Launch) (Z : State) (a0 : Array Value) (hw : ∀ d ∈ tables_1, d.before a0 Z = true) (ws : List Jvm.Cond) (a1 : Addr) (ap ac : Addr) (clp clc : Cell) (zp zc : Int32) (h0 : Heap) (n0 : Nat) (Z0 : n0 ≤ h0.size) (E_a1 : Exa Z h0 a1 "com/example/stratifold/stratifold/RowKey") (F_p : Fld Z h0 a1 "com/example/stratifold/stratifold/RowKey" "partition" "[B" (.ref ap)) (F_c : Fld Z h0 a1 "com/example/stratifold/stratifold/RowKey" "clustering" "[B" (.ref ac)) (Ar_p : Arr Z h0 ap clp .byte) (S_p : clp.slots.size = zp.toNatClampNeg) (N_p : ¬ zp < 0) (Ar_c : Arr Z h0 ac clc .byte) (S_c : clc.slots.size = zc.toNatClampNeg) (N_c : ¬ zc < 0) :
    MetFree l (⟨"com/example/stratifold/stratifold/CellEncoding", "keyBytes", "(Lcom/example/stratifold/stratifold/RowKey;)I"⟩ : MethodName) (head1 (Jvm.Cond.code (⟨"com/example/stratifold/stratifold/CellEncoding", "keyBytes", "(Lcom/example/stratifold/stratifold/RowKey;)I"⟩ : MethodName) prog_8_method_4_code 1 (some .int) :: ws) ({ frames := 1, cells := 0, slots := 0, locals := 13 } : Room)) (fun a U => a = #[(.ref a1)] ∧ Z.Warmed39 U.vm ∧ U.heap = h0) (fun _ _ _ _ _ => True) (fun _ U o U' => ∃ v L, o = .returned v ∧ QB zp zc h0 n0 v U'.heap L ∧ FrameEnd U o U' L ({ frames := 1, cells := 0, slots := 0, locals := 13 } : Room).cells ({ frames := 1, cells := 0, slots := 0, locals := 13 } : Room).slots) := by
  refine MetFree.of_bodySF (plainFor_of_name pn_7) hisR ?_
  intro p e s m args below meth c s₁ Bd hml0 hP hK
  obtain ⟨rfl, hZ, hh⟩ := hP
  have hx := Bd.exec
  have hby := Bd.bytes
  have hml : c.maxLocals = 1 := hml0
  have hown : s.vm.findClass "com/example/stratifold/stratifold/CellEncoding" = some m.cls := findClass_of_methodNamed Bd.named
  have hnm := (name_of_methodNamed Bd.named Bd.method).1
  have X0 : Stand p l e ({ frames := 1, cells := 0, slots := 0, locals := 13 } : Room) s m #[(.ref a1)] below meth c s₁ [] 0 0 := Stand.of_body Bd
  have e0 : s₁.heap = h0 := by rw [← hh, Bd.state]; rfl
  have N0 := Fr.nil n0
  have pre0 : ∀ t, Steps p.tables e below (s₁.setTop (mkF m 0 #[.val (.ref a1)] [])) t → Steps p.tables e below (s₁.setTop (entryFrame m #[(.ref a1)] 1)) t := fun t k => castTop (ef_7 m a1) k
  obtain ⟨cq2, kq2, q2a, q2b, q2c⟩ := isOf hZ e0 E_a1
  obtain ⟨_, _, ⟨T2, L2, k2, n2⟩, -, X2, ⟨Lc2, hQ2, l2, y2, z2⟩, st2⟩ := X0.virtualBack hx (y := (⟨"com/example/stratifold/stratifold/RowKey", "partition", "()[B"⟩ : MethodName)) (z := (⟨"com/example/stratifold/stratifold/RowKey", "partition", "()[B"⟩ : MethodName)) hown (mvT hZ (hw _ (List.mem_of_getElem? (i := 39) rfl))) (mvT hZ (hw _ (List.mem_of_getElem? (i := 40) rfl))) (notFace_of_selects (args := #[]) (mvT hZ (hw _ (List.mem_of_getElem? (i := 42) rfl)))) (mvT hZ (hw _ (List.mem_of_getElem? (i := 42) rfl))) (mvT hZ (hw _ (List.mem_of_getElem? (i := 41) rfl))) (by decide) (backOf (W := 1) (rm8 l Z a0 hw [] a1 ap h0 n0 Z0 F_p) hZ (hw _ (List.mem_of_getElem? (i := 43) rfl)) (hw _ (List.mem_of_getElem? (i := 4) rfl)) (by decide) (by decide)) q2a q2c (g := (mkF m 2 #[.val (.ref a1)] [(.ref a1), (.int (4 : Int32))])) rfl (by rw [hml]; rfl) (Steps.refl _) (argsL := []) (rest := [(.int (4 : Int32))]) (lenOf pd_7_7 rfl) rfl (by show 2 * 0 + _ ≤ _; exact Nat.le_of_eq rfl) (hb hby d7_2) (fun _ _ => ⟨rfl, e0, (Nat.le_of_ble_eq_true rfl), (Nat.le_of_ble_eq_true rfl)⟩)
  dsimp only [Pt.U, Pt.locs, Pt.cells, Pt.slots] at X2 l2 y2 z2 st2 hQ2
  subst l2 y2 z2
  obtain ⟨rfl, N2q, hE2⟩ := hQ2
  have N2 := Fr.app N0 N2q
  obtain ⟨cq3, kq3, q3a, q3b, q3c⟩ := isOf hZ hE2 E_a1
  obtain ⟨_, _, ⟨T3, L3, k3, n3⟩, -, X3, ⟨Lc3, hQ3, l3, y3, z3⟩, st3⟩ := X2.virtualBack hx (y := (⟨"com/example/stratifold/stratifold/RowKey", "clustering", "()[B"⟩ : MethodName)) (z := (⟨"com/example/stratifold/stratifold/RowKey", "clustering", "()[B"⟩ : MethodName)) hown (mvT hZ (hw _ (List.mem_of_getElem? (i := 44) rfl))) (mvT hZ (hw _ (List.mem_of_getElem? (i := 45) rfl))) (notFace_of_selects (args := #[]) (mvT hZ (hw _ (List.mem_of_getElem? (i := 47) rfl)))) (mvT hZ (hw _ (List.mem_of_getElem? (i := 47) rfl))) (mvT hZ (hw _ (List.mem_of_getElem? (i := 46) rfl))) (by decide) (backOf (W := 1) (rm9 l Z a0 hw [] a1 ac h0 n0 Z0 F_c) hZ (hw _ (List.mem_of_getElem? (i := 48) rfl)) (hw _ (List.mem_of_getElem? (i := 4) rfl)) (by decide) (by decide)) q3a q3c (g := (mkF m 8 #[.val (.ref a1)] [(.ref a1), (.int ((4 : Int32) + zp))])) rfl (by rw [hml]; rfl) (Steps.refl _) (argsL := []) (rest := [(.int ((4 : Int32) + zp))]) (lenOf pd_7_7 rfl) rfl (by show 2 * 0 + _ ≤ _; exact Nat.le_of_eq rfl) (hb hby d7_8) (fun _ _ => ⟨rfl, hE2, (Nat.le_of_ble_eq_true rfl), (Nat.le_of_ble_eq_true rfl)⟩)
  dsimp only [Pt.U, Pt.locs, Pt.cells, Pt.slots] at X3 l3 y3 z3 st3 hQ3
  subst l3 y3 z3
  obtain ⟨rfl, N3q, hE3⟩ := hQ3
  have N3 := Fr.app N2 N3q
  obtain ⟨fs, hr, hrun, hended, hW, hsame⟩ := X3.leave (v := some (.int (((4 : Int32) + zp) + zc))) (fun h => by rw [Bd.returns] at h; cases h)
  refine ⟨_, _, pre0 _ ?_, hrun, hended, _, _, rfl, ?_, ⟨_, rfl⟩, hW, hsame.mono (by decide) (by decide)⟩
  · show Steps p.tables e below (s₁.setTop (mkF m 0 #[.val (.ref a1)] [])) _
    refine XS.iconst X0.here hx rfl (hb hby d7_0) ?_
    show Steps p.tables e below (s₁.setTop (mkF m 1 #[.val (.ref a1)] [(.int (4 : Int32))])) _
    refine XS.aloadN X0.here hx rfl (hb hby d7_1) rfl rfl ?_
    show Steps p.tables e below (s₁.setTop (mkF m 2 #[.val (.ref a1)] [(.ref a1), (.int (4 : Int32))])) _
    refine st2.trans ?_
    show Steps p.tables e below (T2.setTop (mkF m 5 #[.val (.ref a1)] [(.ref ap), (.int (4 : Int32))])) _
    refine X2.arraylength hx (by rw [hE2]; exact Ar_p.1) (State.isArrayOf_alike hZ.alike Ar_p.2.1) (g := (mkF m 5 #[.val (.ref a1)] [(.ref ap), (.int (4 : Int32))])) rfl rfl (hb hby d7_5) _ ?_
    rw [len_of S_p N_p]
    show Steps p.tables e below (T2.setTop (mkF m 6 #[.val (.ref a1)] [(.int zp), (.int (4 : Int32))])) _
    refine XS.iadd X2.here hx rfl (hb hby d7_6) rfl ?_
    show Steps p.tables e below (T2.setTop (mkF m 7 #[.val (.ref a1)] [(.int ((4 : Int32) + zp))])) _
    refine XS.aloadN X2.here hx rfl (hb hby d7_7) rfl rfl ?_
    show Steps p.tables e below (T2.setTop (mkF m 8 #[.val (.ref a1)] [(.ref a1), (.int ((4 : Int32) + zp))])) _
    refine st3.trans ?_
    show Steps p.tables e below (T3.setTop (mkF m 11 #[.val (.ref a1)] [(.ref ac), (.int ((4 : Int32) + zp))])) _
    refine X3.arraylength hx (by rw [hE3]; exact Ar_c.1) (State.isArrayOf_alike hZ.alike Ar_c.2.1) (g := (mkF m 11 #[.val (.ref a1)] [(.ref ac), (.int ((4 : Int32) + zp))])) rfl rfl (hb hby d7_11) _ ?_
    rw [len_of S_c N_c]
    show Steps p.tables e below (T3.setTop (mkF m 12 #[.val (.ref a1)] [(.int zc), (.int ((4 : Int32) + zp))])) _
    refine XS.iadd X3.here hx rfl (hb hby d7_12) rfl ?_
    show Steps p.tables e below (T3.setTop (mkF m 13 #[.val (.ref a1)] [(.int (((4 : Int32) + zp) + zc))])) _
    exact retI X3 hx Bd.returns (hb hby d7_13) hr
  · show QB zp zc h0 n0 _ T3.heap _
    exact ⟨rfl, N3, hE3⟩
theorem pn_0 : plainName "com/example/stratifold/stratifold/CellEncodingKeyBytesPinLaw" = true := by first | (simp [plainName, overriddenIn]; done) | decide +kernel
theorem pd_0_0 : parseMethodDescriptor "([B[B)V" = some ⟨[(.array .byte), (.array .byte)], none⟩ := by decide +kernel
theorem pd_0_5 : parseMethodDescriptor "(J)Lcom/example/stratifold/stratifold/RowKey;" = some ⟨[.long], some (.object "com/example/stratifold/stratifold/RowKey")⟩ := by decide +kernel
theorem pd_0_6 : parseMethodDescriptor "(Lcom/example/stratifold/stratifold/RowKey;)I" = some ⟨[(.object "com/example/stratifold/stratifold/RowKey")], some .int⟩ := by decide +kernel
theorem ef_0 (m : MethodId) (x0 : Int32) (x1 : Int32) (x2 : Int64) : entryFrame m #[(.int x0), (.int x1), (.long x2)] maxLocals = mkF m 0 #[.val (.int x0), .val (.int x1), .val (.long x2), .second, .unset, .unset, .unset, .unset, .unset, .unset, .unset, .unset, .unset, .unset] [] := by first | (simp [entryFrame, mkF, argsToLocals, Value.category, maxLocals]; done) | rfl
theorem own_m16 (x : Int32) : 0 ≤ (x &&& (65535 : Int32)).toInt ∧ (x &&& (65535 : Int32)).toInt ≤ 65535 := by
  have e1 : (x &&& (65535 : Int32)).toInt = x.toInt % 2 ^ 16 := Jvm.Kit.i32_mask x 65535 (k := 16) (by decide) (by decide)
  omega
theorem own_sum {u v : Int32} (hu : 0 ≤ u.toInt ∧ u.toInt ≤ 65535) (hv : 0 ≤ v.toInt ∧ v.toInt ≤ 65535) : ((4 : Int32) + u) + v = ((2 : Int32) + u) + ((2 : Int32) + v) := by
  have q2 : (2 : Int32).toInt = 2 := rfl
  have q4 : (4 : Int32).toInt = 4 := rfl
  have e1 : ((4 : Int32) + u).toInt = 4 + u.toInt := by rw [Jvm.Kit.i32_add (by rw [q4]; omega) (by rw [q4]; omega), q4]
  have e2 : ((2 : Int32) + u).toInt = 2 + u.toInt := by rw [Jvm.Kit.i32_add (by rw [q2]; omega) (by rw [q2]; omega), q2]
  have e3 : ((2 : Int32) + v).toInt = 2 + v.toInt := by rw [Jvm.Kit.i32_add (by rw [q2]; omega) (by rw [q2]; omega), q2]
  refine Int32.toInt_inj.mp ?_
  have e5 : (((4 : Int32) + u) + v).toInt = ((4 : Int32) + u).toInt + v.toInt := Jvm.Kit.i32_add (by rw [e1]; omega) (by rw [e1]; omega)
  have e6 : (((2 : Int32) + u) + ((2 : Int32) + v)).toInt = ((2 : Int32) + u).toInt + ((2 : Int32) + v).toInt := Jvm.Kit.i32_add (by rw [e2, e3]; omega) (by rw [e2, e3]; omega)
  rw [e5, e6, e1, e2, e3]
  omega
def Q0 (n0 : Nat) (v : Option Value) (L : List Loc) : Prop := v = some (.int (1 : Int32)) ∧ Fr n0 L
set_option maxRecDepth 65536 in
set_option maxHeartbeats 40000000 in
theorem rm0 (l : Launch) (Z : State) (a0 : Array Value) (hw : ∀ d ∈ tables_1, d.before a0 Z = true) (ws : List Jvm.Cond) (p1 : Int32) (p2 : Int32) (q3 : Int64) (h0 : Heap) (n0 : Nat) (Z0 : n0 ≤ h0.size) (wE : Addr) (clE : Cell) (S_EMPTY : Sta Z h0 "com/example/stratifold/stratifold/RowKey" "EMPTY" "[B" (.ref wE)) (Ar_E : Arr Z h0 wE clE .byte) (hszE : clE.slots.size = (0 : Int32).toNatClampNeg) :
    MetFree l x (head1 (Jvm.Cond.code x code maxLocals ret :: ws) room_1) (fun a U => a = #[(.int p1), (.int p2), (.long q3)] ∧ Z.Warmed39 U.vm ∧ U.heap = h0) (fun _ _ _ _ _ => True) (fun _ U o U' => ∃ v L, o = .returned v ∧ Q0 n0 v L ∧ FrameEnd U o U' L room_1.cells room_1.slots) := by
  refine MetFree.of_bodySF (plainFor_of_name pn_0) hisR ?_
  intro p e s m args below meth c s₁ Bd hml0 hP hK
  obtain ⟨rfl, hZ, hh⟩ := hP
  have hx := Bd.exec
  have hby := Bd.bytes
  have hml : c.maxLocals = 14 := hml0
  have hown : s.vm.findClass "com/example/stratifold/stratifold/CellEncodingKeyBytesPinLaw" = some m.cls := findClass_of_methodNamed Bd.named
  have hnm := (name_of_methodNamed Bd.named Bd.method).1
  have X0 : Stand p l e room_1 s m #[(.int p1), (.int p2), (.long q3)] below meth c s₁ [] 0 0 := Stand.of_body Bd
  have e0 : s₁.heap = h0 := by rw [← hh, Bd.state]; rfl
  have N0 := Fr.nil n0
  have pre0 : ∀ t, Steps p.tables e below (s₁.setTop (mkF m 0 #[.val (.int p1), .val (.int p2), .val (.long q3), .second, .unset, .unset, .unset, .unset, .unset, .unset, .unset, .unset, .unset, .unset] [])) t → Steps p.tables e below (s₁.setTop (entryFrame m #[(.int p1), (.int p2), (.long q3)] maxLocals)) t := fun t k => castTop (ef_0 m p1 p2 q3) k
  have mp := own_m16 p1
  have mc := own_m16 p2
  have q0 : (0 : Int32).toInt = 0 := rfl
  have hp0 : ¬ (p1 &&& (65535 : Int32)) < 0 := own_nlt (by omega)
  have hc0 : ¬ (p2 &&& (65535 : Int32)) < 0 := own_nlt (by omega)
  have hpc : (p1 &&& (65535 : Int32)).toNatClampNeg ≤ 65535 := by simp only [Int32.toNatClampNeg]; omega
  have hcc : (p2 &&& (65535 : Int32)).toNatClampNeg ≤ 65535 := by simp only [Int32.toNatClampNeg]; omega
  obtain ⟨T4, h4, k4, X4, e4, E4, A4, st4⟩ := newP X0 hx hZ (hw _ (List.mem_of_getElem? (i := 1) rfl)) e0 (g := (mkF m 14 #[.val (.int p1), .val (.int p2), .val (.long q3), .second, .val (.int (p1 &&& (65535 : Int32))), .val (.int (p2 &&& (65535 : Int32))), .unset, .unset, .unset, .unset, .unset, .unset, .unset, .unset] [(.int (p1 &&& (65535 : Int32)))])) rfl (hb hby at_14) rfl hp0 (cap := 65535) hpc (by decide) (by decide) (by decide)
  obtain ⟨b4, g4⟩ : ∃ z, z = h0.size := ⟨_, rfl⟩
  rw [← g4] at A4 st4
  have V_b4 : Arv Z h4 b4 k4 .byte (p1 &&& (65535 : Int32)) [] (.int (0 : Int32)) := Arv.new A4 hp0
  have g_b4 : n0 ≤ b4 := Nat.le_trans Z0 (Nat.le_of_eq g4.symm)
  have sz_b4 : h0.size ≤ b4 := (Nat.le_trans (Keep.refl h0 []).1 (Nat.le_of_eq g4.symm))
  have K4 : Keep h0 h4 [] := (Keep.refl h0 []).ext E4
  obtain ⟨T5, h5, k5, X5, e5, E5, A5, st5⟩ := newP X4 hx hZ (hw _ (List.mem_of_getElem? (i := 1) rfl)) e4 (g := (mkF m 20 #[.val (.int p1), .val (.int p2), .val (.long q3), .second, .val (.int (p1 &&& (65535 : Int32))), .val (.int (p2 &&& (65535 : Int32))), .val (.ref b4), .unset, .unset, .unset, .unset, .unset, .unset, .unset] [(.int (p2 &&& (65535 : Int32)))])) rfl (hb hby at_20) rfl hc0 (cap := 65535) hcc (by decide) (by decide) (by decide)
  obtain ⟨b5, g5⟩ : ∃ z, z = h4.size := ⟨_, rfl⟩
  rw [← g5] at A5 st5
  have V_b5 : Arv Z h5 b5 k5 .byte (p2 &&& (65535 : Int32)) [] (.int (0 : Int32)) := Arv.new A5 hc0
  have g_b5 : n0 ≤ b5 := Nat.le_trans (Nat.le_trans Z0 E4.1) (Nat.le_of_eq g5.symm)
  have sz_b5 : h0.size ≤ b5 := (Nat.le_trans K4.1 (Nat.le_of_eq g5.symm))
  have K5 : Keep h0 h5 [] := K4.ext E5
  obtain ⟨T6, h6, X6, e6, E6, A6, D6, -, st6⟩ := newO X5 hx hZ hown (hw _ (List.mem_of_getElem? (i := 2) rfl)) (hw _ (List.mem_of_getElem? (i := 3) rfl)) (hw _ (List.mem_of_getElem? (i := 4) rfl)) e5 (g := (mkF m 24 #[.val (.int p1), .val (.int p2), .val (.long q3), .second, .val (.int (p1 &&& (65535 : Int32))), .val (.int (p2 &&& (65535 : Int32))), .val (.ref b4), .val (.ref b5), .unset, .unset, .unset, .unset, .unset, .unset] [])) rfl (hb hby at_24) (by decide) (by decide)
  obtain ⟨b6, g6⟩ : ∃ z, z = h5.size := ⟨_, rfl⟩
  rw [← g6] at A6 D6 st6
  have F_token_b6 : Fld Z h6 b6 "com/example/stratifold/stratifold/RowKey" "token" "J" (.long (0 : Int64)) := D6 (Or.inr (hw _ (List.mem_of_getElem? (i := 24) rfl))) (ty := .long) (by decide)
  have F_partition_b6 : Fld Z h6 b6 "com/example/stratifold/stratifold/RowKey" "partition" "[B" .null := D6 (Or.inr (hw _ (List.mem_of_getElem? (i := 26) rfl))) (ty := (.array .byte)) (by decide)
  have F_clustering_b6 : Fld Z h6 b6 "com/example/stratifold/stratifold/RowKey" "clustering" "[B" .null := D6 (Or.inr (hw _ (List.mem_of_getElem? (i := 28) rfl))) (ty := (.array .byte)) (by decide)
  have E_b6 := A6
  have g_b6 : n0 ≤ b6 := Nat.le_trans (Nat.le_trans (Nat.le_trans Z0 E4.1) E5.1) (Nat.le_of_eq g6.symm)
  have sz_b6 : h0.size ≤ b6 := (Nat.le_trans K5.1 (Nat.le_of_eq g6.symm))
  have K6 : Keep h0 h6 [] := K5.ext E6
  obtain ⟨clp, hTp⟩ := own_tb ((V_b4.ext E5).ext E6)
  obtain ⟨clc, hTc⟩ := own_tb (V_b5.ext E6)
  have n46 : b4 ≠ b6 := Nat.ne_of_lt (Nat.lt_of_lt_of_le (V_b4.ext E5).lt (Nat.le_of_eq g6.symm))
  have n56 : b5 ≠ b6 := Nat.ne_of_lt (Nat.lt_of_lt_of_le V_b5.lt (Nat.le_of_eq g6.symm))
  obtain ⟨_, _, ⟨T7, L7, k7, n7⟩, -, X7, ⟨Lc7, hQ7, l7, y7, z7⟩, st7⟩ := X6.specialBack hx (y := (⟨"com/example/stratifold/stratifold/RowKey", "<init>", "([B[B)V"⟩ : MethodName)) rfl hown (mvT hZ (hw _ (List.mem_of_getElem? (i := 5) rfl))) (mvT hZ (hw _ (List.mem_of_getElem? (i := 6) rfl))) (mvT hZ (hw _ (List.mem_of_getElem? (i := 7) rfl))) (by decide) (backOf (W := 1) (rm1 l Z a0 hw [] b6 b4 b5 h6 n0 (Nat.le_trans Z0 K6.1) clp (p1 &&& (65535 : Int32)) hTp mp.2 E_b6 F_token_b6 F_partition_b6 F_clustering_b6 g_b6) hZ (hw _ (List.mem_of_getElem? (i := 7) rfl)) (hw _ (List.mem_of_getElem? (i := 4) rfl)) (by decide) (by decide)) (g := (mkF m 32 #[.val (.int p1), .val (.int p2), .val (.long q3), .second, .val (.int (p1 &&& (65535 : Int32))), .val (.int (p2 &&& (65535 : Int32))), .val (.ref b4), .val (.ref b5), .unset, .unset, .unset, .unset, .unset, .unset] [(.ref b5), (.ref b4), (.ref b6), (.ref b6)])) rfl (by rw [hml]; rfl) (Steps.refl _) (a := b6) (argsL := [(.ref b4), (.ref b5)]) (rest := [(.ref b6)]) (lenOf pd_0_0 rfl) rfl (by show 2 * 0 + _ ≤ _; exact Nat.le_of_eq rfl) (hb hby at_32) (fun _ _ => ⟨rfl, e6, (Nat.le_of_ble_eq_true rfl), (Nat.le_of_ble_eq_true rfl)⟩)
  dsimp only [Pt.U, Pt.locs, Pt.cells, Pt.slots] at X7 l7 y7 z7 st7 hQ7
  subst l7 y7 z7
  obtain ⟨rfl, N7q, Kc7, Y7, Fp7, Fc7⟩ := hQ7
  have K7 : Keep h0 T7.heap [] := K6.trans Kc7 (allS (Or.inr sz_b6) all0)
  have Ap7 := own_ark Kc7 (ninS n46 nin0) hTp.1
  have Ac7 := own_ark Kc7 (ninS n56 nin0) hTc.1
  have N7 := Fr.app N0 N7q
  obtain ⟨_, _, ⟨T8, L8, k8, n8⟩, -, X8, ⟨Lc8, hQ8, l8, y8, z8⟩, st8⟩ := Jvm.LawKit.callS X7 hx (y := (⟨"com/example/stratifold/stratifold/RowKey", "tokenStart", "(J)Lcom/example/stratifold/stratifold/RowKey;"⟩ : MethodName)) hown (mvT hZ (hw _ (List.mem_of_getElem? (i := 29) rfl))) (mvT hZ (hw _ (List.mem_of_getElem? (i := 30) rfl))) (mvT hZ (hw _ (List.mem_of_getElem? (i := 4) rfl))) (mvT hZ (hw _ (List.mem_of_getElem? (i := 31) rfl))) (by decide) (backOf (W := 0) (rm6 l Z a0 hw [] q3 wE T7.heap n0 (Nat.le_trans Z0 K7.1) (own_stk K7 S_EMPTY)) hZ (hw _ (List.mem_of_getElem? (i := 31) rfl)) (hw _ (List.mem_of_getElem? (i := 4) rfl)) (by decide) (by decide)) (g := (mkF m 38 #[.val (.int p1), .val (.int p2), .val (.long q3), .second, .val (.int (p1 &&& (65535 : Int32))), .val (.int (p2 &&& (65535 : Int32))), .val (.ref b4), .val (.ref b5), .val (.ref b6), .unset, .unset, .unset, .unset, .unset] [(.long q3)])) rfl (by rw [hml]; rfl) (argsL := [(.long q3)]) (rest := []) (lenOf pd_0_5 rfl) rfl (by show 2 * 0 + _ ≤ _; exact Nat.le_of_eq rfl) (hb hby at_38) (fun _ _ => ⟨rfl, rfl, (Nat.le_of_ble_eq_true rfl), (Nat.le_of_ble_eq_true rfl)⟩)
  dsimp only [Pt.U, Pt.locs, Pt.cells, Pt.slots] at X8 l8 y8 z8 st8 hQ8
  subst l8 y8 z8
  obtain ⟨b8, rfl, N8q, Kc8, Y8, Fp8, Fc8⟩ := hQ8
  have K8 : Keep h0 T8.heap [] := K7.trans Kc8 all0
  have Z8 : n0 ≤ T8.heap.size := Nat.le_trans Z0 K8.1
  have N8 := Fr.app N7 N8q
  obtain ⟨_, _, ⟨T9, L9, k9, n9⟩, -, X9, ⟨Lc9, hQ9, l9, y9, z9⟩, st9⟩ := Jvm.LawKit.callS X8 hx (y := (⟨"com/example/stratifold/stratifold/CellEncoding", "keyBytes", "(Lcom/example/stratifold/stratifold/RowKey;)I"⟩ : MethodName)) hown (mvT hZ (hw _ (List.mem_of_getElem? (i := 35) rfl))) (mvT hZ (hw _ (List.mem_of_getElem? (i := 36) rfl))) (mvT hZ (hw _ (List.mem_of_getElem? (i := 37) rfl))) (mvT hZ (hw _ (List.mem_of_getElem? (i := 38) rfl))) (by decide) (backOf (W := 0) (rm7 l Z a0 hw [] b6 b4 b5 clp clc (p1 &&& (65535 : Int32)) (p2 &&& (65535 : Int32)) T8.heap n0 Z8 (Y7.keep Kc8) (Fp7.keep Kc8 nin0) (Fc7.keep Kc8 nin0) (own_ark Kc8 nin0 Ap7) hTp.2.1 hTp.2.2.1 (own_ark Kc8 nin0 Ac7) hTc.2.1 hTc.2.2.1) hZ (hw _ (List.mem_of_getElem? (i := 38) rfl)) (hw _ (List.mem_of_getElem? (i := 37) rfl)) (by decide) (by decide)) (g := (mkF m 57 #[.val (.int p1), .val (.int p2), .val (.long q3), .second, .val (.int (p1 &&& (65535 : Int32))), .val (.int (p2 &&& (65535 : Int32))), .val (.ref b4), .val (.ref b5), .val (.ref b6), .val (.ref b8), .val (.int ((2 : Int32) + (p1 &&& (65535 : Int32)))), .val (.int ((2 : Int32) + (p2 &&& (65535 : Int32)))), .unset, .unset] [(.ref b6)])) rfl (by rw [hml]; rfl) (argsL := [(.ref b6)]) (rest := []) (lenOf pd_0_6 rfl) rfl (by show 2 * 0 + _ ≤ _; exact Nat.le_of_eq rfl) (hb hby at_57) (fun _ _ => ⟨rfl, rfl, (Nat.le_of_ble_eq_true rfl), (Nat.le_of_ble_eq_true rfl)⟩)
  dsimp only [Pt.U, Pt.locs, Pt.cells, Pt.slots] at X9 l9 y9 z9 st9 hQ9
  subst l9 y9 z9
  obtain ⟨rfl, N9q, hE9⟩ := hQ9
  have N9 := Fr.app N8 N9q
  obtain ⟨_, _, ⟨T10, L10, k10, n10⟩, -, X10, ⟨Lc10, hQ10, l10, y10, z10⟩, st10⟩ := Jvm.LawKit.callS X9 hx (y := (⟨"com/example/stratifold/stratifold/CellEncoding", "keyBytes", "(Lcom/example/stratifold/stratifold/RowKey;)I"⟩ : MethodName)) hown (mvT hZ (hw _ (List.mem_of_getElem? (i := 35) rfl))) (mvT hZ (hw _ (List.mem_of_getElem? (i := 36) rfl))) (mvT hZ (hw _ (List.mem_of_getElem? (i := 37) rfl))) (mvT hZ (hw _ (List.mem_of_getElem? (i := 38) rfl))) (by decide) (backOf (W := 0) (rm7 l Z a0 hw [] b8 wE wE clE clE (0 : Int32) (0 : Int32) T8.heap n0 Z8 Y8 Fp8 Fc8 (own_ark K8 nin0 Ar_E) hszE (by decide) (own_ark K8 nin0 Ar_E) hszE (by decide)) hZ (hw _ (List.mem_of_getElem? (i := 38) rfl)) (hw _ (List.mem_of_getElem? (i := 37) rfl)) (by decide) (by decide)) (g := (mkF m 77 #[.val (.int p1), .val (.int p2), .val (.long q3), .second, .val (.int (p1 &&& (65535 : Int32))), .val (.int (p2 &&& (65535 : Int32))), .val (.ref b4), .val (.ref b5), .val (.ref b6), .val (.ref b8), .val (.int ((2 : Int32) + (p1 &&& (65535 : Int32)))), .val (.int ((2 : Int32) + (p2 &&& (65535 : Int32)))), .val (.int (1 : Int32)), .unset] [(.ref b8)])) rfl (by rw [hml]; rfl) (argsL := [(.ref b8)]) (rest := []) (lenOf pd_0_6 rfl) rfl (by show 2 * 0 + _ ≤ _; exact Nat.le_of_eq rfl) (hb hby at_77) (fun _ _ => ⟨rfl, hE9, (Nat.le_of_ble_eq_true rfl), (Nat.le_of_ble_eq_true rfl)⟩)
  dsimp only [Pt.U, Pt.locs, Pt.cells, Pt.slots] at X10 l10 y10 z10 st10 hQ10
  subst l10 y10 z10
  obtain ⟨rfl, N10q, hE10⟩ := hQ10
  have N10 := Fr.app N9 N10q
  obtain ⟨fs, hr, hrun, hended, hW, hsame⟩ := X10.leave (v := some (.int (1 : Int32))) (fun h => by rw [Bd.returns] at h; cases h)
  refine ⟨_, _, pre0 _ ?_, hrun, hended, _, _, rfl, ?_, ⟨_, rfl⟩, hW, hsame.mono (by decide) (by decide)⟩
  · show Steps p.tables e below (s₁.setTop (mkF m 0 #[.val (.int p1), .val (.int p2), .val (.long q3), .second, .unset, .unset, .unset, .unset, .unset, .unset, .unset, .unset, .unset, .unset] [])) _
    refine XS.iloadN X0.here hx rfl (hb hby at_0) rfl ?_
    show Steps p.tables e below (s₁.setTop (mkF m 1 #[.val (.int p1), .val (.int p2), .val (.long q3), .second, .unset, .unset, .unset, .unset, .unset, .unset, .unset, .unset, .unset, .unset] [(.int p1)])) _
    refine X0.ldcInt hx hown (mvT hZ (hw _ (List.mem_of_getElem? (i := 0) rfl))) (g := (mkF m 1 #[.val (.int p1), .val (.int p2), .val (.long q3), .second, .unset, .unset, .unset, .unset, .unset, .unset, .unset, .unset, .unset, .unset] [(.int p1)])) rfl (hb hby at_1) _ ?_
    show Steps p.tables e below (s₁.setTop (mkF m 3 #[.val (.int p1), .val (.int p2), .val (.long q3), .second, .unset, .unset, .unset, .unset, .unset, .unset, .unset, .unset, .unset, .unset] [(.int (65535 : Int32)), (.int p1)])) _
    refine XS.iand X0.here hx rfl (hb hby at_3) rfl ?_
    show Steps p.tables e below (s₁.setTop (mkF m 4 #[.val (.int p1), .val (.int p2), .val (.long q3), .second, .unset, .unset, .unset, .unset, .unset, .unset, .unset, .unset, .unset, .unset] [(.int (p1 &&& (65535 : Int32)))])) _
    refine XS.istore X0.here hx rfl (hb hby at_4) rfl (l' := #[.val (.int p1), .val (.int p2), .val (.long q3), .second, .val (.int (p1 &&& (65535 : Int32))), .unset, .unset, .unset, .unset, .unset, .unset, .unset, .unset, .unset]) rfl ?_
    show Steps p.tables e below (s₁.setTop (mkF m 6 #[.val (.int p1), .val (.int p2), .val (.long q3), .second, .val (.int (p1 &&& (65535 : Int32))), .unset, .unset, .unset, .unset, .unset, .unset, .unset, .unset, .unset] [])) _
    refine XS.iloadN X0.here hx rfl (hb hby at_6) rfl ?_
    show Steps p.tables e below (s₁.setTop (mkF m 7 #[.val (.int p1), .val (.int p2), .val (.long q3), .second, .val (.int (p1 &&& (65535 : Int32))), .unset, .unset, .unset, .unset, .unset, .unset, .unset, .unset, .unset] [(.int p2)])) _
    refine X0.ldcInt hx hown (mvT hZ (hw _ (List.mem_of_getElem? (i := 0) rfl))) (g := (mkF m 7 #[.val (.int p1), .val (.int p2), .val (.long q3), .second, .val (.int (p1 &&& (65535 : Int32))), .unset, .unset, .unset, .unset, .unset, .unset, .unset, .unset, .unset] [(.int p2)])) rfl (hb hby at_7) _ ?_
    show Steps p.tables e below (s₁.setTop (mkF m 9 #[.val (.int p1), .val (.int p2), .val (.long q3), .second, .val (.int (p1 &&& (65535 : Int32))), .unset, .unset, .unset, .unset, .unset, .unset, .unset, .unset, .unset] [(.int (65535 : Int32)), (.int p2)])) _
    refine XS.iand X0.here hx rfl (hb hby at_9) rfl ?_
    show Steps p.tables e below (s₁.setTop (mkF m 10 #[.val (.int p1), .val (.int p2), .val (.long q3), .second, .val (.int (p1 &&& (65535 : Int32))), .unset, .unset, .unset, .unset, .unset, .unset, .unset, .unset, .unset] [(.int (p2 &&& (65535 : Int32)))])) _
    refine XS.istore X0.here hx rfl (hb hby at_10) rfl (l' := #[.val (.int p1), .val (.int p2), .val (.long q3), .second, .val (.int (p1 &&& (65535 : Int32))), .val (.int (p2 &&& (65535 : Int32))), .unset, .unset, .unset, .unset, .unset, .unset, .unset, .unset]) rfl ?_
    show Steps p.tables e below (s₁.setTop (mkF m 12 #[.val (.int p1), .val (.int p2), .val (.long q3), .second, .val (.int (p1 &&& (65535 : Int32))), .val (.int (p2 &&& (65535 : Int32))), .unset, .unset, .unset, .unset, .unset, .unset, .unset, .unset] [])) _
    refine XS.iload X0.here hx rfl (hb hby at_12) rfl ?_
    show Steps p.tables e below (s₁.setTop (mkF m 14 #[.val (.int p1), .val (.int p2), .val (.long q3), .second, .val (.int (p1 &&& (65535 : Int32))), .val (.int (p2 &&& (65535 : Int32))), .unset, .unset, .unset, .unset, .unset, .unset, .unset, .unset] [(.int (p1 &&& (65535 : Int32)))])) _
    refine st4 _ ?_
    show Steps p.tables e below (T4.setTop (mkF m 16 #[.val (.int p1), .val (.int p2), .val (.long q3), .second, .val (.int (p1 &&& (65535 : Int32))), .val (.int (p2 &&& (65535 : Int32))), .unset, .unset, .unset, .unset, .unset, .unset, .unset, .unset] [(.ref b4)])) _
    refine XS.astore X4.here hx rfl (hb hby at_16) rfl rfl (l' := #[.val (.int p1), .val (.int p2), .val (.long q3), .second, .val (.int (p1 &&& (65535 : Int32))), .val (.int (p2 &&& (65535 : Int32))), .val (.ref b4), .unset, .unset, .unset, .unset, .unset, .unset, .unset]) rfl ?_
    show Steps p.tables e below (T4.setTop (mkF m 18 #[.val (.int p1), .val (.int p2), .val (.long q3), .second, .val (.int (p1 &&& (65535 : Int32))), .val (.int (p2 &&& (65535 : Int32))), .val (.ref b4), .unset, .unset, .unset, .unset, .unset, .unset, .unset] [])) _
    refine XS.iload X4.here hx rfl (hb hby at_18) rfl ?_
    show Steps p.tables e below (T4.setTop (mkF m 20 #[.val (.int p1), .val (.int p2), .val (.long q3), .second, .val (.int (p1 &&& (65535 : Int32))), .val (.int (p2 &&& (65535 : Int32))), .val (.ref b4), .unset, .unset, .unset, .unset, .unset, .unset, .unset] [(.int (p2 &&& (65535 : Int32)))])) _
    refine st5 _ ?_
    show Steps p.tables e below (T5.setTop (mkF m 22 #[.val (.int p1), .val (.int p2), .val (.long q3), .second, .val (.int (p1 &&& (65535 : Int32))), .val (.int (p2 &&& (65535 : Int32))), .val (.ref b4), .unset, .unset, .unset, .unset, .unset, .unset, .unset] [(.ref b5)])) _
    refine XS.astore X5.here hx rfl (hb hby at_22) rfl rfl (l' := #[.val (.int p1), .val (.int p2), .val (.long q3), .second, .val (.int (p1 &&& (65535 : Int32))), .val (.int (p2 &&& (65535 : Int32))), .val (.ref b4), .val (.ref b5), .unset, .unset, .unset, .unset, .unset, .unset]) rfl ?_
    show Steps p.tables e below (T5.setTop (mkF m 24 #[.val (.int p1), .val (.int p2), .val (.long q3), .second, .val (.int (p1 &&& (65535 : Int32))), .val (.int (p2 &&& (65535 : Int32))), .val (.ref b4), .val (.ref b5), .unset, .unset, .unset, .unset, .unset, .unset] [])) _
    refine st6 _ ?_
    show Steps p.tables e below (T6.setTop (mkF m 27 #[.val (.int p1), .val (.int p2), .val (.long q3), .second, .val (.int (p1 &&& (65535 : Int32))), .val (.int (p2 &&& (65535 : Int32))), .val (.ref b4), .val (.ref b5), .unset, .unset, .unset, .unset, .unset, .unset] [(.ref b6)])) _
    refine XS.dup X6.here hx rfl (hb hby at_27) rfl rfl ?_
    show Steps p.tables e below (T6.setTop (mkF m 28 #[.val (.int p1), .val (.int p2), .val (.long q3), .second, .val (.int (p1 &&& (65535 : Int32))), .val (.int (p2 &&& (65535 : Int32))), .val (.ref b4), .val (.ref b5), .unset, .unset, .unset, .unset, .unset, .unset] [(.ref b6), (.ref b6)])) _
    refine XS.aload X6.here hx rfl (hb hby at_28) rfl rfl ?_
    show Steps p.tables e below (T6.setTop (mkF m 30 #[.val (.int p1), .val (.int p2), .val (.long q3), .second, .val (.int (p1 &&& (65535 : Int32))), .val (.int (p2 &&& (65535 : Int32))), .val (.ref b4), .val (.ref b5), .unset, .unset, .unset, .unset, .unset, .unset] [(.ref b4), (.ref b6), (.ref b6)])) _
    refine XS.aload X6.here hx rfl (hb hby at_30) rfl rfl ?_
    show Steps p.tables e below (T6.setTop (mkF m 32 #[.val (.int p1), .val (.int p2), .val (.long q3), .second, .val (.int (p1 &&& (65535 : Int32))), .val (.int (p2 &&& (65535 : Int32))), .val (.ref b4), .val (.ref b5), .unset, .unset, .unset, .unset, .unset, .unset] [(.ref b5), (.ref b4), (.ref b6), (.ref b6)])) _
    refine st7.trans ?_
    show Steps p.tables e below (T7.setTop (mkF m 35 #[.val (.int p1), .val (.int p2), .val (.long q3), .second, .val (.int (p1 &&& (65535 : Int32))), .val (.int (p2 &&& (65535 : Int32))), .val (.ref b4), .val (.ref b5), .unset, .unset, .unset, .unset, .unset, .unset] [(.ref b6)])) _
    refine XS.astore X7.here hx rfl (hb hby at_35) rfl rfl (l' := #[.val (.int p1), .val (.int p2), .val (.long q3), .second, .val (.int (p1 &&& (65535 : Int32))), .val (.int (p2 &&& (65535 : Int32))), .val (.ref b4), .val (.ref b5), .val (.ref b6), .unset, .unset, .unset, .unset, .unset]) rfl ?_
    show Steps p.tables e below (T7.setTop (mkF m 37 #[.val (.int p1), .val (.int p2), .val (.long q3), .second, .val (.int (p1 &&& (65535 : Int32))), .val (.int (p2 &&& (65535 : Int32))), .val (.ref b4), .val (.ref b5), .val (.ref b6), .unset, .unset, .unset, .unset, .unset] [])) _
    refine XS.lloadN X7.here hx rfl (hb hby at_37) rfl ?_
    show Steps p.tables e below (T7.setTop (mkF m 38 #[.val (.int p1), .val (.int p2), .val (.long q3), .second, .val (.int (p1 &&& (65535 : Int32))), .val (.int (p2 &&& (65535 : Int32))), .val (.ref b4), .val (.ref b5), .val (.ref b6), .unset, .unset, .unset, .unset, .unset] [(.long q3)])) _
    refine st8 _ ?_
    show Steps p.tables e below (T8.setTop (mkF m 41 #[.val (.int p1), .val (.int p2), .val (.long q3), .second, .val (.int (p1 &&& (65535 : Int32))), .val (.int (p2 &&& (65535 : Int32))), .val (.ref b4), .val (.ref b5), .val (.ref b6), .unset, .unset, .unset, .unset, .unset] [(.ref b8)])) _
    refine XS.astore X8.here hx rfl (hb hby at_41) rfl rfl (l' := #[.val (.int p1), .val (.int p2), .val (.long q3), .second, .val (.int (p1 &&& (65535 : Int32))), .val (.int (p2 &&& (65535 : Int32))), .val (.ref b4), .val (.ref b5), .val (.ref b6), .val (.ref b8), .unset, .unset, .unset, .unset]) rfl ?_
    show Steps p.tables e below (T8.setTop (mkF m 43 #[.val (.int p1), .val (.int p2), .val (.long q3), .second, .val (.int (p1 &&& (65535 : Int32))), .val (.int (p2 &&& (65535 : Int32))), .val (.ref b4), .val (.ref b5), .val (.ref b6), .val (.ref b8), .unset, .unset, .unset, .unset] [])) _
    refine XS.iconst X8.here hx rfl (hb hby at_43) ?_
    show Steps p.tables e below (T8.setTop (mkF m 44 #[.val (.int p1), .val (.int p2), .val (.long q3), .second, .val (.int (p1 &&& (65535 : Int32))), .val (.int (p2 &&& (65535 : Int32))), .val (.ref b4), .val (.ref b5), .val (.ref b6), .val (.ref b8), .unset, .unset, .unset, .unset] [(.int (2 : Int32))])) _
    refine XS.iload X8.here hx rfl (hb hby at_44) rfl ?_
    show Steps p.tables e below (T8.setTop (mkF m 46 #[.val (.int p1), .val (.int p2), .val (.long q3), .second, .val (.int (p1 &&& (65535 : Int32))), .val (.int (p2 &&& (65535 : Int32))), .val (.ref b4), .val (.ref b5), .val (.ref b6), .val (.ref b8), .unset, .unset, .unset, .unset] [(.int (p1 &&& (65535 : Int32))), (.int (2 : Int32))])) _
    refine XS.iadd X8.here hx rfl (hb hby at_46) rfl ?_
    show Steps p.tables e below (T8.setTop (mkF m 47 #[.val (.int p1), .val (.int p2), .val (.long q3), .second, .val (.int (p1 &&& (65535 : Int32))), .val (.int (p2 &&& (65535 : Int32))), .val (.ref b4), .val (.ref b5), .val (.ref b6), .val (.ref b8), .unset, .unset, .unset, .unset] [(.int ((2 : Int32) + (p1 &&& (65535 : Int32))))])) _
    refine XS.istore X8.here hx rfl (hb hby at_47) rfl (l' := #[.val (.int p1), .val (.int p2), .val (.long q3), .second, .val (.int (p1 &&& (65535 : Int32))), .val (.int (p2 &&& (65535 : Int32))), .val (.ref b4), .val (.ref b5), .val (.ref b6), .val (.ref b8), .val (.int ((2 : Int32) + (p1 &&& (65535 : Int32)))), .unset, .unset, .unset]) rfl ?_
    show Steps p.tables e below (T8.setTop (mkF m 49 #[.val (.int p1), .val (.int p2), .val (.long q3), .second, .val (.int (p1 &&& (65535 : Int32))), .val (.int (p2 &&& (65535 : Int32))), .val (.ref b4), .val (.ref b5), .val (.ref b6), .val (.ref b8), .val (.int ((2 : Int32) + (p1 &&& (65535 : Int32)))), .unset, .unset, .unset] [])) _
    refine XS.iconst X8.here hx rfl (hb hby at_49) ?_
    show Steps p.tables e below (T8.setTop (mkF m 50 #[.val (.int p1), .val (.int p2), .val (.long q3), .second, .val (.int (p1 &&& (65535 : Int32))), .val (.int (p2 &&& (65535 : Int32))), .val (.ref b4), .val (.ref b5), .val (.ref b6), .val (.ref b8), .val (.int ((2 : Int32) + (p1 &&& (65535 : Int32)))), .unset, .unset, .unset] [(.int (2 : Int32))])) _
    refine XS.iload X8.here hx rfl (hb hby at_50) rfl ?_
    show Steps p.tables e below (T8.setTop (mkF m 52 #[.val (.int p1), .val (.int p2), .val (.long q3), .second, .val (.int (p1 &&& (65535 : Int32))), .val (.int (p2 &&& (65535 : Int32))), .val (.ref b4), .val (.ref b5), .val (.ref b6), .val (.ref b8), .val (.int ((2 : Int32) + (p1 &&& (65535 : Int32)))), .unset, .unset, .unset] [(.int (p2 &&& (65535 : Int32))), (.int (2 : Int32))])) _
    refine XS.iadd X8.here hx rfl (hb hby at_52) rfl ?_
    show Steps p.tables e below (T8.setTop (mkF m 53 #[.val (.int p1), .val (.int p2), .val (.long q3), .second, .val (.int (p1 &&& (65535 : Int32))), .val (.int (p2 &&& (65535 : Int32))), .val (.ref b4), .val (.ref b5), .val (.ref b6), .val (.ref b8), .val (.int ((2 : Int32) + (p1 &&& (65535 : Int32)))), .unset, .unset, .unset] [(.int ((2 : Int32) + (p2 &&& (65535 : Int32))))])) _
    refine XS.istore X8.here hx rfl (hb hby at_53) rfl (l' := #[.val (.int p1), .val (.int p2), .val (.long q3), .second, .val (.int (p1 &&& (65535 : Int32))), .val (.int (p2 &&& (65535 : Int32))), .val (.ref b4), .val (.ref b5), .val (.ref b6), .val (.ref b8), .val (.int ((2 : Int32) + (p1 &&& (65535 : Int32)))), .val (.int ((2 : Int32) + (p2 &&& (65535 : Int32)))), .unset, .unset]) rfl ?_
    show Steps p.tables e below (T8.setTop (mkF m 55 #[.val (.int p1), .val (.int p2), .val (.long q3), .second, .val (.int (p1 &&& (65535 : Int32))), .val (.int (p2 &&& (65535 : Int32))), .val (.ref b4), .val (.ref b5), .val (.ref b6), .val (.ref b8), .val (.int ((2 : Int32) + (p1 &&& (65535 : Int32)))), .val (.int ((2 : Int32) + (p2 &&& (65535 : Int32)))), .unset, .unset] [])) _
    refine XS.aload X8.here hx rfl (hb hby at_55) rfl rfl ?_
    show Steps p.tables e below (T8.setTop (mkF m 57 #[.val (.int p1), .val (.int p2), .val (.long q3), .second, .val (.int (p1 &&& (65535 : Int32))), .val (.int (p2 &&& (65535 : Int32))), .val (.ref b4), .val (.ref b5), .val (.ref b6), .val (.ref b8), .val (.int ((2 : Int32) + (p1 &&& (65535 : Int32)))), .val (.int ((2 : Int32) + (p2 &&& (65535 : Int32)))), .unset, .unset] [(.ref b6)])) _
    refine st9 _ ?_
    show Steps p.tables e below (T9.setTop (mkF m 60 #[.val (.int p1), .val (.int p2), .val (.long q3), .second, .val (.int (p1 &&& (65535 : Int32))), .val (.int (p2 &&& (65535 : Int32))), .val (.ref b4), .val (.ref b5), .val (.ref b6), .val (.ref b8), .val (.int ((2 : Int32) + (p1 &&& (65535 : Int32)))), .val (.int ((2 : Int32) + (p2 &&& (65535 : Int32)))), .unset, .unset] [(.int (((4 : Int32) + (p1 &&& (65535 : Int32))) + (p2 &&& (65535 : Int32))))])) _
    refine XS.iload X9.here hx rfl (hb hby at_60) rfl ?_
    show Steps p.tables e below (T9.setTop (mkF m 62 #[.val (.int p1), .val (.int p2), .val (.long q3), .second, .val (.int (p1 &&& (65535 : Int32))), .val (.int (p2 &&& (65535 : Int32))), .val (.ref b4), .val (.ref b5), .val (.ref b6), .val (.ref b8), .val (.int ((2 : Int32) + (p1 &&& (65535 : Int32)))), .val (.int ((2 : Int32) + (p2 &&& (65535 : Int32)))), .unset, .unset] [(.int ((2 : Int32) + (p1 &&& (65535 : Int32)))), (.int (((4 : Int32) + (p1 &&& (65535 : Int32))) + (p2 &&& (65535 : Int32))))])) _
    refine XS.iload X9.here hx rfl (hb hby at_62) rfl ?_
    show Steps p.tables e below (T9.setTop (mkF m 64 #[.val (.int p1), .val (.int p2), .val (.long q3), .second, .val (.int (p1 &&& (65535 : Int32))), .val (.int (p2 &&& (65535 : Int32))), .val (.ref b4), .val (.ref b5), .val (.ref b6), .val (.ref b8), .val (.int ((2 : Int32) + (p1 &&& (65535 : Int32)))), .val (.int ((2 : Int32) + (p2 &&& (65535 : Int32)))), .unset, .unset] [(.int ((2 : Int32) + (p2 &&& (65535 : Int32)))), (.int ((2 : Int32) + (p1 &&& (65535 : Int32)))), (.int (((4 : Int32) + (p1 &&& (65535 : Int32))) + (p2 &&& (65535 : Int32))))])) _
    refine XS.iadd X9.here hx rfl (hb hby at_64) rfl ?_
    show Steps p.tables e below (T9.setTop (mkF m 65 #[.val (.int p1), .val (.int p2), .val (.long q3), .second, .val (.int (p1 &&& (65535 : Int32))), .val (.int (p2 &&& (65535 : Int32))), .val (.ref b4), .val (.ref b5), .val (.ref b6), .val (.ref b8), .val (.int ((2 : Int32) + (p1 &&& (65535 : Int32)))), .val (.int ((2 : Int32) + (p2 &&& (65535 : Int32)))), .unset, .unset] [(.int (((2 : Int32) + (p1 &&& (65535 : Int32))) + ((2 : Int32) + (p2 &&& (65535 : Int32))))), (.int (((4 : Int32) + (p1 &&& (65535 : Int32))) + (p2 &&& (65535 : Int32))))])) _
    refine XS.icmpNo X9.here hx rfl (hb hby at_65) rfl (teq (own_sum mp mc : (((4 : Int32) + (p1 &&& (65535 : Int32))) + (p2 &&& (65535 : Int32))) = (((2 : Int32) + (p1 &&& (65535 : Int32))) + ((2 : Int32) + (p2 &&& (65535 : Int32)))))).2 ?_
    show Steps p.tables e below (T9.setTop (mkF m 68 #[.val (.int p1), .val (.int p2), .val (.long q3), .second, .val (.int (p1 &&& (65535 : Int32))), .val (.int (p2 &&& (65535 : Int32))), .val (.ref b4), .val (.ref b5), .val (.ref b6), .val (.ref b8), .val (.int ((2 : Int32) + (p1 &&& (65535 : Int32)))), .val (.int ((2 : Int32) + (p2 &&& (65535 : Int32)))), .unset, .unset] [])) _
    refine XS.iconst X9.here hx rfl (hb hby at_68) ?_
    show Steps p.tables e below (T9.setTop (mkF m 69 #[.val (.int p1), .val (.int p2), .val (.long q3), .second, .val (.int (p1 &&& (65535 : Int32))), .val (.int (p2 &&& (65535 : Int32))), .val (.ref b4), .val (.ref b5), .val (.ref b6), .val (.ref b8), .val (.int ((2 : Int32) + (p1 &&& (65535 : Int32)))), .val (.int ((2 : Int32) + (p2 &&& (65535 : Int32)))), .unset, .unset] [(.int (1 : Int32))])) _
    refine XS.goto X9.here hx rfl (pc0 := 69) (pc' := 73) rfl (hb hby at_69) (by decide) (by decide) ?_
    show Steps p.tables e below (T9.setTop (mkF m 73 #[.val (.int p1), .val (.int p2), .val (.long q3), .second, .val (.int (p1 &&& (65535 : Int32))), .val (.int (p2 &&& (65535 : Int32))), .val (.ref b4), .val (.ref b5), .val (.ref b6), .val (.ref b8), .val (.int ((2 : Int32) + (p1 &&& (65535 : Int32)))), .val (.int ((2 : Int32) + (p2 &&& (65535 : Int32)))), .unset, .unset] [(.int (1 : Int32))])) _
    refine XS.istore X9.here hx rfl (hb hby at_73) rfl (l' := #[.val (.int p1), .val (.int p2), .val (.long q3), .second, .val (.int (p1 &&& (65535 : Int32))), .val (.int (p2 &&& (65535 : Int32))), .val (.ref b4), .val (.ref b5), .val (.ref b6), .val (.ref b8), .val (.int ((2 : Int32) + (p1 &&& (65535 : Int32)))), .val (.int ((2 : Int32) + (p2 &&& (65535 : Int32)))), .val (.int (1 : Int32)), .unset]) rfl ?_
    show Steps p.tables e below (T9.setTop (mkF m 75 #[.val (.int p1), .val (.int p2), .val (.long q3), .second, .val (.int (p1 &&& (65535 : Int32))), .val (.int (p2 &&& (65535 : Int32))), .val (.ref b4), .val (.ref b5), .val (.ref b6), .val (.ref b8), .val (.int ((2 : Int32) + (p1 &&& (65535 : Int32)))), .val (.int ((2 : Int32) + (p2 &&& (65535 : Int32)))), .val (.int (1 : Int32)), .unset] [])) _
    refine XS.aload X9.here hx rfl (hb hby at_75) rfl rfl ?_
    show Steps p.tables e below (T9.setTop (mkF m 77 #[.val (.int p1), .val (.int p2), .val (.long q3), .second, .val (.int (p1 &&& (65535 : Int32))), .val (.int (p2 &&& (65535 : Int32))), .val (.ref b4), .val (.ref b5), .val (.ref b6), .val (.ref b8), .val (.int ((2 : Int32) + (p1 &&& (65535 : Int32)))), .val (.int ((2 : Int32) + (p2 &&& (65535 : Int32)))), .val (.int (1 : Int32)), .unset] [(.ref b8)])) _
    refine st10 _ ?_
    show Steps p.tables e below (T10.setTop (mkF m 80 #[.val (.int p1), .val (.int p2), .val (.long q3), .second, .val (.int (p1 &&& (65535 : Int32))), .val (.int (p2 &&& (65535 : Int32))), .val (.ref b4), .val (.ref b5), .val (.ref b6), .val (.ref b8), .val (.int ((2 : Int32) + (p1 &&& (65535 : Int32)))), .val (.int ((2 : Int32) + (p2 &&& (65535 : Int32)))), .val (.int (1 : Int32)), .unset] [(.int (((4 : Int32) + (0 : Int32)) + (0 : Int32)))])) _
    refine XS.iconst X10.here hx rfl (hb hby at_80) ?_
    show Steps p.tables e below (T10.setTop (mkF m 81 #[.val (.int p1), .val (.int p2), .val (.long q3), .second, .val (.int (p1 &&& (65535 : Int32))), .val (.int (p2 &&& (65535 : Int32))), .val (.ref b4), .val (.ref b5), .val (.ref b6), .val (.ref b8), .val (.int ((2 : Int32) + (p1 &&& (65535 : Int32)))), .val (.int ((2 : Int32) + (p2 &&& (65535 : Int32)))), .val (.int (1 : Int32)), .unset] [(.int (4 : Int32)), (.int (((4 : Int32) + (0 : Int32)) + (0 : Int32)))])) _
    refine XS.icmpNo X10.here hx rfl (hb hby at_81) rfl (teq (by decide : (((4 : Int32) + (0 : Int32)) + (0 : Int32)) = (4 : Int32))).2 ?_
    show Steps p.tables e below (T10.setTop (mkF m 84 #[.val (.int p1), .val (.int p2), .val (.long q3), .second, .val (.int (p1 &&& (65535 : Int32))), .val (.int (p2 &&& (65535 : Int32))), .val (.ref b4), .val (.ref b5), .val (.ref b6), .val (.ref b8), .val (.int ((2 : Int32) + (p1 &&& (65535 : Int32)))), .val (.int ((2 : Int32) + (p2 &&& (65535 : Int32)))), .val (.int (1 : Int32)), .unset] [])) _
    refine XS.iconst X10.here hx rfl (hb hby at_84) ?_
    show Steps p.tables e below (T10.setTop (mkF m 85 #[.val (.int p1), .val (.int p2), .val (.long q3), .second, .val (.int (p1 &&& (65535 : Int32))), .val (.int (p2 &&& (65535 : Int32))), .val (.ref b4), .val (.ref b5), .val (.ref b6), .val (.ref b8), .val (.int ((2 : Int32) + (p1 &&& (65535 : Int32)))), .val (.int ((2 : Int32) + (p2 &&& (65535 : Int32)))), .val (.int (1 : Int32)), .unset] [(.int (1 : Int32))])) _
    refine XS.goto X10.here hx rfl (pc0 := 85) (pc' := 89) rfl (hb hby at_85) (by decide) (by decide) ?_
    show Steps p.tables e below (T10.setTop (mkF m 89 #[.val (.int p1), .val (.int p2), .val (.long q3), .second, .val (.int (p1 &&& (65535 : Int32))), .val (.int (p2 &&& (65535 : Int32))), .val (.ref b4), .val (.ref b5), .val (.ref b6), .val (.ref b8), .val (.int ((2 : Int32) + (p1 &&& (65535 : Int32)))), .val (.int ((2 : Int32) + (p2 &&& (65535 : Int32)))), .val (.int (1 : Int32)), .unset] [(.int (1 : Int32))])) _
    refine XS.istore X10.here hx rfl (hb hby at_89) rfl (l' := #[.val (.int p1), .val (.int p2), .val (.long q3), .second, .val (.int (p1 &&& (65535 : Int32))), .val (.int (p2 &&& (65535 : Int32))), .val (.ref b4), .val (.ref b5), .val (.ref b6), .val (.ref b8), .val (.int ((2 : Int32) + (p1 &&& (65535 : Int32)))), .val (.int ((2 : Int32) + (p2 &&& (65535 : Int32)))), .val (.int (1 : Int32)), .val (.int (1 : Int32))]) rfl ?_
    show Steps p.tables e below (T10.setTop (mkF m 91 #[.val (.int p1), .val (.int p2), .val (.long q3), .second, .val (.int (p1 &&& (65535 : Int32))), .val (.int (p2 &&& (65535 : Int32))), .val (.ref b4), .val (.ref b5), .val (.ref b6), .val (.ref b8), .val (.int ((2 : Int32) + (p1 &&& (65535 : Int32)))), .val (.int ((2 : Int32) + (p2 &&& (65535 : Int32)))), .val (.int (1 : Int32)), .val (.int (1 : Int32))] [])) _
    refine XS.iload X10.here hx rfl (hb hby at_91) rfl ?_
    show Steps p.tables e below (T10.setTop (mkF m 93 #[.val (.int p1), .val (.int p2), .val (.long q3), .second, .val (.int (p1 &&& (65535 : Int32))), .val (.int (p2 &&& (65535 : Int32))), .val (.ref b4), .val (.ref b5), .val (.ref b6), .val (.ref b8), .val (.int ((2 : Int32) + (p1 &&& (65535 : Int32)))), .val (.int ((2 : Int32) + (p2 &&& (65535 : Int32)))), .val (.int (1 : Int32)), .val (.int (1 : Int32))] [(.int (1 : Int32))])) _
    refine XS.ifNo X10.here hx rfl (hb hby at_93) rfl ((if0 _ _).trans (feq (by decide)).1) ?_
    show Steps p.tables e below (T10.setTop (mkF m 96 #[.val (.int p1), .val (.int p2), .val (.long q3), .second, .val (.int (p1 &&& (65535 : Int32))), .val (.int (p2 &&& (65535 : Int32))), .val (.ref b4), .val (.ref b5), .val (.ref b6), .val (.ref b8), .val (.int ((2 : Int32) + (p1 &&& (65535 : Int32)))), .val (.int ((2 : Int32) + (p2 &&& (65535 : Int32)))), .val (.int (1 : Int32)), .val (.int (1 : Int32))] [])) _
    refine XS.iload X10.here hx rfl (hb hby at_96) rfl ?_
    show Steps p.tables e below (T10.setTop (mkF m 98 #[.val (.int p1), .val (.int p2), .val (.long q3), .second, .val (.int (p1 &&& (65535 : Int32))), .val (.int (p2 &&& (65535 : Int32))), .val (.ref b4), .val (.ref b5), .val (.ref b6), .val (.ref b8), .val (.int ((2 : Int32) + (p1 &&& (65535 : Int32)))), .val (.int ((2 : Int32) + (p2 &&& (65535 : Int32)))), .val (.int (1 : Int32)), .val (.int (1 : Int32))] [(.int (1 : Int32))])) _
    refine XS.ifNo X10.here hx rfl (hb hby at_98) rfl ((if0 _ _).trans (feq (by decide)).1) ?_
    show Steps p.tables e below (T10.setTop (mkF m 101 #[.val (.int p1), .val (.int p2), .val (.long q3), .second, .val (.int (p1 &&& (65535 : Int32))), .val (.int (p2 &&& (65535 : Int32))), .val (.ref b4), .val (.ref b5), .val (.ref b6), .val (.ref b8), .val (.int ((2 : Int32) + (p1 &&& (65535 : Int32)))), .val (.int ((2 : Int32) + (p2 &&& (65535 : Int32)))), .val (.int (1 : Int32)), .val (.int (1 : Int32))] [])) _
    refine XS.iconst X10.here hx rfl (hb hby at_101) ?_
    show Steps p.tables e below (T10.setTop (mkF m 102 #[.val (.int p1), .val (.int p2), .val (.long q3), .second, .val (.int (p1 &&& (65535 : Int32))), .val (.int (p2 &&& (65535 : Int32))), .val (.ref b4), .val (.ref b5), .val (.ref b6), .val (.ref b8), .val (.int ((2 : Int32) + (p1 &&& (65535 : Int32)))), .val (.int ((2 : Int32) + (p2 &&& (65535 : Int32)))), .val (.int (1 : Int32)), .val (.int (1 : Int32))] [(.int (1 : Int32))])) _
    refine XS.goto X10.here hx rfl (pc0 := 102) (pc' := 106) rfl (hb hby at_102) (by decide) (by decide) ?_
    show Steps p.tables e below (T10.setTop (mkF m 106 #[.val (.int p1), .val (.int p2), .val (.long q3), .second, .val (.int (p1 &&& (65535 : Int32))), .val (.int (p2 &&& (65535 : Int32))), .val (.ref b4), .val (.ref b5), .val (.ref b6), .val (.ref b8), .val (.int ((2 : Int32) + (p1 &&& (65535 : Int32)))), .val (.int ((2 : Int32) + (p2 &&& (65535 : Int32)))), .val (.int (1 : Int32)), .val (.int (1 : Int32))] [(.int (1 : Int32))])) _
    exact retN X10 hx (t := .boolean) Bd.returns (by simp) (hb hby at_106) hr
  · show Q0 n0 _ _
    exact ⟨rfl, N10⟩
set_option maxRecDepth 65536 in
set_option maxHeartbeats 40000000 in
theorem comes_1 {Post : Tables → Env → Array Value → State → Outcome → State → Prop} (hpost : ∀ tb e args s v u, (limb_1_1.after args s (.returned v) u = true ∧ limb_1_2.after args s (.returned v) u = true ∧ True) → FrameEnd s (.returned v) u (Jvm.fieldLocs frame_1_writes args s ++ Jvm.arrayLocs frame_1_arrays args s ++ Jvm.staticLocs frame_1_statics s) 16 157312 → Post tb e args s (.returned v) u) :
    ArmFor flags0 classFile x code maxLocals ret World_1 tables_1 room_1 Calls_1 rest_1 Pre_1 Post := by
  intro l hfl _ _ p e ha hc hk s m args below hf hA hF happ hP
  obtain ⟨hcalls, hrest, hpre⟩ := hP
  obtain ⟨-, -, -, hnamed, -, -, -, hat⟩ := (Spec.applies_iff hf).mp happ
  obtain ⟨hg, hn⟩ := and_e (Cond.before_iff.mp (show (Jvm.Cond.and given_1 narrow_1).before args s = true from hpre))
  obtain ⟨g11, g12⟩ := and_e hg
  obtain ⟨g13, g14⟩ := and_e g12
  obtain ⟨g15, g16⟩ := and_e g14
  obtain ⟨w0, w1, w2, rfl⟩ : ∃ w0 w1 w2 : Value, args = #[w0, w1, w2] := by
    have hs : args.size = 3 := by simpa [Cond.value, given_1] using g11
    obtain ⟨L⟩ := args
    match L, hs with
    | [w0, w1, w2], _ => exact ⟨w0, w1, w2, rfl⟩
  have hw := fun d (hd : d ∈ tables_1) => atoms_spec (ws := Jvm.Cond.code x code maxLocals ret :: tables_1) hat d (List.mem_cons_of_mem _ hd)
  have hfit : Fit s := fun {y c} hc i hi => by
    obtain ⟨ha, rfl⟩ := Array.getElem?_eq_some_iff.mp hc
    have q := List.all_eq_true.mp ((Array.all_eq_true_iff_forall_mem.mp hF) _ (Array.getElem_mem ha)) i (List.mem_range.mpr hi)
    simpa [Array.getElem?_eq_getElem hi] using q
  obtain ⟨i0, ei0⟩ := is_v g13
  obtain rfl : w0 = (.int i0) := Option.some.inj ei0
  obtain ⟨i1, ei1⟩ := is_v g15
  obtain rfl : w1 = (.int i1) := Option.some.inj ei1
  obtain ⟨i2, ei2⟩ := isL_v g16
  obtain rfl : w2 = (.long i2) := Option.some.inj ei2
  obtain ⟨aE, lE⟩ := and_e hn
  obtain ⟨wE, vE⟩ := arr_v aE
  have S_EMPTY := Sta.start vE (Or.inr ⟨hw _ (List.mem_of_getElem? (i := 4) rfl), hw _ (List.mem_of_getElem? (i := 34) rfl)⟩)
  obtain ⟨clE, Ar_E⟩ := Arr.start vE aE
  have hszE : clE.slots.size = (0 : Int32).toNatClampNeg := own_len vE Ar_E (own_eqi lE)
  obtain ⟨n, o, h1, h2, h3, _, L, rfl, ⟨rfl, N⟩, hq⟩ := rm0 l s _ hw tables_1 i0 i1 i2 s.heap s.heap.size (Nat.le_refl _) wE clE S_EMPTY Ar_E hszE p e ha hc hk s m _ below hf ((Spec.applies_iff_loose hf).mp happ).1 ⟨rfl, State.Warmed39.refl s, rfl⟩ trivial
  refine ⟨n, _, h1, h2, h3, hpost _ _ _ _ _ _ ⟨Cond.after_iff.mpr rfl, Cond.after_iff.mpr (eq_i res_at (Term.int_eval (1)) rfl), trivial⟩ ⟨hq.1, hq.2.1, (hq.2.2.sift fun y hy => Or.inr (N y hy)).mono (by decide) (by decide)⟩⟩
theorem main_1_1 : Claimed_1_1 := comes_1 fun _ _ _ _ _ _ h hF => ⟨h.1, hF⟩
theorem main_1_2 : Claimed_1_2 := comes_1 fun _ _ _ _ _ _ h hF => ⟨h.2.1, hF⟩
end Jvm.Pilot.@@N@@
namespace Jvm.Pilot.@@N@@
open Jvm Jvm.ClassFile Sem Op Lib Jvm.Free Jvm.Stand Jvm.Pilot.@@N@@.Jvm.D
/-! MADE BY PROGRAM (witnessworld.py) out of the Statement's table words and the real class files: 17 classes; the members and pool entries that the words name. The judged class is class 1, her method 1. -/
namespace start1
open Jvm.ClassFile
def u (s : String) : CpInfo := .utf8 (stringToUtf16 s)
/-- a pool by its gaps: so many unusable entries, then the entry; so many at the end -/
def gap : Nat → List CpInfo → List CpInfo
  | 0, r => r
  | n + 1, r => .unusable :: gap n r
def poolList (es : List (Nat × CpInfo)) (last : Nat) : List CpInfo := es.foldr (fun e r => gap e.1 (e.2 :: r)) (gap last [])
def pool (es : List (Nat × CpInfo)) (last : Nat) : Array CpInfo := ⟨poolList es last⟩
def fileOf (pool : Array CpInfo) (this : Nat) (attrs : Array Attribute := #[]) (ms : Array MethodInfo := #[]) (fl : Nat := 33) (sup : Nat := 0) (ifs : Array Nat := #[]) (fds : Array FieldInfo := #[]) : ClassFile where
  minorVersion := 0
  majorVersion := 65
  constantPool := pool
  accessFlags := fl
  thisClass := this
  superClass := sup
  interfaces := ifs
  fields := fds
  methods := ms
  attributes := attrs
def plain (name : String) (sup : Option ClassId) : Class where
  name := name
  kind := .ordinary
  loader := none
  accessFlags := 33
  super := sup
  interfaces := #[]
  cf := none
  fields := #[]
  methods := #[]
  instanceTypes := #[]
  staticTypes := #[]
  resolved := #[]
  callSites := []
  init := .initialized
  statics := none
  mirror := none

def pool0 : Array CpInfo := pool [(5, u "<init>"), (0, u "()V"), (1, .class_ 10), (1, u "java/lang/Object")] 113

def k0c0 : Code := { maxStack := 0, maxLocals := 1, code := object_method_1_code, exceptionTable := #[], attributes := #[] }
def k0m0 : Method := { name := "<init>", desc := "()V", sig := { parameters := [], returnType := none }, accessFlags := 1, code := some k0c0 }
/-- java/lang/Object -/
def k0 : Class := { plain "java/lang/Object" none with
  accessFlags := 33
  interfaces := #[]
  cf := some (fileOf pool0 8 #[] #[{ accessFlags := 1, nameIndex := 5, descriptorIndex := 6, attributes := #[] }] 33 0 #[] #[])
  fields := #[]
  methods := #[k0m0]
  instanceTypes := #[]
  staticTypes := #[]
  resolved := Array.replicate 124 none
  statics := none }

def pool1 : Array CpInfo := pool [(2, .class_ 4), (1, u "java/lang/Object"), (0, u "<init>"), (0, u "()V"), (0, .integer 65535), (0, .class_ 9), (0, u "com/example/stratifold/stratifold/RowKey"), (0, .methodref 8 11), (0, .nameAndType 5 12), (0, u "([B[B)V"), (0, .methodref 8 14), (0, .nameAndType 15 16), (0, u "tokenStart"), (0, u "(J)Lcom/example/stratifold/stratifold/RowKey;"), (0, .methodref 18 19), (0, .class_ 20), (0, .nameAndType 21 22), (0, u "com/example/stratifold/stratifold/CellEncoding"), (0, u "keyBytes"), (0, u "(Lcom/example/stratifold/stratifold/RowKey;)I"), (0, .class_ 24), (0, u "com/example/stratifold/stratifold/CellEncodingKeyBytesPinLaw"), (2, u "law"), (0, u "(IIJ)Z")] 5

def k1m0 : Method := { name := "<init>", desc := "()V", sig := { parameters := [], returnType := none }, accessFlags := 2, code := none }
def k1c1 : Code := { maxStack := 4, maxLocals := 14, code := code, exceptionTable := #[], attributes := #[] }
def k1m1 : Method := { name := "law", desc := "(IIJ)Z", sig := { parameters := [.int, .int, .long], returnType := some .boolean }, accessFlags := 9, code := some k1c1 }
/-- com/example/stratifold/stratifold/CellEncodingKeyBytesPinLaw -/
def k1 : Class := { plain "com/example/stratifold/stratifold/CellEncodingKeyBytesPinLaw" (some 0) with
  accessFlags := 49
  interfaces := #[]
  cf := some (fileOf pool1 23 #[] #[{ accessFlags := 2, nameIndex := 5, descriptorIndex := 6, attributes := #[] }, { accessFlags := 9, nameIndex := 27, descriptorIndex := 28, attributes := #[] }] 49 2 #[] #[])
  fields := #[]
  methods := #[k1m0, k1m1]
  instanceTypes := #[]
  staticTypes := #[]
  resolved := Array.replicate 34 none
  statics := none }

def pool2 : Array CpInfo := pool [(1, .class_ 2), (0, u "java/lang/Comparable"), (0, .class_ 4), (0, u "java/lang/Object")] 7

/-- java/lang/Comparable -/
def k2 : Class := { plain "java/lang/Comparable" (some 0) with
  accessFlags := 1537
  interfaces := #[]
  cf := some (fileOf pool2 1 #[] #[] 1537 3 #[] #[])
  fields := #[]
  methods := #[]
  instanceTypes := #[]
  staticTypes := #[]
  resolved := Array.replicate 12 none
  statics := none }

def pool3 : Array CpInfo := pool [(1, .methodref 2 3), (0, .class_ 4), (0, .nameAndType 5 6), (0, u "com/example/stratifold/stratifold/Token"), (0, u "of"), (0, u "([B)J"), (0, .methodref 8 9), (0, .class_ 10), (0, .nameAndType 11 12), (0, u "com/example/stratifold/stratifold/RowKey"), (0, u "<init>"), (0, u "(J[B[B)V"), (0, .methodref 14 15), (0, .class_ 16), (0, .nameAndType 11 17), (0, u "java/lang/Object"), (0, u "()V"), (0, .fieldref 8 19), (0, .nameAndType 20 21), (0, u "token"), (0, u "J"), (0, .fieldref 8 23), (0, .nameAndType 24 25), (0, u "partition"), (0, u "[B"), (0, .fieldref 8 27), (0, .nameAndType 28 25), (0, u "clustering"), (18, .fieldref 8 48), (0, .nameAndType 49 25), (0, u "EMPTY"), (2, u "([B[B)V"), (24, .class_ 78), (0, u "java/lang/Comparable"), (0, u "MAX_KEY_BYTES"), (0, u "I"), (9, u "tokenStart"), (0, u "(J)Lcom/example/stratifold/stratifold/RowKey;"), (1, u "()[B")] 26

def k3c0 : Code := { maxStack := 5, maxLocals := 3, code := prog_38_method_1_code, exceptionTable := #[], attributes := #[] }
def k3m0 : Method := { name := "<init>", desc := "([B[B)V", sig := { parameters := [(.array .byte), (.array .byte)], returnType := none }, accessFlags := 0, code := some k3c0 }
def k3c1 : Code := { maxStack := 3, maxLocals := 5, code := prog_38_method_2_code, exceptionTable := #[], attributes := #[] }
def k3m1 : Method := { name := "<init>", desc := "(J[B[B)V", sig := { parameters := [.long, (.array .byte), (.array .byte)], returnType := none }, accessFlags := 2, code := some k3c1 }
def k3c2 : Code := { maxStack := 6, maxLocals := 2, code := prog_38_method_7_code, exceptionTable := #[], attributes := #[] }
def k3m2 : Method := { name := "tokenStart", desc := "(J)Lcom/example/stratifold/stratifold/RowKey;", sig := { parameters := [.long], returnType := some (.object "com/example/stratifold/stratifold/RowKey") }, accessFlags := 8, code := some k3c2 }
def k3c3 : Code := { maxStack := 1, maxLocals := 1, code := prog_38_method_9_code, exceptionTable := #[], attributes := #[] }
def k3m3 : Method := { name := "partition", desc := "()[B", sig := { parameters := [], returnType := some (.array .byte) }, accessFlags := 0, code := some k3c3 }
def k3c4 : Code := { maxStack := 1, maxLocals := 1, code := prog_38_method_10_code, exceptionTable := #[], attributes := #[] }
def k3m4 : Method := { name := "clustering", desc := "()[B", sig := { parameters := [], returnType := some (.array .byte) }, accessFlags := 0, code := some k3c4 }
/-- com/example/stratifold/stratifold/RowKey -/
def k3 : Class := { plain "com/example/stratifold/stratifold/RowKey" (some 0) with
  accessFlags := 48
  interfaces := #[2]
  cf := some (fileOf pool3 8 #[] #[{ accessFlags := 0, nameIndex := 11, descriptorIndex := 52, attributes := #[] }, { accessFlags := 2, nameIndex := 11, descriptorIndex := 12, attributes := #[] }, { accessFlags := 8, nameIndex := 90, descriptorIndex := 91, attributes := #[] }, { accessFlags := 0, nameIndex := 24, descriptorIndex := 93, attributes := #[] }, { accessFlags := 0, nameIndex := 28, descriptorIndex := 93, attributes := #[] }] 48 14 #[77] #[{ accessFlags := 24, nameIndex := 79, descriptorIndex := 80, attributes := #[] }, { accessFlags := 26, nameIndex := 49, descriptorIndex := 25, attributes := #[] }, { accessFlags := 18, nameIndex := 20, descriptorIndex := 21, attributes := #[] }, { accessFlags := 18, nameIndex := 24, descriptorIndex := 25, attributes := #[] }, { accessFlags := 18, nameIndex := 28, descriptorIndex := 25, attributes := #[] }])
  fields := #[{ name := "MAX_KEY_BYTES", type := .int, accessFlags := 24, slot := 0, constantValue := 0 }, { name := "EMPTY", type := (.array .byte), accessFlags := 26, slot := 1, constantValue := 0 }, { name := "token", type := .long, accessFlags := 18, slot := 0, constantValue := 0 }, { name := "partition", type := (.array .byte), accessFlags := 18, slot := 1, constantValue := 0 }, { name := "clustering", type := (.array .byte), accessFlags := 18, slot := 2, constantValue := 0 }]
  methods := #[k3m0, k3m1, k3m2, k3m3, k3m4]
  instanceTypes := #[.long, (.array .byte), (.array .byte)]
  staticTypes := #[.int, (.array .byte)]
  resolved := Array.replicate 120 none
  statics := some 0 }

def pool4 : Array CpInfo := pool [(2, .class_ 4), (1, u "java/lang/Object"), (0, u "<init>"), (0, u "()V"), (0, .methodref 8 9), (0, .class_ 10), (0, .nameAndType 11 12), (0, u "com/example/stratifold/stratifold/Token"), (0, u "littleEndian"), (0, u "([BII)J"), (0, .methodref 8 14), (0, .nameAndType 15 16), (0, u "mixK1"), (0, u "(J)J"), (0, .methodref 18 19), (0, .class_ 20), (0, .nameAndType 21 22), (0, u "java/lang/Long"), (0, u "rotateLeft"), (0, u "(JI)J"), (0, .long 5), (1, .long 1390208809), (1, .methodref 8 28), (0, .nameAndType 29 16), (0, u "mixK2"), (0, .long 944331445), (1, .methodref 33 34), (0, .class_ 35), (0, .nameAndType 36 37), (0, u "java/lang/Math"), (0, u "min"), (0, u "(II)I"), (0, .methodref 8 39), (0, .nameAndType 40 16), (0, u "finalMix"), (0, .long 9782798678568883157), (1, .long 5545529020109919103), (1, .long 18397679294719823053), (1, .long 14181476777654086739), (1, .long 255), (1, u "C1"), (0, u "J"), (1, u "C2"), (2, u "of"), (0, u "([B)J")] 5

def k4m0 : Method := { name := "<init>", desc := "()V", sig := { parameters := [], returnType := none }, accessFlags := 2, code := none }
def k4c1 : Code := { maxStack := 6, maxLocals := 8, code := prog_68_method_2_code, exceptionTable := #[], attributes := #[] }
def k4m1 : Method := { name := "of", desc := "([B)J", sig := { parameters := [(.array .byte)], returnType := some .long }, accessFlags := 8, code := some k4c1 }
def k4c2 : Code := { maxStack := 4, maxLocals := 2, code := prog_68_method_3_code, exceptionTable := #[], attributes := #[] }
def k4m2 : Method := { name := "mixK1", desc := "(J)J", sig := { parameters := [.long], returnType := some .long }, accessFlags := 10, code := some k4c2 }
def k4c3 : Code := { maxStack := 4, maxLocals := 2, code := prog_68_method_4_code, exceptionTable := #[], attributes := #[] }
def k4m3 : Method := { name := "mixK2", desc := "(J)J", sig := { parameters := [.long], returnType := some .long }, accessFlags := 10, code := some k4c3 }
def k4c4 : Code := { maxStack := 5, maxLocals := 2, code := prog_68_method_5_code, exceptionTable := #[], attributes := #[] }
def k4m4 : Method := { name := "finalMix", desc := "(J)J", sig := { parameters := [.long], returnType := some .long }, accessFlags := 10, code := some k4c4 }
def k4c5 : Code := { maxStack := 6, maxLocals := 6, code := prog_68_method_6_code, exceptionTable := #[], attributes := #[] }
def k4m5 : Method := { name := "littleEndian", desc := "([BII)J", sig := { parameters := [(.array .byte), .int, .int], returnType := some .long }, accessFlags := 10, code := some k4c5 }
/-- com/example/stratifold/stratifold/Token -/
def k4 : Class := { plain "com/example/stratifold/stratifold/Token" (some 0) with
  accessFlags := 48
  interfaces := #[]
  cf := some (fileOf pool4 8 #[] #[{ accessFlags := 2, nameIndex := 5, descriptorIndex := 6, attributes := #[] }, { accessFlags := 8, nameIndex := 57, descriptorIndex := 58, attributes := #[] }, { accessFlags := 10, nameIndex := 15, descriptorIndex := 16, attributes := #[] }, { accessFlags := 10, nameIndex := 29, descriptorIndex := 16, attributes := #[] }, { accessFlags := 10, nameIndex := 40, descriptorIndex := 16, attributes := #[] }, { accessFlags := 10, nameIndex := 11, descriptorIndex := 12, attributes := #[] }] 48 2 #[] #[{ accessFlags := 26, nameIndex := 51, descriptorIndex := 52, attributes := #[] }, { accessFlags := 26, nameIndex := 54, descriptorIndex := 52, attributes := #[] }])
  fields := #[{ name := "C1", type := .long, accessFlags := 26, slot := 0, constantValue := 0 }, { name := "C2", type := .long, accessFlags := 26, slot := 1, constantValue := 0 }]
  methods := #[k4m0, k4m1, k4m2, k4m3, k4m4, k4m5]
  instanceTypes := #[]
  staticTypes := #[.long, .long]
  resolved := Array.replicate 64 none
  statics := none }

def pool5 : Array CpInfo := pool [(7, .class_ 8), (0, u "com/example/stratifold/stratifold/RowKey"), (3, .class_ 14), (1, u "java/lang/Object"), (0, u "<init>"), (0, u "()V"), (5, .class_ 24), (1, u "com/example/stratifold/stratifold/CellEncoding"), (0, u "keyBytes"), (0, u "(Lcom/example/stratifold/stratifold/RowKey;)I"), (14, u "()[B"), (28, .methodref 7 71), (0, .nameAndType 72 41), (0, u "partition"), (0, .methodref 7 74), (0, .nameAndType 75 41), (0, u "clustering"), (26, .class_ 103), (0, u "com/example/stratifold/stratifold/CellEncoding$MalformedCellException"), (32, u "LEAST_BYTES"), (0, u "I"), (2, u "MOST_BYTES"), (0, u "J"), (2, u "KIND_WRITE"), (0, u "B"), (1, u "KIND_TOMBSTONE"), (1, u "KIND_EXPIRING")] 16

def k5m0 : Method := { name := "<init>", desc := "()V", sig := { parameters := [], returnType := none }, accessFlags := 2, code := none }
def k5c1 : Code := { maxStack := 2, maxLocals := 1, code := prog_8_method_4_code, exceptionTable := #[], attributes := #[] }
def k5m1 : Method := { name := "keyBytes", desc := "(Lcom/example/stratifold/stratifold/RowKey;)I", sig := { parameters := [(.object "com/example/stratifold/stratifold/RowKey")], returnType := some .int }, accessFlags := 8, code := some k5c1 }
/-- com/example/stratifold/stratifold/CellEncoding -/
def k5 : Class := { plain "com/example/stratifold/stratifold/CellEncoding" (some 0) with
  accessFlags := 48
  interfaces := #[]
  cf := some (fileOf pool5 22 #[.nestMembers #[102]] #[{ accessFlags := 2, nameIndex := 15, descriptorIndex := 16, attributes := #[] }, { accessFlags := 8, nameIndex := 25, descriptorIndex := 26, attributes := #[] }] 48 12 #[] #[{ accessFlags := 24, nameIndex := 136, descriptorIndex := 137, attributes := #[] }, { accessFlags := 24, nameIndex := 140, descriptorIndex := 141, attributes := #[] }, { accessFlags := 26, nameIndex := 144, descriptorIndex := 145, attributes := #[] }, { accessFlags := 26, nameIndex := 147, descriptorIndex := 145, attributes := #[] }, { accessFlags := 26, nameIndex := 149, descriptorIndex := 145, attributes := #[] }])
  fields := #[{ name := "LEAST_BYTES", type := .int, accessFlags := 24, slot := 0, constantValue := 0 }, { name := "MOST_BYTES", type := .long, accessFlags := 24, slot := 1, constantValue := 0 }, { name := "KIND_WRITE", type := .byte, accessFlags := 26, slot := 2, constantValue := 0 }, { name := "KIND_TOMBSTONE", type := .byte, accessFlags := 26, slot := 3, constantValue := 0 }, { name := "KIND_EXPIRING", type := .byte, accessFlags := 26, slot := 4, constantValue := 0 }]
  methods := #[k5m0, k5m1]
  instanceTypes := #[]
  staticTypes := #[.int, .long, .byte, .byte, .byte]
  resolved := Array.replicate 166 none
  statics := none }

def pool6 : Array CpInfo := pool [(1, .class_ 2), (0, u "java/io/Serializable"), (0, .class_ 4), (0, u "java/lang/Object")] 2

/-- java/io/Serializable -/
def k6 : Class := { plain "java/io/Serializable" (some 0) with
  accessFlags := 1537
  interfaces := #[]
  cf := some (fileOf pool6 1 #[] #[] 1537 3 #[] #[])
  fields := #[]
  methods := #[]
  instanceTypes := #[]
  staticTypes := #[]
  resolved := Array.replicate 7 none
  statics := none }

def pool7 : Array CpInfo := pool [(2, .class_ 4), (1, u "java/lang/Object"), (0, u "<init>"), (0, u "()V"), (1, .class_ 10), (1, u "java/lang/Number"), (2, .class_ 14), (0, u "java/io/Serializable"), (0, u "serialVersionUID"), (0, u "J")] 20

def k7m0 : Method := { name := "<init>", desc := "()V", sig := { parameters := [], returnType := none }, accessFlags := 1, code := none }
/-- java/lang/Number -/
def k7 : Class := { plain "java/lang/Number" (some 0) with
  accessFlags := 1057
  interfaces := #[6]
  cf := some (fileOf pool7 8 #[] #[{ accessFlags := 1, nameIndex := 5, descriptorIndex := 6, attributes := #[] }] 1057 2 #[13] #[{ accessFlags := 26, nameIndex := 15, descriptorIndex := 16, attributes := #[] }])
  fields := #[{ name := "serialVersionUID", type := .long, accessFlags := 26, slot := 0, constantValue := 0 }]
  methods := #[k7m0]
  instanceTypes := #[]
  staticTypes := #[.long]
  resolved := Array.replicate 37 none
  statics := none }

def pool8 : Array CpInfo := pool [(1, .class_ 2), (0, u "java/lang/constant/Constable"), (0, .class_ 4), (0, u "java/lang/Object")] 6

/-- java/lang/constant/Constable -/
def k8 : Class := { plain "java/lang/constant/Constable" (some 0) with
  accessFlags := 1537
  interfaces := #[]
  cf := some (fileOf pool8 1 #[] #[] 1537 3 #[] #[])
  fields := #[]
  methods := #[]
  instanceTypes := #[]
  staticTypes := #[]
  resolved := Array.replicate 11 none
  statics := none }

def pool9 : Array CpInfo := pool [(1, .class_ 2), (0, u "java/lang/constant/ConstantDesc"), (0, .class_ 4), (0, u "java/lang/Object")] 32

/-- java/lang/constant/ConstantDesc -/
def k9 : Class := { plain "java/lang/constant/ConstantDesc" (some 0) with
  accessFlags := 1537
  interfaces := #[]
  cf := some (fileOf pool9 1 #[] #[] 1537 3 #[] #[])
  fields := #[]
  methods := #[]
  instanceTypes := #[]
  staticTypes := #[]
  resolved := Array.replicate 37 none
  statics := none }

def pool10 : Array CpInfo := pool [(1, .class_ 2), (0, u "java/lang/Long"), (232, .class_ 237), (1, u "java/lang/Long$LongCache"), (33, .class_ 272), (0, u "java/lang/Number"), (2, u "value"), (0, u "J"), (84, u "TYPE"), (0, u "Ljava/lang/Class;"), (0, .class_ 364), (0, u "java/lang/Comparable"), (0, .class_ 366), (0, u "java/lang/constant/Constable"), (0, .class_ 368), (0, u "java/lang/constant/ConstantDesc"), (0, u "MIN_VALUE"), (1, u "MAX_VALUE"), (4, u "SIZE"), (0, u "I"), (1, u "BYTES"), (1, u "serialVersionUID"), (95, u "rotateLeft"), (0, u "(JI)J")] 45

def k10c0 : Code := { maxStack := 5, maxLocals := 3, code := jdk_35_method_51_code, exceptionTable := #[], attributes := #[] }
def k10m0 : Method := { name := "rotateLeft", desc := "(JI)J", sig := { parameters := [.long, .int], returnType := some .long }, accessFlags := 9, code := some k10c0 }
/-- java/lang/Long -/
def k10 : Class := { plain "java/lang/Long" (some 7) with
  accessFlags := 49
  interfaces := #[2, 8, 9]
  cf := some (fileOf pool10 1 #[.nestMembers #[235]] #[{ accessFlags := 9, nameIndex := 477, descriptorIndex := 478, attributes := #[] }] 49 271 #[363, 365, 367] #[{ accessFlags := 25, nameIndex := 369, descriptorIndex := 276, attributes := #[] }, { accessFlags := 25, nameIndex := 371, descriptorIndex := 276, attributes := #[] }, { accessFlags := 25, nameIndex := 361, descriptorIndex := 362, attributes := #[] }, { accessFlags := 18, nameIndex := 275, descriptorIndex := 276, attributes := #[] }, { accessFlags := 25, nameIndex := 376, descriptorIndex := 377, attributes := #[] }, { accessFlags := 25, nameIndex := 379, descriptorIndex := 377, attributes := #[] }, { accessFlags := 26, nameIndex := 381, descriptorIndex := 276, attributes := #[] }])
  fields := #[{ name := "MIN_VALUE", type := .long, accessFlags := 25, slot := 0, constantValue := 0 }, { name := "MAX_VALUE", type := .long, accessFlags := 25, slot := 1, constantValue := 0 }, { name := "TYPE", type := (.object "java/lang/Class"), accessFlags := 25, slot := 2, constantValue := 0 }, { name := "value", type := .long, accessFlags := 18, slot := 0, constantValue := 0 }, { name := "SIZE", type := .int, accessFlags := 25, slot := 3, constantValue := 0 }, { name := "BYTES", type := .int, accessFlags := 25, slot := 4, constantValue := 0 }, { name := "serialVersionUID", type := .long, accessFlags := 26, slot := 5, constantValue := 0 }]
  methods := #[k10m0]
  instanceTypes := #[.long]
  staticTypes := #[.long, .long, (.object "java/lang/Class"), .int, .int, .long]
  resolved := Array.replicate 524 none
  statics := none }

def pool11 : Array CpInfo := pool [(1, .class_ 2), (0, u "java/lang/Math"), (1, .class_ 6), (1, u "java/lang/Object"), (0, u "<init>"), (0, u "()V"), (89, .class_ 100), (1, u "java/lang/Math$RandomNumberGeneratorHolder"), (71, u "negativeZeroFloatBits"), (0, u "J"), (2, u "negativeZeroDoubleBits"), (24, u "min"), (43, u "$assertionsDisabled"), (0, u "Z"), (88, u "(II)I"), (2, u "twoToTheDoubleScaleDown"), (0, u "D"), (4, u "twoToTheDoubleScaleUp"), (9, u "E"), (3, u "PI"), (2, u "TAU"), (2, u "DEGREES_TO_RADIANS"), (0, u "RADIANS_TO_DEGREES")] 94

def k11m0 : Method := { name := "<init>", desc := "()V", sig := { parameters := [], returnType := none }, accessFlags := 2, code := none }
def k11c1 : Code := { maxStack := 2, maxLocals := 2, code := jdk_29_method_69_code, exceptionTable := #[], attributes := #[] }
def k11m1 : Method := { name := "min", desc := "(II)I", sig := { parameters := [.int, .int], returnType := some .int }, accessFlags := 9, code := some k11c1 }
/-- java/lang/Math -/
def k11 : Class := { plain "java/lang/Math" (some 0) with
  accessFlags := 49
  interfaces := #[]
  cf := some (fileOf pool11 1 #[.nestMembers #[98]] #[{ accessFlags := 2, nameIndex := 7, descriptorIndex := 8, attributes := #[] }, { accessFlags := 9, nameIndex := 201, descriptorIndex := 335, attributes := #[] }] 49 4 #[] #[{ accessFlags := 25, nameIndex := 354, descriptorIndex := 339, attributes := #[] }, { accessFlags := 25, nameIndex := 358, descriptorIndex := 339, attributes := #[] }, { accessFlags := 25, nameIndex := 361, descriptorIndex := 339, attributes := #[] }, { accessFlags := 26, nameIndex := 364, descriptorIndex := 339, attributes := #[] }, { accessFlags := 26, nameIndex := 365, descriptorIndex := 339, attributes := #[] }, { accessFlags := 26, nameIndex := 172, descriptorIndex := 173, attributes := #[] }, { accessFlags := 26, nameIndex := 176, descriptorIndex := 173, attributes := #[] }, { accessFlags := 8, nameIndex := 344, descriptorIndex := 339, attributes := #[] }, { accessFlags := 8, nameIndex := 338, descriptorIndex := 339, attributes := #[] }, { accessFlags := 4120, nameIndex := 245, descriptorIndex := 246, attributes := #[] }])
  fields := #[{ name := "E", type := .double, accessFlags := 25, slot := 0, constantValue := 0 }, { name := "PI", type := .double, accessFlags := 25, slot := 1, constantValue := 0 }, { name := "TAU", type := .double, accessFlags := 25, slot := 2, constantValue := 0 }, { name := "DEGREES_TO_RADIANS", type := .double, accessFlags := 26, slot := 3, constantValue := 0 }, { name := "RADIANS_TO_DEGREES", type := .double, accessFlags := 26, slot := 4, constantValue := 0 }, { name := "negativeZeroFloatBits", type := .long, accessFlags := 26, slot := 5, constantValue := 0 }, { name := "negativeZeroDoubleBits", type := .long, accessFlags := 26, slot := 6, constantValue := 0 }, { name := "twoToTheDoubleScaleUp", type := .double, accessFlags := 8, slot := 7, constantValue := 0 }, { name := "twoToTheDoubleScaleDown", type := .double, accessFlags := 8, slot := 8, constantValue := 0 }, { name := "$assertionsDisabled", type := .boolean, accessFlags := 4120, slot := 9, constantValue := 0 }]
  methods := #[k11m0, k11m1]
  instanceTypes := #[]
  staticTypes := #[.double, .double, .double, .double, .double, .long, .long, .double, .double, .boolean]
  resolved := Array.replicate 460 none
  statics := none }

def pool12 : Array CpInfo := pool [(1, u "java/lang/Cloneable"), (0, .class_ 1), (0, u "java/lang/Object"), (0, .class_ 3)] 3

/-- java/lang/Cloneable -/
def k12 : Class := { plain "java/lang/Cloneable" (some 0) with
  accessFlags := 1537
  interfaces := #[]
  cf := some (fileOf pool12 2 #[] #[] 1537 4 #[] #[])
  fields := #[]
  methods := #[]
  instanceTypes := #[]
  staticTypes := #[]
  resolved := Array.replicate 8 none
  statics := none }

/-- the primitive byte -/
def k13 : Class := { plain "byte" none with kind := .primitive 'B', accessFlags := 0x411 }
/-- [B -/
def k14 : Class := { plain "[B" (some 0) with kind := .array 13 .byte, interfaces := #[12, 6], accessFlags := 1041 }

/-- the primitive int -/
def k15 : Class := { plain "int" none with kind := .primitive 'I', accessFlags := 0x411 }
/-- [I -/
def k16 : Class := { plain "[I" (some 0) with kind := .array 15 .int, interfaces := #[12, 6], accessFlags := 1041 }

def heap : Heap := #[{ cls := 3, slots := #[.int 0, .ref 1], vm := .statics 3 },
  { cls := 14, slots := #[], vm := .none }]
def classes : Array Class := #[k0, k1, k2, k3, k4, k5, k6, k7, k8, k9, k10, k11, k12, k13, k14, k15, k16]
def interned : List (Array UInt16 × Addr) := []
def slotsUsed : Nat := 2
def theMethod : MethodId := ⟨1, 1⟩
def args0 : Array Value := #[.int 20, .int 3, .long 5]
def aboutOver (below : List Frame) : State where
  vm := { classes := classes, interned := interned.toArray }
  heap := heap
  slotsUsed := slotsUsed
  threads := #[{ frames := .invoking theMethod args0 :: below }]
def below0 : List Frame := [.native { method := ⟨0, 0⟩, args := #[] }]
def about1 : State := aboutOver below0
def p0 : Program := .bare "" "" ""
def e0 : Env := launch0.env 0 0 0
theorem w_frames : about1.frames = Frame.invoking theMethod args0 :: below0 := rfl
set_option maxRecDepth 65536 in
theorem w_args : argsFit about1.vm theMethod args0 = true := by decide +kernel
set_option maxRecDepth 65536 in
theorem w_heap : heapFits about1 = true := by decide +kernel
set_option maxRecDepth 65536 in
theorem w_runnable : about1.curStatus? = some .runnable := by decide +kernel
set_option maxRecDepth 65536 in
theorem w_alone : about1.alone = true := by decide +kernel
set_option maxRecDepth 65536 in
theorem w_named : about1.methodNamed? x = some theMethod := by decide +kernel
set_option maxRecDepth 65536 in
theorem w_hears : about1.hears theMethod below0 = true := by decide +kernel
set_option maxRecDepth 65536 in
theorem w_ripe : about1.ripe theMethod args0 below0 = true := by decide +kernel
theorem w_running : about1.status = .running := rfl
set_option maxRecDepth 65536 in
theorem w_room : about1.hasRoom e0.platform room_1 = true :=
  launch0.hasRoom_least _ room_1 (by decide +kernel) (by decide +kernel) (by decide +kernel) (by decide +kernel) (by decide +kernel) (by decide +kernel)
theorem allAtoms_all (ts : List Jvm.Cond) (a : Array Jvm.Value) (st : Jvm.State) : (allAtoms ts).before a st = ts.all (fun c => c.before a st) := by
  induction ts with
  | nil => rfl
  | cons c t ih =>
    show (Jvm.Cond.and c (allAtoms t)).before a st = _
    rw [Jvm.Cond.before_and, ih, List.all_cons]
def words1 : List Jvm.Cond := Jvm.Cond.code x code maxLocals ret :: tables_1
/-- a 'code' word, met by the world's own term for the bytes: nothing is compared byte by byte -/
theorem code_word {y : MethodName} {bytes : ByteArray} {mx : Nat} {rt : Option FieldType} {a : Array Value} {s : State} {m : MethodId} {meth : Method} {c : Code} (h1 : s.methodNamed? y = some m) (h2 : s.vm.method? m = some meth) (h3 : meth.code = some c) (h4 : c.code = bytes)
    (h5 : (c.maxLocals == mx && c.exceptionTable.isEmpty && decide (c.maxStack ≤ mostOperands) && decide (meth.sig.returnType = rt) && !meth.locks && decide (parseMethodDescriptor y.desc = some meth.sig)) = true) : (Jvm.Cond.code y bytes mx rt).before a s = true := by
  simp only [Bool.and_eq_true, beq_iff_eq, Bool.not_eq_true', decide_eq_true_eq] at h5
  obtain ⟨⟨⟨⟨⟨g1, g2⟩, g3⟩, g4⟩, g5⟩, g6⟩ := h5
  simp [Cond.before, Cond.holds, Cond.value, h1, h2, h3, h4, g1, g2, g3, g4, g5, g6]
def isCode : Jvm.Cond → Bool
  | .code _ _ _ _ => true
  | _ => false
theorem all_split {L : List Jvm.Cond} {P : Jvm.Cond → Bool} (h1 : L.all (fun c => isCode c || P c) = true) (h2 : ∀ c ∈ L.filter isCode, P c = true) : L.all P = true := by
  refine List.all_eq_true.mpr fun c hc => ?_
  have h := List.all_eq_true.mp h1 c hc
  rcases Bool.eq_false_or_eq_true (isCode c) with hi | hi
  · exact h2 c (List.mem_filter.mpr ⟨hc, hi⟩)
  · simpa [hi] using h
set_option maxRecDepth 65536 in
theorem w_c0 : (Jvm.Cond.code x code maxLocals ret).before args0 about1 = true := code_word (m := ⟨1, 1⟩) (meth := k1m1) (c := k1c1) (by decide +kernel) rfl rfl rfl (by decide +kernel)
set_option maxRecDepth 65536 in
theorem w_c1 : (Jvm.Cond.code ({ cls := "com/example/stratifold/stratifold/RowKey", name := "<init>", desc := "([B[B)V" } : Jvm.MethodName) prog_38_method_1_code (3 : Nat) (Option.none : Option Jvm.ClassFile.FieldType)).before args0 about1 = true := code_word (m := ⟨3, 0⟩) (meth := k3m0) (c := k3c0) (by decide +kernel) rfl rfl rfl (by decide +kernel)
set_option maxRecDepth 65536 in
theorem w_c2 : (Jvm.Cond.code ({ cls := "com/example/stratifold/stratifold/Token", name := "of", desc := "([B)J" } : Jvm.MethodName) prog_68_method_2_code (8 : Nat) (Option.some Jvm.ClassFile.FieldType.long)).before args0 about1 = true := code_word (m := ⟨4, 1⟩) (meth := k4m1) (c := k4c1) (by decide +kernel) rfl rfl rfl (by decide +kernel)
set_option maxRecDepth 65536 in
theorem w_c3 : (Jvm.Cond.code ({ cls := "com/example/stratifold/stratifold/Token", name := "finalMix", desc := "(J)J" } : Jvm.MethodName) prog_68_method_5_code (2 : Nat) (Option.some Jvm.ClassFile.FieldType.long)).before args0 about1 = true := code_word (m := ⟨4, 4⟩) (meth := k4m4) (c := k4c4) (by decide +kernel) rfl rfl rfl (by decide +kernel)
set_option maxRecDepth 65536 in
theorem w_c4 : (Jvm.Cond.code ({ cls := "com/example/stratifold/stratifold/RowKey", name := "<init>", desc := "(J[B[B)V" } : Jvm.MethodName) prog_38_method_2_code (5 : Nat) (Option.none : Option Jvm.ClassFile.FieldType)).before args0 about1 = true := code_word (m := ⟨3, 1⟩) (meth := k3m1) (c := k3c1) (by decide +kernel) rfl rfl rfl (by decide +kernel)
set_option maxRecDepth 65536 in
theorem w_c5 : (Jvm.Cond.code ({ cls := "java/lang/Object", name := "<init>", desc := "()V" } : Jvm.MethodName) object_method_1_code (1 : Nat) (Option.none : Option Jvm.ClassFile.FieldType)).before args0 about1 = true := code_word (m := ⟨0, 0⟩) (meth := k0m0) (c := k0c0) (by decide +kernel) rfl rfl rfl (by decide +kernel)
set_option maxRecDepth 65536 in
theorem w_c6 : (Jvm.Cond.code ({ cls := "com/example/stratifold/stratifold/RowKey", name := "tokenStart", desc := "(J)Lcom/example/stratifold/stratifold/RowKey;" } : Jvm.MethodName) prog_38_method_7_code (2 : Nat) (Option.some (Jvm.ClassFile.FieldType.object "com/example/stratifold/stratifold/RowKey"))).before args0 about1 = true := code_word (m := ⟨3, 2⟩) (meth := k3m2) (c := k3c2) (by decide +kernel) rfl rfl rfl (by decide +kernel)
set_option maxRecDepth 65536 in
theorem w_c7 : (Jvm.Cond.code ({ cls := "com/example/stratifold/stratifold/CellEncoding", name := "keyBytes", desc := "(Lcom/example/stratifold/stratifold/RowKey;)I" } : Jvm.MethodName) prog_8_method_4_code (1 : Nat) (Option.some Jvm.ClassFile.FieldType.int)).before args0 about1 = true := code_word (m := ⟨5, 1⟩) (meth := k5m1) (c := k5c1) (by decide +kernel) rfl rfl rfl (by decide +kernel)
set_option maxRecDepth 65536 in
theorem w_c8 : (Jvm.Cond.code ({ cls := "com/example/stratifold/stratifold/RowKey", name := "partition", desc := "()[B" } : Jvm.MethodName) prog_38_method_9_code (1 : Nat) (Option.some (Jvm.ClassFile.FieldType.array Jvm.ClassFile.FieldType.byte))).before args0 about1 = true := code_word (m := ⟨3, 3⟩) (meth := k3m3) (c := k3c3) (by decide +kernel) rfl rfl rfl (by decide +kernel)
set_option maxRecDepth 65536 in
theorem w_c9 : (Jvm.Cond.code ({ cls := "com/example/stratifold/stratifold/RowKey", name := "clustering", desc := "()[B" } : Jvm.MethodName) prog_38_method_10_code (1 : Nat) (Option.some (Jvm.ClassFile.FieldType.array Jvm.ClassFile.FieldType.byte))).before args0 about1 = true := code_word (m := ⟨3, 4⟩) (meth := k3m4) (c := k3c4) (by decide +kernel) rfl rfl rfl (by decide +kernel)
set_option maxRecDepth 65536 in
theorem w_c10 : (Jvm.Cond.code ({ cls := "com/example/stratifold/stratifold/Token", name := "littleEndian", desc := "([BII)J" } : Jvm.MethodName) prog_68_method_6_code (6 : Nat) (Option.some Jvm.ClassFile.FieldType.long)).before args0 about1 = true := code_word (m := ⟨4, 5⟩) (meth := k4m5) (c := k4c5) (by decide +kernel) rfl rfl rfl (by decide +kernel)
set_option maxRecDepth 65536 in
theorem w_c11 : (Jvm.Cond.code ({ cls := "com/example/stratifold/stratifold/Token", name := "mixK2", desc := "(J)J" } : Jvm.MethodName) prog_68_method_4_code (2 : Nat) (Option.some Jvm.ClassFile.FieldType.long)).before args0 about1 = true := code_word (m := ⟨4, 3⟩) (meth := k4m3) (c := k4c3) (by decide +kernel) rfl rfl rfl (by decide +kernel)
set_option maxRecDepth 65536 in
theorem w_c12 : (Jvm.Cond.code ({ cls := "java/lang/Long", name := "rotateLeft", desc := "(JI)J" } : Jvm.MethodName) jdk_35_method_51_code (3 : Nat) (Option.some Jvm.ClassFile.FieldType.long)).before args0 about1 = true := code_word (m := ⟨10, 0⟩) (meth := k10m0) (c := k10c0) (by decide +kernel) rfl rfl rfl (by decide +kernel)
set_option maxRecDepth 65536 in
theorem w_c13 : (Jvm.Cond.code ({ cls := "java/lang/Math", name := "min", desc := "(II)I" } : Jvm.MethodName) jdk_29_method_69_code (2 : Nat) (Option.some Jvm.ClassFile.FieldType.int)).before args0 about1 = true := code_word (m := ⟨11, 1⟩) (meth := k11m1) (c := k11c1) (by decide +kernel) rfl rfl rfl (by decide +kernel)
set_option maxRecDepth 65536 in
theorem w_c14 : (Jvm.Cond.code ({ cls := "com/example/stratifold/stratifold/Token", name := "mixK1", desc := "(J)J" } : Jvm.MethodName) prog_68_method_3_code (2 : Nat) (Option.some Jvm.ClassFile.FieldType.long)).before args0 about1 = true := code_word (m := ⟨4, 2⟩) (meth := k4m2) (c := k4c2) (by decide +kernel) rfl rfl rfl (by decide +kernel)
def codes1 : List Jvm.Cond := [Jvm.Cond.code x code maxLocals ret, Jvm.Cond.code ({ cls := "com/example/stratifold/stratifold/RowKey", name := "<init>", desc := "([B[B)V" } : Jvm.MethodName) prog_38_method_1_code (3 : Nat) (Option.none : Option Jvm.ClassFile.FieldType), Jvm.Cond.code ({ cls := "com/example/stratifold/stratifold/Token", name := "of", desc := "([B)J" } : Jvm.MethodName) prog_68_method_2_code (8 : Nat) (Option.some Jvm.ClassFile.FieldType.long), Jvm.Cond.code ({ cls := "com/example/stratifold/stratifold/Token", name := "finalMix", desc := "(J)J" } : Jvm.MethodName) prog_68_method_5_code (2 : Nat) (Option.some Jvm.ClassFile.FieldType.long), Jvm.Cond.code ({ cls := "com/example/stratifold/stratifold/RowKey", name := "<init>", desc := "(J[B[B)V" } : Jvm.MethodName) prog_38_method_2_code (5 : Nat) (Option.none : Option Jvm.ClassFile.FieldType), Jvm.Cond.code ({ cls := "java/lang/Object", name := "<init>", desc := "()V" } : Jvm.MethodName) object_method_1_code (1 : Nat) (Option.none : Option Jvm.ClassFile.FieldType), Jvm.Cond.code ({ cls := "com/example/stratifold/stratifold/RowKey", name := "tokenStart", desc := "(J)Lcom/example/stratifold/stratifold/RowKey;" } : Jvm.MethodName) prog_38_method_7_code (2 : Nat) (Option.some (Jvm.ClassFile.FieldType.object "com/example/stratifold/stratifold/RowKey")), Jvm.Cond.code ({ cls := "com/example/stratifold/stratifold/CellEncoding", name := "keyBytes", desc := "(Lcom/example/stratifold/stratifold/RowKey;)I" } : Jvm.MethodName) prog_8_method_4_code (1 : Nat) (Option.some Jvm.ClassFile.FieldType.int), Jvm.Cond.code ({ cls := "com/example/stratifold/stratifold/RowKey", name := "partition", desc := "()[B" } : Jvm.MethodName) prog_38_method_9_code (1 : Nat) (Option.some (Jvm.ClassFile.FieldType.array Jvm.ClassFile.FieldType.byte)), Jvm.Cond.code ({ cls := "com/example/stratifold/stratifold/RowKey", name := "clustering", desc := "()[B" } : Jvm.MethodName) prog_38_method_10_code (1 : Nat) (Option.some (Jvm.ClassFile.FieldType.array Jvm.ClassFile.FieldType.byte)), Jvm.Cond.code ({ cls := "com/example/stratifold/stratifold/Token", name := "littleEndian", desc := "([BII)J" } : Jvm.MethodName) prog_68_method_6_code (6 : Nat) (Option.some Jvm.ClassFile.FieldType.long), Jvm.Cond.code ({ cls := "com/example/stratifold/stratifold/Token", name := "mixK2", desc := "(J)J" } : Jvm.MethodName) prog_68_method_4_code (2 : Nat) (Option.some Jvm.ClassFile.FieldType.long), Jvm.Cond.code ({ cls := "java/lang/Long", name := "rotateLeft", desc := "(JI)J" } : Jvm.MethodName) jdk_35_method_51_code (3 : Nat) (Option.some Jvm.ClassFile.FieldType.long), Jvm.Cond.code ({ cls := "java/lang/Math", name := "min", desc := "(II)I" } : Jvm.MethodName) jdk_29_method_69_code (2 : Nat) (Option.some Jvm.ClassFile.FieldType.int), Jvm.Cond.code ({ cls := "com/example/stratifold/stratifold/Token", name := "mixK1", desc := "(J)J" } : Jvm.MethodName) prog_68_method_3_code (2 : Nat) (Option.some Jvm.ClassFile.FieldType.long)]
set_option maxRecDepth 65536 in
theorem codes_eq : words1.filter isCode = codes1 := rfl
theorem w_codes : ∀ c ∈ words1.filter isCode, c.before args0 about1 = true := by
  rw [codes_eq]
  intro c hc
  simp only [codes1, List.mem_cons, List.not_mem_nil, or_false] at hc
  rcases hc with rfl | rfl | rfl | rfl | rfl | rfl | rfl | rfl | rfl | rfl | rfl | rfl | rfl | rfl | rfl
  · exact w_c0
  · exact w_c1
  · exact w_c2
  · exact w_c3
  · exact w_c4
  · exact w_c5
  · exact w_c6
  · exact w_c7
  · exact w_c8
  · exact w_c9
  · exact w_c10
  · exact w_c11
  · exact w_c12
  · exact w_c13
  · exact w_c14
set_option maxRecDepth 65536 in
theorem w_t1 : (words1.take 24).all (fun c => isCode c || c.before args0 about1) = true := by decide +kernel
set_option maxRecDepth 65536 in
theorem w_t2 : ((words1.drop 24).take 24).all (fun c => isCode c || c.before args0 about1) = true := by decide +kernel
set_option maxRecDepth 65536 in
theorem w_t3 : (((words1.drop 24).drop 24).take 24).all (fun c => isCode c || c.before args0 about1) = true := by decide +kernel
set_option maxRecDepth 65536 in
theorem w_t4 : (((words1.drop 24).drop 24).drop 24).all (fun c => isCode c || c.before args0 about1) = true := by decide +kernel
theorem w_tables : (allAtoms (Jvm.Cond.code x code maxLocals ret :: tables_1)).before args0 about1 = true := by
  rw [allAtoms_all]
  show words1.all (fun c => c.before args0 about1) = true
  refine all_split ?_ w_codes
  rw [← List.take_append_drop 24 words1, List.all_append, w_t1, ← List.take_append_drop 24 (words1.drop 24), List.all_append, w_t2, ← List.take_append_drop 24 ((words1.drop 24).drop 24), List.all_append, w_t3, w_t4]
  rfl
set_option maxRecDepth 65536 in
theorem w_case : (Jvm.Cond.and given_1 narrow_1).before args0 about1 = true := by decide +kernel
theorem w_applies : (headSpec (Jvm.Cond.code x code maxLocals ret :: tables_1) room_1).applies x e0.platform about1 = true :=
  (Spec.applies_iff w_frames).mpr ⟨w_running, w_runnable, w_alone, w_named, w_hears, w_ripe, w_room, w_tables⟩
theorem atStart : AtStart classFile x code maxLocals ret World_1 tables_1 room_1 Calls_1 rest_1 Pre_1 launch0 p0 e0 about1 theMethod args0 below0 :=
  ⟨lists_1, trivial, launch0.admits_env _ _ _, launch0.least_env, fairChoices_fair.cas, fairChoices_fair.clock, w_frames, w_args, w_heap, w_applies, trivial, trivial, w_case⟩
end start1
theorem witness_1 : WitnessClaimed_1 := ⟨start1.p0, start1.e0, start1.about1, start1.theMethod, start1.args0, start1.below0, start1.atStart⟩
end Jvm.Pilot.@@N@@
