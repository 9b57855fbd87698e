import JvmDerived
import JvmDerived.Pilot.@@N@@Statement
import JvmDerived.Pilot.@@N@@Code
set_option linter.unusedVariables false
set_option linter.unusedSimpArgs false
namespace Jvm.RoadKit
open Sem ClassFile Op Lib Jvm.Stand Jvm.Free Jvm.LawKit
section New
variable {p : Program} {l : Launch} {e : Env} {R : Room} {s : State} {m : MethodId} {args : Array Value} {below : List Frame} {meth : Method} {c : Code} {T : State} {locs : List Loc} {cells slots : Nat}
theorem retI (X : Stand p l e R s m args below meth c T locs cells slots) (hx : p.tables.exec = Jvm.exec) {pc : Nat} {Ls : Array Slot} {z : Int32} {rest : List Value} (hret : meth.sig.returnType = some .int) (hd : decode c.code pc = .ok (.ireturn, 1)) {fs : List Frame}
    (hl : ∀ (f : JFrame) (acts : List Action), f.method = m → f.locked = none → f.entered = [] → (doReturn e (T.setTop f) acts (some (.int z))).1 = T.setFrames fs) : Steps p.tables e below (T.setTop (mkF m pc Ls (.int z :: rest))) (T.setFrames fs) := by
  have hm' : T.vm.method? m = some meth := X.method'
  have hn : narrow .int (.int z) = .int z := rfl
  show Steps p.tables e below (T.setTop { method := m, pc := pc, locals := Ls, stack := _ :: rest, locked := none }) _
  jvm_step X.here [X.here.top, hx, hd, hm', hret, hn]
  first | (intro acts; rw [hl _ acts rfl rfl rfl]) | rw [hl _ _ rfl rfl rfl]
  exact Steps.refl _
end New
end Jvm.RoadKit
namespace Jvm.Pilot.@@N@@
open Jvm Jvm.ClassFile Sem Op Lib Jvm.Free Jvm.Stand Jvm.LawKit Jvm.RoadKit Bundle Jvm.Pilot.@@N@@.Jvm.D
def own_max (a b : Int32) : Int32 := if a < b then b else a
theorem own_pos (x : Int32) : ¬ own_max (1 : Int32) (x &&& (2147483647 : Int32)) < (1 : Int32) := by
  unfold own_max
  rw [Int32.lt_iff_toInt_lt]
  have e1 : (1 : Int32).toInt = 1 := by decide
  split
  · rename_i h; rw [Int32.lt_iff_toInt_lt] at h; omega
  · omega
theorem own_and0 (y : Int32) : 0 ≤ (y &&& (2147483647 : Int32)).toInt := (c_and y (2147483647 : Int32) (by decide)).1
theorem own_mod (y : Int32) : 0 ≤ ((y &&& (2147483647 : Int32)) % (2147483640 : Int32)).toInt ∧ ((y &&& (2147483647 : Int32)) % (2147483640 : Int32)).toInt < 2147483640 := by
  have h := (c_iremV (y &&& (2147483647 : Int32)) (2147483640 : Int32)).1 (own_and0 y) (by decide)
  have e1 : (2147483640 : Int32).toInt = 2147483640 := by decide
  omega
theorem own_i1 (y : Int32) : ¬ ((y &&& (2147483647 : Int32)) % (2147483640 : Int32)) < (0 : Int32) := by
  rw [Int32.lt_iff_toInt_lt]
  have h := own_mod y
  have e1 : (0 : Int32).toInt = 0 := by decide
  omega
theorem own_i2 (y : Int32) : ¬ (2147483639 : Int32) < ((y &&& (2147483647 : Int32)) % (2147483640 : Int32)) := by
  rw [Int32.lt_iff_toInt_lt]
  have h := own_mod y
  have e1 : (2147483639 : Int32).toInt = 2147483639 := by decide
  omega
theorem own_eq (d : Int32) : (1048576 : Int64) + (d.toInt64 * (3072 : Int64)) = (1048576 : Int64) + ((3072 : Int64) * d.toInt64) := by rw [Int64.mul_comm]
theorem own_above (d : Int32) (h : ¬ d < (1 : Int32)) : (1048576 : Int64) < (1048576 : Int64) + (d.toInt64 * (3072 : Int64)) := by
  rw [Int64.lt_iff_toInt_lt]
  rw [Int32.lt_iff_toInt_lt] at h
  have e1 : (1 : Int32).toInt = 1 := by decide
  have e2 : (1048576 : Int64).toInt = 1048576 := by decide
  have e3 : (3072 : Int64).toInt = 3072 := by decide
  have h1 := rng32 d
  have h2 := c_i2l d
  have h3 := c_lmul d.toInt64 (3072 : Int64)
  have h4 := c_ladd (1048576 : Int64) (d.toInt64 * (3072 : Int64))
  have h5 := rng64 (d.toInt64 * (3072 : Int64))
  have h6 := rng64 ((1048576 : Int64) + (d.toInt64 * (3072 : Int64)))
  rw [h2, e3] at h3
  have h7 : (d.toInt64 * (3072 : Int64)).toInt = d.toInt * 3072 := by omega
  rw [h7, e2] at h4
  have h8 : ((1048576 : Int64) + (d.toInt64 * (3072 : Int64))).toInt = 1048576 + d.toInt * 3072 := by omega
  rw [h8, e2]
  omega
theorem d1_0 : decode jdk_29_method_65_code 0 = .ok (.iload_n 0, 1) := by decide +kernel
theorem d1_1 : decode jdk_29_method_65_code 1 = .ok (.iload_n 1, 1) := by decide +kernel
theorem d1_2 : decode jdk_29_method_65_code 2 = .ok (.if_icmp .lt 7, 3) := by decide +kernel
theorem d1_5 : decode jdk_29_method_65_code 5 = .ok (.iload_n 0, 1) := by decide +kernel
theorem d1_6 : decode jdk_29_method_65_code 6 = .ok (.goto 4, 3) := by decide +kernel
theorem d1_9 : decode jdk_29_method_65_code 9 = .ok (.iload_n 1, 1) := by decide +kernel
theorem d1_10 : decode jdk_29_method_65_code 10 = .ok (.ireturn, 1) := by decide +kernel
theorem ef_1 (m : MethodId) (p1 : Int32) (p2 : Int32) : entryFrame m #[(.int p1), (.int p2)] 2 = mkF m 0 #[.val (.int p1), .val (.int p2)] [] := by first | (simp [entryFrame, mkF, argsToLocals, Value.category]; done) | rfl
def Q1 (Z : State) (p1 : Int32) (p2 : Int32) (h0 : Heap) (n0 : Nat) (v : Option Value) (h : Heap) (L : List Loc) : Prop := v = some (.int (own_max p1 p2)) ∧ Fr n0 L ∧ h = h0
set_option maxRecDepth 65536 in
set_option maxHeartbeats 40000000 in
theorem rm1 (l : Launch) (Z : State) (a0 : Array Value) (hw : ∀ d ∈ tables_1, d.before a0 Z = true) (ws : List Jvm.Cond) (p1 : Int32) (p2 : Int32) (h0 : Heap) (n0 : Nat) (Z0 : n0 ≤ h0.size) :
    MetFree l (⟨"java/lang/Math", "max", "(II)I"⟩ : MethodName) (head1 (Jvm.Cond.code (⟨"java/lang/Math", "max", "(II)I"⟩ : MethodName) jdk_29_method_65_code 2 (some .int) :: ws) ({ frames := 0, cells := 0, slots := 0, locals := 0 } : Room)) (fun a U => a = #[(.int p1), (.int p2)] ∧ Z.Warmed39 U.vm ∧ U.heap = h0) (fun _ _ _ _ _ => True) (fun _ U o U' => ∃ v L, o = .returned v ∧ Q1 Z p1 p2 h0 n0 v U'.heap L ∧ FrameEnd U o U' L ({ frames := 0, cells := 0, slots := 0, locals := 0 } : Room).cells ({ frames := 0, cells := 0, slots := 0, locals := 0 } : Room).slots) := by
  refine MetFree.of_bodySF (Jvm.Free.JP.mathPlain rfl (by decide +kernel)) hisR ?_
  intro p e s m args below meth c s₁ Bd hml0 hP hK
  obtain ⟨rfl, hZ, hh⟩ := hP
  have hx := Bd.exec
  have hby := Bd.bytes
  have hml : c.maxLocals = 2 := hml0
  have hown : s.vm.findClass "java/lang/Math" = some m.cls := findClass_of_methodNamed Bd.named
  have hnm := (name_of_methodNamed Bd.named Bd.method).1
  have X0 : Stand p l e ({ frames := 0, cells := 0, slots := 0, locals := 0 } : Room) s m #[(.int p1), (.int p2)] below meth c s₁ [] 0 0 := Stand.of_body Bd
  have e0 : s₁.heap = h0 := by rw [← hh, Bd.state]; rfl
  have N0 := Fr.nil n0
  have pre0 : ∀ t, Steps p.tables e below (s₁.setTop (mkF m 0 #[.val (.int p1), .val (.int p2)] [])) t → Steps p.tables e below (s₁.setTop (entryFrame m #[(.int p1), (.int p2)] 2)) t := fun t k => castTop (ef_1 m p1 p2) k
  have K0 : Keep h0 h0 [] := Keep.refl h0 []
  have c1 : Goes p e below s₁ (mkF m 0 #[.val (.int p1), .val (.int p2)] []) s₁ (mkF m 2 #[.val (.int p1), .val (.int p2)] [(.int p2), (.int p1)]) := fun t kt => pre0 t (by
    show Steps p.tables e below (s₁.setTop (mkF m 0 #[.val (.int p1), .val (.int p2)] [])) _
    refine XS.iloadN X0.here hx rfl (hb hby d1_0) rfl ?_
    show Steps p.tables e below (s₁.setTop (mkF m 1 #[.val (.int p1), .val (.int p2)] [(.int p1)])) _
    refine XS.iloadN X0.here hx rfl (hb hby d1_1) rfl ?_
    show Steps p.tables e below (s₁.setTop (mkF m 2 #[.val (.int p1), .val (.int p2)] [(.int p2), (.int p1)])) _
    exact kt)
  by_cases hc2 : p1 < p2
  · have hv : p2 = own_max p1 p2 := by simp [own_max, hc2]
    obtain ⟨fs, hr, hrun, hended, hW, hsame⟩ := X0.leave (v := some (.int p2)) (fun h => by rw [Bd.returns] at h; cases h)
    refine ⟨_, _, c1 _ ?_, hrun, hended, _, _, rfl, ?_, ⟨_, rfl⟩, hW, hsame.mono (by decide) (by decide)⟩
    · show Steps p.tables e below (s₁.setTop (mkF m 2 #[.val (.int p1), .val (.int p2)] [(.int p2), (.int p1)])) _
      refine XS.icmpYes X0.here hx rfl (pc0 := 2) (pc' := 9) rfl (hb hby d1_2) rfl (tlt hc2).1 (by decide) (by decide) ?_
      show Steps p.tables e below (s₁.setTop (mkF m 9 #[.val (.int p1), .val (.int p2)] [])) _
      refine XS.iloadN X0.here hx rfl (hb hby d1_9) rfl ?_
      show Steps p.tables e below (s₁.setTop (mkF m 10 #[.val (.int p1), .val (.int p2)] [(.int p2)])) _
      exact retI X0 hx Bd.returns (hb hby d1_10) hr
    · show Q1 Z p1 p2 h0 n0 _ s₁.heap _
      rw [e0]
      exact ⟨congrArg (fun z => some (Value.int z)) hv, N0, rfl⟩
  · have hv : p1 = own_max p1 p2 := by simp [own_max, hc2]
    obtain ⟨fs, hr, hrun, hended, hW, hsame⟩ := X0.leave (v := some (.int p1)) (fun h => by rw [Bd.returns] at h; cases h)
    refine ⟨_, _, c1 _ ?_, hrun, hended, _, _, rfl, ?_, ⟨_, rfl⟩, hW, hsame.mono (by decide) (by decide)⟩
    · show Steps p.tables e below (s₁.setTop (mkF m 2 #[.val (.int p1), .val (.int p2)] [(.int p2), (.int p1)])) _
      refine XS.icmpNo X0.here hx rfl (hb hby d1_2) rfl (flt hc2).1 ?_
      show Steps p.tables e below (s₁.setTop (mkF m 5 #[.val (.int p1), .val (.int p2)] [])) _
      refine XS.iloadN X0.here hx rfl (hb hby d1_5) rfl ?_
      show Steps p.tables e below (s₁.setTop (mkF m 6 #[.val (.int p1), .val (.int p2)] [(.int p1)])) _
      refine XS.goto X0.here hx rfl (pc0 := 6) (pc' := 10) rfl (hb hby d1_6) (by decide) (by decide) ?_
      show Steps p.tables e below (s₁.setTop (mkF m 10 #[.val (.int p1), .val (.int p2)] [(.int p1)])) _
      exact retI X0 hx Bd.returns (hb hby d1_10) hr
    · show Q1 Z p1 p2 h0 n0 _ s₁.heap _
      rw [e0]
      exact ⟨congrArg (fun z => some (Value.int z)) hv, N0, rfl⟩
theorem d2_0 : decode prog_15_method_1_code 0 = .ok (.aload_n 0, 1) := by decide +kernel
theorem d2_1 : decode prog_15_method_1_code 1 = .ok (.invokespecial 3, 3) := by decide +kernel
theorem d2_4 : decode prog_15_method_1_code 4 = .ok (.iload_n 1, 1) := by decide +kernel
theorem d2_5 : decode prog_15_method_1_code 5 = .ok (.iconst 1, 1) := by decide +kernel
theorem d2_6 : decode prog_15_method_1_code 6 = .ok (.if_icmp .ge 17, 3) := by decide +kernel
theorem d2_9 : decode prog_15_method_1_code 9 = .ok (.new 9, 3) := by decide +kernel
theorem d2_12 : decode prog_15_method_1_code 12 = .ok (.dup, 1) := by decide +kernel
theorem d2_13 : decode prog_15_method_1_code 13 = .ok (.iload_n 1, 1) := by decide +kernel
theorem d2_19 : decode prog_15_method_1_code 19 = .ok (.invokespecial 15, 3) := by decide +kernel
theorem d2_22 : decode prog_15_method_1_code 22 = .ok (.athrow, 1) := by decide +kernel
theorem d2_23 : decode prog_15_method_1_code 23 = .ok (.iload_n 2, 1) := by decide +kernel
theorem d2_24 : decode prog_15_method_1_code 24 = .ok (.ifCond .lt 9, 3) := by decide +kernel
theorem d2_27 : decode prog_15_method_1_code 27 = .ok (.iload_n 2, 1) := by decide +kernel
theorem d2_28 : decode prog_15_method_1_code 28 = .ok (.ldc 20, 2) := by decide +kernel
theorem d2_30 : decode prog_15_method_1_code 30 = .ok (.if_icmp .le 17, 3) := by decide +kernel
theorem d2_33 : decode prog_15_method_1_code 33 = .ok (.new 9, 3) := by decide +kernel
theorem d2_36 : decode prog_15_method_1_code 36 = .ok (.dup, 1) := by decide +kernel
theorem d2_37 : decode prog_15_method_1_code 37 = .ok (.iload_n 2, 1) := by decide +kernel
theorem d2_43 : decode prog_15_method_1_code 43 = .ok (.invokespecial 15, 3) := by decide +kernel
theorem d2_46 : decode prog_15_method_1_code 46 = .ok (.athrow, 1) := by decide +kernel
theorem d2_47 : decode prog_15_method_1_code 47 = .ok (.aload_n 0, 1) := by decide +kernel
theorem d2_48 : decode prog_15_method_1_code 48 = .ok (.iload_n 1, 1) := by decide +kernel
theorem d2_49 : decode prog_15_method_1_code 49 = .ok (.putfield 22, 3) := by decide +kernel
theorem d2_52 : decode prog_15_method_1_code 52 = .ok (.aload_n 0, 1) := by decide +kernel
theorem d2_53 : decode prog_15_method_1_code 53 = .ok (.iload_n 2, 1) := by decide +kernel
theorem d2_54 : decode prog_15_method_1_code 54 = .ok (.putfield 26, 3) := by decide +kernel
theorem d2_57 : decode prog_15_method_1_code 57 = .ok (.return_, 1) := by decide +kernel
theorem pn_2 : plainName "com/example/moult/moult/data/Limits" = true := by first | (simp [plainName, overriddenIn]; done) | decide +kernel
theorem ef_2 (m : MethodId) (a1 : Addr) (p2 : Int32) (p3 : Int32) : entryFrame m #[(.ref a1), (.int p2), (.int p3)] 3 = mkF m 0 #[.val (.ref a1), .val (.int p2), .val (.int p3)] [] := by first | (simp [entryFrame, mkF, argsToLocals, Value.category]; done) | rfl
def Q2 (Z : State) (a1 : Addr) (p2 : Int32) (p3 : Int32) (u1 : Value) (u2 : Value) (h0 : Heap) (n0 : Nat) (v : Option Value) (h : Heap) (L : List Loc) : Prop := v = none ∧ Fr n0 L ∧ Keep h0 h [a1] ∧ Exa Z h a1 "com/example/moult/moult/data/Limits" ∧ Fld Z h a1 "com/example/moult/moult/data/Limits" "maxDepth" "I" (.int p2)
set_option maxRecDepth 65536 in
set_option maxHeartbeats 40000000 in
theorem rm2 (l : Launch) (Z : State) (a0 : Array Value) (hw : ∀ d ∈ tables_1, d.before a0 Z = true) (ws : List Jvm.Cond) (a1 : Addr) (p2 : Int32) (p3 : Int32) (u1 : Value) (u2 : Value) (h0 : Heap) (n0 : Nat) (Z0 : n0 ≤ h0.size) (E_a1 : Exa Z h0 a1 "com/example/moult/moult/data/Limits") (F_1 : Fld Z h0 a1 "com/example/moult/moult/data/Limits" "maxDepth" "I" u1) (F_2 : Fld Z h0 a1 "com/example/moult/moult/data/Limits" "maxItems" "I" u2) (g_a1 : n0 ≤ a1) (hp1 : ¬ p2 < (1 : Int32)) (hp2 : ¬ p3 < (0 : Int32)) (hp3 : ¬ (2147483639 : Int32) < p3) :
    MetFree l (⟨"com/example/moult/moult/data/Limits", "<init>", "(II)V"⟩ : MethodName) (head1 (Jvm.Cond.code (⟨"com/example/moult/moult/data/Limits", "<init>", "(II)V"⟩ : MethodName) prog_15_method_1_code 3 none :: ws) ({ frames := 1, cells := 0, slots := 0, locals := 12 } : Room)) (fun a U => a = #[(.ref a1), (.int p2), (.int p3)] ∧ Z.Warmed39 U.vm ∧ U.heap = h0) (fun _ _ _ _ _ => True) (fun _ U o U' => ∃ v L, o = .returned v ∧ Q2 Z a1 p2 p3 u1 u2 h0 n0 v U'.heap L ∧ FrameEnd U o U' L ({ frames := 1, cells := 0, slots := 0, locals := 12 } : Room).cells ({ frames := 1, cells := 0, slots := 0, locals := 12 } : Room).slots) := by
  refine MetFree.of_bodySF (plainFor_of_name pn_2) hisR ?_
  intro p e s m args below meth c s₁ Bd hml0 hP hK
  obtain ⟨rfl, hZ, hh⟩ := hP
  have hx := Bd.exec
  have hby := Bd.bytes
  have hml : c.maxLocals = 3 := hml0
  have hown : s.vm.findClass "com/example/moult/moult/data/Limits" = some m.cls := findClass_of_methodNamed Bd.named
  have hnm := (name_of_methodNamed Bd.named Bd.method).1
  have X0 : Stand p l e ({ frames := 1, cells := 0, slots := 0, locals := 12 } : Room) s m #[(.ref a1), (.int p2), (.int p3)] below meth c s₁ [] 0 0 := Stand.of_body Bd
  have e0 : s₁.heap = h0 := by rw [← hh, Bd.state]; rfl
  have N0 := Fr.nil n0
  have pre0 : ∀ t, Steps p.tables e below (s₁.setTop (mkF m 0 #[.val (.ref a1), .val (.int p2), .val (.int p3)] [])) t → Steps p.tables e below (s₁.setTop (entryFrame m #[(.ref a1), (.int p2), (.int p3)] 3)) t := fun t k => castTop (ef_2 m a1 p2 p3) k
  have K0 : Keep h0 h0 [a1] := Keep.refl h0 [a1]
  obtain ⟨T1, X1, e1, st1⟩ := initO X0 hx hZ hown (hw _ (List.mem_of_getElem? (i := 12) rfl)) (hw _ (List.mem_of_getElem? (i := 13) rfl)) (hw _ (List.mem_of_getElem? (i := 14) rfl)) e0 (g := (mkF m 1 #[.val (.ref a1), .val (.int p2), .val (.int p3)] [(.ref a1)])) rfl (by rw [hml]; rfl) rfl (hb hby d2_1) (by decide) (W := 0) (by show 2 * 0 + _ ≤ _; exact Nat.le_of_eq rfl) (by decide)
  obtain ⟨T2, h2, X2, e2, W2, st2⟩ := putF X1 hx hZ hown (host := "") (Or.inl (hw _ (List.mem_of_getElem? (i := 16) rfl))) Via.refl e1 F_1 E_a1 (Or.inr ⟨(hw _ (List.mem_of_getElem? (i := 17) rfl)), rfl, hnm⟩) (hw _ (List.mem_of_getElem? (i := 7) rfl)) (ty := .int) (by decide) rfl rfl (g := (mkF m 49 #[.val (.ref a1), .val (.int p2), .val (.int p3)] [(.int p2), (.ref a1)])) rfl rfl (hb hby d2_49)
  have f3 := F_1.same W2
  have f4 := E_a1.wr W2
  have f6 := F_2.other W2 (Or.inr (slot_ne (Or.inr (hw _ (List.mem_of_getElem? (i := 19) rfl))) (Or.inr (hw _ (List.mem_of_getElem? (i := 17) rfl))) (by decide) (t := .int) (t' := .int) (by decide) (by decide)))
  have K2 : Keep h0 h2 [a1] := K0.wr W2 (Or.inl (List.mem_of_getElem? (i := 0) rfl))
  have N2 := Fr.snoc X2 N0 g_a1
  have Z2 : n0 ≤ h2.size := Nat.le_trans Z0 (Keep.of_wr W2).1
  obtain ⟨T7, h7, X7, e7, W7, st7⟩ := putF X2 hx hZ hown (host := "") (Or.inl (hw _ (List.mem_of_getElem? (i := 18) rfl))) Via.refl e2 f6 f4 (Or.inr ⟨(hw _ (List.mem_of_getElem? (i := 19) rfl)), rfl, hnm⟩) (hw _ (List.mem_of_getElem? (i := 7) rfl)) (ty := .int) (by decide) rfl rfl (g := (mkF m 54 #[.val (.ref a1), .val (.int p2), .val (.int p3)] [(.int p3), (.ref a1)])) rfl rfl (hb hby d2_54)
  have f8 := f6.same W7
  have f9 := f4.wr W7
  have f10 := f3.other W7 (Or.inr (slot_ne (Or.inr (hw _ (List.mem_of_getElem? (i := 17) rfl))) (Or.inr (hw _ (List.mem_of_getElem? (i := 19) rfl))) (by decide) (t := .int) (t' := .int) (by decide) (by decide)))
  have K7 : Keep h0 h7 [a1] := K2.wr W7 (Or.inl (List.mem_of_getElem? (i := 0) rfl))
  have N7 := Fr.snoc X7 N2 g_a1
  have Z7 : n0 ≤ h7.size := Nat.le_trans Z2 (Keep.of_wr W7).1
  obtain ⟨fs, hr, hrun, hended, hW, hsame⟩ := X7.leave (v := none) (fun _ => rfl)
  refine ⟨_, _, pre0 _ ?_, hrun, hended, _, _, rfl, ?_, ⟨_, rfl⟩, hW, hsame.mono (by decide) (by decide)⟩
  · show Steps p.tables e below (s₁.setTop (mkF m 0 #[.val (.ref a1), .val (.int p2), .val (.int p3)] [])) _
    refine XS.aloadN X0.here hx rfl (hb hby d2_0) rfl rfl ?_
    show Steps p.tables e below (s₁.setTop (mkF m 1 #[.val (.ref a1), .val (.int p2), .val (.int p3)] [(.ref a1)])) _
    refine st1 _ ?_
    show Steps p.tables e below (T1.setTop (mkF m 4 #[.val (.ref a1), .val (.int p2), .val (.int p3)] [])) _
    refine XS.iloadN X1.here hx rfl (hb hby d2_4) rfl ?_
    show Steps p.tables e below (T1.setTop (mkF m 5 #[.val (.ref a1), .val (.int p2), .val (.int p3)] [(.int p2)])) _
    refine XS.iconst X1.here hx rfl (hb hby d2_5) ?_
    show Steps p.tables e below (T1.setTop (mkF m 6 #[.val (.ref a1), .val (.int p2), .val (.int p3)] [(.int (1 : Int32)), (.int p2)])) _
    refine XS.icmpYes X1.here hx rfl (pc0 := 6) (pc' := 23) rfl (hb hby d2_6) rfl (flt (hp1 : ¬ (p2 < (1 : Int32)))).2.1 (by decide) (by decide) ?_
    show Steps p.tables e below (T1.setTop (mkF m 23 #[.val (.ref a1), .val (.int p2), .val (.int p3)] [])) _
    refine XS.iloadN X1.here hx rfl (hb hby d2_23) rfl ?_
    show Steps p.tables e below (T1.setTop (mkF m 24 #[.val (.ref a1), .val (.int p2), .val (.int p3)] [(.int p3)])) _
    refine XS.ifNo X1.here hx rfl (hb hby d2_24) rfl ((if0 _ _).trans (flt (hp2 : ¬ (p3 < (0 : Int32)))).1) ?_
    show Steps p.tables e below (T1.setTop (mkF m 27 #[.val (.ref a1), .val (.int p2), .val (.int p3)] [])) _
    refine XS.iloadN X1.here hx rfl (hb hby d2_27) rfl ?_
    show Steps p.tables e below (T1.setTop (mkF m 28 #[.val (.ref a1), .val (.int p2), .val (.int p3)] [(.int p3)])) _
    refine X1.ldcInt hx hown (mvT hZ (hw _ (List.mem_of_getElem? (i := 15) rfl))) (g := (mkF m 28 #[.val (.ref a1), .val (.int p2), .val (.int p3)] [(.int p3)])) rfl (hb hby d2_28) _ ?_
    show Steps p.tables e below (T1.setTop (mkF m 30 #[.val (.ref a1), .val (.int p2), .val (.int p3)] [(.int (2147483639 : Int32)), (.int p3)])) _
    refine XS.icmpYes X1.here hx rfl (pc0 := 30) (pc' := 47) rfl (hb hby d2_30) rfl (flt (hp3 : ¬ ((2147483639 : Int32) < p3))).2.2.2 (by decide) (by decide) ?_
    show Steps p.tables e below (T1.setTop (mkF m 47 #[.val (.ref a1), .val (.int p2), .val (.int p3)] [])) _
    refine XS.aloadN X1.here hx rfl (hb hby d2_47) rfl rfl ?_
    show Steps p.tables e below (T1.setTop (mkF m 48 #[.val (.ref a1), .val (.int p2), .val (.int p3)] [(.ref a1)])) _
    refine XS.iloadN X1.here hx rfl (hb hby d2_48) rfl ?_
    show Steps p.tables e below (T1.setTop (mkF m 49 #[.val (.ref a1), .val (.int p2), .val (.int p3)] [(.int p2), (.ref a1)])) _
    refine st2 _ ?_
    show Steps p.tables e below (T2.setTop (mkF m 52 #[.val (.ref a1), .val (.int p2), .val (.int p3)] [])) _
    refine XS.aloadN X2.here hx rfl (hb hby d2_52) rfl rfl ?_
    show Steps p.tables e below (T2.setTop (mkF m 53 #[.val (.ref a1), .val (.int p2), .val (.int p3)] [(.ref a1)])) _
    refine XS.iloadN X2.here hx rfl (hb hby d2_53) rfl ?_
    show Steps p.tables e below (T2.setTop (mkF m 54 #[.val (.ref a1), .val (.int p2), .val (.int p3)] [(.int p3), (.ref a1)])) _
    refine st7 _ ?_
    show Steps p.tables e below (T7.setTop (mkF m 57 #[.val (.ref a1), .val (.int p2), .val (.int p3)] [])) _
    exact X7.returnOut hx Bd.returns (hb hby d2_57) hr
  · show Q2 Z a1 p2 p3 u1 u2 h0 n0 _ T7.heap _
    rw [e7]
    exact ⟨rfl, N7, K7, f9, f10⟩
theorem d4_0 : decode prog_15_method_4_code 0 = .ok (.ldc2_w 29, 3) := by decide +kernel
theorem d4_3 : decode prog_15_method_4_code 3 = .ok (.aload_n 0, 1) := by decide +kernel
theorem d4_4 : decode prog_15_method_4_code 4 = .ok (.getfield 22, 3) := by decide +kernel
theorem d4_7 : decode prog_15_method_4_code 7 = .ok (.i2l, 1) := by decide +kernel
theorem d4_8 : decode prog_15_method_4_code 8 = .ok (.ldc2_w 31, 3) := by decide +kernel
theorem d4_11 : decode prog_15_method_4_code 11 = .ok (.lmul, 1) := by decide +kernel
theorem d4_12 : decode prog_15_method_4_code 12 = .ok (.ladd, 1) := by decide +kernel
theorem d4_13 : decode prog_15_method_4_code 13 = .ok (.lreturn, 1) := by decide +kernel
theorem pn_4 : plainName "com/example/moult/moult/data/Limits" = true := by first | (simp [plainName, overriddenIn]; done) | decide +kernel
theorem ef_4 (m : MethodId) (a1 : Addr) : entryFrame m #[(.ref a1)] 1 = mkF m 0 #[.val (.ref a1)] [] := by first | (simp [entryFrame, mkF, argsToLocals, Value.category]; done) | rfl
def Q4 (Z : State) (a1 : Addr) (w2 : Int32) (h0 : Heap) (n0 : Nat) (v : Option Value) (h : Heap) (L : List Loc) : Prop := v = some (.long ((1048576 : Int64) + (w2.toInt64 * (3072 : Int64)))) ∧ Fr n0 L ∧ h = h0
set_option maxRecDepth 65536 in
set_option maxHeartbeats 40000000 in
theorem rm4 (l : Launch) (Z : State) (a0 : Array Value) (hw : ∀ d ∈ tables_1, d.before a0 Z = true) (ws : List Jvm.Cond) (a1 : Addr) (w2 : Int32) (h0 : Heap) (n0 : Nat) (Z0 : n0 ≤ h0.size) (F_1 : Fld Z h0 a1 "com/example/moult/moult/data/Limits" "maxDepth" "I" (.int w2)) :
    MetFree l (⟨"com/example/moult/moult/data/Limits", "stackBytes", "()J"⟩ : MethodName) (head1 (Jvm.Cond.code (⟨"com/example/moult/moult/data/Limits", "stackBytes", "()J"⟩ : MethodName) prog_15_method_4_code 1 (some .long) :: ws) ({ frames := 0, cells := 0, slots := 0, locals := 0 } : Room)) (fun a U => a = #[(.ref a1)] ∧ Z.Warmed39 U.vm ∧ U.heap = h0) (fun _ _ _ _ _ => True) (fun _ U o U' => ∃ v L, o = .returned v ∧ Q4 Z a1 w2 h0 n0 v U'.heap L ∧ FrameEnd U o U' L ({ frames := 0, cells := 0, slots := 0, locals := 0 } : Room).cells ({ frames := 0, cells := 0, slots := 0, locals := 0 } : Room).slots) := by
  refine MetFree.of_bodySF (plainFor_of_name pn_4) hisR ?_
  intro p e s m args below meth c s₁ Bd hml0 hP hK
  obtain ⟨rfl, hZ, hh⟩ := hP
  have hx := Bd.exec
  have hby := Bd.bytes
  have hml : c.maxLocals = 1 := hml0
  have hown : s.vm.findClass "com/example/moult/moult/data/Limits" = some m.cls := findClass_of_methodNamed Bd.named
  have hnm := (name_of_methodNamed Bd.named Bd.method).1
  have X0 : Stand p l e ({ frames := 0, cells := 0, slots := 0, locals := 0 } : Room) s m #[(.ref a1)] below meth c s₁ [] 0 0 := Stand.of_body Bd
  have e0 : s₁.heap = h0 := by rw [← hh, Bd.state]; rfl
  have N0 := Fr.nil n0
  have pre0 : ∀ t, Steps p.tables e below (s₁.setTop (mkF m 0 #[.val (.ref a1)] [])) t → Steps p.tables e below (s₁.setTop (entryFrame m #[(.ref a1)] 1)) t := fun t k => castTop (ef_4 m a1) k
  have K0 : Keep h0 h0 [] := Keep.refl h0 []
  obtain ⟨T1, X1, e1, st1⟩ := getF X0 hx hZ hown (host := "") (Or.inl (hw _ (List.mem_of_getElem? (i := 16) rfl))) Via.refl e0 F_1 (g := (mkF m 4 #[.val (.ref a1)] [(.ref a1), (.long (1048576 : Int64))])) rfl rfl (hb hby d4_4)
  obtain ⟨fs, hr, hrun, hended, hW, hsame⟩ := X1.leave (v := some (.long ((1048576 : Int64) + ((w2.toInt64) * (3072 : Int64))))) (fun h => by rw [Bd.returns] at h; cases h)
  refine ⟨_, _, pre0 _ ?_, hrun, hended, _, _, rfl, ?_, ⟨_, rfl⟩, hW, hsame.mono (by decide) (by decide)⟩
  · show Steps p.tables e below (s₁.setTop (mkF m 0 #[.val (.ref a1)] [])) _
    refine X0.ldc2Long hx hown (mvT hZ (hw _ (List.mem_of_getElem? (i := 25) rfl))) (g := (mkF m 0 #[.val (.ref a1)] [])) rfl (hb hby d4_0) _ ?_
    show Steps p.tables e below (s₁.setTop (mkF m 3 #[.val (.ref a1)] [(.long (1048576 : Int64))])) _
    refine XS.aloadN X0.here hx rfl (hb hby d4_3) rfl rfl ?_
    show Steps p.tables e below (s₁.setTop (mkF m 4 #[.val (.ref a1)] [(.ref a1), (.long (1048576 : Int64))])) _
    refine st1 _ ?_
    show Steps p.tables e below (T1.setTop (mkF m 7 #[.val (.ref a1)] [(.int w2), (.long (1048576 : Int64))])) _
    refine XS.i2l X1.here hx rfl (hb hby d4_7) rfl ?_
    show Steps p.tables e below (T1.setTop (mkF m 8 #[.val (.ref a1)] [(.long (w2.toInt64)), (.long (1048576 : Int64))])) _
    refine X1.ldc2Long hx hown (mvT hZ (hw _ (List.mem_of_getElem? (i := 26) rfl))) (g := (mkF m 8 #[.val (.ref a1)] [(.long (w2.toInt64)), (.long (1048576 : Int64))])) rfl (hb hby d4_8) _ ?_
    show Steps p.tables e below (T1.setTop (mkF m 11 #[.val (.ref a1)] [(.long (3072 : Int64)), (.long (w2.toInt64)), (.long (1048576 : Int64))])) _
    refine XS.lmul X1.here hx rfl (hb hby d4_11) rfl ?_
    show Steps p.tables e below (T1.setTop (mkF m 12 #[.val (.ref a1)] [(.long ((w2.toInt64) * (3072 : Int64))), (.long (1048576 : Int64))])) _
    refine XS.ladd X1.here hx rfl (hb hby d4_12) rfl ?_
    show Steps p.tables e below (T1.setTop (mkF m 13 #[.val (.ref a1)] [(.long ((1048576 : Int64) + ((w2.toInt64) * (3072 : Int64))))])) _
    jvm_step X1.here [X1.here.top, hx, (hb hby d4_13), X1.method', Bd.returns, narrow]
    first | (intro acts; rw [hr _ acts rfl rfl rfl]) | rw [hr _ _ rfl rfl rfl]
    exact Steps.refl _
  · show Q4 Z a1 w2 h0 n0 _ T1.heap _
    rw [e1]
    exact ⟨rfl, N0, rfl⟩
theorem pn_0 : plainName "com/example/moult/moult/data/LimitsStackBytesPinLaw" = true := by first | (simp [plainName, overriddenIn]; done) | decide +kernel
theorem ef_0 (m : MethodId) (p1 : Int32) (p2 : Int32) (p3 : Int32) : entryFrame m #[(.int p1), (.int p2), (.int p3)] maxLocals = mkF m 0 #[.val (.int p1), .val (.int p2), .val (.int p3), .unset, .unset, .unset, .unset, .unset, .unset, .unset, .unset, .unset, .unset, .unset, .unset] [] := by first | (simp [entryFrame, mkF, argsToLocals, Value.category, maxLocals]; done) | rfl
theorem pd_0 : parseMethodDescriptor "(II)I" = some ⟨[.int, .int], some .int⟩ := by decide +kernel
theorem pd_1 : parseMethodDescriptor "(II)V" = some ⟨[.int, .int], none⟩ := by decide +kernel
theorem pd_3 : parseMethodDescriptor "()J" = some ⟨[], some .long⟩ := by decide +kernel
def Q0 (Z : State) (p1 : Int32) (p2 : Int32) (p3 : Int32) (h0 : Heap) (n0 : Nat) (v : Option Value) (h : Heap) (L : List Loc) : Prop := v = some (.int (1 : Int32)) ∧ Fr n0 L
set_option maxRecDepth 65536 in
set_option maxHeartbeats 40000000 in
theorem rm0 (l : Launch) (Z : State) (a0 : Array Value) (hw : ∀ d ∈ tables_1, d.before a0 Z = true) (ws : List Jvm.Cond) (p1 : Int32) (p2 : Int32) (p3 : Int32) (h0 : Heap) (n0 : Nat) (Z0 : n0 ≤ h0.size) :
    MetFree l x (head1 (Jvm.Cond.code x code maxLocals ret :: ws) room_1) (fun a U => a = #[(.int p1), (.int p2), (.int p3)] ∧ Z.Warmed39 U.vm ∧ U.heap = h0) (fun _ _ _ _ _ => True) (fun _ U o U' => ∃ v L, o = .returned v ∧ Q0 Z p1 p2 p3 h0 n0 v U'.heap L ∧ FrameEnd U o U' L room_1.cells room_1.slots) := by
  refine MetFree.of_bodySF (plainFor_of_name pn_0) hisR ?_
  intro p e s m args below meth c s₁ Bd hml0 hP hK
  obtain ⟨rfl, hZ, hh⟩ := hP
  have hx := Bd.exec
  have hby := Bd.bytes
  have hml : c.maxLocals = 15 := hml0
  have hown : s.vm.findClass "com/example/moult/moult/data/LimitsStackBytesPinLaw" = some m.cls := findClass_of_methodNamed Bd.named
  have hnm := (name_of_methodNamed Bd.named Bd.method).1
  have X0 : Stand p l e room_1 s m #[(.int p1), (.int p2), (.int p3)] below meth c s₁ [] 0 0 := Stand.of_body Bd
  have e0 : s₁.heap = h0 := by rw [← hh, Bd.state]; rfl
  have N0 := Fr.nil n0
  have pre0 : ∀ t, Steps p.tables e below (s₁.setTop (mkF m 0 #[.val (.int p1), .val (.int p2), .val (.int p3), .unset, .unset, .unset, .unset, .unset, .unset, .unset, .unset, .unset, .unset, .unset, .unset] [])) t → Steps p.tables e below (s₁.setTop (entryFrame m #[(.int p1), (.int p2), (.int p3)] maxLocals)) t := fun t k => castTop (ef_0 m p1 p2 p3) k
  have K0 : Keep h0 h0 [] := Keep.refl h0 []
  obtain ⟨_, _, ⟨T1, L1, k1, n1⟩, -, X1, ⟨Lc1, hQ1, l1, y1, z1⟩, st1⟩ := Jvm.LawKit.callS X0 hx (y := (⟨"java/lang/Math", "max", "(II)I"⟩ : MethodName)) hown (mvT hZ (hw _ (List.mem_of_getElem? (i := 1) rfl))) (mvT hZ (hw _ (List.mem_of_getElem? (i := 2) rfl))) (mvT hZ (hw _ (List.mem_of_getElem? (i := 3) rfl))) (mvT hZ (hw _ (List.mem_of_getElem? (i := 4) rfl))) (by decide) (backOf (W := 0) (rm1 l Z a0 hw [] (1 : Int32) (p1 &&& (2147483647 : Int32)) h0 n0 Z0) hZ (hw _ (List.mem_of_getElem? (i := 4) rfl)) (hw _ (List.mem_of_getElem? (i := 3) rfl)) (by decide) (by decide)) (g := (mkF m 5 #[.val (.int p1), .val (.int p2), .val (.int p3), .unset, .unset, .unset, .unset, .unset, .unset, .unset, .unset, .unset, .unset, .unset, .unset] [(.int (p1 &&& (2147483647 : Int32))), (.int (1 : Int32))])) rfl (by rw [hml]; rfl) (argsL := [(.int (1 : Int32)), (.int (p1 &&& (2147483647 : Int32)))]) (rest := []) (lenOf pd_0 rfl) rfl (by show 2 * 0 + _ ≤ _; exact Nat.le_of_eq rfl) (hb hby at_5) (fun _ _ => ⟨rfl, e0, (by decide : 0 + 0 ≤ _), (by decide : 0 + 0 ≤ _)⟩)
  dsimp only [Pt.U, Pt.locs, Pt.cells, Pt.slots] at X1 l1 y1 z1 st1 hQ1
  subst l1 y1 z1
  obtain ⟨rfl, N1q, r1_0⟩ := hQ1
  have N1 := Fr.app N0 N1q
  obtain ⟨T2, h2, X2, e2, E2, A2, D2, -, st2⟩ := newO X1 hx hZ hown (hw _ (List.mem_of_getElem? (i := 6) rfl)) (hw _ (List.mem_of_getElem? (i := 7) rfl)) (hw _ (List.mem_of_getElem? (i := 8) rfl)) r1_0 (g := (mkF m 27 #[.val (.int p1), .val (.int p2), .val (.int p3), .val (.int (own_max (1 : Int32) (p1 &&& (2147483647 : Int32)))), .val (.int ((p2 &&& (2147483647 : Int32)) % (2147483640 : Int32))), .val (.int ((p3 &&& (2147483647 : Int32)) % (2147483640 : Int32))), .unset, .unset, .unset, .unset, .unset, .unset, .unset, .unset, .unset] [])) rfl (hb hby at_27) (by decide) (by decide)
  obtain ⟨b2, g2⟩ : ∃ z, z = h0.size := ⟨_, rfl⟩
  rw [← g2] at A2 D2 st2
  have g_b2 : n0 ≤ b2 := Nat.le_trans Z0 (Nat.le_of_eq g2.symm)
  have sz_b2 : h0.size ≤ b2 := Nat.le_trans K0.1 (Nat.le_of_eq g2.symm)
  have K2 : Keep h0 h2 [] := K0.ext E2
  have Z2 : n0 ≤ h2.size := Nat.le_trans Z0 E2.1
  have f3 : Fld Z h2 b2 "com/example/moult/moult/data/Limits" "maxDepth" "I" (.int (0 : Int32)) := D2 (Or.inr (hw _ (List.mem_of_getElem? (i := 17) rfl))) (ty := .int) (by decide)
  have f4 : Fld Z h2 b2 "com/example/moult/moult/data/Limits" "maxItems" "I" (.int (0 : Int32)) := D2 (Or.inr (hw _ (List.mem_of_getElem? (i := 19) rfl))) (ty := .int) (by decide)
  obtain ⟨_, _, ⟨T5, L5, k5, n5⟩, -, X5, ⟨Lc5, hQ5, l5, y5, z5⟩, st5⟩ := X2.specialBack hx (y := (⟨"com/example/moult/moult/data/Limits", "<init>", "(II)V"⟩ : MethodName)) rfl hown (mvT hZ (hw _ (List.mem_of_getElem? (i := 9) rfl))) (mvT hZ (hw _ (List.mem_of_getElem? (i := 10) rfl))) (mvT hZ (hw _ (List.mem_of_getElem? (i := 11) rfl))) (by decide) (backOf (W := 1) (rm2 l Z a0 hw [] b2 (own_max (1 : Int32) (p1 &&& (2147483647 : Int32))) ((p2 &&& (2147483647 : Int32)) % (2147483640 : Int32)) (.int (0 : Int32)) (.int (0 : Int32)) h2 n0 Z2 A2 f3 f4 g_b2 (own_pos p1) (own_i1 p2) (own_i2 p2)) hZ (hw _ (List.mem_of_getElem? (i := 11) rfl)) (hw _ (List.mem_of_getElem? (i := 8) rfl)) (by decide) (by decide)) (g := (mkF m 34 #[.val (.int p1), .val (.int p2), .val (.int p3), .val (.int (own_max (1 : Int32) (p1 &&& (2147483647 : Int32)))), .val (.int ((p2 &&& (2147483647 : Int32)) % (2147483640 : Int32))), .val (.int ((p3 &&& (2147483647 : Int32)) % (2147483640 : Int32))), .unset, .unset, .unset, .unset, .unset, .unset, .unset, .unset, .unset] [(.int ((p2 &&& (2147483647 : Int32)) % (2147483640 : Int32))), (.int (own_max (1 : Int32) (p1 &&& (2147483647 : Int32)))), (.ref b2), (.ref b2)])) rfl (by rw [hml]; rfl) (Steps.refl _) (a := b2) (argsL := [(.int (own_max (1 : Int32) (p1 &&& (2147483647 : Int32)))), (.int ((p2 &&& (2147483647 : Int32)) % (2147483640 : Int32)))]) (rest := [(.ref b2)]) (lenOf pd_1 rfl) rfl (by show 2 * 0 + _ ≤ _; exact Nat.le_of_eq rfl) (hb hby at_34) (fun _ _ => ⟨rfl, e2, (by decide : 1 + 0 ≤ _), (by decide : 2 + 0 ≤ _)⟩)
  dsimp only [Pt.U, Pt.locs, Pt.cells, Pt.slots] at X5 l5 y5 z5 st5 hQ5
  subst l5 y5 z5
  obtain ⟨rfl, N5q, r5_0, r5_1, r5_2⟩ := hQ5
  have N5 := Fr.app N1 N5q
  have f6 := A2.keep r5_0
  have K5 : Keep h0 T5.heap [] := K2.trans r5_0 (allS (Or.inr sz_b2) all0)
  have Z5 : n0 ≤ T5.heap.size := Nat.le_trans Z2 r5_0.1
  obtain ⟨T9, h9, X9, e9, E9, A9, D9, -, st9⟩ := newO X5 hx hZ hown (hw _ (List.mem_of_getElem? (i := 6) rfl)) (hw _ (List.mem_of_getElem? (i := 7) rfl)) (hw _ (List.mem_of_getElem? (i := 8) rfl)) rfl (g := (mkF m 39 #[.val (.int p1), .val (.int p2), .val (.int p3), .val (.int (own_max (1 : Int32) (p1 &&& (2147483647 : Int32)))), .val (.int ((p2 &&& (2147483647 : Int32)) % (2147483640 : Int32))), .val (.int ((p3 &&& (2147483647 : Int32)) % (2147483640 : Int32))), .val (.ref b2), .unset, .unset, .unset, .unset, .unset, .unset, .unset, .unset] [])) rfl (hb hby at_39) (by decide) (by decide)
  obtain ⟨b9, g9⟩ : ∃ z, z = T5.heap.size := ⟨_, rfl⟩
  rw [← g9] at A9 D9 st9
  have g_b9 : n0 ≤ b9 := Nat.le_trans Z5 (Nat.le_of_eq g9.symm)
  have sz_b9 : h0.size ≤ b9 := Nat.le_trans K5.1 (Nat.le_of_eq g9.symm)
  have ne10 : b2 ≠ b9 := Nat.ne_of_lt (Nat.lt_of_lt_of_le r5_1.lt (Nat.le_of_eq g9.symm))
  have f11 := r5_1.ext E9
  have f12 := r5_2.ext E9
  have K9 : Keep h0 h9 [] := K5.ext E9
  have Z9 : n0 ≤ h9.size := Nat.le_trans Z5 E9.1
  have f13 : Fld Z h9 b9 "com/example/moult/moult/data/Limits" "maxDepth" "I" (.int (0 : Int32)) := D9 (Or.inr (hw _ (List.mem_of_getElem? (i := 17) rfl))) (ty := .int) (by decide)
  have f14 : Fld Z h9 b9 "com/example/moult/moult/data/Limits" "maxItems" "I" (.int (0 : Int32)) := D9 (Or.inr (hw _ (List.mem_of_getElem? (i := 19) rfl))) (ty := .int) (by decide)
  obtain ⟨_, _, ⟨T15, L15, k15, n15⟩, -, X15, ⟨Lc15, hQ15, l15, y15, z15⟩, st15⟩ := X9.specialBack hx (y := (⟨"com/example/moult/moult/data/Limits", "<init>", "(II)V"⟩ : MethodName)) rfl hown (mvT hZ (hw _ (List.mem_of_getElem? (i := 9) rfl))) (mvT hZ (hw _ (List.mem_of_getElem? (i := 10) rfl))) (mvT hZ (hw _ (List.mem_of_getElem? (i := 11) rfl))) (by decide) (backOf (W := 1) (rm2 l Z a0 hw [] b9 (own_max (1 : Int32) (p1 &&& (2147483647 : Int32))) ((p3 &&& (2147483647 : Int32)) % (2147483640 : Int32)) (.int (0 : Int32)) (.int (0 : Int32)) h9 n0 Z9 A9 f13 f14 g_b9 (own_pos p1) (own_i1 p3) (own_i2 p3)) hZ (hw _ (List.mem_of_getElem? (i := 11) rfl)) (hw _ (List.mem_of_getElem? (i := 8) rfl)) (by decide) (by decide)) (g := (mkF m 46 #[.val (.int p1), .val (.int p2), .val (.int p3), .val (.int (own_max (1 : Int32) (p1 &&& (2147483647 : Int32)))), .val (.int ((p2 &&& (2147483647 : Int32)) % (2147483640 : Int32))), .val (.int ((p3 &&& (2147483647 : Int32)) % (2147483640 : Int32))), .val (.ref b2), .unset, .unset, .unset, .unset, .unset, .unset, .unset, .unset] [(.int ((p3 &&& (2147483647 : Int32)) % (2147483640 : Int32))), (.int (own_max (1 : Int32) (p1 &&& (2147483647 : Int32)))), (.ref b9), (.ref b9)])) rfl (by rw [hml]; rfl) (Steps.refl _) (a := b9) (argsL := [(.int (own_max (1 : Int32) (p1 &&& (2147483647 : Int32)))), (.int ((p3 &&& (2147483647 : Int32)) % (2147483640 : Int32)))]) (rest := [(.ref b9)]) (lenOf pd_1 rfl) rfl (by show 2 * 0 + _ ≤ _; exact Nat.le_of_eq rfl) (hb hby at_46) (fun _ _ => ⟨rfl, e9, (by decide : 2 + 0 ≤ _), (by decide : 4 + 0 ≤ _)⟩)
  dsimp only [Pt.U, Pt.locs, Pt.cells, Pt.slots] at X15 l15 y15 z15 st15 hQ15
  subst l15 y15 z15
  obtain ⟨rfl, N15q, r15_0, r15_1, r15_2⟩ := hQ15
  have N15 := Fr.app N5 N15q
  have f16 := f11.keep r15_0
  have f17 := f12.keep r15_0 (ninS ne10 nin0)
  have f18 := A9.keep r15_0
  have K15 : Keep h0 T15.heap [] := K9.trans r15_0 (allS (Or.inr sz_b9) all0)
  have Z15 : n0 ≤ T15.heap.size := Nat.le_trans Z9 r15_0.1
  obtain ⟨cq21, kq21, q21a, q21b, q21c⟩ := isOf hZ rfl f16
  obtain ⟨_, _, ⟨T21, L21, k21, n21⟩, -, X21, ⟨Lc21, hQ21, l21, y21, z21⟩, st21⟩ := X15.virtualBack hx (y := (⟨"com/example/moult/moult/data/Limits", "stackBytes", "()J"⟩ : MethodName)) (z := (⟨"com/example/moult/moult/data/Limits", "stackBytes", "()J"⟩ : MethodName)) hown (mvT hZ (hw _ (List.mem_of_getElem? (i := 20) rfl))) (mvT hZ (hw _ (List.mem_of_getElem? (i := 21) rfl))) (notFace_of_selects (args := #[]) (mvT hZ (hw _ (List.mem_of_getElem? (i := 23) rfl)))) (mvT hZ (hw _ (List.mem_of_getElem? (i := 23) rfl))) (mvT hZ (hw _ (List.mem_of_getElem? (i := 22) rfl))) (by decide) (backOf (W := 0) (rm4 l Z a0 hw [] b2 (own_max (1 : Int32) (p1 &&& (2147483647 : Int32))) T15.heap n0 Z15 f17) hZ (hw _ (List.mem_of_getElem? (i := 24) rfl)) (hw _ (List.mem_of_getElem? (i := 8) rfl)) (by decide) (by decide)) q21a q21c (g := (mkF m 53 #[.val (.int p1), .val (.int p2), .val (.int p3), .val (.int (own_max (1 : Int32) (p1 &&& (2147483647 : Int32)))), .val (.int ((p2 &&& (2147483647 : Int32)) % (2147483640 : Int32))), .val (.int ((p3 &&& (2147483647 : Int32)) % (2147483640 : Int32))), .val (.ref b2), .val (.ref b9), .unset, .unset, .unset, .unset, .unset, .unset, .unset] [(.ref b2)])) rfl (by rw [hml]; rfl) (Steps.refl _) (argsL := []) (rest := []) (lenOf pd_3 rfl) rfl (by show 2 * 0 + _ ≤ _; exact Nat.le_of_eq rfl) (hb hby at_53) (fun _ _ => ⟨rfl, rfl, (by decide : 2 + 0 ≤ _), (by decide : 4 + 0 ≤ _)⟩)
  dsimp only [Pt.U, Pt.locs, Pt.cells, Pt.slots] at X21 l21 y21 z21 st21 hQ21
  subst l21 y21 z21
  obtain ⟨rfl, N21q, r21_0⟩ := hQ21
  have N21 := Fr.app N15 N21q
  obtain ⟨cq22, kq22, q22a, q22b, q22c⟩ := isOf hZ r21_0 r15_1
  obtain ⟨_, _, ⟨T22, L22, k22, n22⟩, -, X22, ⟨Lc22, hQ22, l22, y22, z22⟩, st22⟩ := X21.virtualBack hx (y := (⟨"com/example/moult/moult/data/Limits", "stackBytes", "()J"⟩ : MethodName)) (z := (⟨"com/example/moult/moult/data/Limits", "stackBytes", "()J"⟩ : MethodName)) hown (mvT hZ (hw _ (List.mem_of_getElem? (i := 20) rfl))) (mvT hZ (hw _ (List.mem_of_getElem? (i := 21) rfl))) (notFace_of_selects (args := #[]) (mvT hZ (hw _ (List.mem_of_getElem? (i := 23) rfl)))) (mvT hZ (hw _ (List.mem_of_getElem? (i := 23) rfl))) (mvT hZ (hw _ (List.mem_of_getElem? (i := 22) rfl))) (by decide) (backOf (W := 0) (rm4 l Z a0 hw [] b9 (own_max (1 : Int32) (p1 &&& (2147483647 : Int32))) T15.heap n0 Z15 r15_2) hZ (hw _ (List.mem_of_getElem? (i := 24) rfl)) (hw _ (List.mem_of_getElem? (i := 8) rfl)) (by decide) (by decide)) q22a q22c (g := (mkF m 87 #[.val (.int p1), .val (.int p2), .val (.int p3), .val (.int (own_max (1 : Int32) (p1 &&& (2147483647 : Int32)))), .val (.int ((p2 &&& (2147483647 : Int32)) % (2147483640 : Int32))), .val (.int ((p3 &&& (2147483647 : Int32)) % (2147483640 : Int32))), .val (.ref b2), .val (.ref b9), .val (.long ((1048576 : Int64) + ((own_max (1 : Int32) (p1 &&& (2147483647 : Int32))).toInt64 * (3072 : Int64)))), .second, .val (.long ((1048576 : Int64) + ((3072 : Int64) * ((own_max (1 : Int32) (p1 &&& (2147483647 : Int32))).toInt64)))), .second, .val (.int (1 : Int32)), .unset, .unset] [(.ref b9)])) rfl (by rw [hml]; rfl) (Steps.refl _) (argsL := []) (rest := []) (lenOf pd_3 rfl) rfl (by show 2 * 0 + _ ≤ _; exact Nat.le_of_eq rfl) (hb hby at_87) (fun _ _ => ⟨rfl, r21_0, (by decide : 2 + 0 ≤ _), (by decide : 4 + 0 ≤ _)⟩)
  dsimp only [Pt.U, Pt.locs, Pt.cells, Pt.slots] at X22 l22 y22 z22 st22 hQ22
  subst l22 y22 z22
  obtain ⟨rfl, N22q, r22_0⟩ := hQ22
  have N22 := Fr.app N21 N22q
  obtain ⟨fs, hr, hrun, hended, hW, hsame⟩ := X22.leave (v := some (.int (1 : Int32))) (fun h => by rw [Bd.returns] at h; cases h)
  refine ⟨_, _, pre0 _ ?_, hrun, hended, _, _, rfl, ?_, ⟨_, rfl⟩, hW, hsame.mono (by decide) (by decide)⟩
  · show Steps p.tables e below (s₁.setTop (mkF m 0 #[.val (.int p1), .val (.int p2), .val (.int p3), .unset, .unset, .unset, .unset, .unset, .unset, .unset, .unset, .unset, .unset, .unset, .unset] [])) _
    refine XS.iconst X0.here hx rfl (hb hby at_0) ?_
    show Steps p.tables e below (s₁.setTop (mkF m 1 #[.val (.int p1), .val (.int p2), .val (.int p3), .unset, .unset, .unset, .unset, .unset, .unset, .unset, .unset, .unset, .unset, .unset, .unset] [(.int (1 : Int32))])) _
    refine XS.iloadN X0.here hx rfl (hb hby at_1) rfl ?_
    show Steps p.tables e below (s₁.setTop (mkF m 2 #[.val (.int p1), .val (.int p2), .val (.int p3), .unset, .unset, .unset, .unset, .unset, .unset, .unset, .unset, .unset, .unset, .unset, .unset] [(.int p1), (.int (1 : Int32))])) _
    refine X0.ldcInt hx hown (mvT hZ (hw _ (List.mem_of_getElem? (i := 0) rfl))) (g := (mkF m 2 #[.val (.int p1), .val (.int p2), .val (.int p3), .unset, .unset, .unset, .unset, .unset, .unset, .unset, .unset, .unset, .unset, .unset, .unset] [(.int p1), (.int (1 : Int32))])) rfl (hb hby at_2) _ ?_
    show Steps p.tables e below (s₁.setTop (mkF m 4 #[.val (.int p1), .val (.int p2), .val (.int p3), .unset, .unset, .unset, .unset, .unset, .unset, .unset, .unset, .unset, .unset, .unset, .unset] [(.int (2147483647 : Int32)), (.int p1), (.int (1 : Int32))])) _
    refine XS.iand X0.here hx rfl (hb hby at_4) rfl ?_
    show Steps p.tables e below (s₁.setTop (mkF m 5 #[.val (.int p1), .val (.int p2), .val (.int p3), .unset, .unset, .unset, .unset, .unset, .unset, .unset, .unset, .unset, .unset, .unset, .unset] [(.int (p1 &&& (2147483647 : Int32))), (.int (1 : Int32))])) _
    refine st1 _ ?_
    show Steps p.tables e below (T1.setTop (mkF m 8 #[.val (.int p1), .val (.int p2), .val (.int p3), .unset, .unset, .unset, .unset, .unset, .unset, .unset, .unset, .unset, .unset, .unset, .unset] [(.int (own_max (1 : Int32) (p1 &&& (2147483647 : Int32))))])) _
    refine XS.istoreN X1.here hx rfl (hb hby at_8) rfl (l' := #[.val (.int p1), .val (.int p2), .val (.int p3), .val (.int (own_max (1 : Int32) (p1 &&& (2147483647 : Int32)))), .unset, .unset, .unset, .unset, .unset, .unset, .unset, .unset, .unset, .unset, .unset]) rfl ?_
    show Steps p.tables e below (T1.setTop (mkF m 9 #[.val (.int p1), .val (.int p2), .val (.int p3), .val (.int (own_max (1 : Int32) (p1 &&& (2147483647 : Int32)))), .unset, .unset, .unset, .unset, .unset, .unset, .unset, .unset, .unset, .unset, .unset] [])) _
    refine XS.iloadN X1.here hx rfl (hb hby at_9) rfl ?_
    show Steps p.tables e below (T1.setTop (mkF m 10 #[.val (.int p1), .val (.int p2), .val (.int p3), .val (.int (own_max (1 : Int32) (p1 &&& (2147483647 : Int32)))), .unset, .unset, .unset, .unset, .unset, .unset, .unset, .unset, .unset, .unset, .unset] [(.int p2)])) _
    refine X1.ldcInt hx hown (mvT hZ (hw _ (List.mem_of_getElem? (i := 0) rfl))) (g := (mkF m 10 #[.val (.int p1), .val (.int p2), .val (.int p3), .val (.int (own_max (1 : Int32) (p1 &&& (2147483647 : Int32)))), .unset, .unset, .unset, .unset, .unset, .unset, .unset, .unset, .unset, .unset, .unset] [(.int p2)])) rfl (hb hby at_10) _ ?_
    show Steps p.tables e below (T1.setTop (mkF m 12 #[.val (.int p1), .val (.int p2), .val (.int p3), .val (.int (own_max (1 : Int32) (p1 &&& (2147483647 : Int32)))), .unset, .unset, .unset, .unset, .unset, .unset, .unset, .unset, .unset, .unset, .unset] [(.int (2147483647 : Int32)), (.int p2)])) _
    refine XS.iand X1.here hx rfl (hb hby at_12) rfl ?_
    show Steps p.tables e below (T1.setTop (mkF m 13 #[.val (.int p1), .val (.int p2), .val (.int p3), .val (.int (own_max (1 : Int32) (p1 &&& (2147483647 : Int32)))), .unset, .unset, .unset, .unset, .unset, .unset, .unset, .unset, .unset, .unset, .unset] [(.int (p2 &&& (2147483647 : Int32)))])) _
    refine X1.ldcInt hx hown (mvT hZ (hw _ (List.mem_of_getElem? (i := 5) rfl))) (g := (mkF m 13 #[.val (.int p1), .val (.int p2), .val (.int p3), .val (.int (own_max (1 : Int32) (p1 &&& (2147483647 : Int32)))), .unset, .unset, .unset, .unset, .unset, .unset, .unset, .unset, .unset, .unset, .unset] [(.int (p2 &&& (2147483647 : Int32)))])) rfl (hb hby at_13) _ ?_
    show Steps p.tables e below (T1.setTop (mkF m 15 #[.val (.int p1), .val (.int p2), .val (.int p3), .val (.int (own_max (1 : Int32) (p1 &&& (2147483647 : Int32)))), .unset, .unset, .unset, .unset, .unset, .unset, .unset, .unset, .unset, .unset, .unset] [(.int (2147483640 : Int32)), (.int (p2 &&& (2147483647 : Int32)))])) _
    refine iremM X1 hx rfl (hb hby at_15) rfl (by decide) ?_
    show Steps p.tables e below (T1.setTop (mkF m 16 #[.val (.int p1), .val (.int p2), .val (.int p3), .val (.int (own_max (1 : Int32) (p1 &&& (2147483647 : Int32)))), .unset, .unset, .unset, .unset, .unset, .unset, .unset, .unset, .unset, .unset, .unset] [(.int ((p2 &&& (2147483647 : Int32)) % (2147483640 : Int32)))])) _
    refine XS.istore X1.here hx rfl (hb hby at_16) rfl (l' := #[.val (.int p1), .val (.int p2), .val (.int p3), .val (.int (own_max (1 : Int32) (p1 &&& (2147483647 : Int32)))), .val (.int ((p2 &&& (2147483647 : Int32)) % (2147483640 : Int32))), .unset, .unset, .unset, .unset, .unset, .unset, .unset, .unset, .unset, .unset]) rfl ?_
    show Steps p.tables e below (T1.setTop (mkF m 18 #[.val (.int p1), .val (.int p2), .val (.int p3), .val (.int (own_max (1 : Int32) (p1 &&& (2147483647 : Int32)))), .val (.int ((p2 &&& (2147483647 : Int32)) % (2147483640 : Int32))), .unset, .unset, .unset, .unset, .unset, .unset, .unset, .unset, .unset, .unset] [])) _
    refine XS.iloadN X1.here hx rfl (hb hby at_18) rfl ?_
    show Steps p.tables e below (T1.setTop (mkF m 19 #[.val (.int p1), .val (.int p2), .val (.int p3), .val (.int (own_max (1 : Int32) (p1 &&& (2147483647 : Int32)))), .val (.int ((p2 &&& (2147483647 : Int32)) % (2147483640 : Int32))), .unset, .unset, .unset, .unset, .unset, .unset, .unset, .unset, .unset, .unset] [(.int p3)])) _
    refine X1.ldcInt hx hown (mvT hZ (hw _ (List.mem_of_getElem? (i := 0) rfl))) (g := (mkF m 19 #[.val (.int p1), .val (.int p2), .val (.int p3), .val (.int (own_max (1 : Int32) (p1 &&& (2147483647 : Int32)))), .val (.int ((p2 &&& (2147483647 : Int32)) % (2147483640 : Int32))), .unset, .unset, .unset, .unset, .unset, .unset, .unset, .unset, .unset, .unset] [(.int p3)])) rfl (hb hby at_19) _ ?_
    show Steps p.tables e below (T1.setTop (mkF m 21 #[.val (.int p1), .val (.int p2), .val (.int p3), .val (.int (own_max (1 : Int32) (p1 &&& (2147483647 : Int32)))), .val (.int ((p2 &&& (2147483647 : Int32)) % (2147483640 : Int32))), .unset, .unset, .unset, .unset, .unset, .unset, .unset, .unset, .unset, .unset] [(.int (2147483647 : Int32)), (.int p3)])) _
    refine XS.iand X1.here hx rfl (hb hby at_21) rfl ?_
    show Steps p.tables e below (T1.setTop (mkF m 22 #[.val (.int p1), .val (.int p2), .val (.int p3), .val (.int (own_max (1 : Int32) (p1 &&& (2147483647 : Int32)))), .val (.int ((p2 &&& (2147483647 : Int32)) % (2147483640 : Int32))), .unset, .unset, .unset, .unset, .unset, .unset, .unset, .unset, .unset, .unset] [(.int (p3 &&& (2147483647 : Int32)))])) _
    refine X1.ldcInt hx hown (mvT hZ (hw _ (List.mem_of_getElem? (i := 5) rfl))) (g := (mkF m 22 #[.val (.int p1), .val (.int p2), .val (.int p3), .val (.int (own_max (1 : Int32) (p1 &&& (2147483647 : Int32)))), .val (.int ((p2 &&& (2147483647 : Int32)) % (2147483640 : Int32))), .unset, .unset, .unset, .unset, .unset, .unset, .unset, .unset, .unset, .unset] [(.int (p3 &&& (2147483647 : Int32)))])) rfl (hb hby at_22) _ ?_
    show Steps p.tables e below (T1.setTop (mkF m 24 #[.val (.int p1), .val (.int p2), .val (.int p3), .val (.int (own_max (1 : Int32) (p1 &&& (2147483647 : Int32)))), .val (.int ((p2 &&& (2147483647 : Int32)) % (2147483640 : Int32))), .unset, .unset, .unset, .unset, .unset, .unset, .unset, .unset, .unset, .unset] [(.int (2147483640 : Int32)), (.int (p3 &&& (2147483647 : Int32)))])) _
    refine iremM X1 hx rfl (hb hby at_24) rfl (by decide) ?_
    show Steps p.tables e below (T1.setTop (mkF m 25 #[.val (.int p1), .val (.int p2), .val (.int p3), .val (.int (own_max (1 : Int32) (p1 &&& (2147483647 : Int32)))), .val (.int ((p2 &&& (2147483647 : Int32)) % (2147483640 : Int32))), .unset, .unset, .unset, .unset, .unset, .unset, .unset, .unset, .unset, .unset] [(.int ((p3 &&& (2147483647 : Int32)) % (2147483640 : Int32)))])) _
    refine XS.istore X1.here hx rfl (hb hby at_25) rfl (l' := #[.val (.int p1), .val (.int p2), .val (.int p3), .val (.int (own_max (1 : Int32) (p1 &&& (2147483647 : Int32)))), .val (.int ((p2 &&& (2147483647 : Int32)) % (2147483640 : Int32))), .val (.int ((p3 &&& (2147483647 : Int32)) % (2147483640 : Int32))), .unset, .unset, .unset, .unset, .unset, .unset, .unset, .unset, .unset]) rfl ?_
    show Steps p.tables e below (T1.setTop (mkF m 27 #[.val (.int p1), .val (.int p2), .val (.int p3), .val (.int (own_max (1 : Int32) (p1 &&& (2147483647 : Int32)))), .val (.int ((p2 &&& (2147483647 : Int32)) % (2147483640 : Int32))), .val (.int ((p3 &&& (2147483647 : Int32)) % (2147483640 : Int32))), .unset, .unset, .unset, .unset, .unset, .unset, .unset, .unset, .unset] [])) _
    refine st2 _ ?_
    show Steps p.tables e below (T2.setTop (mkF m 30 #[.val (.int p1), .val (.int p2), .val (.int p3), .val (.int (own_max (1 : Int32) (p1 &&& (2147483647 : Int32)))), .val (.int ((p2 &&& (2147483647 : Int32)) % (2147483640 : Int32))), .val (.int ((p3 &&& (2147483647 : Int32)) % (2147483640 : Int32))), .unset, .unset, .unset, .unset, .unset, .unset, .unset, .unset, .unset] [(.ref b2)])) _
    refine XS.dup X2.here hx rfl (hb hby at_30) rfl rfl ?_
    show Steps p.tables e below (T2.setTop (mkF m 31 #[.val (.int p1), .val (.int p2), .val (.int p3), .val (.int (own_max (1 : Int32) (p1 &&& (2147483647 : Int32)))), .val (.int ((p2 &&& (2147483647 : Int32)) % (2147483640 : Int32))), .val (.int ((p3 &&& (2147483647 : Int32)) % (2147483640 : Int32))), .unset, .unset, .unset, .unset, .unset, .unset, .unset, .unset, .unset] [(.ref b2), (.ref b2)])) _
    refine XS.iloadN X2.here hx rfl (hb hby at_31) rfl ?_
    show Steps p.tables e below (T2.setTop (mkF m 32 #[.val (.int p1), .val (.int p2), .val (.int p3), .val (.int (own_max (1 : Int32) (p1 &&& (2147483647 : Int32)))), .val (.int ((p2 &&& (2147483647 : Int32)) % (2147483640 : Int32))), .val (.int ((p3 &&& (2147483647 : Int32)) % (2147483640 : Int32))), .unset, .unset, .unset, .unset, .unset, .unset, .unset, .unset, .unset] [(.int (own_max (1 : Int32) (p1 &&& (2147483647 : Int32)))), (.ref b2), (.ref b2)])) _
    refine XS.iload X2.here hx rfl (hb hby at_32) rfl ?_
    show Steps p.tables e below (T2.setTop (mkF m 34 #[.val (.int p1), .val (.int p2), .val (.int p3), .val (.int (own_max (1 : Int32) (p1 &&& (2147483647 : Int32)))), .val (.int ((p2 &&& (2147483647 : Int32)) % (2147483640 : Int32))), .val (.int ((p3 &&& (2147483647 : Int32)) % (2147483640 : Int32))), .unset, .unset, .unset, .unset, .unset, .unset, .unset, .unset, .unset] [(.int ((p2 &&& (2147483647 : Int32)) % (2147483640 : Int32))), (.int (own_max (1 : Int32) (p1 &&& (2147483647 : Int32)))), (.ref b2), (.ref b2)])) _
    refine st5.trans ?_
    show Steps p.tables e below (T5.setTop (mkF m 37 #[.val (.int p1), .val (.int p2), .val (.int p3), .val (.int (own_max (1 : Int32) (p1 &&& (2147483647 : Int32)))), .val (.int ((p2 &&& (2147483647 : Int32)) % (2147483640 : Int32))), .val (.int ((p3 &&& (2147483647 : Int32)) % (2147483640 : Int32))), .unset, .unset, .unset, .unset, .unset, .unset, .unset, .unset, .unset] [(.ref b2)])) _
    refine XS.astore X5.here hx rfl (hb hby at_37) rfl rfl (l' := #[.val (.int p1), .val (.int p2), .val (.int p3), .val (.int (own_max (1 : Int32) (p1 &&& (2147483647 : Int32)))), .val (.int ((p2 &&& (2147483647 : Int32)) % (2147483640 : Int32))), .val (.int ((p3 &&& (2147483647 : Int32)) % (2147483640 : Int32))), .val (.ref b2), .unset, .unset, .unset, .unset, .unset, .unset, .unset, .unset]) rfl ?_
    show Steps p.tables e below (T5.setTop (mkF m 39 #[.val (.int p1), .val (.int p2), .val (.int p3), .val (.int (own_max (1 : Int32) (p1 &&& (2147483647 : Int32)))), .val (.int ((p2 &&& (2147483647 : Int32)) % (2147483640 : Int32))), .val (.int ((p3 &&& (2147483647 : Int32)) % (2147483640 : Int32))), .val (.ref b2), .unset, .unset, .unset, .unset, .unset, .unset, .unset, .unset] [])) _
    refine st9 _ ?_
    show Steps p.tables e below (T9.setTop (mkF m 42 #[.val (.int p1), .val (.int p2), .val (.int p3), .val (.int (own_max (1 : Int32) (p1 &&& (2147483647 : Int32)))), .val (.int ((p2 &&& (2147483647 : Int32)) % (2147483640 : Int32))), .val (.int ((p3 &&& (2147483647 : Int32)) % (2147483640 : Int32))), .val (.ref b2), .unset, .unset, .unset, .unset, .unset, .unset, .unset, .unset] [(.ref b9)])) _
    refine XS.dup X9.here hx rfl (hb hby at_42) rfl rfl ?_
    show Steps p.tables e below (T9.setTop (mkF m 43 #[.val (.int p1), .val (.int p2), .val (.int p3), .val (.int (own_max (1 : Int32) (p1 &&& (2147483647 : Int32)))), .val (.int ((p2 &&& (2147483647 : Int32)) % (2147483640 : Int32))), .val (.int ((p3 &&& (2147483647 : Int32)) % (2147483640 : Int32))), .val (.ref b2), .unset, .unset, .unset, .unset, .unset, .unset, .unset, .unset] [(.ref b9), (.ref b9)])) _
    refine XS.iloadN X9.here hx rfl (hb hby at_43) rfl ?_
    show Steps p.tables e below (T9.setTop (mkF m 44 #[.val (.int p1), .val (.int p2), .val (.int p3), .val (.int (own_max (1 : Int32) (p1 &&& (2147483647 : Int32)))), .val (.int ((p2 &&& (2147483647 : Int32)) % (2147483640 : Int32))), .val (.int ((p3 &&& (2147483647 : Int32)) % (2147483640 : Int32))), .val (.ref b2), .unset, .unset, .unset, .unset, .unset, .unset, .unset, .unset] [(.int (own_max (1 : Int32) (p1 &&& (2147483647 : Int32)))), (.ref b9), (.ref b9)])) _
    refine XS.iload X9.here hx rfl (hb hby at_44) rfl ?_
    show Steps p.tables e below (T9.setTop (mkF m 46 #[.val (.int p1), .val (.int p2), .val (.int p3), .val (.int (own_max (1 : Int32) (p1 &&& (2147483647 : Int32)))), .val (.int ((p2 &&& (2147483647 : Int32)) % (2147483640 : Int32))), .val (.int ((p3 &&& (2147483647 : Int32)) % (2147483640 : Int32))), .val (.ref b2), .unset, .unset, .unset, .unset, .unset, .unset, .unset, .unset] [(.int ((p3 &&& (2147483647 : Int32)) % (2147483640 : Int32))), (.int (own_max (1 : Int32) (p1 &&& (2147483647 : Int32)))), (.ref b9), (.ref b9)])) _
    refine st15.trans ?_
    show Steps p.tables e below (T15.setTop (mkF m 49 #[.val (.int p1), .val (.int p2), .val (.int p3), .val (.int (own_max (1 : Int32) (p1 &&& (2147483647 : Int32)))), .val (.int ((p2 &&& (2147483647 : Int32)) % (2147483640 : Int32))), .val (.int ((p3 &&& (2147483647 : Int32)) % (2147483640 : Int32))), .val (.ref b2), .unset, .unset, .unset, .unset, .unset, .unset, .unset, .unset] [(.ref b9)])) _
    refine XS.astore X15.here hx rfl (hb hby at_49) rfl rfl (l' := #[.val (.int p1), .val (.int p2), .val (.int p3), .val (.int (own_max (1 : Int32) (p1 &&& (2147483647 : Int32)))), .val (.int ((p2 &&& (2147483647 : Int32)) % (2147483640 : Int32))), .val (.int ((p3 &&& (2147483647 : Int32)) % (2147483640 : Int32))), .val (.ref b2), .val (.ref b9), .unset, .unset, .unset, .unset, .unset, .unset, .unset]) rfl ?_
    show Steps p.tables e below (T15.setTop (mkF m 51 #[.val (.int p1), .val (.int p2), .val (.int p3), .val (.int (own_max (1 : Int32) (p1 &&& (2147483647 : Int32)))), .val (.int ((p2 &&& (2147483647 : Int32)) % (2147483640 : Int32))), .val (.int ((p3 &&& (2147483647 : Int32)) % (2147483640 : Int32))), .val (.ref b2), .val (.ref b9), .unset, .unset, .unset, .unset, .unset, .unset, .unset] [])) _
    refine XS.aload X15.here hx rfl (hb hby at_51) rfl rfl ?_
    show Steps p.tables e below (T15.setTop (mkF m 53 #[.val (.int p1), .val (.int p2), .val (.int p3), .val (.int (own_max (1 : Int32) (p1 &&& (2147483647 : Int32)))), .val (.int ((p2 &&& (2147483647 : Int32)) % (2147483640 : Int32))), .val (.int ((p3 &&& (2147483647 : Int32)) % (2147483640 : Int32))), .val (.ref b2), .val (.ref b9), .unset, .unset, .unset, .unset, .unset, .unset, .unset] [(.ref b2)])) _
    refine st21.trans ?_
    show Steps p.tables e below (T21.setTop (mkF m 56 #[.val (.int p1), .val (.int p2), .val (.int p3), .val (.int (own_max (1 : Int32) (p1 &&& (2147483647 : Int32)))), .val (.int ((p2 &&& (2147483647 : Int32)) % (2147483640 : Int32))), .val (.int ((p3 &&& (2147483647 : Int32)) % (2147483640 : Int32))), .val (.ref b2), .val (.ref b9), .unset, .unset, .unset, .unset, .unset, .unset, .unset] [(.long ((1048576 : Int64) + ((own_max (1 : Int32) (p1 &&& (2147483647 : Int32))).toInt64 * (3072 : Int64))))])) _
    refine XS.lstore X21.here hx rfl (hb hby at_56) rfl (l' := #[.val (.int p1), .val (.int p2), .val (.int p3), .val (.int (own_max (1 : Int32) (p1 &&& (2147483647 : Int32)))), .val (.int ((p2 &&& (2147483647 : Int32)) % (2147483640 : Int32))), .val (.int ((p3 &&& (2147483647 : Int32)) % (2147483640 : Int32))), .val (.ref b2), .val (.ref b9), .val (.long ((1048576 : Int64) + ((own_max (1 : Int32) (p1 &&& (2147483647 : Int32))).toInt64 * (3072 : Int64)))), .second, .unset, .unset, .unset, .unset, .unset]) rfl ?_
    show Steps p.tables e below (T21.setTop (mkF m 58 #[.val (.int p1), .val (.int p2), .val (.int p3), .val (.int (own_max (1 : Int32) (p1 &&& (2147483647 : Int32)))), .val (.int ((p2 &&& (2147483647 : Int32)) % (2147483640 : Int32))), .val (.int ((p3 &&& (2147483647 : Int32)) % (2147483640 : Int32))), .val (.ref b2), .val (.ref b9), .val (.long ((1048576 : Int64) + ((own_max (1 : Int32) (p1 &&& (2147483647 : Int32))).toInt64 * (3072 : Int64)))), .second, .unset, .unset, .unset, .unset, .unset] [])) _
    refine X21.ldc2Long hx hown (mvT hZ (hw _ (List.mem_of_getElem? (i := 27) rfl))) (g := (mkF m 58 #[.val (.int p1), .val (.int p2), .val (.int p3), .val (.int (own_max (1 : Int32) (p1 &&& (2147483647 : Int32)))), .val (.int ((p2 &&& (2147483647 : Int32)) % (2147483640 : Int32))), .val (.int ((p3 &&& (2147483647 : Int32)) % (2147483640 : Int32))), .val (.ref b2), .val (.ref b9), .val (.long ((1048576 : Int64) + ((own_max (1 : Int32) (p1 &&& (2147483647 : Int32))).toInt64 * (3072 : Int64)))), .second, .unset, .unset, .unset, .unset, .unset] [])) rfl (hb hby at_58) _ ?_
    show Steps p.tables e below (T21.setTop (mkF m 61 #[.val (.int p1), .val (.int p2), .val (.int p3), .val (.int (own_max (1 : Int32) (p1 &&& (2147483647 : Int32)))), .val (.int ((p2 &&& (2147483647 : Int32)) % (2147483640 : Int32))), .val (.int ((p3 &&& (2147483647 : Int32)) % (2147483640 : Int32))), .val (.ref b2), .val (.ref b9), .val (.long ((1048576 : Int64) + ((own_max (1 : Int32) (p1 &&& (2147483647 : Int32))).toInt64 * (3072 : Int64)))), .second, .unset, .unset, .unset, .unset, .unset] [(.long (1048576 : Int64))])) _
    refine X21.ldc2Long hx hown (mvT hZ (hw _ (List.mem_of_getElem? (i := 28) rfl))) (g := (mkF m 61 #[.val (.int p1), .val (.int p2), .val (.int p3), .val (.int (own_max (1 : Int32) (p1 &&& (2147483647 : Int32)))), .val (.int ((p2 &&& (2147483647 : Int32)) % (2147483640 : Int32))), .val (.int ((p3 &&& (2147483647 : Int32)) % (2147483640 : Int32))), .val (.ref b2), .val (.ref b9), .val (.long ((1048576 : Int64) + ((own_max (1 : Int32) (p1 &&& (2147483647 : Int32))).toInt64 * (3072 : Int64)))), .second, .unset, .unset, .unset, .unset, .unset] [(.long (1048576 : Int64))])) rfl (hb hby at_61) _ ?_
    show Steps p.tables e below (T21.setTop (mkF m 64 #[.val (.int p1), .val (.int p2), .val (.int p3), .val (.int (own_max (1 : Int32) (p1 &&& (2147483647 : Int32)))), .val (.int ((p2 &&& (2147483647 : Int32)) % (2147483640 : Int32))), .val (.int ((p3 &&& (2147483647 : Int32)) % (2147483640 : Int32))), .val (.ref b2), .val (.ref b9), .val (.long ((1048576 : Int64) + ((own_max (1 : Int32) (p1 &&& (2147483647 : Int32))).toInt64 * (3072 : Int64)))), .second, .unset, .unset, .unset, .unset, .unset] [(.long (3072 : Int64)), (.long (1048576 : Int64))])) _
    refine XS.iloadN X21.here hx rfl (hb hby at_64) rfl ?_
    show Steps p.tables e below (T21.setTop (mkF m 65 #[.val (.int p1), .val (.int p2), .val (.int p3), .val (.int (own_max (1 : Int32) (p1 &&& (2147483647 : Int32)))), .val (.int ((p2 &&& (2147483647 : Int32)) % (2147483640 : Int32))), .val (.int ((p3 &&& (2147483647 : Int32)) % (2147483640 : Int32))), .val (.ref b2), .val (.ref b9), .val (.long ((1048576 : Int64) + ((own_max (1 : Int32) (p1 &&& (2147483647 : Int32))).toInt64 * (3072 : Int64)))), .second, .unset, .unset, .unset, .unset, .unset] [(.int (own_max (1 : Int32) (p1 &&& (2147483647 : Int32)))), (.long (3072 : Int64)), (.long (1048576 : Int64))])) _
    refine XS.i2l X21.here hx rfl (hb hby at_65) rfl ?_
    show Steps p.tables e below (T21.setTop (mkF m 66 #[.val (.int p1), .val (.int p2), .val (.int p3), .val (.int (own_max (1 : Int32) (p1 &&& (2147483647 : Int32)))), .val (.int ((p2 &&& (2147483647 : Int32)) % (2147483640 : Int32))), .val (.int ((p3 &&& (2147483647 : Int32)) % (2147483640 : Int32))), .val (.ref b2), .val (.ref b9), .val (.long ((1048576 : Int64) + ((own_max (1 : Int32) (p1 &&& (2147483647 : Int32))).toInt64 * (3072 : Int64)))), .second, .unset, .unset, .unset, .unset, .unset] [(.long ((own_max (1 : Int32) (p1 &&& (2147483647 : Int32))).toInt64)), (.long (3072 : Int64)), (.long (1048576 : Int64))])) _
    refine XS.lmul X21.here hx rfl (hb hby at_66) rfl ?_
    show Steps p.tables e below (T21.setTop (mkF m 67 #[.val (.int p1), .val (.int p2), .val (.int p3), .val (.int (own_max (1 : Int32) (p1 &&& (2147483647 : Int32)))), .val (.int ((p2 &&& (2147483647 : Int32)) % (2147483640 : Int32))), .val (.int ((p3 &&& (2147483647 : Int32)) % (2147483640 : Int32))), .val (.ref b2), .val (.ref b9), .val (.long ((1048576 : Int64) + ((own_max (1 : Int32) (p1 &&& (2147483647 : Int32))).toInt64 * (3072 : Int64)))), .second, .unset, .unset, .unset, .unset, .unset] [(.long ((3072 : Int64) * ((own_max (1 : Int32) (p1 &&& (2147483647 : Int32))).toInt64))), (.long (1048576 : Int64))])) _
    refine XS.ladd X21.here hx rfl (hb hby at_67) rfl ?_
    show Steps p.tables e below (T21.setTop (mkF m 68 #[.val (.int p1), .val (.int p2), .val (.int p3), .val (.int (own_max (1 : Int32) (p1 &&& (2147483647 : Int32)))), .val (.int ((p2 &&& (2147483647 : Int32)) % (2147483640 : Int32))), .val (.int ((p3 &&& (2147483647 : Int32)) % (2147483640 : Int32))), .val (.ref b2), .val (.ref b9), .val (.long ((1048576 : Int64) + ((own_max (1 : Int32) (p1 &&& (2147483647 : Int32))).toInt64 * (3072 : Int64)))), .second, .unset, .unset, .unset, .unset, .unset] [(.long ((1048576 : Int64) + ((3072 : Int64) * ((own_max (1 : Int32) (p1 &&& (2147483647 : Int32))).toInt64))))])) _
    refine XS.lstore X21.here hx rfl (hb hby at_68) rfl (l' := #[.val (.int p1), .val (.int p2), .val (.int p3), .val (.int (own_max (1 : Int32) (p1 &&& (2147483647 : Int32)))), .val (.int ((p2 &&& (2147483647 : Int32)) % (2147483640 : Int32))), .val (.int ((p3 &&& (2147483647 : Int32)) % (2147483640 : Int32))), .val (.ref b2), .val (.ref b9), .val (.long ((1048576 : Int64) + ((own_max (1 : Int32) (p1 &&& (2147483647 : Int32))).toInt64 * (3072 : Int64)))), .second, .val (.long ((1048576 : Int64) + ((3072 : Int64) * ((own_max (1 : Int32) (p1 &&& (2147483647 : Int32))).toInt64)))), .second, .unset, .unset, .unset]) rfl ?_
    show Steps p.tables e below (T21.setTop (mkF m 70 #[.val (.int p1), .val (.int p2), .val (.int p3), .val (.int (own_max (1 : Int32) (p1 &&& (2147483647 : Int32)))), .val (.int ((p2 &&& (2147483647 : Int32)) % (2147483640 : Int32))), .val (.int ((p3 &&& (2147483647 : Int32)) % (2147483640 : Int32))), .val (.ref b2), .val (.ref b9), .val (.long ((1048576 : Int64) + ((own_max (1 : Int32) (p1 &&& (2147483647 : Int32))).toInt64 * (3072 : Int64)))), .second, .val (.long ((1048576 : Int64) + ((3072 : Int64) * ((own_max (1 : Int32) (p1 &&& (2147483647 : Int32))).toInt64)))), .second, .unset, .unset, .unset] [])) _
    refine XS.lload X21.here hx rfl (hb hby at_70) rfl ?_
    show Steps p.tables e below (T21.setTop (mkF m 72 #[.val (.int p1), .val (.int p2), .val (.int p3), .val (.int (own_max (1 : Int32) (p1 &&& (2147483647 : Int32)))), .val (.int ((p2 &&& (2147483647 : Int32)) % (2147483640 : Int32))), .val (.int ((p3 &&& (2147483647 : Int32)) % (2147483640 : Int32))), .val (.ref b2), .val (.ref b9), .val (.long ((1048576 : Int64) + ((own_max (1 : Int32) (p1 &&& (2147483647 : Int32))).toInt64 * (3072 : Int64)))), .second, .val (.long ((1048576 : Int64) + ((3072 : Int64) * ((own_max (1 : Int32) (p1 &&& (2147483647 : Int32))).toInt64)))), .second, .unset, .unset, .unset] [(.long ((1048576 : Int64) + ((own_max (1 : Int32) (p1 &&& (2147483647 : Int32))).toInt64 * (3072 : Int64))))])) _
    refine XS.lload X21.here hx rfl (hb hby at_72) rfl ?_
    show Steps p.tables e below (T21.setTop (mkF m 74 #[.val (.int p1), .val (.int p2), .val (.int p3), .val (.int (own_max (1 : Int32) (p1 &&& (2147483647 : Int32)))), .val (.int ((p2 &&& (2147483647 : Int32)) % (2147483640 : Int32))), .val (.int ((p3 &&& (2147483647 : Int32)) % (2147483640 : Int32))), .val (.ref b2), .val (.ref b9), .val (.long ((1048576 : Int64) + ((own_max (1 : Int32) (p1 &&& (2147483647 : Int32))).toInt64 * (3072 : Int64)))), .second, .val (.long ((1048576 : Int64) + ((3072 : Int64) * ((own_max (1 : Int32) (p1 &&& (2147483647 : Int32))).toInt64)))), .second, .unset, .unset, .unset] [(.long ((1048576 : Int64) + ((3072 : Int64) * ((own_max (1 : Int32) (p1 &&& (2147483647 : Int32))).toInt64)))), (.long ((1048576 : Int64) + ((own_max (1 : Int32) (p1 &&& (2147483647 : Int32))).toInt64 * (3072 : Int64))))])) _
    refine XS.lcmp X21.here hx rfl (hb hby at_74) rfl ?_
    show Steps p.tables e below (T21.setTop (mkF m 75 #[.val (.int p1), .val (.int p2), .val (.int p3), .val (.int (own_max (1 : Int32) (p1 &&& (2147483647 : Int32)))), .val (.int ((p2 &&& (2147483647 : Int32)) % (2147483640 : Int32))), .val (.int ((p3 &&& (2147483647 : Int32)) % (2147483640 : Int32))), .val (.ref b2), .val (.ref b9), .val (.long ((1048576 : Int64) + ((own_max (1 : Int32) (p1 &&& (2147483647 : Int32))).toInt64 * (3072 : Int64)))), .second, .val (.long ((1048576 : Int64) + ((3072 : Int64) * ((own_max (1 : Int32) (p1 &&& (2147483647 : Int32))).toInt64)))), .second, .unset, .unset, .unset] [(.int (lcmpW ((1048576 : Int64) + ((own_max (1 : Int32) (p1 &&& (2147483647 : Int32))).toInt64 * (3072 : Int64))) ((1048576 : Int64) + ((3072 : Int64) * ((own_max (1 : Int32) (p1 &&& (2147483647 : Int32))).toInt64)))))])) _
    refine XS.ifNo X21.here hx rfl (hb hby at_75) rfl ((if0 _ _).trans (teq ((lw_eq _ _).mpr (own_eq _ : (((1048576 : Int64) + ((own_max (1 : Int32) (p1 &&& (2147483647 : Int32))).toInt64 * (3072 : Int64))) = ((1048576 : Int64) + ((3072 : Int64) * ((own_max (1 : Int32) (p1 &&& (2147483647 : Int32))).toInt64))))))).2) ?_
    show Steps p.tables e below (T21.setTop (mkF m 78 #[.val (.int p1), .val (.int p2), .val (.int p3), .val (.int (own_max (1 : Int32) (p1 &&& (2147483647 : Int32)))), .val (.int ((p2 &&& (2147483647 : Int32)) % (2147483640 : Int32))), .val (.int ((p3 &&& (2147483647 : Int32)) % (2147483640 : Int32))), .val (.ref b2), .val (.ref b9), .val (.long ((1048576 : Int64) + ((own_max (1 : Int32) (p1 &&& (2147483647 : Int32))).toInt64 * (3072 : Int64)))), .second, .val (.long ((1048576 : Int64) + ((3072 : Int64) * ((own_max (1 : Int32) (p1 &&& (2147483647 : Int32))).toInt64)))), .second, .unset, .unset, .unset] [])) _
    refine XS.iconst X21.here hx rfl (hb hby at_78) ?_
    show Steps p.tables e below (T21.setTop (mkF m 79 #[.val (.int p1), .val (.int p2), .val (.int p3), .val (.int (own_max (1 : Int32) (p1 &&& (2147483647 : Int32)))), .val (.int ((p2 &&& (2147483647 : Int32)) % (2147483640 : Int32))), .val (.int ((p3 &&& (2147483647 : Int32)) % (2147483640 : Int32))), .val (.ref b2), .val (.ref b9), .val (.long ((1048576 : Int64) + ((own_max (1 : Int32) (p1 &&& (2147483647 : Int32))).toInt64 * (3072 : Int64)))), .second, .val (.long ((1048576 : Int64) + ((3072 : Int64) * ((own_max (1 : Int32) (p1 &&& (2147483647 : Int32))).toInt64)))), .second, .unset, .unset, .unset] [(.int (1 : Int32))])) _
    refine XS.goto X21.here hx rfl (pc0 := 79) (pc' := 83) rfl (hb hby at_79) (by decide) (by decide) ?_
    show Steps p.tables e below (T21.setTop (mkF m 83 #[.val (.int p1), .val (.int p2), .val (.int p3), .val (.int (own_max (1 : Int32) (p1 &&& (2147483647 : Int32)))), .val (.int ((p2 &&& (2147483647 : Int32)) % (2147483640 : Int32))), .val (.int ((p3 &&& (2147483647 : Int32)) % (2147483640 : Int32))), .val (.ref b2), .val (.ref b9), .val (.long ((1048576 : Int64) + ((own_max (1 : Int32) (p1 &&& (2147483647 : Int32))).toInt64 * (3072 : Int64)))), .second, .val (.long ((1048576 : Int64) + ((3072 : Int64) * ((own_max (1 : Int32) (p1 &&& (2147483647 : Int32))).toInt64)))), .second, .unset, .unset, .unset] [(.int (1 : Int32))])) _
    refine XS.istore X21.here hx rfl (hb hby at_83) rfl (l' := #[.val (.int p1), .val (.int p2), .val (.int p3), .val (.int (own_max (1 : Int32) (p1 &&& (2147483647 : Int32)))), .val (.int ((p2 &&& (2147483647 : Int32)) % (2147483640 : Int32))), .val (.int ((p3 &&& (2147483647 : Int32)) % (2147483640 : Int32))), .val (.ref b2), .val (.ref b9), .val (.long ((1048576 : Int64) + ((own_max (1 : Int32) (p1 &&& (2147483647 : Int32))).toInt64 * (3072 : Int64)))), .second, .val (.long ((1048576 : Int64) + ((3072 : Int64) * ((own_max (1 : Int32) (p1 &&& (2147483647 : Int32))).toInt64)))), .second, .val (.int (1 : Int32)), .unset, .unset]) rfl ?_
    show Steps p.tables e below (T21.setTop (mkF m 85 #[.val (.int p1), .val (.int p2), .val (.int p3), .val (.int (own_max (1 : Int32) (p1 &&& (2147483647 : Int32)))), .val (.int ((p2 &&& (2147483647 : Int32)) % (2147483640 : Int32))), .val (.int ((p3 &&& (2147483647 : Int32)) % (2147483640 : Int32))), .val (.ref b2), .val (.ref b9), .val (.long ((1048576 : Int64) + ((own_max (1 : Int32) (p1 &&& (2147483647 : Int32))).toInt64 * (3072 : Int64)))), .second, .val (.long ((1048576 : Int64) + ((3072 : Int64) * ((own_max (1 : Int32) (p1 &&& (2147483647 : Int32))).toInt64)))), .second, .val (.int (1 : Int32)), .unset, .unset] [])) _
    refine XS.aload X21.here hx rfl (hb hby at_85) rfl rfl ?_
    show Steps p.tables e below (T21.setTop (mkF m 87 #[.val (.int p1), .val (.int p2), .val (.int p3), .val (.int (own_max (1 : Int32) (p1 &&& (2147483647 : Int32)))), .val (.int ((p2 &&& (2147483647 : Int32)) % (2147483640 : Int32))), .val (.int ((p3 &&& (2147483647 : Int32)) % (2147483640 : Int32))), .val (.ref b2), .val (.ref b9), .val (.long ((1048576 : Int64) + ((own_max (1 : Int32) (p1 &&& (2147483647 : Int32))).toInt64 * (3072 : Int64)))), .second, .val (.long ((1048576 : Int64) + ((3072 : Int64) * ((own_max (1 : Int32) (p1 &&& (2147483647 : Int32))).toInt64)))), .second, .val (.int (1 : Int32)), .unset, .unset] [(.ref b9)])) _
    refine st22.trans ?_
    show Steps p.tables e below (T22.setTop (mkF m 90 #[.val (.int p1), .val (.int p2), .val (.int p3), .val (.int (own_max (1 : Int32) (p1 &&& (2147483647 : Int32)))), .val (.int ((p2 &&& (2147483647 : Int32)) % (2147483640 : Int32))), .val (.int ((p3 &&& (2147483647 : Int32)) % (2147483640 : Int32))), .val (.ref b2), .val (.ref b9), .val (.long ((1048576 : Int64) + ((own_max (1 : Int32) (p1 &&& (2147483647 : Int32))).toInt64 * (3072 : Int64)))), .second, .val (.long ((1048576 : Int64) + ((3072 : Int64) * ((own_max (1 : Int32) (p1 &&& (2147483647 : Int32))).toInt64)))), .second, .val (.int (1 : Int32)), .unset, .unset] [(.long ((1048576 : Int64) + ((own_max (1 : Int32) (p1 &&& (2147483647 : Int32))).toInt64 * (3072 : Int64))))])) _
    refine XS.lload X22.here hx rfl (hb hby at_90) rfl ?_
    show Steps p.tables e below (T22.setTop (mkF m 92 #[.val (.int p1), .val (.int p2), .val (.int p3), .val (.int (own_max (1 : Int32) (p1 &&& (2147483647 : Int32)))), .val (.int ((p2 &&& (2147483647 : Int32)) % (2147483640 : Int32))), .val (.int ((p3 &&& (2147483647 : Int32)) % (2147483640 : Int32))), .val (.ref b2), .val (.ref b9), .val (.long ((1048576 : Int64) + ((own_max (1 : Int32) (p1 &&& (2147483647 : Int32))).toInt64 * (3072 : Int64)))), .second, .val (.long ((1048576 : Int64) + ((3072 : Int64) * ((own_max (1 : Int32) (p1 &&& (2147483647 : Int32))).toInt64)))), .second, .val (.int (1 : Int32)), .unset, .unset] [(.long ((1048576 : Int64) + ((own_max (1 : Int32) (p1 &&& (2147483647 : Int32))).toInt64 * (3072 : Int64)))), (.long ((1048576 : Int64) + ((own_max (1 : Int32) (p1 &&& (2147483647 : Int32))).toInt64 * (3072 : Int64))))])) _
    refine XS.lcmp X22.here hx rfl (hb hby at_92) rfl ?_
    show Steps p.tables e below (T22.setTop (mkF m 93 #[.val (.int p1), .val (.int p2), .val (.int p3), .val (.int (own_max (1 : Int32) (p1 &&& (2147483647 : Int32)))), .val (.int ((p2 &&& (2147483647 : Int32)) % (2147483640 : Int32))), .val (.int ((p3 &&& (2147483647 : Int32)) % (2147483640 : Int32))), .val (.ref b2), .val (.ref b9), .val (.long ((1048576 : Int64) + ((own_max (1 : Int32) (p1 &&& (2147483647 : Int32))).toInt64 * (3072 : Int64)))), .second, .val (.long ((1048576 : Int64) + ((3072 : Int64) * ((own_max (1 : Int32) (p1 &&& (2147483647 : Int32))).toInt64)))), .second, .val (.int (1 : Int32)), .unset, .unset] [(.int (lcmpW ((1048576 : Int64) + ((own_max (1 : Int32) (p1 &&& (2147483647 : Int32))).toInt64 * (3072 : Int64))) ((1048576 : Int64) + ((own_max (1 : Int32) (p1 &&& (2147483647 : Int32))).toInt64 * (3072 : Int64)))))])) _
    refine XS.ifNo X22.here hx rfl (hb hby at_93) rfl ((if0 _ _).trans (teq ((lw_eq _ _).mpr (rfl : ((1048576 : Int64) + ((own_max (1 : Int32) (p1 &&& (2147483647 : Int32))).toInt64 * (3072 : Int64))) = ((1048576 : Int64) + ((own_max (1 : Int32) (p1 &&& (2147483647 : Int32))).toInt64 * (3072 : Int64)))))).2) ?_
    show Steps p.tables e below (T22.setTop (mkF m 96 #[.val (.int p1), .val (.int p2), .val (.int p3), .val (.int (own_max (1 : Int32) (p1 &&& (2147483647 : Int32)))), .val (.int ((p2 &&& (2147483647 : Int32)) % (2147483640 : Int32))), .val (.int ((p3 &&& (2147483647 : Int32)) % (2147483640 : Int32))), .val (.ref b2), .val (.ref b9), .val (.long ((1048576 : Int64) + ((own_max (1 : Int32) (p1 &&& (2147483647 : Int32))).toInt64 * (3072 : Int64)))), .second, .val (.long ((1048576 : Int64) + ((3072 : Int64) * ((own_max (1 : Int32) (p1 &&& (2147483647 : Int32))).toInt64)))), .second, .val (.int (1 : Int32)), .unset, .unset] [])) _
    refine XS.iconst X22.here hx rfl (hb hby at_96) ?_
    show Steps p.tables e below (T22.setTop (mkF m 97 #[.val (.int p1), .val (.int p2), .val (.int p3), .val (.int (own_max (1 : Int32) (p1 &&& (2147483647 : Int32)))), .val (.int ((p2 &&& (2147483647 : Int32)) % (2147483640 : Int32))), .val (.int ((p3 &&& (2147483647 : Int32)) % (2147483640 : Int32))), .val (.ref b2), .val (.ref b9), .val (.long ((1048576 : Int64) + ((own_max (1 : Int32) (p1 &&& (2147483647 : Int32))).toInt64 * (3072 : Int64)))), .second, .val (.long ((1048576 : Int64) + ((3072 : Int64) * ((own_max (1 : Int32) (p1 &&& (2147483647 : Int32))).toInt64)))), .second, .val (.int (1 : Int32)), .unset, .unset] [(.int (1 : Int32))])) _
    refine XS.goto X22.here hx rfl (pc0 := 97) (pc' := 101) rfl (hb hby at_97) (by decide) (by decide) ?_
    show Steps p.tables e below (T22.setTop (mkF m 101 #[.val (.int p1), .val (.int p2), .val (.int p3), .val (.int (own_max (1 : Int32) (p1 &&& (2147483647 : Int32)))), .val (.int ((p2 &&& (2147483647 : Int32)) % (2147483640 : Int32))), .val (.int ((p3 &&& (2147483647 : Int32)) % (2147483640 : Int32))), .val (.ref b2), .val (.ref b9), .val (.long ((1048576 : Int64) + ((own_max (1 : Int32) (p1 &&& (2147483647 : Int32))).toInt64 * (3072 : Int64)))), .second, .val (.long ((1048576 : Int64) + ((3072 : Int64) * ((own_max (1 : Int32) (p1 &&& (2147483647 : Int32))).toInt64)))), .second, .val (.int (1 : Int32)), .unset, .unset] [(.int (1 : Int32))])) _
    refine XS.istore X22.here hx rfl (hb hby at_101) rfl (l' := #[.val (.int p1), .val (.int p2), .val (.int p3), .val (.int (own_max (1 : Int32) (p1 &&& (2147483647 : Int32)))), .val (.int ((p2 &&& (2147483647 : Int32)) % (2147483640 : Int32))), .val (.int ((p3 &&& (2147483647 : Int32)) % (2147483640 : Int32))), .val (.ref b2), .val (.ref b9), .val (.long ((1048576 : Int64) + ((own_max (1 : Int32) (p1 &&& (2147483647 : Int32))).toInt64 * (3072 : Int64)))), .second, .val (.long ((1048576 : Int64) + ((3072 : Int64) * ((own_max (1 : Int32) (p1 &&& (2147483647 : Int32))).toInt64)))), .second, .val (.int (1 : Int32)), .val (.int (1 : Int32)), .unset]) rfl ?_
    show Steps p.tables e below (T22.setTop (mkF m 103 #[.val (.int p1), .val (.int p2), .val (.int p3), .val (.int (own_max (1 : Int32) (p1 &&& (2147483647 : Int32)))), .val (.int ((p2 &&& (2147483647 : Int32)) % (2147483640 : Int32))), .val (.int ((p3 &&& (2147483647 : Int32)) % (2147483640 : Int32))), .val (.ref b2), .val (.ref b9), .val (.long ((1048576 : Int64) + ((own_max (1 : Int32) (p1 &&& (2147483647 : Int32))).toInt64 * (3072 : Int64)))), .second, .val (.long ((1048576 : Int64) + ((3072 : Int64) * ((own_max (1 : Int32) (p1 &&& (2147483647 : Int32))).toInt64)))), .second, .val (.int (1 : Int32)), .val (.int (1 : Int32)), .unset] [])) _
    refine XS.lload X22.here hx rfl (hb hby at_103) rfl ?_
    show Steps p.tables e below (T22.setTop (mkF m 105 #[.val (.int p1), .val (.int p2), .val (.int p3), .val (.int (own_max (1 : Int32) (p1 &&& (2147483647 : Int32)))), .val (.int ((p2 &&& (2147483647 : Int32)) % (2147483640 : Int32))), .val (.int ((p3 &&& (2147483647 : Int32)) % (2147483640 : Int32))), .val (.ref b2), .val (.ref b9), .val (.long ((1048576 : Int64) + ((own_max (1 : Int32) (p1 &&& (2147483647 : Int32))).toInt64 * (3072 : Int64)))), .second, .val (.long ((1048576 : Int64) + ((3072 : Int64) * ((own_max (1 : Int32) (p1 &&& (2147483647 : Int32))).toInt64)))), .second, .val (.int (1 : Int32)), .val (.int (1 : Int32)), .unset] [(.long ((1048576 : Int64) + ((own_max (1 : Int32) (p1 &&& (2147483647 : Int32))).toInt64 * (3072 : Int64))))])) _
    refine X22.ldc2Long hx hown (mvT hZ (hw _ (List.mem_of_getElem? (i := 27) rfl))) (g := (mkF m 105 #[.val (.int p1), .val (.int p2), .val (.int p3), .val (.int (own_max (1 : Int32) (p1 &&& (2147483647 : Int32)))), .val (.int ((p2 &&& (2147483647 : Int32)) % (2147483640 : Int32))), .val (.int ((p3 &&& (2147483647 : Int32)) % (2147483640 : Int32))), .val (.ref b2), .val (.ref b9), .val (.long ((1048576 : Int64) + ((own_max (1 : Int32) (p1 &&& (2147483647 : Int32))).toInt64 * (3072 : Int64)))), .second, .val (.long ((1048576 : Int64) + ((3072 : Int64) * ((own_max (1 : Int32) (p1 &&& (2147483647 : Int32))).toInt64)))), .second, .val (.int (1 : Int32)), .val (.int (1 : Int32)), .unset] [(.long ((1048576 : Int64) + ((own_max (1 : Int32) (p1 &&& (2147483647 : Int32))).toInt64 * (3072 : Int64))))])) rfl (hb hby at_105) _ ?_
    show Steps p.tables e below (T22.setTop (mkF m 108 #[.val (.int p1), .val (.int p2), .val (.int p3), .val (.int (own_max (1 : Int32) (p1 &&& (2147483647 : Int32)))), .val (.int ((p2 &&& (2147483647 : Int32)) % (2147483640 : Int32))), .val (.int ((p3 &&& (2147483647 : Int32)) % (2147483640 : Int32))), .val (.ref b2), .val (.ref b9), .val (.long ((1048576 : Int64) + ((own_max (1 : Int32) (p1 &&& (2147483647 : Int32))).toInt64 * (3072 : Int64)))), .second, .val (.long ((1048576 : Int64) + ((3072 : Int64) * ((own_max (1 : Int32) (p1 &&& (2147483647 : Int32))).toInt64)))), .second, .val (.int (1 : Int32)), .val (.int (1 : Int32)), .unset] [(.long (1048576 : Int64)), (.long ((1048576 : Int64) + ((own_max (1 : Int32) (p1 &&& (2147483647 : Int32))).toInt64 * (3072 : Int64))))])) _
    refine XS.lcmp X22.here hx rfl (hb hby at_108) rfl ?_
    show Steps p.tables e below (T22.setTop (mkF m 109 #[.val (.int p1), .val (.int p2), .val (.int p3), .val (.int (own_max (1 : Int32) (p1 &&& (2147483647 : Int32)))), .val (.int ((p2 &&& (2147483647 : Int32)) % (2147483640 : Int32))), .val (.int ((p3 &&& (2147483647 : Int32)) % (2147483640 : Int32))), .val (.ref b2), .val (.ref b9), .val (.long ((1048576 : Int64) + ((own_max (1 : Int32) (p1 &&& (2147483647 : Int32))).toInt64 * (3072 : Int64)))), .second, .val (.long ((1048576 : Int64) + ((3072 : Int64) * ((own_max (1 : Int32) (p1 &&& (2147483647 : Int32))).toInt64)))), .second, .val (.int (1 : Int32)), .val (.int (1 : Int32)), .unset] [(.int (lcmpW ((1048576 : Int64) + ((own_max (1 : Int32) (p1 &&& (2147483647 : Int32))).toInt64 * (3072 : Int64))) (1048576 : Int64)))])) _
    refine XS.ifNo X22.here hx rfl (hb hby at_109) rfl ((if0 _ _).trans (tlt ((lw_gt _ _).mpr (own_above _ (own_pos p1) : ((1048576 : Int64) < ((1048576 : Int64) + ((own_max (1 : Int32) (p1 &&& (2147483647 : Int32))).toInt64 * (3072 : Int64))))))).2.2.2) ?_
    show Steps p.tables e below (T22.setTop (mkF m 112 #[.val (.int p1), .val (.int p2), .val (.int p3), .val (.int (own_max (1 : Int32) (p1 &&& (2147483647 : Int32)))), .val (.int ((p2 &&& (2147483647 : Int32)) % (2147483640 : Int32))), .val (.int ((p3 &&& (2147483647 : Int32)) % (2147483640 : Int32))), .val (.ref b2), .val (.ref b9), .val (.long ((1048576 : Int64) + ((own_max (1 : Int32) (p1 &&& (2147483647 : Int32))).toInt64 * (3072 : Int64)))), .second, .val (.long ((1048576 : Int64) + ((3072 : Int64) * ((own_max (1 : Int32) (p1 &&& (2147483647 : Int32))).toInt64)))), .second, .val (.int (1 : Int32)), .val (.int (1 : Int32)), .unset] [])) _
    refine XS.iconst X22.here hx rfl (hb hby at_112) ?_
    show Steps p.tables e below (T22.setTop (mkF m 113 #[.val (.int p1), .val (.int p2), .val (.int p3), .val (.int (own_max (1 : Int32) (p1 &&& (2147483647 : Int32)))), .val (.int ((p2 &&& (2147483647 : Int32)) % (2147483640 : Int32))), .val (.int ((p3 &&& (2147483647 : Int32)) % (2147483640 : Int32))), .val (.ref b2), .val (.ref b9), .val (.long ((1048576 : Int64) + ((own_max (1 : Int32) (p1 &&& (2147483647 : Int32))).toInt64 * (3072 : Int64)))), .second, .val (.long ((1048576 : Int64) + ((3072 : Int64) * ((own_max (1 : Int32) (p1 &&& (2147483647 : Int32))).toInt64)))), .second, .val (.int (1 : Int32)), .val (.int (1 : Int32)), .unset] [(.int (1 : Int32))])) _
    refine XS.goto X22.here hx rfl (pc0 := 113) (pc' := 117) rfl (hb hby at_113) (by decide) (by decide) ?_
    show Steps p.tables e below (T22.setTop (mkF m 117 #[.val (.int p1), .val (.int p2), .val (.int p3), .val (.int (own_max (1 : Int32) (p1 &&& (2147483647 : Int32)))), .val (.int ((p2 &&& (2147483647 : Int32)) % (2147483640 : Int32))), .val (.int ((p3 &&& (2147483647 : Int32)) % (2147483640 : Int32))), .val (.ref b2), .val (.ref b9), .val (.long ((1048576 : Int64) + ((own_max (1 : Int32) (p1 &&& (2147483647 : Int32))).toInt64 * (3072 : Int64)))), .second, .val (.long ((1048576 : Int64) + ((3072 : Int64) * ((own_max (1 : Int32) (p1 &&& (2147483647 : Int32))).toInt64)))), .second, .val (.int (1 : Int32)), .val (.int (1 : Int32)), .unset] [(.int (1 : Int32))])) _
    refine XS.istore X22.here hx rfl (hb hby at_117) rfl (l' := #[.val (.int p1), .val (.int p2), .val (.int p3), .val (.int (own_max (1 : Int32) (p1 &&& (2147483647 : Int32)))), .val (.int ((p2 &&& (2147483647 : Int32)) % (2147483640 : Int32))), .val (.int ((p3 &&& (2147483647 : Int32)) % (2147483640 : Int32))), .val (.ref b2), .val (.ref b9), .val (.long ((1048576 : Int64) + ((own_max (1 : Int32) (p1 &&& (2147483647 : Int32))).toInt64 * (3072 : Int64)))), .second, .val (.long ((1048576 : Int64) + ((3072 : Int64) * ((own_max (1 : Int32) (p1 &&& (2147483647 : Int32))).toInt64)))), .second, .val (.int (1 : Int32)), .val (.int (1 : Int32)), .val (.int (1 : Int32))]) rfl ?_
    show Steps p.tables e below (T22.setTop (mkF m 119 #[.val (.int p1), .val (.int p2), .val (.int p3), .val (.int (own_max (1 : Int32) (p1 &&& (2147483647 : Int32)))), .val (.int ((p2 &&& (2147483647 : Int32)) % (2147483640 : Int32))), .val (.int ((p3 &&& (2147483647 : Int32)) % (2147483640 : Int32))), .val (.ref b2), .val (.ref b9), .val (.long ((1048576 : Int64) + ((own_max (1 : Int32) (p1 &&& (2147483647 : Int32))).toInt64 * (3072 : Int64)))), .second, .val (.long ((1048576 : Int64) + ((3072 : Int64) * ((own_max (1 : Int32) (p1 &&& (2147483647 : Int32))).toInt64)))), .second, .val (.int (1 : Int32)), .val (.int (1 : Int32)), .val (.int (1 : Int32))] [])) _
    refine XS.iload X22.here hx rfl (hb hby at_119) rfl ?_
    show Steps p.tables e below (T22.setTop (mkF m 121 #[.val (.int p1), .val (.int p2), .val (.int p3), .val (.int (own_max (1 : Int32) (p1 &&& (2147483647 : Int32)))), .val (.int ((p2 &&& (2147483647 : Int32)) % (2147483640 : Int32))), .val (.int ((p3 &&& (2147483647 : Int32)) % (2147483640 : Int32))), .val (.ref b2), .val (.ref b9), .val (.long ((1048576 : Int64) + ((own_max (1 : Int32) (p1 &&& (2147483647 : Int32))).toInt64 * (3072 : Int64)))), .second, .val (.long ((1048576 : Int64) + ((3072 : Int64) * ((own_max (1 : Int32) (p1 &&& (2147483647 : Int32))).toInt64)))), .second, .val (.int (1 : Int32)), .val (.int (1 : Int32)), .val (.int (1 : Int32))] [(.int (1 : Int32))])) _
    refine XS.ifNo X22.here hx rfl (hb hby at_121) rfl ((if0 _ _).trans (feq (by decide : ¬ ((1 : Int32) = (0 : Int32)))).1) ?_
    show Steps p.tables e below (T22.setTop (mkF m 124 #[.val (.int p1), .val (.int p2), .val (.int p3), .val (.int (own_max (1 : Int32) (p1 &&& (2147483647 : Int32)))), .val (.int ((p2 &&& (2147483647 : Int32)) % (2147483640 : Int32))), .val (.int ((p3 &&& (2147483647 : Int32)) % (2147483640 : Int32))), .val (.ref b2), .val (.ref b9), .val (.long ((1048576 : Int64) + ((own_max (1 : Int32) (p1 &&& (2147483647 : Int32))).toInt64 * (3072 : Int64)))), .second, .val (.long ((1048576 : Int64) + ((3072 : Int64) * ((own_max (1 : Int32) (p1 &&& (2147483647 : Int32))).toInt64)))), .second, .val (.int (1 : Int32)), .val (.int (1 : Int32)), .val (.int (1 : Int32))] [])) _
    refine XS.iload X22.here hx rfl (hb hby at_124) rfl ?_
    show Steps p.tables e below (T22.setTop (mkF m 126 #[.val (.int p1), .val (.int p2), .val (.int p3), .val (.int (own_max (1 : Int32) (p1 &&& (2147483647 : Int32)))), .val (.int ((p2 &&& (2147483647 : Int32)) % (2147483640 : Int32))), .val (.int ((p3 &&& (2147483647 : Int32)) % (2147483640 : Int32))), .val (.ref b2), .val (.ref b9), .val (.long ((1048576 : Int64) + ((own_max (1 : Int32) (p1 &&& (2147483647 : Int32))).toInt64 * (3072 : Int64)))), .second, .val (.long ((1048576 : Int64) + ((3072 : Int64) * ((own_max (1 : Int32) (p1 &&& (2147483647 : Int32))).toInt64)))), .second, .val (.int (1 : Int32)), .val (.int (1 : Int32)), .val (.int (1 : Int32))] [(.int (1 : Int32))])) _
    refine XS.ifNo X22.here hx rfl (hb hby at_126) rfl ((if0 _ _).trans (feq (by decide : ¬ ((1 : Int32) = (0 : Int32)))).1) ?_
    show Steps p.tables e below (T22.setTop (mkF m 129 #[.val (.int p1), .val (.int p2), .val (.int p3), .val (.int (own_max (1 : Int32) (p1 &&& (2147483647 : Int32)))), .val (.int ((p2 &&& (2147483647 : Int32)) % (2147483640 : Int32))), .val (.int ((p3 &&& (2147483647 : Int32)) % (2147483640 : Int32))), .val (.ref b2), .val (.ref b9), .val (.long ((1048576 : Int64) + ((own_max (1 : Int32) (p1 &&& (2147483647 : Int32))).toInt64 * (3072 : Int64)))), .second, .val (.long ((1048576 : Int64) + ((3072 : Int64) * ((own_max (1 : Int32) (p1 &&& (2147483647 : Int32))).toInt64)))), .second, .val (.int (1 : Int32)), .val (.int (1 : Int32)), .val (.int (1 : Int32))] [])) _
    refine XS.iload X22.here hx rfl (hb hby at_129) rfl ?_
    show Steps p.tables e below (T22.setTop (mkF m 131 #[.val (.int p1), .val (.int p2), .val (.int p3), .val (.int (own_max (1 : Int32) (p1 &&& (2147483647 : Int32)))), .val (.int ((p2 &&& (2147483647 : Int32)) % (2147483640 : Int32))), .val (.int ((p3 &&& (2147483647 : Int32)) % (2147483640 : Int32))), .val (.ref b2), .val (.ref b9), .val (.long ((1048576 : Int64) + ((own_max (1 : Int32) (p1 &&& (2147483647 : Int32))).toInt64 * (3072 : Int64)))), .second, .val (.long ((1048576 : Int64) + ((3072 : Int64) * ((own_max (1 : Int32) (p1 &&& (2147483647 : Int32))).toInt64)))), .second, .val (.int (1 : Int32)), .val (.int (1 : Int32)), .val (.int (1 : Int32))] [(.int (1 : Int32))])) _
    refine XS.ifNo X22.here hx rfl (hb hby at_131) rfl ((if0 _ _).trans (feq (by decide : ¬ ((1 : Int32) = (0 : Int32)))).1) ?_
    show Steps p.tables e below (T22.setTop (mkF m 134 #[.val (.int p1), .val (.int p2), .val (.int p3), .val (.int (own_max (1 : Int32) (p1 &&& (2147483647 : Int32)))), .val (.int ((p2 &&& (2147483647 : Int32)) % (2147483640 : Int32))), .val (.int ((p3 &&& (2147483647 : Int32)) % (2147483640 : Int32))), .val (.ref b2), .val (.ref b9), .val (.long ((1048576 : Int64) + ((own_max (1 : Int32) (p1 &&& (2147483647 : Int32))).toInt64 * (3072 : Int64)))), .second, .val (.long ((1048576 : Int64) + ((3072 : Int64) * ((own_max (1 : Int32) (p1 &&& (2147483647 : Int32))).toInt64)))), .second, .val (.int (1 : Int32)), .val (.int (1 : Int32)), .val (.int (1 : Int32))] [])) _
    refine XS.iconst X22.here hx rfl (hb hby at_134) ?_
    show Steps p.tables e below (T22.setTop (mkF m 135 #[.val (.int p1), .val (.int p2), .val (.int p3), .val (.int (own_max (1 : Int32) (p1 &&& (2147483647 : Int32)))), .val (.int ((p2 &&& (2147483647 : Int32)) % (2147483640 : Int32))), .val (.int ((p3 &&& (2147483647 : Int32)) % (2147483640 : Int32))), .val (.ref b2), .val (.ref b9), .val (.long ((1048576 : Int64) + ((own_max (1 : Int32) (p1 &&& (2147483647 : Int32))).toInt64 * (3072 : Int64)))), .second, .val (.long ((1048576 : Int64) + ((3072 : Int64) * ((own_max (1 : Int32) (p1 &&& (2147483647 : Int32))).toInt64)))), .second, .val (.int (1 : Int32)), .val (.int (1 : Int32)), .val (.int (1 : Int32))] [(.int (1 : Int32))])) _
    refine XS.goto X22.here hx rfl (pc0 := 135) (pc' := 139) rfl (hb hby at_135) (by decide) (by decide) ?_
    show Steps p.tables e below (T22.setTop (mkF m 139 #[.val (.int p1), .val (.int p2), .val (.int p3), .val (.int (own_max (1 : Int32) (p1 &&& (2147483647 : Int32)))), .val (.int ((p2 &&& (2147483647 : Int32)) % (2147483640 : Int32))), .val (.int ((p3 &&& (2147483647 : Int32)) % (2147483640 : Int32))), .val (.ref b2), .val (.ref b9), .val (.long ((1048576 : Int64) + ((own_max (1 : Int32) (p1 &&& (2147483647 : Int32))).toInt64 * (3072 : Int64)))), .second, .val (.long ((1048576 : Int64) + ((3072 : Int64) * ((own_max (1 : Int32) (p1 &&& (2147483647 : Int32))).toInt64)))), .second, .val (.int (1 : Int32)), .val (.int (1 : Int32)), .val (.int (1 : Int32))] [(.int (1 : Int32))])) _
    exact retN X22 hx (t := .boolean) Bd.returns (by simp) (hb hby at_139) hr
  · show Q0 Z p1 p2 p3 h0 n0 _ T22.heap _
    rw [r22_0]
    exact ⟨rfl, N22⟩
set_option maxRecDepth 65536 in
set_option maxHeartbeats 40000000 in
theorem comes_1 {Post : Tables → Env → Array Value → State → Outcome → State → Prop} (hpost : ∀ tb e args s v u, (limb_1_1.after args s (.returned v) u = true ∧ limb_1_2.after args s (.returned v) u = true ∧ True) → FrameEnd s (.returned v) u (Jvm.fieldLocs frame_1_writes args s ++ Jvm.arrayLocs frame_1_arrays args s ++ Jvm.staticLocs frame_1_statics s) 16 128 → Post tb e args s (.returned v) u) :
    ArmFor flags0 classFile x code maxLocals ret World_1 tables_1 room_1 Calls_1 rest_1 Pre_1 Post := by
  intro l hfl _ _ p e ha hc hk s m args below hf hA hF happ hP
  obtain ⟨hcalls, hrest, hpre⟩ := hP
  obtain ⟨-, -, -, hnamed, -, -, -, hat⟩ := (Spec.applies_iff hf).mp happ
  obtain ⟨hg, hn⟩ := and_e (Cond.before_iff.mp (show (Jvm.Cond.and given_1 narrow_1).before args s = true from hpre))
  obtain ⟨g1, g2⟩ := and_e hg
  obtain ⟨g3, g4⟩ := and_e g2
  obtain ⟨g5, g6⟩ := and_e g4
  obtain ⟨w0, w1, w2, rfl⟩ : ∃ w0 w1 w2 : Value, args = #[w0, w1, w2] := by
    have hs : args.size = 3 := by simpa [Cond.value, given_1] using g1
    obtain ⟨L⟩ := args
    match L, hs with
    | [w0, w1, w2], _ => exact ⟨w0, w1, w2, rfl⟩
  have hw := fun d (hd : d ∈ tables_1) => atoms_spec (ws := Jvm.Cond.code x code maxLocals ret :: tables_1) hat d (List.mem_cons_of_mem _ hd)
  have hfit : Fit s := fun {y c} hc i hi => by
    obtain ⟨ha, rfl⟩ := Array.getElem?_eq_some_iff.mp hc
    have q := List.all_eq_true.mp ((Array.all_eq_true_iff_forall_mem.mp hF) _ (Array.getElem_mem ha)) i (List.mem_range.mpr hi)
    simpa [Array.getElem?_eq_getElem hi] using q
  obtain ⟨i0, ei0⟩ := is_v g3
  obtain rfl : w0 = (.int i0) := Option.some.inj ei0
  obtain ⟨i1, ei1⟩ := is_v g5
  obtain rfl : w1 = (.int i1) := Option.some.inj ei1
  obtain ⟨i2, ei2⟩ := is_v g6
  obtain rfl : w2 = (.int i2) := Option.some.inj ei2
  obtain ⟨n, o, h1, h2, h3, _, L, rfl, ⟨rfl, N⟩, hq⟩ := rm0 l s _ hw tables_1 i0 i1 i2  s.heap s.heap.size (Nat.le_refl _)  p e ha hc hk s m _ below hf ((Spec.applies_iff_loose hf).mp happ).1 ⟨rfl, State.Warmed39.refl s, rfl⟩ trivial
  refine ⟨n, _, h1, h2, h3, hpost _ _ _ _ _ _ ⟨Cond.after_iff.mpr rfl, Cond.after_iff.mpr (eq_i res_at (Term.int_eval (1)) rfl), trivial⟩ ⟨hq.1, hq.2.1, (hq.2.2.sift fun y hy => Or.inr (N y hy)).mono (by decide) (by decide)⟩⟩
theorem main_1_1 : Claimed_1_1 := comes_1 fun _ _ _ _ _ _ h hF => ⟨h.1, hF⟩
theorem main_1_2 : Claimed_1_2 := comes_1 fun _ _ _ _ _ _ h hF => ⟨h.2.1, hF⟩
end Jvm.Pilot.@@N@@
namespace Jvm.Pilot.@@N@@
open Jvm Jvm.ClassFile Sem Op Lib Jvm.Free Jvm.Stand Jvm.Pilot.@@N@@.Jvm.D
/-! MADE BY PROGRAM (witnessworld.py) out of the Statement's table words and the real class files: 10 classes; the members and pool entries that the words name. The judged class is class 1, her method 1. -/
namespace start1
open Jvm.ClassFile
def u (s : String) : CpInfo := .utf8 (stringToUtf16 s)
/-- a pool by its gaps: so many unusable entries, then the entry; so many at the end -/
def gap : Nat → List CpInfo → List CpInfo
  | 0, r => r
  | n + 1, r => .unusable :: gap n r
def poolList (es : List (Nat × CpInfo)) (last : Nat) : List CpInfo := es.foldr (fun e r => gap e.1 (e.2 :: r)) (gap last [])
def pool (es : List (Nat × CpInfo)) (last : Nat) : Array CpInfo := ⟨poolList es last⟩
def fileOf (pool : Array CpInfo) (this : Nat) (attrs : Array Attribute := #[]) (ms : Array MethodInfo := #[]) (fl : Nat := 33) (sup : Nat := 0) (ifs : Array Nat := #[]) (fds : Array FieldInfo := #[]) : ClassFile where
  minorVersion := 0
  majorVersion := 65
  constantPool := pool
  accessFlags := fl
  thisClass := this
  superClass := sup
  interfaces := ifs
  fields := fds
  methods := ms
  attributes := attrs
def plain (name : String) (sup : Option ClassId) : Class where
  name := name
  kind := .ordinary
  loader := none
  accessFlags := 33
  super := sup
  interfaces := #[]
  cf := none
  fields := #[]
  methods := #[]
  instanceTypes := #[]
  staticTypes := #[]
  resolved := #[]
  callSites := []
  init := .initialized
  statics := none
  mirror := none

def pool0 : Array CpInfo := pool [(5, u "<init>"), (0, u "()V"), (1, .class_ 10), (1, u "java/lang/Object")] 113

def k0c0 : Code := { maxStack := 0, maxLocals := 1, code := object_method_1_code, exceptionTable := #[], attributes := #[] }
def k0m0 : Method := { name := "<init>", desc := "()V", sig := { parameters := [], returnType := none }, accessFlags := 1, code := some k0c0 }
/-- java/lang/Object -/
def k0 : Class := { plain "java/lang/Object" none with
  accessFlags := 33
  interfaces := #[]
  cf := some (fileOf pool0 8 #[] #[{ accessFlags := 1, nameIndex := 5, descriptorIndex := 6, attributes := #[] }] 33 0 #[] #[])
  fields := #[]
  methods := #[k0m0]
  instanceTypes := #[]
  staticTypes := #[]
  resolved := Array.replicate 124 none
  statics := none }

def pool1 : Array CpInfo := pool [(2, .class_ 4), (1, u "java/lang/Object"), (0, u "<init>"), (0, u "()V"), (0, .integer 2147483647), (0, .methodref 9 10), (0, .class_ 11), (0, .nameAndType 12 13), (0, u "java/lang/Math"), (0, u "max"), (0, u "(II)I"), (0, .class_ 15), (0, u "com/example/moult/moult/data/Limits"), (0, .integer 2147483640), (0, .methodref 14 18), (0, .nameAndType 5 19), (0, u "(II)V"), (0, .methodref 14 21), (0, .nameAndType 22 23), (0, u "stackBytes"), (0, u "()J"), (0, .long 1048576), (1, .long 3072), (1, .class_ 29), (0, u "com/example/moult/moult/data/LimitsStackBytesPinLaw"), (2, u "law"), (0, u "(III)Z")] 3

def k1m0 : Method := { name := "<init>", desc := "()V", sig := { parameters := [], returnType := none }, accessFlags := 1, code := none }
def k1c1 : Code := { maxStack := 6, maxLocals := 15, code := code, exceptionTable := #[], attributes := #[] }
def k1m1 : Method := { name := "law", desc := "(III)Z", sig := { parameters := [.int, .int, .int], returnType := some .boolean }, accessFlags := 9, code := some k1c1 }
/-- com/example/moult/moult/data/LimitsStackBytesPinLaw -/
def k1 : Class := { plain "com/example/moult/moult/data/LimitsStackBytesPinLaw" (some 0) with
  accessFlags := 49
  interfaces := #[]
  cf := some (fileOf pool1 28 #[] #[{ accessFlags := 1, nameIndex := 5, descriptorIndex := 6, attributes := #[] }, { accessFlags := 9, nameIndex := 32, descriptorIndex := 33, attributes := #[] }] 49 2 #[] #[])
  fields := #[]
  methods := #[k1m0, k1m1]
  instanceTypes := #[]
  staticTypes := #[]
  resolved := Array.replicate 37 none
  statics := none }

def pool2 : Array CpInfo := pool [(1, .class_ 2), (0, u "java/lang/Math"), (1, .class_ 6), (1, u "java/lang/Object"), (0, u "<init>"), (0, u "()V"), (89, .class_ 100), (1, u "java/lang/Math$RandomNumberGeneratorHolder"), (71, u "negativeZeroFloatBits"), (0, u "J"), (2, u "negativeZeroDoubleBits"), (21, u "max"), (46, u "$assertionsDisabled"), (0, u "Z"), (88, u "(II)I"), (2, u "twoToTheDoubleScaleDown"), (0, u "D"), (4, u "twoToTheDoubleScaleUp"), (9, u "E"), (3, u "PI"), (2, u "TAU"), (2, u "DEGREES_TO_RADIANS"), (0, u "RADIANS_TO_DEGREES")] 94

def k2m0 : Method := { name := "<init>", desc := "()V", sig := { parameters := [], returnType := none }, accessFlags := 2, code := none }
def k2c1 : Code := { maxStack := 2, maxLocals := 2, code := jdk_29_method_65_code, exceptionTable := #[], attributes := #[] }
def k2m1 : Method := { name := "max", desc := "(II)I", sig := { parameters := [.int, .int], returnType := some .int }, accessFlags := 9, code := some k2c1 }
/-- java/lang/Math -/
def k2 : Class := { plain "java/lang/Math" (some 0) with
  accessFlags := 49
  interfaces := #[]
  cf := some (fileOf pool2 1 #[.nestMembers #[98]] #[{ accessFlags := 2, nameIndex := 7, descriptorIndex := 8, attributes := #[] }, { accessFlags := 9, nameIndex := 198, descriptorIndex := 335, attributes := #[] }] 49 4 #[] #[{ accessFlags := 25, nameIndex := 354, descriptorIndex := 339, attributes := #[] }, { accessFlags := 25, nameIndex := 358, descriptorIndex := 339, attributes := #[] }, { accessFlags := 25, nameIndex := 361, descriptorIndex := 339, attributes := #[] }, { accessFlags := 26, nameIndex := 364, descriptorIndex := 339, attributes := #[] }, { accessFlags := 26, nameIndex := 365, descriptorIndex := 339, attributes := #[] }, { accessFlags := 26, nameIndex := 172, descriptorIndex := 173, attributes := #[] }, { accessFlags := 26, nameIndex := 176, descriptorIndex := 173, attributes := #[] }, { accessFlags := 8, nameIndex := 344, descriptorIndex := 339, attributes := #[] }, { accessFlags := 8, nameIndex := 338, descriptorIndex := 339, attributes := #[] }, { accessFlags := 4120, nameIndex := 245, descriptorIndex := 246, attributes := #[] }])
  fields := #[{ name := "E", type := .double, accessFlags := 25, slot := 0, constantValue := 0 }, { name := "PI", type := .double, accessFlags := 25, slot := 1, constantValue := 0 }, { name := "TAU", type := .double, accessFlags := 25, slot := 2, constantValue := 0 }, { name := "DEGREES_TO_RADIANS", type := .double, accessFlags := 26, slot := 3, constantValue := 0 }, { name := "RADIANS_TO_DEGREES", type := .double, accessFlags := 26, slot := 4, constantValue := 0 }, { name := "negativeZeroFloatBits", type := .long, accessFlags := 26, slot := 5, constantValue := 0 }, { name := "negativeZeroDoubleBits", type := .long, accessFlags := 26, slot := 6, constantValue := 0 }, { name := "twoToTheDoubleScaleUp", type := .double, accessFlags := 8, slot := 7, constantValue := 0 }, { name := "twoToTheDoubleScaleDown", type := .double, accessFlags := 8, slot := 8, constantValue := 0 }, { name := "$assertionsDisabled", type := .boolean, accessFlags := 4120, slot := 9, constantValue := 0 }]
  methods := #[k2m0, k2m1]
  instanceTypes := #[]
  staticTypes := #[.double, .double, .double, .double, .double, .long, .long, .double, .double, .boolean]
  resolved := Array.replicate 460 none
  statics := none }

def pool3 : Array CpInfo := pool [(3, .methodref 4 5), (0, .class_ 6), (0, .nameAndType 7 8), (0, u "java/lang/Object"), (0, u "<init>"), (0, u "()V"), (9, .class_ 19), (0, u "com/example/moult/moult/data/Limits"), (0, .integer 2147483639), (1, .fieldref 18 23), (0, .nameAndType 24 25), (0, u "maxDepth"), (0, u "I"), (0, .fieldref 18 27), (0, .nameAndType 28 25), (0, u "maxItems"), (0, .long 1048576), (1, .long 3072), (12, u "stackBytes"), (0, u "()J"), (48, u "(II)V"), (2, u "DEFAULT"), (0, u "Lcom/example/moult/moult/data/Limits;"), (0, u "DEFAULT_MAX_DEPTH"), (2, u "DEFAULT_MAX_ITEMS"), (0, u "MAX_ITEMS"), (0, u "MAX_ZERO_BYTE_ITEMS"), (0, u "STACK_PER_LEVEL"), (0, u "J"), (0, u "STACK_BASE")] 42

def k3c0 : Code := { maxStack := 3, maxLocals := 3, code := prog_15_method_1_code, exceptionTable := #[], attributes := #[] }
def k3m0 : Method := { name := "<init>", desc := "(II)V", sig := { parameters := [.int, .int], returnType := none }, accessFlags := 1, code := some k3c0 }
def k3c1 : Code := { maxStack := 6, maxLocals := 1, code := prog_15_method_4_code, exceptionTable := #[], attributes := #[] }
def k3m1 : Method := { name := "stackBytes", desc := "()J", sig := { parameters := [], returnType := some .long }, accessFlags := 1, code := some k3c1 }
/-- com/example/moult/moult/data/Limits -/
def k3 : Class := { plain "com/example/moult/moult/data/Limits" (some 0) with
  accessFlags := 49
  interfaces := #[]
  cf := some (fileOf pool3 18 #[] #[{ accessFlags := 1, nameIndex := 7, descriptorIndex := 94, attributes := #[] }, { accessFlags := 1, nameIndex := 44, descriptorIndex := 45, attributes := #[] }] 49 4 #[] #[{ accessFlags := 25, nameIndex := 99, descriptorIndex := 25, attributes := #[] }, { accessFlags := 25, nameIndex := 102, descriptorIndex := 25, attributes := #[] }, { accessFlags := 25, nameIndex := 103, descriptorIndex := 25, attributes := #[] }, { accessFlags := 25, nameIndex := 97, descriptorIndex := 98, attributes := #[] }, { accessFlags := 25, nameIndex := 104, descriptorIndex := 25, attributes := #[] }, { accessFlags := 26, nameIndex := 105, descriptorIndex := 106, attributes := #[] }, { accessFlags := 26, nameIndex := 107, descriptorIndex := 106, attributes := #[] }, { accessFlags := 18, nameIndex := 24, descriptorIndex := 25, attributes := #[] }, { accessFlags := 18, nameIndex := 28, descriptorIndex := 25, attributes := #[] }])
  fields := #[{ name := "DEFAULT_MAX_DEPTH", type := .int, accessFlags := 25, slot := 0, constantValue := 0 }, { name := "DEFAULT_MAX_ITEMS", type := .int, accessFlags := 25, slot := 1, constantValue := 0 }, { name := "MAX_ITEMS", type := .int, accessFlags := 25, slot := 2, constantValue := 0 }, { name := "DEFAULT", type := (.object "com/example/moult/moult/data/Limits"), accessFlags := 25, slot := 3, constantValue := 0 }, { name := "MAX_ZERO_BYTE_ITEMS", type := .int, accessFlags := 25, slot := 4, constantValue := 0 }, { name := "STACK_PER_LEVEL", type := .long, accessFlags := 26, slot := 5, constantValue := 0 }, { name := "STACK_BASE", type := .long, accessFlags := 26, slot := 6, constantValue := 0 }, { name := "maxDepth", type := .int, accessFlags := 18, slot := 0, constantValue := 0 }, { name := "maxItems", type := .int, accessFlags := 18, slot := 1, constantValue := 0 }]
  methods := #[k3m0, k3m1]
  instanceTypes := #[.int, .int]
  staticTypes := #[.int, .int, .int, (.object "com/example/moult/moult/data/Limits"), .int, .long, .long]
  resolved := Array.replicate 150 none
  statics := none }

def pool4 : Array CpInfo := pool [(1, u "java/lang/Cloneable"), (0, .class_ 1), (0, u "java/lang/Object"), (0, .class_ 3)] 3

/-- java/lang/Cloneable -/
def k4 : Class := { plain "java/lang/Cloneable" (some 0) with
  accessFlags := 1537
  interfaces := #[]
  cf := some (fileOf pool4 2 #[] #[] 1537 4 #[] #[])
  fields := #[]
  methods := #[]
  instanceTypes := #[]
  staticTypes := #[]
  resolved := Array.replicate 8 none
  statics := none }

def pool5 : Array CpInfo := pool [(1, u "java/io/Serializable"), (0, .class_ 1), (0, u "java/lang/Object"), (0, .class_ 3)] 3

/-- java/io/Serializable -/
def k5 : Class := { plain "java/io/Serializable" (some 0) with
  accessFlags := 1537
  interfaces := #[]
  cf := some (fileOf pool5 2 #[] #[] 1537 4 #[] #[])
  fields := #[]
  methods := #[]
  instanceTypes := #[]
  staticTypes := #[]
  resolved := Array.replicate 8 none
  statics := none }

/-- the primitive byte -/
def k6 : Class := { plain "byte" none with kind := .primitive 'B', accessFlags := 0x411 }
/-- [B -/
def k7 : Class := { plain "[B" (some 0) with kind := .array 6 .byte, interfaces := #[4, 5], accessFlags := 1041 }

/-- the primitive int -/
def k8 : Class := { plain "int" none with kind := .primitive 'I', accessFlags := 0x411 }
/-- [I -/
def k9 : Class := { plain "[I" (some 0) with kind := .array 8 .int, interfaces := #[4, 5], accessFlags := 1041 }

def heap : Heap := #[]
def classes : Array Class := #[k0, k1, k2, k3, k4, k5, k6, k7, k8, k9]
def interned : List (Array UInt16 × Addr) := []
def slotsUsed : Nat := 0
def theMethod : MethodId := ⟨1, 1⟩
def args0 : Array Value := #[.int 5, .int 6, .int 7]
def aboutOver (below : List Frame) : State where
  vm := { classes := classes, interned := interned.toArray }
  heap := heap
  slotsUsed := slotsUsed
  threads := #[{ frames := .invoking theMethod args0 :: below }]
def below0 : List Frame := [.native { method := ⟨0, 0⟩, args := #[] }]
def about1 : State := aboutOver below0
def p0 : Program := .bare "" "" ""
def e0 : Env := launch0.env 0 0 0
theorem w_frames : about1.frames = Frame.invoking theMethod args0 :: below0 := rfl
set_option maxRecDepth 65536 in
theorem w_args : argsFit about1.vm theMethod args0 = true := by decide +kernel
set_option maxRecDepth 65536 in
theorem w_heap : heapFits about1 = true := by decide +kernel
set_option maxRecDepth 65536 in
theorem w_runnable : about1.curStatus? = some .runnable := by decide +kernel
set_option maxRecDepth 65536 in
theorem w_alone : about1.alone = true := by decide +kernel
set_option maxRecDepth 65536 in
theorem w_named : about1.methodNamed? x = some theMethod := by decide +kernel
set_option maxRecDepth 65536 in
theorem w_hears : about1.hears theMethod below0 = true := by decide +kernel
set_option maxRecDepth 65536 in
theorem w_ripe : about1.ripe theMethod args0 below0 = true := by decide +kernel
theorem w_running : about1.status = .running := rfl
set_option maxRecDepth 65536 in
theorem w_room : about1.hasRoom e0.platform room_1 = true :=
  launch0.hasRoom_least _ room_1 (by decide +kernel) (by decide +kernel) (by decide +kernel) (by decide +kernel) (by decide +kernel) (by decide +kernel)
theorem allAtoms_all (ts : List Jvm.Cond) (a : Array Jvm.Value) (st : Jvm.State) : (allAtoms ts).before a st = ts.all (fun c => c.before a st) := by
  induction ts with
  | nil => rfl
  | cons c t ih =>
    show (Jvm.Cond.and c (allAtoms t)).before a st = _
    rw [Jvm.Cond.before_and, ih, List.all_cons]
def words1 : List Jvm.Cond := Jvm.Cond.code x code maxLocals ret :: tables_1
/-- a 'code' word, met by the world's own term for the bytes: nothing is compared byte by byte -/
theorem code_word {y : MethodName} {bytes : ByteArray} {mx : Nat} {rt : Option FieldType} {a : Array Value} {s : State} {m : MethodId} {meth : Method} {c : Code} (h1 : s.methodNamed? y = some m) (h2 : s.vm.method? m = some meth) (h3 : meth.code = some c) (h4 : c.code = bytes)
    (h5 : (c.maxLocals == mx && c.exceptionTable.isEmpty && decide (c.maxStack ≤ mostOperands) && decide (meth.sig.returnType = rt) && !meth.locks && decide (parseMethodDescriptor y.desc = some meth.sig)) = true) : (Jvm.Cond.code y bytes mx rt).before a s = true := by
  simp only [Bool.and_eq_true, beq_iff_eq, Bool.not_eq_true', decide_eq_true_eq] at h5
  obtain ⟨⟨⟨⟨⟨g1, g2⟩, g3⟩, g4⟩, g5⟩, g6⟩ := h5
  simp [Cond.before, Cond.holds, Cond.value, h1, h2, h3, h4, g1, g2, g3, g4, g5, g6]
def isCode : Jvm.Cond → Bool
  | .code _ _ _ _ => true
  | _ => false
theorem all_split {L : List Jvm.Cond} {P : Jvm.Cond → Bool} (h1 : L.all (fun c => isCode c || P c) = true) (h2 : ∀ c ∈ L.filter isCode, P c = true) : L.all P = true := by
  refine List.all_eq_true.mpr fun c hc => ?_
  have h := List.all_eq_true.mp h1 c hc
  rcases Bool.eq_false_or_eq_true (isCode c) with hi | hi
  · exact h2 c (List.mem_filter.mpr ⟨hc, hi⟩)
  · simpa [hi] using h
set_option maxRecDepth 65536 in
theorem w_c0 : (Jvm.Cond.code x code maxLocals ret).before args0 about1 = true := code_word (m := ⟨1, 1⟩) (meth := k1m1) (c := k1c1) (by decide +kernel) rfl rfl rfl (by decide +kernel)
set_option maxRecDepth 65536 in
theorem w_c1 : (Jvm.Cond.code ({ cls := "java/lang/Math", name := "max", desc := "(II)I" } : Jvm.MethodName) jdk_29_method_65_code (2 : Nat) (Option.some Jvm.ClassFile.FieldType.int)).before args0 about1 = true := code_word (m := ⟨2, 1⟩) (meth := k2m1) (c := k2c1) (by decide +kernel) rfl rfl rfl (by decide +kernel)
set_option maxRecDepth 65536 in
theorem w_c2 : (Jvm.Cond.code ({ cls := "com/example/moult/moult/data/Limits", name := "<init>", desc := "(II)V" } : Jvm.MethodName) prog_15_method_1_code (3 : Nat) (Option.none : Option Jvm.ClassFile.FieldType)).before args0 about1 = true := code_word (m := ⟨3, 0⟩) (meth := k3m0) (c := k3c0) (by decide +kernel) rfl rfl rfl (by decide +kernel)
set_option maxRecDepth 65536 in
theorem w_c3 : (Jvm.Cond.code ({ cls := "java/lang/Object", name := "<init>", desc := "()V" } : Jvm.MethodName) object_method_1_code (1 : Nat) (Option.none : Option Jvm.ClassFile.FieldType)).before args0 about1 = true := code_word (m := ⟨0, 0⟩) (meth := k0m0) (c := k0c0) (by decide +kernel) rfl rfl rfl (by decide +kernel)
set_option maxRecDepth 65536 in
theorem w_c4 : (Jvm.Cond.code ({ cls := "com/example/moult/moult/data/Limits", name := "stackBytes", desc := "()J" } : Jvm.MethodName) prog_15_method_4_code (1 : Nat) (Option.some Jvm.ClassFile.FieldType.long)).before args0 about1 = true := code_word (m := ⟨3, 1⟩) (meth := k3m1) (c := k3c1) (by decide +kernel) rfl rfl rfl (by decide +kernel)
def codes1 : List Jvm.Cond := [Jvm.Cond.code x code maxLocals ret, Jvm.Cond.code ({ cls := "java/lang/Math", name := "max", desc := "(II)I" } : Jvm.MethodName) jdk_29_method_65_code (2 : Nat) (Option.some Jvm.ClassFile.FieldType.int), Jvm.Cond.code ({ cls := "com/example/moult/moult/data/Limits", name := "<init>", desc := "(II)V" } : Jvm.MethodName) prog_15_method_1_code (3 : Nat) (Option.none : Option Jvm.ClassFile.FieldType), Jvm.Cond.code ({ cls := "java/lang/Object", name := "<init>", desc := "()V" } : Jvm.MethodName) object_method_1_code (1 : Nat) (Option.none : Option Jvm.ClassFile.FieldType), Jvm.Cond.code ({ cls := "com/example/moult/moult/data/Limits", name := "stackBytes", desc := "()J" } : Jvm.MethodName) prog_15_method_4_code (1 : Nat) (Option.some Jvm.ClassFile.FieldType.long)]
set_option maxRecDepth 65536 in
theorem codes_eq : words1.filter isCode = codes1 := rfl
theorem w_codes : ∀ c ∈ words1.filter isCode, c.before args0 about1 = true := by
  rw [codes_eq]
  intro c hc
  simp only [codes1, List.mem_cons, List.not_mem_nil, or_false] at hc
  rcases hc with rfl | rfl | rfl | rfl | rfl
  · exact w_c0
  · exact w_c1
  · exact w_c2
  · exact w_c3
  · exact w_c4
set_option maxRecDepth 65536 in
theorem w_t1 : (words1.take 24).all (fun c => isCode c || c.before args0 about1) = true := by decide +kernel
set_option maxRecDepth 65536 in
theorem w_t2 : (words1.drop 24).all (fun c => isCode c || c.before args0 about1) = true := by decide +kernel
theorem w_tables : (allAtoms (Jvm.Cond.code x code maxLocals ret :: tables_1)).before args0 about1 = true := by
  rw [allAtoms_all]
  show words1.all (fun c => c.before args0 about1) = true
  refine all_split ?_ w_codes
  rw [← List.take_append_drop 24 words1, List.all_append, w_t1, w_t2]
  rfl
set_option maxRecDepth 65536 in
theorem w_case : (Jvm.Cond.and given_1 narrow_1).before args0 about1 = true := by decide +kernel
theorem w_applies : (headSpec (Jvm.Cond.code x code maxLocals ret :: tables_1) room_1).applies x e0.platform about1 = true :=
  (Spec.applies_iff w_frames).mpr ⟨w_running, w_runnable, w_alone, w_named, w_hears, w_ripe, w_room, w_tables⟩
theorem atStart : AtStart classFile x code maxLocals ret World_1 tables_1 room_1 Calls_1 rest_1 Pre_1 launch0 p0 e0 about1 theMethod args0 below0 :=
  ⟨lists_1, trivial, launch0.admits_env _ _ _, launch0.least_env, fairChoices_fair.cas, fairChoices_fair.clock, w_frames, w_args, w_heap, w_applies, trivial, trivial, w_case⟩
end start1
theorem witness_1 : WitnessClaimed_1 := ⟨start1.p0, start1.e0, start1.about1, start1.theMethod, start1.args0, start1.below0, start1.atStart⟩
end Jvm.Pilot.@@N@@
