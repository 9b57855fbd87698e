import JvmDerived
import JvmDerived.Pilot.@@N@@Statement
import JvmDerived.Pilot.@@N@@Code
set_option linter.unusedVariables false
set_option linter.unusedSimpArgs false
namespace Jvm.RoadKit
open Sem ClassFile Op Lib Jvm.Stand Jvm.Free Jvm.LawKit
section New
variable {p : Program} {l : Launch} {e : Env} {R : Room} {s : State} {m : MethodId} {args : Array Value} {below : List Frame} {meth : Method} {c : Code} {T : State} {locs : List Loc} {cells slots : Nat}
theorem retI (X : Stand p l e R s m args below meth c T locs cells slots) (hx : p.tables.exec = Jvm.exec) {pc : Nat} {Ls : Array Slot} {z : Int32} {rest : List Value} (hret : meth.sig.returnType = some .int) (hd : decode c.code pc = .ok (.ireturn, 1)) {fs : List Frame}
    (hl : ∀ (f : JFrame) (acts : List Action), f.method = m → f.locked = none → f.entered = [] → (doReturn e (T.setTop f) acts (some (.int z))).1 = T.setFrames fs) : Steps p.tables e below (T.setTop (mkF m pc Ls (.int z :: rest))) (T.setFrames fs) := by
  have hm' : T.vm.method? m = some meth := X.method'
  have hn : narrow .int (.int z) = .int z := rfl
  show Steps p.tables e below (T.setTop { method := m, pc := pc, locals := Ls, stack := _ :: rest, locked := none }) _
  jvm_step X.here [X.here.top, hx, hd, hm', hret, hn]
  first | (intro acts; rw [hl _ acts rfl rfl rfl]) | rw [hl _ _ rfl rfl rfl]
  exact Steps.refl _
end New
end Jvm.RoadKit
namespace Jvm.Pilot.@@N@@
open Jvm Jvm.ClassFile Sem Op Lib Jvm.Free Jvm.Stand Jvm.LawKit Jvm.RoadKit Bundle Jvm.Pilot.@@N@@.Jvm.D
theorem own_neg {P : Prop} [Decidable P] : (if P then (1 : Int32) else (0 : Int32)) = (if (if P then (0 : Int32) else (1 : Int32)) = (0 : Int32) then (1 : Int32) else (0 : Int32)) := by
  by_cases h : P <;> simp [h]
theorem own_nar {P : Prop} [Decidable P] {a b : Int32} (ha : nar .boolean a = a) (hb : nar .boolean b = b) : nar .boolean (if P then a else b) = (if P then a else b) := by
  by_cases h : P <;> simp [h, ha, hb]
theorem own_f1 {A B : Prop} [Decidable A] [Decidable B] (h : (if A then (0 : Int32) else (1 : Int32)) = (0 : Int32)) : (if B then (1 : Int32) else (if A then (1 : Int32) else (0 : Int32))) = (1 : Int32) := by
  by_cases a : A <;> by_cases b : B <;> simp [a, b] at h ⊢
theorem own_f2 {A B : Prop} [Decidable A] [Decidable B] (h : ¬ (if A then (0 : Int32) else (1 : Int32)) = (0 : Int32)) : (if B then (1 : Int32) else (if A then (1 : Int32) else (0 : Int32))) = (if (if B then (0 : Int32) else (1 : Int32)) = (0 : Int32) then (1 : Int32) else (0 : Int32)) := by
  by_cases a : A <;> by_cases b : B <;> simp [a, b] at h ⊢
theorem own_n0 : nar .boolean (0 : Int32) = 0 := rfl
theorem own_n1 : nar .boolean (1 : Int32) = 1 := rfl
theorem d1_0 : decode prog_27_method_1_code 0 = .ok (.aload_n 0, 1) := by decide +kernel
theorem d1_1 : decode prog_27_method_1_code 1 = .ok (.invokespecial 1, 3) := by decide +kernel
theorem d1_4 : decode prog_27_method_1_code 4 = .ok (.aload_n 0, 1) := by decide +kernel
theorem d1_5 : decode prog_27_method_1_code 5 = .ok (.lload_n 1, 1) := by decide +kernel
theorem d1_6 : decode prog_27_method_1_code 6 = .ok (.putfield 7, 3) := by decide +kernel
theorem d1_9 : decode prog_27_method_1_code 9 = .ok (.aload_n 0, 1) := by decide +kernel
theorem d1_10 : decode prog_27_method_1_code 10 = .ok (.lload_n 1, 1) := by decide +kernel
theorem d1_11 : decode prog_27_method_1_code 11 = .ok (.putfield 13, 3) := by decide +kernel
theorem d1_14 : decode prog_27_method_1_code 14 = .ok (.return_, 1) := by decide +kernel
theorem pn_1 : plainName "com/example/shunter/shunter/pick/Work" = true := by first | (simp [plainName, overriddenIn]; done) | decide +kernel
theorem ef_1 (m : MethodId) (a1 : Addr) (q2 : Int64) : entryFrame m #[(.ref a1), (.long q2)] 3 = mkF m 0 #[.val (.ref a1), .val (.long q2), .second] [] := by first | (simp [entryFrame, mkF, argsToLocals, Value.category]; done) | rfl
def Q1 (Z : State) (a1 : Addr) (q2 : Int64) (u1 : Value) (u2 : Value) (u3 : Int64) (u4 : Int32) (h0 : Heap) (n0 : Nat) (v : Option Value) (h : Heap) (L : List Loc) : Prop := v = none ∧ Fr n0 L ∧ Keep h0 h [a1] ∧ Exa Z h a1 "com/example/shunter/shunter/pick/Work" ∧ Fld Z h a1 "com/example/shunter/shunter/pick/Work" "phaseLimit" "J" (.long q2) ∧ Fld Z h a1 "com/example/shunter/shunter/pick/Work" "done" "J" (.long u3) ∧ Fld Z h a1 "com/example/shunter/shunter/pick/Work" "stopped" "Z" (.int u4)
set_option maxRecDepth 65536 in
set_option maxHeartbeats 40000000 in
theorem rm1 (l : Launch) (Z : State) (a0 : Array Value) (hw : ∀ d ∈ tables_1, d.before a0 Z = true) (ws : List Jvm.Cond) (a1 : Addr) (q2 : Int64) (u1 : Value) (u2 : Value) (u3 : Int64) (u4 : Int32) (h0 : Heap) (n0 : Nat) (Z0 : n0 ≤ h0.size) (E_a1 : Exa Z h0 a1 "com/example/shunter/shunter/pick/Work") (F_1 : Fld Z h0 a1 "com/example/shunter/shunter/pick/Work" "limit" "J" u1) (F_2 : Fld Z h0 a1 "com/example/shunter/shunter/pick/Work" "phaseLimit" "J" u2) (F_3 : Fld Z h0 a1 "com/example/shunter/shunter/pick/Work" "done" "J" (.long u3)) (F_4 : Fld Z h0 a1 "com/example/shunter/shunter/pick/Work" "stopped" "Z" (.int u4)) (g_a1 : n0 ≤ a1) :
    MetFree l (⟨"com/example/shunter/shunter/pick/Work", "<init>", "(J)V"⟩ : MethodName) (head1 (Jvm.Cond.code (⟨"com/example/shunter/shunter/pick/Work", "<init>", "(J)V"⟩ : MethodName) prog_27_method_1_code 3 none :: ws) ({ frames := 1, cells := 0, slots := 0, locals := 12 } : Room)) (fun a U => a = #[(.ref a1), (.long q2)] ∧ Z.Warmed39 U.vm ∧ U.heap = h0) (fun _ _ _ _ _ => True) (fun _ U o U' => ∃ v L, o = .returned v ∧ Q1 Z a1 q2 u1 u2 u3 u4 h0 n0 v U'.heap L ∧ FrameEnd U o U' L ({ frames := 1, cells := 0, slots := 0, locals := 12 } : Room).cells ({ frames := 1, cells := 0, slots := 0, locals := 12 } : Room).slots) := by
  refine MetFree.of_bodySF (plainFor_of_name pn_1) hisR ?_
  intro p e s m args below meth c s₁ Bd hml0 hP hK
  obtain ⟨rfl, hZ, hh⟩ := hP
  have hx := Bd.exec
  have hby := Bd.bytes
  have hml : c.maxLocals = 3 := hml0
  have hown : s.vm.findClass "com/example/shunter/shunter/pick/Work" = some m.cls := findClass_of_methodNamed Bd.named
  have hnm := (name_of_methodNamed Bd.named Bd.method).1
  have X0 : Stand p l e ({ frames := 1, cells := 0, slots := 0, locals := 12 } : Room) s m #[(.ref a1), (.long q2)] below meth c s₁ [] 0 0 := Stand.of_body Bd
  have e0 : s₁.heap = h0 := by rw [← hh, Bd.state]; rfl
  have N0 := Fr.nil n0
  have pre0 : ∀ t, Steps p.tables e below (s₁.setTop (mkF m 0 #[.val (.ref a1), .val (.long q2), .second] [])) t → Steps p.tables e below (s₁.setTop (entryFrame m #[(.ref a1), (.long q2)] 3)) t := fun t k => castTop (ef_1 m a1 q2) k
  have K0 : Keep h0 h0 [a1] := Keep.refl h0 [a1]
  obtain ⟨T1, X1, e1, st1⟩ := initO X0 hx hZ hown (hw _ (List.mem_of_getElem? (i := 6) rfl)) (hw _ (List.mem_of_getElem? (i := 7) rfl)) (hw _ (List.mem_of_getElem? (i := 8) rfl)) e0 (g := (mkF m 1 #[.val (.ref a1), .val (.long q2), .second] [(.ref a1)])) rfl (by rw [hml]; rfl) rfl (hb hby d1_1) (by decide) (W := 0) (by show 2 * 0 + _ ≤ _; exact Nat.le_of_eq rfl) (by decide)
  obtain ⟨T2, h2, X2, e2, W2, st2⟩ := putF X1 hx hZ hown (host := "") (Or.inl (hw _ (List.mem_of_getElem? (i := 9) rfl))) Via.refl e1 F_1 E_a1 (Or.inr ⟨(hw _ (List.mem_of_getElem? (i := 10) rfl)), rfl, hnm⟩) (hw _ (List.mem_of_getElem? (i := 1) rfl)) (ty := .long) (by decide) rfl rfl (g := (mkF m 6 #[.val (.ref a1), .val (.long q2), .second] [(.long q2), (.ref a1)])) rfl rfl (hb hby d1_6)
  have f3 := F_1.same W2
  have f4 := E_a1.wr W2
  have f6 := F_2.other W2 (Or.inr (slot_ne (Or.inl (hw _ (List.mem_of_getElem? (i := 12) rfl))) (Or.inr (hw _ (List.mem_of_getElem? (i := 10) rfl))) (by decide) (t := .long) (t' := .long) (by decide) (by decide)))
  have f7 := F_3.other W2 (Or.inr (slot_ne (Or.inl (hw _ (List.mem_of_getElem? (i := 26) rfl))) (Or.inr (hw _ (List.mem_of_getElem? (i := 10) rfl))) (by decide) (t := .long) (t' := .long) (by decide) (by decide)))
  have f8 := F_4.other W2 (Or.inr (slot_ne (Or.inl (hw _ (List.mem_of_getElem? (i := 19) rfl))) (Or.inr (hw _ (List.mem_of_getElem? (i := 10) rfl))) (by decide) (t := .boolean) (t' := .long) (by decide) (by decide)))
  have K2 : Keep h0 h2 [a1] := K0.wr W2 (Or.inl (List.mem_of_getElem? (i := 0) rfl))
  have N2 := Fr.snoc X2 N0 g_a1
  have Z2 : n0 ≤ h2.size := Nat.le_trans Z0 (Keep.of_wr W2).1
  obtain ⟨T9, h9, X9, e9, W9, st9⟩ := putF X2 hx hZ hown (host := "") (Or.inl (hw _ (List.mem_of_getElem? (i := 11) rfl))) Via.refl e2 f6 f4 (Or.inl (hw _ (List.mem_of_getElem? (i := 12) rfl))) (hw _ (List.mem_of_getElem? (i := 1) rfl)) (ty := .long) (by decide) rfl rfl (g := (mkF m 11 #[.val (.ref a1), .val (.long q2), .second] [(.long q2), (.ref a1)])) rfl rfl (hb hby d1_11)
  have f10 := f6.same W9
  have f11 := f4.wr W9
  have f12 := f3.other W9 (Or.inr (slot_ne (Or.inr (hw _ (List.mem_of_getElem? (i := 10) rfl))) (Or.inl (hw _ (List.mem_of_getElem? (i := 12) rfl))) (by decide) (t := .long) (t' := .long) (by decide) (by decide)))
  have f14 := f7.other W9 (Or.inr (slot_ne (Or.inl (hw _ (List.mem_of_getElem? (i := 26) rfl))) (Or.inl (hw _ (List.mem_of_getElem? (i := 12) rfl))) (by decide) (t := .long) (t' := .long) (by decide) (by decide)))
  have f15 := f8.other W9 (Or.inr (slot_ne (Or.inl (hw _ (List.mem_of_getElem? (i := 19) rfl))) (Or.inl (hw _ (List.mem_of_getElem? (i := 12) rfl))) (by decide) (t := .boolean) (t' := .long) (by decide) (by decide)))
  have K9 : Keep h0 h9 [a1] := K2.wr W9 (Or.inl (List.mem_of_getElem? (i := 0) rfl))
  have N9 := Fr.snoc X9 N2 g_a1
  have Z9 : n0 ≤ h9.size := Nat.le_trans Z2 (Keep.of_wr W9).1
  obtain ⟨fs, hr, hrun, hended, hW, hsame⟩ := X9.leave (v := none) (fun _ => rfl)
  refine ⟨_, _, pre0 _ ?_, hrun, hended, _, _, rfl, ?_, ⟨_, rfl⟩, hW, hsame.mono (by decide) (by decide)⟩
  · show Steps p.tables e below (s₁.setTop (mkF m 0 #[.val (.ref a1), .val (.long q2), .second] [])) _
    refine XS.aloadN X0.here hx rfl (hb hby d1_0) rfl rfl ?_
    show Steps p.tables e below (s₁.setTop (mkF m 1 #[.val (.ref a1), .val (.long q2), .second] [(.ref a1)])) _
    refine st1 _ ?_
    show Steps p.tables e below (T1.setTop (mkF m 4 #[.val (.ref a1), .val (.long q2), .second] [])) _
    refine XS.aloadN X1.here hx rfl (hb hby d1_4) rfl rfl ?_
    show Steps p.tables e below (T1.setTop (mkF m 5 #[.val (.ref a1), .val (.long q2), .second] [(.ref a1)])) _
    refine XS.lloadN X1.here hx rfl (hb hby d1_5) rfl ?_
    show Steps p.tables e below (T1.setTop (mkF m 6 #[.val (.ref a1), .val (.long q2), .second] [(.long q2), (.ref a1)])) _
    refine st2 _ ?_
    show Steps p.tables e below (T2.setTop (mkF m 9 #[.val (.ref a1), .val (.long q2), .second] [])) _
    refine XS.aloadN X2.here hx rfl (hb hby d1_9) rfl rfl ?_
    show Steps p.tables e below (T2.setTop (mkF m 10 #[.val (.ref a1), .val (.long q2), .second] [(.ref a1)])) _
    refine XS.lloadN X2.here hx rfl (hb hby d1_10) rfl ?_
    show Steps p.tables e below (T2.setTop (mkF m 11 #[.val (.ref a1), .val (.long q2), .second] [(.long q2), (.ref a1)])) _
    refine st9 _ ?_
    show Steps p.tables e below (T9.setTop (mkF m 14 #[.val (.ref a1), .val (.long q2), .second] [])) _
    exact X9.returnOut hx Bd.returns (hb hby d1_14) hr
  · show Q1 Z a1 q2 u1 u2 u3 u4 h0 n0 _ T9.heap _
    rw [e9]
    exact ⟨rfl, N9, K9, f11, f10, f14, f15⟩
theorem d3_0 : decode prog_27_method_6_code 0 = .ok (.aload_n 0, 1) := by decide +kernel
theorem d3_1 : decode prog_27_method_6_code 1 = .ok (.getfield 25, 3) := by decide +kernel
theorem d3_4 : decode prog_27_method_6_code 4 = .ok (.ireturn, 1) := by decide +kernel
theorem pn_3 : plainName "com/example/shunter/shunter/pick/Work" = true := by first | (simp [plainName, overriddenIn]; done) | decide +kernel
theorem ef_3 (m : MethodId) (a1 : Addr) : entryFrame m #[(.ref a1)] 1 = mkF m 0 #[.val (.ref a1)] [] := by first | (simp [entryFrame, mkF, argsToLocals, Value.category]; done) | rfl
def Q3 (Z : State) (a1 : Addr) (w1 : Int32) (h0 : Heap) (n0 : Nat) (v : Option Value) (h : Heap) (L : List Loc) : Prop := v = some (.int w1) ∧ Fr n0 L ∧ h = h0
set_option maxRecDepth 65536 in
set_option maxHeartbeats 40000000 in
theorem rm3 (l : Launch) (Z : State) (a0 : Array Value) (hw : ∀ d ∈ tables_1, d.before a0 Z = true) (ws : List Jvm.Cond) (a1 : Addr) (w1 : Int32) (h0 : Heap) (n0 : Nat) (Z0 : n0 ≤ h0.size) (F_4 : Fld Z h0 a1 "com/example/shunter/shunter/pick/Work" "stopped" "Z" (.int w1)) (hb1 : nar .boolean w1 = w1) :
    MetFree l (⟨"com/example/shunter/shunter/pick/Work", "hasStopped", "()Z"⟩ : MethodName) (head1 (Jvm.Cond.code (⟨"com/example/shunter/shunter/pick/Work", "hasStopped", "()Z"⟩ : MethodName) prog_27_method_6_code 1 (some .boolean) :: ws) ({ frames := 0, cells := 0, slots := 0, locals := 0 } : Room)) (fun a U => a = #[(.ref a1)] ∧ Z.Warmed39 U.vm ∧ U.heap = h0) (fun _ _ _ _ _ => True) (fun _ U o U' => ∃ v L, o = .returned v ∧ Q3 Z a1 w1 h0 n0 v U'.heap L ∧ FrameEnd U o U' L ({ frames := 0, cells := 0, slots := 0, locals := 0 } : Room).cells ({ frames := 0, cells := 0, slots := 0, locals := 0 } : Room).slots) := by
  refine MetFree.of_bodySF (plainFor_of_name pn_3) hisR ?_
  intro p e s m args below meth c s₁ Bd hml0 hP hK
  obtain ⟨rfl, hZ, hh⟩ := hP
  have hx := Bd.exec
  have hby := Bd.bytes
  have hml : c.maxLocals = 1 := hml0
  have hown : s.vm.findClass "com/example/shunter/shunter/pick/Work" = some m.cls := findClass_of_methodNamed Bd.named
  have hnm := (name_of_methodNamed Bd.named Bd.method).1
  have X0 : Stand p l e ({ frames := 0, cells := 0, slots := 0, locals := 0 } : Room) s m #[(.ref a1)] below meth c s₁ [] 0 0 := Stand.of_body Bd
  have e0 : s₁.heap = h0 := by rw [← hh, Bd.state]; rfl
  have N0 := Fr.nil n0
  have pre0 : ∀ t, Steps p.tables e below (s₁.setTop (mkF m 0 #[.val (.ref a1)] [])) t → Steps p.tables e below (s₁.setTop (entryFrame m #[(.ref a1)] 1)) t := fun t k => castTop (ef_3 m a1) k
  have K0 : Keep h0 h0 [] := Keep.refl h0 []
  obtain ⟨T1, X1, e1, st1⟩ := getF X0 hx hZ hown (host := "") (Or.inl (hw _ (List.mem_of_getElem? (i := 18) rfl))) Via.refl e0 F_4 (g := (mkF m 1 #[.val (.ref a1)] [(.ref a1)])) rfl rfl (hb hby d3_1)
  obtain ⟨fs, hr, hrun, hended, hW, hsame⟩ := X1.leave (v := some (.int (nar .boolean w1))) (fun h => by rw [Bd.returns] at h; cases h)
  refine ⟨_, _, pre0 _ ?_, hrun, hended, _, _, rfl, ?_, ⟨_, rfl⟩, hW, hsame.mono (by decide) (by decide)⟩
  · show Steps p.tables e below (s₁.setTop (mkF m 0 #[.val (.ref a1)] [])) _
    refine XS.aloadN X0.here hx rfl (hb hby d3_0) rfl rfl ?_
    show Steps p.tables e below (s₁.setTop (mkF m 1 #[.val (.ref a1)] [(.ref a1)])) _
    refine st1 _ ?_
    show Steps p.tables e below (T1.setTop (mkF m 4 #[.val (.ref a1)] [(.int w1)])) _
    exact retN X1 hx (t := .boolean) Bd.returns (by simp) (hb hby d3_4) hr
  · show Q3 Z a1 w1 h0 n0 _ T1.heap _
    rw [e1]
    exact ⟨congrArg (fun z => some (Value.int z)) hb1, N0, rfl⟩
theorem d4_0 : decode prog_27_method_5_code 0 = .ok (.aload_n 0, 1) := by decide +kernel
theorem d4_1 : decode prog_27_method_5_code 1 = .ok (.getfield 16, 3) := by decide +kernel
theorem d4_4 : decode prog_27_method_5_code 4 = .ok (.aload_n 0, 1) := by decide +kernel
theorem d4_5 : decode prog_27_method_5_code 5 = .ok (.getfield 13, 3) := by decide +kernel
theorem d4_8 : decode prog_27_method_5_code 8 = .ok (.lcmp, 1) := by decide +kernel
theorem d4_9 : decode prog_27_method_5_code 9 = .ok (.ifCond .le 7, 3) := by decide +kernel
theorem d4_12 : decode prog_27_method_5_code 12 = .ok (.iconst 1, 1) := by decide +kernel
theorem d4_13 : decode prog_27_method_5_code 13 = .ok (.goto 4, 3) := by decide +kernel
theorem d4_16 : decode prog_27_method_5_code 16 = .ok (.iconst 0, 1) := by decide +kernel
theorem d4_17 : decode prog_27_method_5_code 17 = .ok (.ireturn, 1) := by decide +kernel
theorem pn_4 : plainName "com/example/shunter/shunter/pick/Work" = true := by first | (simp [plainName, overriddenIn]; done) | decide +kernel
theorem ef_4 (m : MethodId) (a1 : Addr) : entryFrame m #[(.ref a1)] 1 = mkF m 0 #[.val (.ref a1)] [] := by first | (simp [entryFrame, mkF, argsToLocals, Value.category]; done) | rfl
def Q4 (Z : State) (a1 : Addr) (w1 : Int64) (w2 : Int64) (h0 : Heap) (n0 : Nat) (v : Option Value) (h : Heap) (L : List Loc) : Prop := v = some (.int (if w2 < w1 then (1 : Int32) else (0 : Int32))) ∧ Fr n0 L ∧ h = h0
set_option maxRecDepth 65536 in
set_option maxHeartbeats 40000000 in
theorem rm4 (l : Launch) (Z : State) (a0 : Array Value) (hw : ∀ d ∈ tables_1, d.before a0 Z = true) (ws : List Jvm.Cond) (a1 : Addr) (w1 : Int64) (w2 : Int64) (h0 : Heap) (n0 : Nat) (Z0 : n0 ≤ h0.size) (F_3 : Fld Z h0 a1 "com/example/shunter/shunter/pick/Work" "done" "J" (.long w1)) (F_2 : Fld Z h0 a1 "com/example/shunter/shunter/pick/Work" "phaseLimit" "J" (.long w2)) :
    MetFree l (⟨"com/example/shunter/shunter/pick/Work", "isSpent", "()Z"⟩ : MethodName) (head1 (Jvm.Cond.code (⟨"com/example/shunter/shunter/pick/Work", "isSpent", "()Z"⟩ : MethodName) prog_27_method_5_code 1 (some .boolean) :: ws) ({ frames := 0, cells := 0, slots := 0, locals := 0 } : Room)) (fun a U => a = #[(.ref a1)] ∧ Z.Warmed39 U.vm ∧ U.heap = h0) (fun _ _ _ _ _ => True) (fun _ U o U' => ∃ v L, o = .returned v ∧ Q4 Z a1 w1 w2 h0 n0 v U'.heap L ∧ FrameEnd U o U' L ({ frames := 0, cells := 0, slots := 0, locals := 0 } : Room).cells ({ frames := 0, cells := 0, slots := 0, locals := 0 } : Room).slots) := by
  refine MetFree.of_bodySF (plainFor_of_name pn_4) hisR ?_
  intro p e s m args below meth c s₁ Bd hml0 hP hK
  obtain ⟨rfl, hZ, hh⟩ := hP
  have hx := Bd.exec
  have hby := Bd.bytes
  have hml : c.maxLocals = 1 := hml0
  have hown : s.vm.findClass "com/example/shunter/shunter/pick/Work" = some m.cls := findClass_of_methodNamed Bd.named
  have hnm := (name_of_methodNamed Bd.named Bd.method).1
  have X0 : Stand p l e ({ frames := 0, cells := 0, slots := 0, locals := 0 } : Room) s m #[(.ref a1)] below meth c s₁ [] 0 0 := Stand.of_body Bd
  have e0 : s₁.heap = h0 := by rw [← hh, Bd.state]; rfl
  have N0 := Fr.nil n0
  have pre0 : ∀ t, Steps p.tables e below (s₁.setTop (mkF m 0 #[.val (.ref a1)] [])) t → Steps p.tables e below (s₁.setTop (entryFrame m #[(.ref a1)] 1)) t := fun t k => castTop (ef_4 m a1) k
  have K0 : Keep h0 h0 [] := Keep.refl h0 []
  obtain ⟨T1, X1, e1, st1⟩ := getF X0 hx hZ hown (host := "") (Or.inl (hw _ (List.mem_of_getElem? (i := 25) rfl))) Via.refl e0 F_3 (g := (mkF m 1 #[.val (.ref a1)] [(.ref a1)])) rfl rfl (hb hby d4_1)
  obtain ⟨T2, X2, e2, st2⟩ := getF X1 hx hZ hown (host := "") (Or.inl (hw _ (List.mem_of_getElem? (i := 11) rfl))) Via.refl e1 F_2 (g := (mkF m 5 #[.val (.ref a1)] [(.ref a1), (.long w1)])) rfl rfl (hb hby d4_5)
  have c3 : Goes p e below s₁ (entryFrame m #[(.ref a1)] 1) T2 (mkF m 9 #[.val (.ref a1)] [(.int (lcmpW w1 w2))]) := fun t kt => pre0 t (by
    show Steps p.tables e below (s₁.setTop (mkF m 0 #[.val (.ref a1)] [])) _
    refine XS.aloadN X0.here hx rfl (hb hby d4_0) rfl rfl ?_
    show Steps p.tables e below (s₁.setTop (mkF m 1 #[.val (.ref a1)] [(.ref a1)])) _
    refine st1 _ ?_
    show Steps p.tables e below (T1.setTop (mkF m 4 #[.val (.ref a1)] [(.long w1)])) _
    refine XS.aloadN X1.here hx rfl (hb hby d4_4) rfl rfl ?_
    show Steps p.tables e below (T1.setTop (mkF m 5 #[.val (.ref a1)] [(.ref a1), (.long w1)])) _
    refine st2 _ ?_
    show Steps p.tables e below (T2.setTop (mkF m 8 #[.val (.ref a1)] [(.long w2), (.long w1)])) _
    refine XS.lcmp X2.here hx rfl (hb hby d4_8) rfl ?_
    show Steps p.tables e below (T2.setTop (mkF m 9 #[.val (.ref a1)] [(.int (lcmpW w1 w2))])) _
    exact kt)
  have c5 : Goes p e below s₁ (entryFrame m #[(.ref a1)] 1) T2 (mkF m 17 #[.val (.ref a1)] [(.int (if w2 < w1 then (1 : Int32) else (0 : Int32)))]) := fun t kt => c3 t (by
    by_cases hc4 : w2 < w1
    · show Steps p.tables e below (T2.setTop (mkF m 9 #[.val (.ref a1)] [(.int (lcmpW w1 w2))])) _
      refine XS.ifNo X2.here hx rfl (hb hby d4_9) rfl ((if0 _ _).trans (tlt ((lw_gt _ _).mpr hc4)).2.2.2) ?_
      show Steps p.tables e below (T2.setTop (mkF m 12 #[.val (.ref a1)] [])) _
      refine XS.iconst X2.here hx rfl (hb hby d4_12) ?_
      show Steps p.tables e below (T2.setTop (mkF m 13 #[.val (.ref a1)] [(.int (1 : Int32))])) _
      refine XS.goto X2.here hx rfl (pc0 := 13) (pc' := 17) rfl (hb hby d4_13) (by decide) (by decide) ?_
      show Steps p.tables e below (T2.setTop (mkF m 17 #[.val (.ref a1)] [(.int (1 : Int32))])) _
      simpa only [if_pos hc4] using kt
    · show Steps p.tables e below (T2.setTop (mkF m 9 #[.val (.ref a1)] [(.int (lcmpW w1 w2))])) _
      refine XS.ifYes X2.here hx rfl (pc0 := 9) (pc' := 16) rfl (hb hby d4_9) rfl ((if0 _ _).trans (flt (fun q => hc4 ((lw_gt _ _).mp q))).2.2.2) (by decide) (by decide) ?_
      show Steps p.tables e below (T2.setTop (mkF m 16 #[.val (.ref a1)] [])) _
      refine XS.iconst X2.here hx rfl (hb hby d4_16) ?_
      show Steps p.tables e below (T2.setTop (mkF m 17 #[.val (.ref a1)] [(.int (0 : Int32))])) _
      simpa only [if_neg hc4] using kt)
  obtain ⟨fs, hr, hrun, hended, hW, hsame⟩ := X2.leave (v := some (.int (nar .boolean (if w2 < w1 then (1 : Int32) else (0 : Int32))))) (fun h => by rw [Bd.returns] at h; cases h)
  refine ⟨_, _, c5 _ ?_, hrun, hended, _, _, rfl, ?_, ⟨_, rfl⟩, hW, hsame.mono (by decide) (by decide)⟩
  · show Steps p.tables e below (T2.setTop (mkF m 17 #[.val (.ref a1)] [(.int (if w2 < w1 then (1 : Int32) else (0 : Int32)))])) _
    exact retN X2 hx (t := .boolean) Bd.returns (by simp) (hb hby d4_17) hr
  · show Q4 Z a1 w1 w2 h0 n0 _ T2.heap _
    rw [e2]
    exact ⟨congrArg (fun z => some (Value.int z)) (own_nar own_n1 own_n0), N0, rfl⟩
theorem d5_0 : decode prog_27_method_4_code 0 = .ok (.aload_n 0, 1) := by decide +kernel
theorem d5_1 : decode prog_27_method_4_code 1 = .ok (.dup, 1) := by decide +kernel
theorem d5_2 : decode prog_27_method_4_code 2 = .ok (.getfield 16, 3) := by decide +kernel
theorem d5_5 : decode prog_27_method_4_code 5 = .ok (.lload_n 1, 1) := by decide +kernel
theorem d5_6 : decode prog_27_method_4_code 6 = .ok (.ladd, 1) := by decide +kernel
theorem d5_7 : decode prog_27_method_4_code 7 = .ok (.putfield 16, 3) := by decide +kernel
theorem d5_10 : decode prog_27_method_4_code 10 = .ok (.aload_n 0, 1) := by decide +kernel
theorem d5_11 : decode prog_27_method_4_code 11 = .ok (.getfield 16, 3) := by decide +kernel
theorem d5_14 : decode prog_27_method_4_code 14 = .ok (.aload_n 0, 1) := by decide +kernel
theorem d5_15 : decode prog_27_method_4_code 15 = .ok (.getfield 13, 3) := by decide +kernel
theorem d5_18 : decode prog_27_method_4_code 18 = .ok (.lcmp, 1) := by decide +kernel
theorem d5_19 : decode prog_27_method_4_code 19 = .ok (.ifCond .le 8, 3) := by decide +kernel
theorem d5_22 : decode prog_27_method_4_code 22 = .ok (.aload_n 0, 1) := by decide +kernel
theorem d5_23 : decode prog_27_method_4_code 23 = .ok (.iconst 1, 1) := by decide +kernel
theorem d5_24 : decode prog_27_method_4_code 24 = .ok (.putfield 25, 3) := by decide +kernel
theorem d5_27 : decode prog_27_method_4_code 27 = .ok (.aload_n 0, 1) := by decide +kernel
theorem d5_28 : decode prog_27_method_4_code 28 = .ok (.getfield 16, 3) := by decide +kernel
theorem d5_31 : decode prog_27_method_4_code 31 = .ok (.aload_n 0, 1) := by decide +kernel
theorem d5_32 : decode prog_27_method_4_code 32 = .ok (.getfield 13, 3) := by decide +kernel
theorem d5_35 : decode prog_27_method_4_code 35 = .ok (.lcmp, 1) := by decide +kernel
theorem d5_36 : decode prog_27_method_4_code 36 = .ok (.ifCond .gt 7, 3) := by decide +kernel
theorem d5_39 : decode prog_27_method_4_code 39 = .ok (.iconst 1, 1) := by decide +kernel
theorem d5_40 : decode prog_27_method_4_code 40 = .ok (.goto 4, 3) := by decide +kernel
theorem d5_43 : decode prog_27_method_4_code 43 = .ok (.iconst 0, 1) := by decide +kernel
theorem d5_44 : decode prog_27_method_4_code 44 = .ok (.ireturn, 1) := by decide +kernel
theorem pn_5 : plainName "com/example/shunter/shunter/pick/Work" = true := by first | (simp [plainName, overriddenIn]; done) | decide +kernel
theorem ef_5 (m : MethodId) (a1 : Addr) (q2 : Int64) : entryFrame m #[(.ref a1), (.long q2)] 3 = mkF m 0 #[.val (.ref a1), .val (.long q2), .second] [] := by first | (simp [entryFrame, mkF, argsToLocals, Value.category]; done) | rfl
def Q5 (Z : State) (a1 : Addr) (q2 : Int64) (w1 : Int64) (w2 : Int64) (w3 : Int32) (w4 : Int64) (h0 : Heap) (n0 : Nat) (v : Option Value) (h : Heap) (L : List Loc) : Prop := v = some (.int (if w2 < w4 then (0 : Int32) else (1 : Int32))) ∧ Fr n0 L ∧ Keep h0 h [a1] ∧ Exa Z h a1 "com/example/shunter/shunter/pick/Work" ∧ Fld Z h a1 "com/example/shunter/shunter/pick/Work" "done" "J" (.long w4) ∧ Fld Z h a1 "com/example/shunter/shunter/pick/Work" "phaseLimit" "J" (.long w2) ∧ Fld Z h a1 "com/example/shunter/shunter/pick/Work" "stopped" "Z" (.int (if w2 < w4 then (1 : Int32) else w3))
set_option maxRecDepth 65536 in
set_option maxHeartbeats 40000000 in
theorem rm5 (l : Launch) (Z : State) (a0 : Array Value) (hw : ∀ d ∈ tables_1, d.before a0 Z = true) (ws : List Jvm.Cond) (a1 : Addr) (q2 : Int64) (w1 : Int64) (w2 : Int64) (w3 : Int32) (w4 : Int64) (h0 : Heap) (n0 : Nat) (Z0 : n0 ≤ h0.size) (E_a1 : Exa Z h0 a1 "com/example/shunter/shunter/pick/Work") (F_3 : Fld Z h0 a1 "com/example/shunter/shunter/pick/Work" "done" "J" (.long w1)) (F_2 : Fld Z h0 a1 "com/example/shunter/shunter/pick/Work" "phaseLimit" "J" (.long w2)) (F_4 : Fld Z h0 a1 "com/example/shunter/shunter/pick/Work" "stopped" "Z" (.int w3)) (hs : (w1 + q2) = w4) (g_a1 : n0 ≤ a1) :
    MetFree l (⟨"com/example/shunter/shunter/pick/Work", "charge", "(J)Z"⟩ : MethodName) (head1 (Jvm.Cond.code (⟨"com/example/shunter/shunter/pick/Work", "charge", "(J)Z"⟩ : MethodName) prog_27_method_4_code 3 (some .boolean) :: ws) ({ frames := 0, cells := 0, slots := 0, locals := 0 } : Room)) (fun a U => a = #[(.ref a1), (.long q2)] ∧ Z.Warmed39 U.vm ∧ U.heap = h0) (fun _ _ _ _ _ => True) (fun _ U o U' => ∃ v L, o = .returned v ∧ Q5 Z a1 q2 w1 w2 w3 w4 h0 n0 v U'.heap L ∧ FrameEnd U o U' L ({ frames := 0, cells := 0, slots := 0, locals := 0 } : Room).cells ({ frames := 0, cells := 0, slots := 0, locals := 0 } : Room).slots) := by
  refine MetFree.of_bodySF (plainFor_of_name pn_5) hisR ?_
  intro p e s m args below meth c s₁ Bd hml0 hP hK
  obtain ⟨rfl, hZ, hh⟩ := hP
  have hx := Bd.exec
  have hby := Bd.bytes
  have hml : c.maxLocals = 3 := hml0
  have hown : s.vm.findClass "com/example/shunter/shunter/pick/Work" = some m.cls := findClass_of_methodNamed Bd.named
  have hnm := (name_of_methodNamed Bd.named Bd.method).1
  have X0 : Stand p l e ({ frames := 0, cells := 0, slots := 0, locals := 0 } : Room) s m #[(.ref a1), (.long q2)] below meth c s₁ [] 0 0 := Stand.of_body Bd
  have e0 : s₁.heap = h0 := by rw [← hh, Bd.state]; rfl
  have N0 := Fr.nil n0
  have pre0 : ∀ t, Steps p.tables e below (s₁.setTop (mkF m 0 #[.val (.ref a1), .val (.long q2), .second] [])) t → Steps p.tables e below (s₁.setTop (entryFrame m #[(.ref a1), (.long q2)] 3)) t := fun t k => castTop (ef_5 m a1 q2) k
  have K0 : Keep h0 h0 [a1] := Keep.refl h0 [a1]
  obtain ⟨T1, X1, e1, st1⟩ := getF X0 hx hZ hown (host := "") (Or.inl (hw _ (List.mem_of_getElem? (i := 25) rfl))) Via.refl e0 F_3 (g := (mkF m 2 #[.val (.ref a1), .val (.long q2), .second] [(.ref a1), (.ref a1)])) rfl rfl (hb hby d5_2)
  obtain ⟨T2, h2, X2, e2, W2, st2⟩ := putF X1 hx hZ hown (host := "") (Or.inl (hw _ (List.mem_of_getElem? (i := 25) rfl))) Via.refl e1 F_3 E_a1 (Or.inl (hw _ (List.mem_of_getElem? (i := 26) rfl))) (hw _ (List.mem_of_getElem? (i := 1) rfl)) (ty := .long) (by decide) rfl rfl (g := (mkF m 7 #[.val (.ref a1), .val (.long q2), .second] [(.long w4), (.ref a1)])) rfl rfl (hb hby d5_7)
  have f3 := F_3.same W2
  have f4 := E_a1.wr W2
  have f6 := F_2.other W2 (Or.inr (slot_ne (Or.inl (hw _ (List.mem_of_getElem? (i := 12) rfl))) (Or.inl (hw _ (List.mem_of_getElem? (i := 26) rfl))) (by decide) (t := .long) (t' := .long) (by decide) (by decide)))
  have f7 := F_4.other W2 (Or.inr (slot_ne (Or.inl (hw _ (List.mem_of_getElem? (i := 19) rfl))) (Or.inl (hw _ (List.mem_of_getElem? (i := 26) rfl))) (by decide) (t := .boolean) (t' := .long) (by decide) (by decide)))
  have K2 : Keep h0 h2 [a1] := K0.wr W2 (Or.inl (List.mem_of_getElem? (i := 0) rfl))
  have N2 := Fr.snoc X2 N0 g_a1
  have Z2 : n0 ≤ h2.size := Nat.le_trans Z0 (Keep.of_wr W2).1
  obtain ⟨T8, X8, e8, st8⟩ := getF X2 hx hZ hown (host := "") (Or.inl (hw _ (List.mem_of_getElem? (i := 25) rfl))) Via.refl e2 f3 (g := (mkF m 11 #[.val (.ref a1), .val (.long q2), .second] [(.ref a1)])) rfl rfl (hb hby d5_11)
  obtain ⟨T9, X9, e9, st9⟩ := getF X8 hx hZ hown (host := "") (Or.inl (hw _ (List.mem_of_getElem? (i := 11) rfl))) Via.refl e8 f6 (g := (mkF m 15 #[.val (.ref a1), .val (.long q2), .second] [(.ref a1), (.long w4)])) rfl rfl (hb hby d5_15)
  have c10 : Goes p e below s₁ (entryFrame m #[(.ref a1), (.long q2)] 3) T9 (mkF m 19 #[.val (.ref a1), .val (.long q2), .second] [(.int (lcmpW w4 w2))]) := fun t kt => pre0 t (by
    show Steps p.tables e below (s₁.setTop (mkF m 0 #[.val (.ref a1), .val (.long q2), .second] [])) _
    refine XS.aloadN X0.here hx rfl (hb hby d5_0) rfl rfl ?_
    show Steps p.tables e below (s₁.setTop (mkF m 1 #[.val (.ref a1), .val (.long q2), .second] [(.ref a1)])) _
    refine XS.dup X0.here hx rfl (hb hby d5_1) rfl rfl ?_
    show Steps p.tables e below (s₁.setTop (mkF m 2 #[.val (.ref a1), .val (.long q2), .second] [(.ref a1), (.ref a1)])) _
    refine st1 _ ?_
    show Steps p.tables e below (T1.setTop (mkF m 5 #[.val (.ref a1), .val (.long q2), .second] [(.long w1), (.ref a1)])) _
    refine XS.lloadN X1.here hx rfl (hb hby d5_5) rfl ?_
    show Steps p.tables e below (T1.setTop (mkF m 6 #[.val (.ref a1), .val (.long q2), .second] [(.long q2), (.long w1), (.ref a1)])) _
    refine XS.ladd X1.here hx rfl (hb hby d5_6) rfl ?_
    show Steps p.tables e below (T1.setTop (mkF m 7 #[.val (.ref a1), .val (.long q2), .second] [(.long (w1 + q2)), (.ref a1)])) _
    rw [hs]
    show Steps p.tables e below (T1.setTop (mkF m 7 #[.val (.ref a1), .val (.long q2), .second] [(.long w4), (.ref a1)])) _
    refine st2 _ ?_
    show Steps p.tables e below (T2.setTop (mkF m 10 #[.val (.ref a1), .val (.long q2), .second] [])) _
    refine XS.aloadN X2.here hx rfl (hb hby d5_10) rfl rfl ?_
    show Steps p.tables e below (T2.setTop (mkF m 11 #[.val (.ref a1), .val (.long q2), .second] [(.ref a1)])) _
    refine st8 _ ?_
    show Steps p.tables e below (T8.setTop (mkF m 14 #[.val (.ref a1), .val (.long q2), .second] [(.long w4)])) _
    refine XS.aloadN X8.here hx rfl (hb hby d5_14) rfl rfl ?_
    show Steps p.tables e below (T8.setTop (mkF m 15 #[.val (.ref a1), .val (.long q2), .second] [(.ref a1), (.long w4)])) _
    refine st9 _ ?_
    show Steps p.tables e below (T9.setTop (mkF m 18 #[.val (.ref a1), .val (.long q2), .second] [(.long w2), (.long w4)])) _
    refine XS.lcmp X9.here hx rfl (hb hby d5_18) rfl ?_
    show Steps p.tables e below (T9.setTop (mkF m 19 #[.val (.ref a1), .val (.long q2), .second] [(.int (lcmpW w4 w2))])) _
    exact kt)
  by_cases hc11 : w2 < w4
  · obtain ⟨T12, h12, X12, e12, W12, st12⟩ := putFN X9 hx hZ hown (hw _ (List.mem_of_getElem? (i := 18) rfl)) Via.refl e9 f7 f4 (Or.inl (hw _ (List.mem_of_getElem? (i := 19) rfl))) (hw _ (List.mem_of_getElem? (i := 1) rfl)) (ty := .boolean) (v' := (.int (1 : Int32))) (by decide) rfl (fits_nar_bool (1 : Int32)) (g := (mkF m 24 #[.val (.ref a1), .val (.long q2), .second] [(.int (1 : Int32)), (.ref a1)])) rfl rfl (hb hby d5_24)
    have f13 := f7.same W12
    have f14 := f4.wr W12
    have f15 := f3.other W12 (Or.inr (slot_ne (Or.inl (hw _ (List.mem_of_getElem? (i := 26) rfl))) (Or.inl (hw _ (List.mem_of_getElem? (i := 19) rfl))) (by decide) (t := .long) (t' := .boolean) (by decide) (by decide)))
    have f16 := f6.other W12 (Or.inr (slot_ne (Or.inl (hw _ (List.mem_of_getElem? (i := 12) rfl))) (Or.inl (hw _ (List.mem_of_getElem? (i := 19) rfl))) (by decide) (t := .long) (t' := .boolean) (by decide) (by decide)))
    have K12 : Keep h0 h12 [a1] := K2.wr W12 (Or.inl (List.mem_of_getElem? (i := 0) rfl))
    have N12 := Fr.snoc X12 N2 g_a1
    have Z12 : n0 ≤ h12.size := Nat.le_trans Z2 (Keep.of_wr W12).1
    obtain ⟨T18, X18, e18, st18⟩ := getF X12 hx hZ hown (host := "") (Or.inl (hw _ (List.mem_of_getElem? (i := 25) rfl))) Via.refl e12 f15 (g := (mkF m 28 #[.val (.ref a1), .val (.long q2), .second] [(.ref a1)])) rfl rfl (hb hby d5_28)
    obtain ⟨T19, X19, e19, st19⟩ := getF X18 hx hZ hown (host := "") (Or.inl (hw _ (List.mem_of_getElem? (i := 11) rfl))) Via.refl e18 f16 (g := (mkF m 32 #[.val (.ref a1), .val (.long q2), .second] [(.ref a1), (.long w4)])) rfl rfl (hb hby d5_32)
    have hv : (0 : Int32) = (if w2 < w4 then (0 : Int32) else (1 : Int32)) := by simp only [if_pos hc11] <;> rfl
    have hS : ∀ {h : Heap}, Fld Z h a1 "com/example/shunter/shunter/pick/Work" "stopped" "Z" (.int (1 : Int32)) → Fld Z h a1 "com/example/shunter/shunter/pick/Work" "stopped" "Z" (.int (if w2 < w4 then (1 : Int32) else w3)) := fun q => by rw [if_pos hc11]; exact q
    obtain ⟨fs, hr, hrun, hended, hW, hsame⟩ := X19.leave (v := some (.int (0 : Int32))) (fun h => by rw [Bd.returns] at h; cases h)
    refine ⟨_, _, c10 _ ?_, hrun, hended, _, _, rfl, ?_, ⟨_, rfl⟩, hW, hsame.mono (by decide) (by decide)⟩
    · show Steps p.tables e below (T9.setTop (mkF m 19 #[.val (.ref a1), .val (.long q2), .second] [(.int (lcmpW w4 w2))])) _
      refine XS.ifNo X9.here hx rfl (hb hby d5_19) rfl ((if0 _ _).trans (tlt ((lw_gt _ _).mpr hc11)).2.2.2) ?_
      show Steps p.tables e below (T9.setTop (mkF m 22 #[.val (.ref a1), .val (.long q2), .second] [])) _
      refine XS.aloadN X9.here hx rfl (hb hby d5_22) rfl rfl ?_
      show Steps p.tables e below (T9.setTop (mkF m 23 #[.val (.ref a1), .val (.long q2), .second] [(.ref a1)])) _
      refine XS.iconst X9.here hx rfl (hb hby d5_23) ?_
      show Steps p.tables e below (T9.setTop (mkF m 24 #[.val (.ref a1), .val (.long q2), .second] [(.int (1 : Int32)), (.ref a1)])) _
      refine st12 _ ?_
      show Steps p.tables e below (T12.setTop (mkF m 27 #[.val (.ref a1), .val (.long q2), .second] [])) _
      refine XS.aloadN X12.here hx rfl (hb hby d5_27) rfl rfl ?_
      show Steps p.tables e below (T12.setTop (mkF m 28 #[.val (.ref a1), .val (.long q2), .second] [(.ref a1)])) _
      refine st18 _ ?_
      show Steps p.tables e below (T18.setTop (mkF m 31 #[.val (.ref a1), .val (.long q2), .second] [(.long w4)])) _
      refine XS.aloadN X18.here hx rfl (hb hby d5_31) rfl rfl ?_
      show Steps p.tables e below (T18.setTop (mkF m 32 #[.val (.ref a1), .val (.long q2), .second] [(.ref a1), (.long w4)])) _
      refine st19 _ ?_
      show Steps p.tables e below (T19.setTop (mkF m 35 #[.val (.ref a1), .val (.long q2), .second] [(.long w2), (.long w4)])) _
      refine XS.lcmp X19.here hx rfl (hb hby d5_35) rfl ?_
      show Steps p.tables e below (T19.setTop (mkF m 36 #[.val (.ref a1), .val (.long q2), .second] [(.int (lcmpW w4 w2))])) _
      refine XS.ifYes X19.here hx rfl (pc0 := 36) (pc' := 43) rfl (hb hby d5_36) rfl ((if0 _ _).trans (tlt ((lw_gt _ _).mpr hc11)).2.2.1) (by decide) (by decide) ?_
      show Steps p.tables e below (T19.setTop (mkF m 43 #[.val (.ref a1), .val (.long q2), .second] [])) _
      refine XS.iconst X19.here hx rfl (hb hby d5_43) ?_
      show Steps p.tables e below (T19.setTop (mkF m 44 #[.val (.ref a1), .val (.long q2), .second] [(.int (0 : Int32))])) _
      exact retN X19 hx (t := .boolean) Bd.returns (by simp) (hb hby d5_44) hr
    · show Q5 Z a1 q2 w1 w2 w3 w4 h0 n0 _ T19.heap _
      rw [e19]
      exact ⟨congrArg (fun z => some (Value.int z)) hv, N12, K12, f14, f15, f16, hS f13⟩
  · obtain ⟨T20, X20, e20, st20⟩ := getF X9 hx hZ hown (host := "") (Or.inl (hw _ (List.mem_of_getElem? (i := 25) rfl))) Via.refl e9 f3 (g := (mkF m 28 #[.val (.ref a1), .val (.long q2), .second] [(.ref a1)])) rfl rfl (hb hby d5_28)
    obtain ⟨T21, X21, e21, st21⟩ := getF X20 hx hZ hown (host := "") (Or.inl (hw _ (List.mem_of_getElem? (i := 11) rfl))) Via.refl e20 f6 (g := (mkF m 32 #[.val (.ref a1), .val (.long q2), .second] [(.ref a1), (.long w4)])) rfl rfl (hb hby d5_32)
    have hv : (1 : Int32) = (if w2 < w4 then (0 : Int32) else (1 : Int32)) := by simp only [if_neg hc11] <;> rfl
    have hS : ∀ {h : Heap}, Fld Z h a1 "com/example/shunter/shunter/pick/Work" "stopped" "Z" (.int w3) → Fld Z h a1 "com/example/shunter/shunter/pick/Work" "stopped" "Z" (.int (if w2 < w4 then (1 : Int32) else w3)) := fun q => by rw [if_neg hc11]; exact q
    obtain ⟨fs, hr, hrun, hended, hW, hsame⟩ := X21.leave (v := some (.int (1 : Int32))) (fun h => by rw [Bd.returns] at h; cases h)
    refine ⟨_, _, c10 _ ?_, hrun, hended, _, _, rfl, ?_, ⟨_, rfl⟩, hW, hsame.mono (by decide) (by decide)⟩
    · show Steps p.tables e below (T9.setTop (mkF m 19 #[.val (.ref a1), .val (.long q2), .second] [(.int (lcmpW w4 w2))])) _
      refine XS.ifYes X9.here hx rfl (pc0 := 19) (pc' := 27) rfl (hb hby d5_19) rfl ((if0 _ _).trans (flt (fun q => hc11 ((lw_gt _ _).mp q))).2.2.2) (by decide) (by decide) ?_
      show Steps p.tables e below (T9.setTop (mkF m 27 #[.val (.ref a1), .val (.long q2), .second] [])) _
      refine XS.aloadN X9.here hx rfl (hb hby d5_27) rfl rfl ?_
      show Steps p.tables e below (T9.setTop (mkF m 28 #[.val (.ref a1), .val (.long q2), .second] [(.ref a1)])) _
      refine st20 _ ?_
      show Steps p.tables e below (T20.setTop (mkF m 31 #[.val (.ref a1), .val (.long q2), .second] [(.long w4)])) _
      refine XS.aloadN X20.here hx rfl (hb hby d5_31) rfl rfl ?_
      show Steps p.tables e below (T20.setTop (mkF m 32 #[.val (.ref a1), .val (.long q2), .second] [(.ref a1), (.long w4)])) _
      refine st21 _ ?_
      show Steps p.tables e below (T21.setTop (mkF m 35 #[.val (.ref a1), .val (.long q2), .second] [(.long w2), (.long w4)])) _
      refine XS.lcmp X21.here hx rfl (hb hby d5_35) rfl ?_
      show Steps p.tables e below (T21.setTop (mkF m 36 #[.val (.ref a1), .val (.long q2), .second] [(.int (lcmpW w4 w2))])) _
      refine XS.ifNo X21.here hx rfl (hb hby d5_36) rfl ((if0 _ _).trans (flt (fun q => hc11 ((lw_gt _ _).mp q))).2.2.1) ?_
      show Steps p.tables e below (T21.setTop (mkF m 39 #[.val (.ref a1), .val (.long q2), .second] [])) _
      refine XS.iconst X21.here hx rfl (hb hby d5_39) ?_
      show Steps p.tables e below (T21.setTop (mkF m 40 #[.val (.ref a1), .val (.long q2), .second] [(.int (1 : Int32))])) _
      refine XS.goto X21.here hx rfl (pc0 := 40) (pc' := 44) rfl (hb hby d5_40) (by decide) (by decide) ?_
      show Steps p.tables e below (T21.setTop (mkF m 44 #[.val (.ref a1), .val (.long q2), .second] [(.int (1 : Int32))])) _
      exact retN X21 hx (t := .boolean) Bd.returns (by simp) (hb hby d5_44) hr
    · show Q5 Z a1 q2 w1 w2 w3 w4 h0 n0 _ T21.heap _
      rw [e21]
      exact ⟨congrArg (fun z => some (Value.int z)) hv, N2, K2, f4, f3, f6, hS f7⟩
theorem pn_0 : plainName "com/example/shunter/shunter/pick/WorkChargePinLaw" = true := by first | (simp [plainName, overriddenIn]; done) | decide +kernel
theorem ef_0 (m : MethodId) (q1 : Int64) (q2 : Int64) (q3 : Int64) (p4 : Int32) : entryFrame m #[(.long q1), (.long q2), (.long q3), (.int p4)] maxLocals = mkF m 0 #[.val (.long q1), .second, .val (.long q2), .second, .val (.long q3), .second, .val (.int p4), .unset, .unset, .unset, .unset, .unset, .unset, .unset, .unset, .unset, .unset, .unset, .unset] [] := by first | (simp [entryFrame, mkF, argsToLocals, Value.category, maxLocals]; done) | rfl
theorem pd_0 : parseMethodDescriptor "(J)V" = some ⟨[.long], none⟩ := by decide +kernel
theorem pd_2 : parseMethodDescriptor "()Z" = some ⟨[], some .boolean⟩ := by decide +kernel
theorem pd_3 : parseMethodDescriptor "(J)Z" = some ⟨[.long], some .boolean⟩ := by decide +kernel
def Q0 (Z : State) (q1 : Int64) (q2 : Int64) (q3 : Int64) (p4 : Int32) (h0 : Heap) (n0 : Nat) (v : Option Value) (h : Heap) (L : List Loc) : Prop := v = some (.int (1 : Int32)) ∧ Fr n0 L
set_option maxRecDepth 65536 in
set_option maxHeartbeats 40000000 in
theorem rm0 (l : Launch) (Z : State) (a0 : Array Value) (hw : ∀ d ∈ tables_1, d.before a0 Z = true) (ws : List Jvm.Cond) (q1 : Int64) (q2 : Int64) (q3 : Int64) (p4 : Int32) (h0 : Heap) (n0 : Nat) (Z0 : n0 ≤ h0.size) :
    MetFree l x (head1 (Jvm.Cond.code x code maxLocals ret :: ws) room_1) (fun a U => a = #[(.long q1), (.long q2), (.long q3), (.int p4)] ∧ Z.Warmed39 U.vm ∧ U.heap = h0) (fun _ _ _ _ _ => True) (fun _ U o U' => ∃ v L, o = .returned v ∧ Q0 Z q1 q2 q3 p4 h0 n0 v U'.heap L ∧ FrameEnd U o U' L room_1.cells room_1.slots) := by
  refine MetFree.of_bodySF (plainFor_of_name pn_0) hisR ?_
  intro p e s m args below meth c s₁ Bd hml0 hP hK
  obtain ⟨rfl, hZ, hh⟩ := hP
  have hx := Bd.exec
  have hby := Bd.bytes
  have hml : c.maxLocals = 19 := hml0
  have hown : s.vm.findClass "com/example/shunter/shunter/pick/WorkChargePinLaw" = some m.cls := findClass_of_methodNamed Bd.named
  have hnm := (name_of_methodNamed Bd.named Bd.method).1
  have X0 : Stand p l e room_1 s m #[(.long q1), (.long q2), (.long q3), (.int p4)] below meth c s₁ [] 0 0 := Stand.of_body Bd
  have e0 : s₁.heap = h0 := by rw [← hh, Bd.state]; rfl
  have N0 := Fr.nil n0
  have pre0 : ∀ t, Steps p.tables e below (s₁.setTop (mkF m 0 #[.val (.long q1), .second, .val (.long q2), .second, .val (.long q3), .second, .val (.int p4), .unset, .unset, .unset, .unset, .unset, .unset, .unset, .unset, .unset, .unset, .unset, .unset] [])) t → Steps p.tables e below (s₁.setTop (entryFrame m #[(.long q1), (.long q2), (.long q3), (.int p4)] maxLocals)) t := fun t k => castTop (ef_0 m q1 q2 q3 p4) k
  have K0 : Keep h0 h0 [] := Keep.refl h0 []
  have c1 : Goes p e below s₁ (entryFrame m #[(.long q1), (.long q2), (.long q3), (.int p4)] maxLocals) s₁ (mkF m 4 #[.val (.long q1), .second, .val (.long q2), .second, .val (.long q3), .second, .val (.int p4), .unset, .unset, .unset, .unset, .unset, .unset, .unset, .unset, .unset, .unset, .unset, .unset] [(.int (p4 &&& (1 : Int32)))]) := fun t kt => pre0 t (by
    show Steps p.tables e below (s₁.setTop (mkF m 0 #[.val (.long q1), .second, .val (.long q2), .second, .val (.long q3), .second, .val (.int p4), .unset, .unset, .unset, .unset, .unset, .unset, .unset, .unset, .unset, .unset, .unset, .unset] [])) _
    refine XS.iload X0.here hx rfl (hb hby at_0) rfl ?_
    show Steps p.tables e below (s₁.setTop (mkF m 2 #[.val (.long q1), .second, .val (.long q2), .second, .val (.long q3), .second, .val (.int p4), .unset, .unset, .unset, .unset, .unset, .unset, .unset, .unset, .unset, .unset, .unset, .unset] [(.int p4)])) _
    refine XS.iconst X0.here hx rfl (hb hby at_2) ?_
    show Steps p.tables e below (s₁.setTop (mkF m 3 #[.val (.long q1), .second, .val (.long q2), .second, .val (.long q3), .second, .val (.int p4), .unset, .unset, .unset, .unset, .unset, .unset, .unset, .unset, .unset, .unset, .unset, .unset] [(.int (1 : Int32)), (.int p4)])) _
    refine XS.iand X0.here hx rfl (hb hby at_3) rfl ?_
    show Steps p.tables e below (s₁.setTop (mkF m 4 #[.val (.long q1), .second, .val (.long q2), .second, .val (.long q3), .second, .val (.int p4), .unset, .unset, .unset, .unset, .unset, .unset, .unset, .unset, .unset, .unset, .unset, .unset] [(.int (p4 &&& (1 : Int32)))])) _
    exact kt)
  have c3 : Goes p e below s₁ (entryFrame m #[(.long q1), (.long q2), (.long q3), (.int p4)] maxLocals) s₁ (mkF m 25 #[.val (.long q1), .second, .val (.long q2), .second, .val (.long q3), .second, .val (.int p4), .unset, .unset, .unset, .unset, .unset, .unset, .unset, .unset, .unset, .unset, .unset, .unset] [(.long (if (p4 &&& (1 : Int32)) = (0 : Int32) then q3 else ((q1 - q2) + ((((p4 >>> ((1 : Int32) &&& 31)) &&& (3 : Int32)) - (1 : Int32)).toInt64))))]) := fun t kt => c1 t (by
    by_cases hc2 : (p4 &&& (1 : Int32)) = (0 : Int32)
    · show Steps p.tables e below (s₁.setTop (mkF m 4 #[.val (.long q1), .second, .val (.long q2), .second, .val (.long q3), .second, .val (.int p4), .unset, .unset, .unset, .unset, .unset, .unset, .unset, .unset, .unset, .unset, .unset, .unset] [(.int (p4 &&& (1 : Int32)))])) _
      refine XS.ifYes X0.here hx rfl (pc0 := 4) (pc' := 23) rfl (hb hby at_4) rfl ((if0 _ _).trans (teq hc2).1) (by decide) (by decide) ?_
      show Steps p.tables e below (s₁.setTop (mkF m 23 #[.val (.long q1), .second, .val (.long q2), .second, .val (.long q3), .second, .val (.int p4), .unset, .unset, .unset, .unset, .unset, .unset, .unset, .unset, .unset, .unset, .unset, .unset] [])) _
      refine XS.lload X0.here hx rfl (hb hby at_23) rfl ?_
      show Steps p.tables e below (s₁.setTop (mkF m 25 #[.val (.long q1), .second, .val (.long q2), .second, .val (.long q3), .second, .val (.int p4), .unset, .unset, .unset, .unset, .unset, .unset, .unset, .unset, .unset, .unset, .unset, .unset] [(.long q3)])) _
      simpa only [if_pos hc2] using kt
    · show Steps p.tables e below (s₁.setTop (mkF m 4 #[.val (.long q1), .second, .val (.long q2), .second, .val (.long q3), .second, .val (.int p4), .unset, .unset, .unset, .unset, .unset, .unset, .unset, .unset, .unset, .unset, .unset, .unset] [(.int (p4 &&& (1 : Int32)))])) _
      refine XS.ifNo X0.here hx rfl (hb hby at_4) rfl ((if0 _ _).trans (feq hc2).1) ?_
      show Steps p.tables e below (s₁.setTop (mkF m 7 #[.val (.long q1), .second, .val (.long q2), .second, .val (.long q3), .second, .val (.int p4), .unset, .unset, .unset, .unset, .unset, .unset, .unset, .unset, .unset, .unset, .unset, .unset] [])) _
      refine XS.lloadN X0.here hx rfl (hb hby at_7) rfl ?_
      show Steps p.tables e below (s₁.setTop (mkF m 8 #[.val (.long q1), .second, .val (.long q2), .second, .val (.long q3), .second, .val (.int p4), .unset, .unset, .unset, .unset, .unset, .unset, .unset, .unset, .unset, .unset, .unset, .unset] [(.long q1)])) _
      refine XS.lloadN X0.here hx rfl (hb hby at_8) rfl ?_
      show Steps p.tables e below (s₁.setTop (mkF m 9 #[.val (.long q1), .second, .val (.long q2), .second, .val (.long q3), .second, .val (.int p4), .unset, .unset, .unset, .unset, .unset, .unset, .unset, .unset, .unset, .unset, .unset, .unset] [(.long q2), (.long q1)])) _
      refine XS.lsub X0.here hx rfl (hb hby at_9) rfl ?_
      show Steps p.tables e below (s₁.setTop (mkF m 10 #[.val (.long q1), .second, .val (.long q2), .second, .val (.long q3), .second, .val (.int p4), .unset, .unset, .unset, .unset, .unset, .unset, .unset, .unset, .unset, .unset, .unset, .unset] [(.long (q1 - q2))])) _
      refine XS.iload X0.here hx rfl (hb hby at_10) rfl ?_
      show Steps p.tables e below (s₁.setTop (mkF m 12 #[.val (.long q1), .second, .val (.long q2), .second, .val (.long q3), .second, .val (.int p4), .unset, .unset, .unset, .unset, .unset, .unset, .unset, .unset, .unset, .unset, .unset, .unset] [(.int p4), (.long (q1 - q2))])) _
      refine XS.iconst X0.here hx rfl (hb hby at_12) ?_
      show Steps p.tables e below (s₁.setTop (mkF m 13 #[.val (.long q1), .second, .val (.long q2), .second, .val (.long q3), .second, .val (.int p4), .unset, .unset, .unset, .unset, .unset, .unset, .unset, .unset, .unset, .unset, .unset, .unset] [(.int (1 : Int32)), (.int p4), (.long (q1 - q2))])) _
      refine XS.ishr X0.here hx rfl (hb hby at_13) rfl ?_
      show Steps p.tables e below (s₁.setTop (mkF m 14 #[.val (.long q1), .second, .val (.long q2), .second, .val (.long q3), .second, .val (.int p4), .unset, .unset, .unset, .unset, .unset, .unset, .unset, .unset, .unset, .unset, .unset, .unset] [(.int (p4 >>> ((1 : Int32) &&& 31))), (.long (q1 - q2))])) _
      refine XS.iconst X0.here hx rfl (hb hby at_14) ?_
      show Steps p.tables e below (s₁.setTop (mkF m 15 #[.val (.long q1), .second, .val (.long q2), .second, .val (.long q3), .second, .val (.int p4), .unset, .unset, .unset, .unset, .unset, .unset, .unset, .unset, .unset, .unset, .unset, .unset] [(.int (3 : Int32)), (.int (p4 >>> ((1 : Int32) &&& 31))), (.long (q1 - q2))])) _
      refine XS.iand X0.here hx rfl (hb hby at_15) rfl ?_
      show Steps p.tables e below (s₁.setTop (mkF m 16 #[.val (.long q1), .second, .val (.long q2), .second, .val (.long q3), .second, .val (.int p4), .unset, .unset, .unset, .unset, .unset, .unset, .unset, .unset, .unset, .unset, .unset, .unset] [(.int ((p4 >>> ((1 : Int32) &&& 31)) &&& (3 : Int32))), (.long (q1 - q2))])) _
      refine XS.iconst X0.here hx rfl (hb hby at_16) ?_
      show Steps p.tables e below (s₁.setTop (mkF m 17 #[.val (.long q1), .second, .val (.long q2), .second, .val (.long q3), .second, .val (.int p4), .unset, .unset, .unset, .unset, .unset, .unset, .unset, .unset, .unset, .unset, .unset, .unset] [(.int (1 : Int32)), (.int ((p4 >>> ((1 : Int32) &&& 31)) &&& (3 : Int32))), (.long (q1 - q2))])) _
      refine XS.isub X0.here hx rfl (hb hby at_17) rfl ?_
      show Steps p.tables e below (s₁.setTop (mkF m 18 #[.val (.long q1), .second, .val (.long q2), .second, .val (.long q3), .second, .val (.int p4), .unset, .unset, .unset, .unset, .unset, .unset, .unset, .unset, .unset, .unset, .unset, .unset] [(.int (((p4 >>> ((1 : Int32) &&& 31)) &&& (3 : Int32)) - (1 : Int32))), (.long (q1 - q2))])) _
      refine XS.i2l X0.here hx rfl (hb hby at_18) rfl ?_
      show Steps p.tables e below (s₁.setTop (mkF m 19 #[.val (.long q1), .second, .val (.long q2), .second, .val (.long q3), .second, .val (.int p4), .unset, .unset, .unset, .unset, .unset, .unset, .unset, .unset, .unset, .unset, .unset, .unset] [(.long ((((p4 >>> ((1 : Int32) &&& 31)) &&& (3 : Int32)) - (1 : Int32)).toInt64)), (.long (q1 - q2))])) _
      refine XS.ladd X0.here hx rfl (hb hby at_19) rfl ?_
      show Steps p.tables e below (s₁.setTop (mkF m 20 #[.val (.long q1), .second, .val (.long q2), .second, .val (.long q3), .second, .val (.int p4), .unset, .unset, .unset, .unset, .unset, .unset, .unset, .unset, .unset, .unset, .unset, .unset] [(.long ((q1 - q2) + ((((p4 >>> ((1 : Int32) &&& 31)) &&& (3 : Int32)) - (1 : Int32)).toInt64)))])) _
      refine XS.goto X0.here hx rfl (pc0 := 20) (pc' := 25) rfl (hb hby at_20) (by decide) (by decide) ?_
      show Steps p.tables e below (s₁.setTop (mkF m 25 #[.val (.long q1), .second, .val (.long q2), .second, .val (.long q3), .second, .val (.int p4), .unset, .unset, .unset, .unset, .unset, .unset, .unset, .unset, .unset, .unset, .unset, .unset] [(.long ((q1 - q2) + ((((p4 >>> ((1 : Int32) &&& 31)) &&& (3 : Int32)) - (1 : Int32)).toInt64)))])) _
      simpa only [if_neg hc2] using kt)
  obtain ⟨u, hu⟩ : ∃ z : Int64, z = (if (p4 &&& (1 : Int32)) = (0 : Int32) then q3 else ((q1 - q2) + ((((p4 >>> ((1 : Int32) &&& 31)) &&& (3 : Int32)) - (1 : Int32)).toInt64))) := ⟨_, rfl⟩
  obtain ⟨T4, h4, X4, e4, E4, A4, D4, -, st4⟩ := newO X0 hx hZ hown (hw _ (List.mem_of_getElem? (i := 0) rfl)) (hw _ (List.mem_of_getElem? (i := 1) rfl)) (hw _ (List.mem_of_getElem? (i := 2) rfl)) e0 (g := (mkF m 27 #[.val (.long q1), .second, .val (.long q2), .second, .val (.long q3), .second, .val (.int p4), .val (.long u), .second, .unset, .unset, .unset, .unset, .unset, .unset, .unset, .unset, .unset, .unset] [])) rfl (hb hby at_27) (by decide) (by decide)
  obtain ⟨b4, g4⟩ : ∃ z, z = h0.size := ⟨_, rfl⟩
  rw [← g4] at A4 D4 st4
  have g_b4 : n0 ≤ b4 := Nat.le_trans Z0 (Nat.le_of_eq g4.symm)
  have sz_b4 : h0.size ≤ b4 := Nat.le_trans K0.1 (Nat.le_of_eq g4.symm)
  have K4 : Keep h0 h4 [] := K0.ext E4
  have Z4 : n0 ≤ h4.size := Nat.le_trans Z0 E4.1
  have f5 : Fld Z h4 b4 "com/example/shunter/shunter/pick/Work" "limit" "J" (.long (0 : Int64)) := D4 (Or.inr (hw _ (List.mem_of_getElem? (i := 10) rfl))) (ty := .long) (by decide)
  have f6 : Fld Z h4 b4 "com/example/shunter/shunter/pick/Work" "phaseLimit" "J" (.long (0 : Int64)) := D4 (Or.inl (hw _ (List.mem_of_getElem? (i := 12) rfl))) (ty := .long) (by decide)
  have f7 : Fld Z h4 b4 "com/example/shunter/shunter/pick/Work" "stopped" "Z" (.int (0 : Int32)) := D4 (Or.inl (hw _ (List.mem_of_getElem? (i := 19) rfl))) (ty := .boolean) (by decide)
  have f8 : Fld Z h4 b4 "com/example/shunter/shunter/pick/Work" "done" "J" (.long (0 : Int64)) := D4 (Or.inl (hw _ (List.mem_of_getElem? (i := 26) rfl))) (ty := .long) (by decide)
  obtain ⟨_, _, ⟨T9, L9, k9, n9⟩, -, X9, ⟨Lc9, hQ9, l9, y9, z9⟩, st9⟩ := X4.specialBack hx (y := (⟨"com/example/shunter/shunter/pick/Work", "<init>", "(J)V"⟩ : MethodName)) rfl hown (mvT hZ (hw _ (List.mem_of_getElem? (i := 3) rfl))) (mvT hZ (hw _ (List.mem_of_getElem? (i := 4) rfl))) (mvT hZ (hw _ (List.mem_of_getElem? (i := 5) rfl))) (by decide) (backOf (W := 1) (rm1 l Z a0 hw [] b4 q1 (.long (0 : Int64)) (.long (0 : Int64)) (0 : Int64) (0 : Int32) h4 n0 Z4 A4 f5 f6 f8 f7 g_b4) hZ (hw _ (List.mem_of_getElem? (i := 5) rfl)) (hw _ (List.mem_of_getElem? (i := 2) rfl)) (by decide) (by decide)) (g := (mkF m 32 #[.val (.long q1), .second, .val (.long q2), .second, .val (.long q3), .second, .val (.int p4), .val (.long u), .second, .unset, .unset, .unset, .unset, .unset, .unset, .unset, .unset, .unset, .unset] [(.long q1), (.ref b4), (.ref b4)])) rfl (by rw [hml]; rfl) (Steps.refl _) (a := b4) (argsL := [(.long q1)]) (rest := [(.ref b4)]) (lenOf pd_0 rfl) rfl (by show 2 * 0 + _ ≤ _; exact Nat.le_of_eq rfl) (hb hby at_32) (fun _ _ => ⟨rfl, e4, (by decide : 1 + 0 ≤ _), (by decide : 4 + 0 ≤ _)⟩)
  dsimp only [Pt.U, Pt.locs, Pt.cells, Pt.slots] at X9 l9 y9 z9 st9 hQ9
  subst l9 y9 z9
  obtain ⟨rfl, N9q, r9_0, r9_1, r9_2, r9_3, r9_4⟩ := hQ9
  have N9 := Fr.app N0 N9q
  have f10 := A4.keep r9_0
  have K9 : Keep h0 T9.heap [] := K4.trans r9_0 (allS (Or.inr sz_b4) all0)
  have Z9 : n0 ≤ T9.heap.size := Nat.le_trans Z4 r9_0.1
  obtain ⟨cq15, kq15, q15a, q15b, q15c⟩ := isOf hZ rfl r9_1
  obtain ⟨_, _, ⟨T15, L15, k15, n15⟩, -, X15, ⟨Lc15, hQ15, l15, y15, z15⟩, st15⟩ := X9.virtualBack hx (y := (⟨"com/example/shunter/shunter/pick/Work", "hasStopped", "()Z"⟩ : MethodName)) (z := (⟨"com/example/shunter/shunter/pick/Work", "hasStopped", "()Z"⟩ : MethodName)) hown (mvT hZ (hw _ (List.mem_of_getElem? (i := 13) rfl))) (mvT hZ (hw _ (List.mem_of_getElem? (i := 14) rfl))) (notFace_of_selects (args := #[]) (mvT hZ (hw _ (List.mem_of_getElem? (i := 16) rfl)))) (mvT hZ (hw _ (List.mem_of_getElem? (i := 16) rfl))) (mvT hZ (hw _ (List.mem_of_getElem? (i := 15) rfl))) (by decide) (backOf (W := 0) (rm3 l Z a0 hw [] b4 (0 : Int32) T9.heap n0 Z9 r9_4 own_n0) hZ (hw _ (List.mem_of_getElem? (i := 17) rfl)) (hw _ (List.mem_of_getElem? (i := 2) rfl)) (by decide) (by decide)) q15a q15c (g := (mkF m 39 #[.val (.long q1), .second, .val (.long q2), .second, .val (.long q3), .second, .val (.int p4), .val (.long u), .second, .val (.ref b4), .unset, .unset, .unset, .unset, .unset, .unset, .unset, .unset, .unset] [(.ref b4)])) rfl (by rw [hml]; rfl) (Steps.refl _) (argsL := []) (rest := []) (lenOf pd_2 rfl) rfl (by show 2 * 0 + _ ≤ _; exact Nat.le_of_eq rfl) (hb hby at_39) (fun _ _ => ⟨rfl, rfl, (by decide : 1 + 0 ≤ _), (by decide : 4 + 0 ≤ _)⟩)
  dsimp only [Pt.U, Pt.locs, Pt.cells, Pt.slots] at X15 l15 y15 z15 st15 hQ15
  subst l15 y15 z15
  obtain ⟨rfl, N15q, r15_0⟩ := hQ15
  have N15 := Fr.app N9 N15q
  obtain ⟨cq16, kq16, q16a, q16b, q16c⟩ := isOf hZ r15_0 r9_1
  obtain ⟨_, _, ⟨T16, L16, k16, n16⟩, -, X16, ⟨Lc16, hQ16, l16, y16, z16⟩, st16⟩ := X15.virtualBack hx (y := (⟨"com/example/shunter/shunter/pick/Work", "isSpent", "()Z"⟩ : MethodName)) (z := (⟨"com/example/shunter/shunter/pick/Work", "isSpent", "()Z"⟩ : MethodName)) hown (mvT hZ (hw _ (List.mem_of_getElem? (i := 20) rfl))) (mvT hZ (hw _ (List.mem_of_getElem? (i := 21) rfl))) (notFace_of_selects (args := #[]) (mvT hZ (hw _ (List.mem_of_getElem? (i := 23) rfl)))) (mvT hZ (hw _ (List.mem_of_getElem? (i := 23) rfl))) (mvT hZ (hw _ (List.mem_of_getElem? (i := 22) rfl))) (by decide) (backOf (W := 0) (rm4 l Z a0 hw [] b4 (0 : Int64) q1 T9.heap n0 Z9 r9_3 r9_2) hZ (hw _ (List.mem_of_getElem? (i := 24) rfl)) (hw _ (List.mem_of_getElem? (i := 2) rfl)) (by decide) (by decide)) q16a q16c (g := (mkF m 47 #[.val (.long q1), .second, .val (.long q2), .second, .val (.long q3), .second, .val (.int p4), .val (.long u), .second, .val (.ref b4), .unset, .unset, .unset, .unset, .unset, .unset, .unset, .unset, .unset] [(.ref b4)])) rfl (by rw [hml]; rfl) (Steps.refl _) (argsL := []) (rest := []) (lenOf pd_2 rfl) rfl (by show 2 * 0 + _ ≤ _; exact Nat.le_of_eq rfl) (hb hby at_47) (fun _ _ => ⟨rfl, r15_0, (by decide : 1 + 0 ≤ _), (by decide : 4 + 0 ≤ _)⟩)
  dsimp only [Pt.U, Pt.locs, Pt.cells, Pt.slots] at X16 l16 y16 z16 st16 hQ16
  subst l16 y16 z16
  obtain ⟨rfl, N16q, r16_0⟩ := hQ16
  have N16 := Fr.app N15 N16q
  have c17 : Goes p e below s₁ (entryFrame m #[(.long q1), (.long q2), (.long q3), (.int p4)] maxLocals) T16 (mkF m 53 #[.val (.long q1), .second, .val (.long q2), .second, .val (.long q3), .second, .val (.int p4), .val (.long u), .second, .val (.ref b4), .unset, .unset, .unset, .unset, .unset, .unset, .unset, .unset, .unset] [(.int (lcmpW (0 : Int64) q1)), (.int (if q1 < (0 : Int64) then (1 : Int32) else (0 : Int32)))]) := fun t kt => c3 t (by
    show Steps p.tables e below (s₁.setTop (mkF m 25 #[.val (.long q1), .second, .val (.long q2), .second, .val (.long q3), .second, .val (.int p4), .unset, .unset, .unset, .unset, .unset, .unset, .unset, .unset, .unset, .unset, .unset, .unset] [(.long (if (p4 &&& (1 : Int32)) = (0 : Int32) then q3 else ((q1 - q2) + ((((p4 >>> ((1 : Int32) &&& 31)) &&& (3 : Int32)) - (1 : Int32)).toInt64))))])) _
    refine XS.lstore X0.here hx rfl (hb hby at_25) rfl (l' := #[.val (.long q1), .second, .val (.long q2), .second, .val (.long q3), .second, .val (.int p4), .val (.long (if (p4 &&& (1 : Int32)) = (0 : Int32) then q3 else ((q1 - q2) + ((((p4 >>> ((1 : Int32) &&& 31)) &&& (3 : Int32)) - (1 : Int32)).toInt64)))), .second, .unset, .unset, .unset, .unset, .unset, .unset, .unset, .unset, .unset, .unset]) rfl ?_
    show Steps p.tables e below (s₁.setTop (mkF m 27 #[.val (.long q1), .second, .val (.long q2), .second, .val (.long q3), .second, .val (.int p4), .val (.long (if (p4 &&& (1 : Int32)) = (0 : Int32) then q3 else ((q1 - q2) + ((((p4 >>> ((1 : Int32) &&& 31)) &&& (3 : Int32)) - (1 : Int32)).toInt64)))), .second, .unset, .unset, .unset, .unset, .unset, .unset, .unset, .unset, .unset, .unset] [])) _
    rw [← hu]
    show Steps p.tables e below (s₁.setTop (mkF m 27 #[.val (.long q1), .second, .val (.long q2), .second, .val (.long q3), .second, .val (.int p4), .val (.long u), .second, .unset, .unset, .unset, .unset, .unset, .unset, .unset, .unset, .unset, .unset] [])) _
    refine st4 _ ?_
    show Steps p.tables e below (T4.setTop (mkF m 30 #[.val (.long q1), .second, .val (.long q2), .second, .val (.long q3), .second, .val (.int p4), .val (.long u), .second, .unset, .unset, .unset, .unset, .unset, .unset, .unset, .unset, .unset, .unset] [(.ref b4)])) _
    refine XS.dup X4.here hx rfl (hb hby at_30) rfl rfl ?_
    show Steps p.tables e below (T4.setTop (mkF m 31 #[.val (.long q1), .second, .val (.long q2), .second, .val (.long q3), .second, .val (.int p4), .val (.long u), .second, .unset, .unset, .unset, .unset, .unset, .unset, .unset, .unset, .unset, .unset] [(.ref b4), (.ref b4)])) _
    refine XS.lloadN X4.here hx rfl (hb hby at_31) rfl ?_
    show Steps p.tables e below (T4.setTop (mkF m 32 #[.val (.long q1), .second, .val (.long q2), .second, .val (.long q3), .second, .val (.int p4), .val (.long u), .second, .unset, .unset, .unset, .unset, .unset, .unset, .unset, .unset, .unset, .unset] [(.long q1), (.ref b4), (.ref b4)])) _
    refine st9.trans ?_
    show Steps p.tables e below (T9.setTop (mkF m 35 #[.val (.long q1), .second, .val (.long q2), .second, .val (.long q3), .second, .val (.int p4), .val (.long u), .second, .unset, .unset, .unset, .unset, .unset, .unset, .unset, .unset, .unset, .unset] [(.ref b4)])) _
    refine XS.astore X9.here hx rfl (hb hby at_35) rfl rfl (l' := #[.val (.long q1), .second, .val (.long q2), .second, .val (.long q3), .second, .val (.int p4), .val (.long u), .second, .val (.ref b4), .unset, .unset, .unset, .unset, .unset, .unset, .unset, .unset, .unset]) rfl ?_
    show Steps p.tables e below (T9.setTop (mkF m 37 #[.val (.long q1), .second, .val (.long q2), .second, .val (.long q3), .second, .val (.int p4), .val (.long u), .second, .val (.ref b4), .unset, .unset, .unset, .unset, .unset, .unset, .unset, .unset, .unset] [])) _
    refine XS.aload X9.here hx rfl (hb hby at_37) rfl rfl ?_
    show Steps p.tables e below (T9.setTop (mkF m 39 #[.val (.long q1), .second, .val (.long q2), .second, .val (.long q3), .second, .val (.int p4), .val (.long u), .second, .val (.ref b4), .unset, .unset, .unset, .unset, .unset, .unset, .unset, .unset, .unset] [(.ref b4)])) _
    refine st15.trans ?_
    show Steps p.tables e below (T15.setTop (mkF m 42 #[.val (.long q1), .second, .val (.long q2), .second, .val (.long q3), .second, .val (.int p4), .val (.long u), .second, .val (.ref b4), .unset, .unset, .unset, .unset, .unset, .unset, .unset, .unset, .unset] [(.int (0 : Int32))])) _
    refine XS.ifNo X15.here hx rfl (hb hby at_42) rfl ((if0 _ _).trans (teq (by decide : ((0 : Int32) = (0 : Int32)))).2) ?_
    show Steps p.tables e below (T15.setTop (mkF m 45 #[.val (.long q1), .second, .val (.long q2), .second, .val (.long q3), .second, .val (.int p4), .val (.long u), .second, .val (.ref b4), .unset, .unset, .unset, .unset, .unset, .unset, .unset, .unset, .unset] [])) _
    refine XS.aload X15.here hx rfl (hb hby at_45) rfl rfl ?_
    show Steps p.tables e below (T15.setTop (mkF m 47 #[.val (.long q1), .second, .val (.long q2), .second, .val (.long q3), .second, .val (.int p4), .val (.long u), .second, .val (.ref b4), .unset, .unset, .unset, .unset, .unset, .unset, .unset, .unset, .unset] [(.ref b4)])) _
    refine st16.trans ?_
    show Steps p.tables e below (T16.setTop (mkF m 50 #[.val (.long q1), .second, .val (.long q2), .second, .val (.long q3), .second, .val (.int p4), .val (.long u), .second, .val (.ref b4), .unset, .unset, .unset, .unset, .unset, .unset, .unset, .unset, .unset] [(.int (if q1 < (0 : Int64) then (1 : Int32) else (0 : Int32)))])) _
    refine XS.lconst X16.here hx rfl (hb hby at_50) ?_
    show Steps p.tables e below (T16.setTop (mkF m 51 #[.val (.long q1), .second, .val (.long q2), .second, .val (.long q3), .second, .val (.int p4), .val (.long u), .second, .val (.ref b4), .unset, .unset, .unset, .unset, .unset, .unset, .unset, .unset, .unset] [(.long (0 : Int64)), (.int (if q1 < (0 : Int64) then (1 : Int32) else (0 : Int32)))])) _
    refine XS.lloadN X16.here hx rfl (hb hby at_51) rfl ?_
    show Steps p.tables e below (T16.setTop (mkF m 52 #[.val (.long q1), .second, .val (.long q2), .second, .val (.long q3), .second, .val (.int p4), .val (.long u), .second, .val (.ref b4), .unset, .unset, .unset, .unset, .unset, .unset, .unset, .unset, .unset] [(.long q1), (.long (0 : Int64)), (.int (if q1 < (0 : Int64) then (1 : Int32) else (0 : Int32)))])) _
    refine XS.lcmp X16.here hx rfl (hb hby at_52) rfl ?_
    show Steps p.tables e below (T16.setTop (mkF m 53 #[.val (.long q1), .second, .val (.long q2), .second, .val (.long q3), .second, .val (.int p4), .val (.long u), .second, .val (.ref b4), .unset, .unset, .unset, .unset, .unset, .unset, .unset, .unset, .unset] [(.int (lcmpW (0 : Int64) q1)), (.int (if q1 < (0 : Int64) then (1 : Int32) else (0 : Int32)))])) _
    exact kt)
  have c19 : Goes p e below s₁ (entryFrame m #[(.long q1), (.long q2), (.long q3), (.int p4)] maxLocals) T16 (mkF m 61 #[.val (.long q1), .second, .val (.long q2), .second, .val (.long q3), .second, .val (.int p4), .val (.long u), .second, .val (.ref b4), .unset, .unset, .unset, .unset, .unset, .unset, .unset, .unset, .unset] [(.int (if q1 < (0 : Int64) then (1 : Int32) else (0 : Int32))), (.int (if q1 < (0 : Int64) then (1 : Int32) else (0 : Int32)))]) := fun t kt => c17 t (by
    by_cases hc18 : q1 < (0 : Int64)
    · show Steps p.tables e below (T16.setTop (mkF m 53 #[.val (.long q1), .second, .val (.long q2), .second, .val (.long q3), .second, .val (.int p4), .val (.long u), .second, .val (.ref b4), .unset, .unset, .unset, .unset, .unset, .unset, .unset, .unset, .unset] [(.int (lcmpW (0 : Int64) q1)), (.int (if q1 < (0 : Int64) then (1 : Int32) else (0 : Int32)))])) _
      refine XS.ifNo X16.here hx rfl (hb hby at_53) rfl ((if0 _ _).trans (tlt ((lw_gt _ _).mpr hc18)).2.2.2) ?_
      show Steps p.tables e below (T16.setTop (mkF m 56 #[.val (.long q1), .second, .val (.long q2), .second, .val (.long q3), .second, .val (.int p4), .val (.long u), .second, .val (.ref b4), .unset, .unset, .unset, .unset, .unset, .unset, .unset, .unset, .unset] [(.int (if q1 < (0 : Int64) then (1 : Int32) else (0 : Int32)))])) _
      refine XS.iconst X16.here hx rfl (hb hby at_56) ?_
      show Steps p.tables e below (T16.setTop (mkF m 57 #[.val (.long q1), .second, .val (.long q2), .second, .val (.long q3), .second, .val (.int p4), .val (.long u), .second, .val (.ref b4), .unset, .unset, .unset, .unset, .unset, .unset, .unset, .unset, .unset] [(.int (1 : Int32)), (.int (if q1 < (0 : Int64) then (1 : Int32) else (0 : Int32)))])) _
      refine XS.goto X16.here hx rfl (pc0 := 57) (pc' := 61) rfl (hb hby at_57) (by decide) (by decide) ?_
      show Steps p.tables e below (T16.setTop (mkF m 61 #[.val (.long q1), .second, .val (.long q2), .second, .val (.long q3), .second, .val (.int p4), .val (.long u), .second, .val (.ref b4), .unset, .unset, .unset, .unset, .unset, .unset, .unset, .unset, .unset] [(.int (1 : Int32)), (.int (if q1 < (0 : Int64) then (1 : Int32) else (0 : Int32)))])) _
      simpa only [if_pos hc18] using kt
    · show Steps p.tables e below (T16.setTop (mkF m 53 #[.val (.long q1), .second, .val (.long q2), .second, .val (.long q3), .second, .val (.int p4), .val (.long u), .second, .val (.ref b4), .unset, .unset, .unset, .unset, .unset, .unset, .unset, .unset, .unset] [(.int (lcmpW (0 : Int64) q1)), (.int (if q1 < (0 : Int64) then (1 : Int32) else (0 : Int32)))])) _
      refine XS.ifYes X16.here hx rfl (pc0 := 53) (pc' := 60) rfl (hb hby at_53) rfl ((if0 _ _).trans (flt (fun q => hc18 ((lw_gt _ _).mp q))).2.2.2) (by decide) (by decide) ?_
      show Steps p.tables e below (T16.setTop (mkF m 60 #[.val (.long q1), .second, .val (.long q2), .second, .val (.long q3), .second, .val (.int p4), .val (.long u), .second, .val (.ref b4), .unset, .unset, .unset, .unset, .unset, .unset, .unset, .unset, .unset] [(.int (if q1 < (0 : Int64) then (1 : Int32) else (0 : Int32)))])) _
      refine XS.iconst X16.here hx rfl (hb hby at_60) ?_
      show Steps p.tables e below (T16.setTop (mkF m 61 #[.val (.long q1), .second, .val (.long q2), .second, .val (.long q3), .second, .val (.int p4), .val (.long u), .second, .val (.ref b4), .unset, .unset, .unset, .unset, .unset, .unset, .unset, .unset, .unset] [(.int (0 : Int32)), (.int (if q1 < (0 : Int64) then (1 : Int32) else (0 : Int32)))])) _
      simpa only [if_neg hc18] using kt)
  have c20 : Goes p e below s₁ (entryFrame m #[(.long q1), (.long q2), (.long q3), (.int p4)] maxLocals) T16 (mkF m 78 #[.val (.long q1), .second, .val (.long q2), .second, .val (.long q3), .second, .val (.int p4), .val (.long u), .second, .val (.ref b4), .val (.int (1 : Int32)), .val (.long q2), .second, .unset, .unset, .unset, .unset, .unset, .unset] [(.int (lcmpW q2 q1))]) := fun t kt => c19 t (by
    show Steps p.tables e below (T16.setTop (mkF m 61 #[.val (.long q1), .second, .val (.long q2), .second, .val (.long q3), .second, .val (.int p4), .val (.long u), .second, .val (.ref b4), .unset, .unset, .unset, .unset, .unset, .unset, .unset, .unset, .unset] [(.int (if q1 < (0 : Int64) then (1 : Int32) else (0 : Int32))), (.int (if q1 < (0 : Int64) then (1 : Int32) else (0 : Int32)))])) _
    refine XS.icmpNo X16.here hx rfl (hb hby at_61) rfl (teq (rfl : (if q1 < (0 : Int64) then (1 : Int32) else (0 : Int32)) = (if q1 < (0 : Int64) then (1 : Int32) else (0 : Int32)))).2 ?_
    show Steps p.tables e below (T16.setTop (mkF m 64 #[.val (.long q1), .second, .val (.long q2), .second, .val (.long q3), .second, .val (.int p4), .val (.long u), .second, .val (.ref b4), .unset, .unset, .unset, .unset, .unset, .unset, .unset, .unset, .unset] [])) _
    refine XS.iconst X16.here hx rfl (hb hby at_64) ?_
    show Steps p.tables e below (T16.setTop (mkF m 65 #[.val (.long q1), .second, .val (.long q2), .second, .val (.long q3), .second, .val (.int p4), .val (.long u), .second, .val (.ref b4), .unset, .unset, .unset, .unset, .unset, .unset, .unset, .unset, .unset] [(.int (1 : Int32))])) _
    refine XS.goto X16.here hx rfl (pc0 := 65) (pc' := 69) rfl (hb hby at_65) (by decide) (by decide) ?_
    show Steps p.tables e below (T16.setTop (mkF m 69 #[.val (.long q1), .second, .val (.long q2), .second, .val (.long q3), .second, .val (.int p4), .val (.long u), .second, .val (.ref b4), .unset, .unset, .unset, .unset, .unset, .unset, .unset, .unset, .unset] [(.int (1 : Int32))])) _
    refine XS.istore X16.here hx rfl (hb hby at_69) rfl (l' := #[.val (.long q1), .second, .val (.long q2), .second, .val (.long q3), .second, .val (.int p4), .val (.long u), .second, .val (.ref b4), .val (.int (1 : Int32)), .unset, .unset, .unset, .unset, .unset, .unset, .unset, .unset]) rfl ?_
    show Steps p.tables e below (T16.setTop (mkF m 71 #[.val (.long q1), .second, .val (.long q2), .second, .val (.long q3), .second, .val (.int p4), .val (.long u), .second, .val (.ref b4), .val (.int (1 : Int32)), .unset, .unset, .unset, .unset, .unset, .unset, .unset, .unset] [])) _
    refine XS.lloadN X16.here hx rfl (hb hby at_71) rfl ?_
    show Steps p.tables e below (T16.setTop (mkF m 72 #[.val (.long q1), .second, .val (.long q2), .second, .val (.long q3), .second, .val (.int p4), .val (.long u), .second, .val (.ref b4), .val (.int (1 : Int32)), .unset, .unset, .unset, .unset, .unset, .unset, .unset, .unset] [(.long q2)])) _
    refine XS.lstore X16.here hx rfl (hb hby at_72) rfl (l' := #[.val (.long q1), .second, .val (.long q2), .second, .val (.long q3), .second, .val (.int p4), .val (.long u), .second, .val (.ref b4), .val (.int (1 : Int32)), .val (.long q2), .second, .unset, .unset, .unset, .unset, .unset, .unset]) rfl ?_
    show Steps p.tables e below (T16.setTop (mkF m 74 #[.val (.long q1), .second, .val (.long q2), .second, .val (.long q3), .second, .val (.int p4), .val (.long u), .second, .val (.ref b4), .val (.int (1 : Int32)), .val (.long q2), .second, .unset, .unset, .unset, .unset, .unset, .unset] [])) _
    refine XS.lload X16.here hx rfl (hb hby at_74) rfl ?_
    show Steps p.tables e below (T16.setTop (mkF m 76 #[.val (.long q1), .second, .val (.long q2), .second, .val (.long q3), .second, .val (.int p4), .val (.long u), .second, .val (.ref b4), .val (.int (1 : Int32)), .val (.long q2), .second, .unset, .unset, .unset, .unset, .unset, .unset] [(.long q2)])) _
    refine XS.lloadN X16.here hx rfl (hb hby at_76) rfl ?_
    show Steps p.tables e below (T16.setTop (mkF m 77 #[.val (.long q1), .second, .val (.long q2), .second, .val (.long q3), .second, .val (.int p4), .val (.long u), .second, .val (.ref b4), .val (.int (1 : Int32)), .val (.long q2), .second, .unset, .unset, .unset, .unset, .unset, .unset] [(.long q1), (.long q2)])) _
    refine XS.lcmp X16.here hx rfl (hb hby at_77) rfl ?_
    show Steps p.tables e below (T16.setTop (mkF m 78 #[.val (.long q1), .second, .val (.long q2), .second, .val (.long q3), .second, .val (.int p4), .val (.long u), .second, .val (.ref b4), .val (.int (1 : Int32)), .val (.long q2), .second, .unset, .unset, .unset, .unset, .unset, .unset] [(.int (lcmpW q2 q1))])) _
    exact kt)
  have c22 : Goes p e below s₁ (entryFrame m #[(.long q1), (.long q2), (.long q3), (.int p4)] maxLocals) T16 (mkF m 86 #[.val (.long q1), .second, .val (.long q2), .second, .val (.long q3), .second, .val (.int p4), .val (.long u), .second, .val (.ref b4), .val (.int (1 : Int32)), .val (.long q2), .second, .unset, .unset, .unset, .unset, .unset, .unset] [(.int (if q1 < q2 then (0 : Int32) else (1 : Int32)))]) := fun t kt => c20 t (by
    by_cases hc21 : q1 < q2
    · show Steps p.tables e below (T16.setTop (mkF m 78 #[.val (.long q1), .second, .val (.long q2), .second, .val (.long q3), .second, .val (.int p4), .val (.long u), .second, .val (.ref b4), .val (.int (1 : Int32)), .val (.long q2), .second, .unset, .unset, .unset, .unset, .unset, .unset] [(.int (lcmpW q2 q1))])) _
      refine XS.ifYes X16.here hx rfl (pc0 := 78) (pc' := 85) rfl (hb hby at_78) rfl ((if0 _ _).trans (tlt ((lw_gt _ _).mpr hc21)).2.2.1) (by decide) (by decide) ?_
      show Steps p.tables e below (T16.setTop (mkF m 85 #[.val (.long q1), .second, .val (.long q2), .second, .val (.long q3), .second, .val (.int p4), .val (.long u), .second, .val (.ref b4), .val (.int (1 : Int32)), .val (.long q2), .second, .unset, .unset, .unset, .unset, .unset, .unset] [])) _
      refine XS.iconst X16.here hx rfl (hb hby at_85) ?_
      show Steps p.tables e below (T16.setTop (mkF m 86 #[.val (.long q1), .second, .val (.long q2), .second, .val (.long q3), .second, .val (.int p4), .val (.long u), .second, .val (.ref b4), .val (.int (1 : Int32)), .val (.long q2), .second, .unset, .unset, .unset, .unset, .unset, .unset] [(.int (0 : Int32))])) _
      simpa only [if_pos hc21] using kt
    · show Steps p.tables e below (T16.setTop (mkF m 78 #[.val (.long q1), .second, .val (.long q2), .second, .val (.long q3), .second, .val (.int p4), .val (.long u), .second, .val (.ref b4), .val (.int (1 : Int32)), .val (.long q2), .second, .unset, .unset, .unset, .unset, .unset, .unset] [(.int (lcmpW q2 q1))])) _
      refine XS.ifNo X16.here hx rfl (hb hby at_78) rfl ((if0 _ _).trans (flt (fun q => hc21 ((lw_gt _ _).mp q))).2.2.1) ?_
      show Steps p.tables e below (T16.setTop (mkF m 81 #[.val (.long q1), .second, .val (.long q2), .second, .val (.long q3), .second, .val (.int p4), .val (.long u), .second, .val (.ref b4), .val (.int (1 : Int32)), .val (.long q2), .second, .unset, .unset, .unset, .unset, .unset, .unset] [])) _
      refine XS.iconst X16.here hx rfl (hb hby at_81) ?_
      show Steps p.tables e below (T16.setTop (mkF m 82 #[.val (.long q1), .second, .val (.long q2), .second, .val (.long q3), .second, .val (.int p4), .val (.long u), .second, .val (.ref b4), .val (.int (1 : Int32)), .val (.long q2), .second, .unset, .unset, .unset, .unset, .unset, .unset] [(.int (1 : Int32))])) _
      refine XS.goto X16.here hx rfl (pc0 := 82) (pc' := 86) rfl (hb hby at_82) (by decide) (by decide) ?_
      show Steps p.tables e below (T16.setTop (mkF m 86 #[.val (.long q1), .second, .val (.long q2), .second, .val (.long q3), .second, .val (.int p4), .val (.long u), .second, .val (.ref b4), .val (.int (1 : Int32)), .val (.long q2), .second, .unset, .unset, .unset, .unset, .unset, .unset] [(.int (1 : Int32))])) _
      simpa only [if_neg hc21] using kt)
  obtain ⟨cq23, kq23, q23a, q23b, q23c⟩ := isOf hZ r16_0 r9_1
  obtain ⟨_, _, ⟨T23, L23, k23, n23⟩, -, X23, ⟨Lc23, hQ23, l23, y23, z23⟩, st23⟩ := X16.virtualBack hx (y := (⟨"com/example/shunter/shunter/pick/Work", "charge", "(J)Z"⟩ : MethodName)) (z := (⟨"com/example/shunter/shunter/pick/Work", "charge", "(J)Z"⟩ : MethodName)) hown (mvT hZ (hw _ (List.mem_of_getElem? (i := 27) rfl))) (mvT hZ (hw _ (List.mem_of_getElem? (i := 28) rfl))) (notFace_of_selects (args := #[]) (mvT hZ (hw _ (List.mem_of_getElem? (i := 30) rfl)))) (mvT hZ (hw _ (List.mem_of_getElem? (i := 30) rfl))) (mvT hZ (hw _ (List.mem_of_getElem? (i := 29) rfl))) (by decide) (backOf (W := 0) (rm5 l Z a0 hw [] b4 q2 (0 : Int64) q1 (0 : Int32) q2 T9.heap n0 Z9 r9_1 r9_3 r9_2 r9_4 (Int64.zero_add _) g_b4) hZ (hw _ (List.mem_of_getElem? (i := 31) rfl)) (hw _ (List.mem_of_getElem? (i := 2) rfl)) (by decide) (by decide)) q23a q23c (g := (mkF m 91 #[.val (.long q1), .second, .val (.long q2), .second, .val (.long q3), .second, .val (.int p4), .val (.long u), .second, .val (.ref b4), .val (.int (1 : Int32)), .val (.long q2), .second, .val (.int (if q1 < q2 then (0 : Int32) else (1 : Int32))), .unset, .unset, .unset, .unset, .unset] [(.long q2), (.ref b4)])) rfl (by rw [hml]; rfl) (Steps.refl _) (argsL := [(.long q2)]) (rest := []) (lenOf pd_3 rfl) rfl (by show 2 * 0 + _ ≤ _; exact Nat.le_of_eq rfl) (hb hby at_91) (fun _ _ => ⟨rfl, r16_0, (by decide : 1 + 0 ≤ _), (by decide : 4 + 0 ≤ _)⟩)
  dsimp only [Pt.U, Pt.locs, Pt.cells, Pt.slots] at X23 l23 y23 z23 st23 hQ23
  subst l23 y23 z23
  obtain ⟨rfl, N23q, r23_0, r23_1, r23_2, r23_3, r23_4⟩ := hQ23
  have N23 := Fr.app N16 N23q
  have f24 := r9_1.keep r23_0
  have K23 : Keep h0 T23.heap [] := K9.trans r23_0 (allS (Or.inr sz_b4) all0)
  have Z23 : n0 ≤ T23.heap.size := Nat.le_trans Z9 r23_0.1
  obtain ⟨cq28, kq28, q28a, q28b, q28c⟩ := isOf hZ rfl r23_1
  obtain ⟨_, _, ⟨T28, L28, k28, n28⟩, -, X28, ⟨Lc28, hQ28, l28, y28, z28⟩, st28⟩ := X23.virtualBack hx (y := (⟨"com/example/shunter/shunter/pick/Work", "isSpent", "()Z"⟩ : MethodName)) (z := (⟨"com/example/shunter/shunter/pick/Work", "isSpent", "()Z"⟩ : MethodName)) hown (mvT hZ (hw _ (List.mem_of_getElem? (i := 20) rfl))) (mvT hZ (hw _ (List.mem_of_getElem? (i := 21) rfl))) (notFace_of_selects (args := #[]) (mvT hZ (hw _ (List.mem_of_getElem? (i := 23) rfl)))) (mvT hZ (hw _ (List.mem_of_getElem? (i := 23) rfl))) (mvT hZ (hw _ (List.mem_of_getElem? (i := 22) rfl))) (by decide) (backOf (W := 0) (rm4 l Z a0 hw [] b4 q2 q1 T23.heap n0 Z23 r23_2 r23_3) hZ (hw _ (List.mem_of_getElem? (i := 24) rfl)) (hw _ (List.mem_of_getElem? (i := 2) rfl)) (by decide) (by decide)) q28a q28c (g := (mkF m 110 #[.val (.long q1), .second, .val (.long q2), .second, .val (.long q3), .second, .val (.int p4), .val (.long u), .second, .val (.ref b4), .val (.int (1 : Int32)), .val (.long q2), .second, .val (.int (if q1 < q2 then (0 : Int32) else (1 : Int32))), .val (.int (if q1 < q2 then (0 : Int32) else (1 : Int32))), .unset, .unset, .unset, .unset] [(.ref b4)])) rfl (by rw [hml]; rfl) (Steps.refl _) (argsL := []) (rest := []) (lenOf pd_2 rfl) rfl (by show 2 * 0 + _ ≤ _; exact Nat.le_of_eq rfl) (hb hby at_110) (fun _ _ => ⟨rfl, rfl, (by decide : 1 + 0 ≤ _), (by decide : 4 + 0 ≤ _)⟩)
  dsimp only [Pt.U, Pt.locs, Pt.cells, Pt.slots] at X28 l28 y28 z28 st28 hQ28
  subst l28 y28 z28
  obtain ⟨rfl, N28q, r28_0⟩ := hQ28
  have N28 := Fr.app N23 N28q
  have c29 : Goes p e below s₁ (entryFrame m #[(.long q1), (.long q2), (.long q3), (.int p4)] maxLocals) T28 (mkF m 115 #[.val (.long q1), .second, .val (.long q2), .second, .val (.long q3), .second, .val (.int p4), .val (.long u), .second, .val (.ref b4), .val (.int (1 : Int32)), .val (.long q2), .second, .val (.int (if q1 < q2 then (0 : Int32) else (1 : Int32))), .val (.int (if q1 < q2 then (0 : Int32) else (1 : Int32))), .unset, .unset, .unset, .unset] [(.int (if q1 < q2 then (0 : Int32) else (1 : Int32))), (.int (if q1 < q2 then (1 : Int32) else (0 : Int32)))]) := fun t kt => c22 t (by
    show Steps p.tables e below (T16.setTop (mkF m 86 #[.val (.long q1), .second, .val (.long q2), .second, .val (.long q3), .second, .val (.int p4), .val (.long u), .second, .val (.ref b4), .val (.int (1 : Int32)), .val (.long q2), .second, .unset, .unset, .unset, .unset, .unset, .unset] [(.int (if q1 < q2 then (0 : Int32) else (1 : Int32)))])) _
    refine XS.istore X16.here hx rfl (hb hby at_86) rfl (l' := #[.val (.long q1), .second, .val (.long q2), .second, .val (.long q3), .second, .val (.int p4), .val (.long u), .second, .val (.ref b4), .val (.int (1 : Int32)), .val (.long q2), .second, .val (.int (if q1 < q2 then (0 : Int32) else (1 : Int32))), .unset, .unset, .unset, .unset, .unset]) rfl ?_
    show Steps p.tables e below (T16.setTop (mkF m 88 #[.val (.long q1), .second, .val (.long q2), .second, .val (.long q3), .second, .val (.int p4), .val (.long u), .second, .val (.ref b4), .val (.int (1 : Int32)), .val (.long q2), .second, .val (.int (if q1 < q2 then (0 : Int32) else (1 : Int32))), .unset, .unset, .unset, .unset, .unset] [])) _
    refine XS.aload X16.here hx rfl (hb hby at_88) rfl rfl ?_
    show Steps p.tables e below (T16.setTop (mkF m 90 #[.val (.long q1), .second, .val (.long q2), .second, .val (.long q3), .second, .val (.int p4), .val (.long u), .second, .val (.ref b4), .val (.int (1 : Int32)), .val (.long q2), .second, .val (.int (if q1 < q2 then (0 : Int32) else (1 : Int32))), .unset, .unset, .unset, .unset, .unset] [(.ref b4)])) _
    refine XS.lloadN X16.here hx rfl (hb hby at_90) rfl ?_
    show Steps p.tables e below (T16.setTop (mkF m 91 #[.val (.long q1), .second, .val (.long q2), .second, .val (.long q3), .second, .val (.int p4), .val (.long u), .second, .val (.ref b4), .val (.int (1 : Int32)), .val (.long q2), .second, .val (.int (if q1 < q2 then (0 : Int32) else (1 : Int32))), .unset, .unset, .unset, .unset, .unset] [(.long q2), (.ref b4)])) _
    refine st23.trans ?_
    show Steps p.tables e below (T23.setTop (mkF m 94 #[.val (.long q1), .second, .val (.long q2), .second, .val (.long q3), .second, .val (.int p4), .val (.long u), .second, .val (.ref b4), .val (.int (1 : Int32)), .val (.long q2), .second, .val (.int (if q1 < q2 then (0 : Int32) else (1 : Int32))), .unset, .unset, .unset, .unset, .unset] [(.int (if q1 < q2 then (0 : Int32) else (1 : Int32)))])) _
    refine XS.istore X23.here hx rfl (hb hby at_94) rfl (l' := #[.val (.long q1), .second, .val (.long q2), .second, .val (.long q3), .second, .val (.int p4), .val (.long u), .second, .val (.ref b4), .val (.int (1 : Int32)), .val (.long q2), .second, .val (.int (if q1 < q2 then (0 : Int32) else (1 : Int32))), .val (.int (if q1 < q2 then (0 : Int32) else (1 : Int32))), .unset, .unset, .unset, .unset]) rfl ?_
    show Steps p.tables e below (T23.setTop (mkF m 96 #[.val (.long q1), .second, .val (.long q2), .second, .val (.long q3), .second, .val (.int p4), .val (.long u), .second, .val (.ref b4), .val (.int (1 : Int32)), .val (.long q2), .second, .val (.int (if q1 < q2 then (0 : Int32) else (1 : Int32))), .val (.int (if q1 < q2 then (0 : Int32) else (1 : Int32))), .unset, .unset, .unset, .unset] [])) _
    refine XS.iload X23.here hx rfl (hb hby at_96) rfl ?_
    show Steps p.tables e below (T23.setTop (mkF m 98 #[.val (.long q1), .second, .val (.long q2), .second, .val (.long q3), .second, .val (.int p4), .val (.long u), .second, .val (.ref b4), .val (.int (1 : Int32)), .val (.long q2), .second, .val (.int (if q1 < q2 then (0 : Int32) else (1 : Int32))), .val (.int (if q1 < q2 then (0 : Int32) else (1 : Int32))), .unset, .unset, .unset, .unset] [(.int (1 : Int32))])) _
    refine XS.ifNo X23.here hx rfl (hb hby at_98) rfl ((if0 _ _).trans (feq (by decide : ¬ ((1 : Int32) = (0 : Int32)))).1) ?_
    show Steps p.tables e below (T23.setTop (mkF m 101 #[.val (.long q1), .second, .val (.long q2), .second, .val (.long q3), .second, .val (.int p4), .val (.long u), .second, .val (.ref b4), .val (.int (1 : Int32)), .val (.long q2), .second, .val (.int (if q1 < q2 then (0 : Int32) else (1 : Int32))), .val (.int (if q1 < q2 then (0 : Int32) else (1 : Int32))), .unset, .unset, .unset, .unset] [])) _
    refine XS.iload X23.here hx rfl (hb hby at_101) rfl ?_
    show Steps p.tables e below (T23.setTop (mkF m 103 #[.val (.long q1), .second, .val (.long q2), .second, .val (.long q3), .second, .val (.int p4), .val (.long u), .second, .val (.ref b4), .val (.int (1 : Int32)), .val (.long q2), .second, .val (.int (if q1 < q2 then (0 : Int32) else (1 : Int32))), .val (.int (if q1 < q2 then (0 : Int32) else (1 : Int32))), .unset, .unset, .unset, .unset] [(.int (if q1 < q2 then (0 : Int32) else (1 : Int32)))])) _
    refine XS.iload X23.here hx rfl (hb hby at_103) rfl ?_
    show Steps p.tables e below (T23.setTop (mkF m 105 #[.val (.long q1), .second, .val (.long q2), .second, .val (.long q3), .second, .val (.int p4), .val (.long u), .second, .val (.ref b4), .val (.int (1 : Int32)), .val (.long q2), .second, .val (.int (if q1 < q2 then (0 : Int32) else (1 : Int32))), .val (.int (if q1 < q2 then (0 : Int32) else (1 : Int32))), .unset, .unset, .unset, .unset] [(.int (if q1 < q2 then (0 : Int32) else (1 : Int32))), (.int (if q1 < q2 then (0 : Int32) else (1 : Int32)))])) _
    refine XS.icmpNo X23.here hx rfl (hb hby at_105) rfl (teq (rfl : (if q1 < q2 then (0 : Int32) else (1 : Int32)) = (if q1 < q2 then (0 : Int32) else (1 : Int32)))).2 ?_
    show Steps p.tables e below (T23.setTop (mkF m 108 #[.val (.long q1), .second, .val (.long q2), .second, .val (.long q3), .second, .val (.int p4), .val (.long u), .second, .val (.ref b4), .val (.int (1 : Int32)), .val (.long q2), .second, .val (.int (if q1 < q2 then (0 : Int32) else (1 : Int32))), .val (.int (if q1 < q2 then (0 : Int32) else (1 : Int32))), .unset, .unset, .unset, .unset] [])) _
    refine XS.aload X23.here hx rfl (hb hby at_108) rfl rfl ?_
    show Steps p.tables e below (T23.setTop (mkF m 110 #[.val (.long q1), .second, .val (.long q2), .second, .val (.long q3), .second, .val (.int p4), .val (.long u), .second, .val (.ref b4), .val (.int (1 : Int32)), .val (.long q2), .second, .val (.int (if q1 < q2 then (0 : Int32) else (1 : Int32))), .val (.int (if q1 < q2 then (0 : Int32) else (1 : Int32))), .unset, .unset, .unset, .unset] [(.ref b4)])) _
    refine st28.trans ?_
    show Steps p.tables e below (T28.setTop (mkF m 113 #[.val (.long q1), .second, .val (.long q2), .second, .val (.long q3), .second, .val (.int p4), .val (.long u), .second, .val (.ref b4), .val (.int (1 : Int32)), .val (.long q2), .second, .val (.int (if q1 < q2 then (0 : Int32) else (1 : Int32))), .val (.int (if q1 < q2 then (0 : Int32) else (1 : Int32))), .unset, .unset, .unset, .unset] [(.int (if q1 < q2 then (1 : Int32) else (0 : Int32)))])) _
    refine XS.iload X28.here hx rfl (hb hby at_113) rfl ?_
    show Steps p.tables e below (T28.setTop (mkF m 115 #[.val (.long q1), .second, .val (.long q2), .second, .val (.long q3), .second, .val (.int p4), .val (.long u), .second, .val (.ref b4), .val (.int (1 : Int32)), .val (.long q2), .second, .val (.int (if q1 < q2 then (0 : Int32) else (1 : Int32))), .val (.int (if q1 < q2 then (0 : Int32) else (1 : Int32))), .unset, .unset, .unset, .unset] [(.int (if q1 < q2 then (0 : Int32) else (1 : Int32))), (.int (if q1 < q2 then (1 : Int32) else (0 : Int32)))])) _
    exact kt)
  have c31 : Goes p e below s₁ (entryFrame m #[(.long q1), (.long q2), (.long q3), (.int p4)] maxLocals) T28 (mkF m 123 #[.val (.long q1), .second, .val (.long q2), .second, .val (.long q3), .second, .val (.int p4), .val (.long u), .second, .val (.ref b4), .val (.int (1 : Int32)), .val (.long q2), .second, .val (.int (if q1 < q2 then (0 : Int32) else (1 : Int32))), .val (.int (if q1 < q2 then (0 : Int32) else (1 : Int32))), .unset, .unset, .unset, .unset] [(.int (if (if q1 < q2 then (0 : Int32) else (1 : Int32)) = (0 : Int32) then (1 : Int32) else (0 : Int32))), (.int (if q1 < q2 then (1 : Int32) else (0 : Int32)))]) := fun t kt => c29 t (by
    by_cases hc30 : (if q1 < q2 then (0 : Int32) else (1 : Int32)) = (0 : Int32)
    · show Steps p.tables e below (T28.setTop (mkF m 115 #[.val (.long q1), .second, .val (.long q2), .second, .val (.long q3), .second, .val (.int p4), .val (.long u), .second, .val (.ref b4), .val (.int (1 : Int32)), .val (.long q2), .second, .val (.int (if q1 < q2 then (0 : Int32) else (1 : Int32))), .val (.int (if q1 < q2 then (0 : Int32) else (1 : Int32))), .unset, .unset, .unset, .unset] [(.int (if q1 < q2 then (0 : Int32) else (1 : Int32))), (.int (if q1 < q2 then (1 : Int32) else (0 : Int32)))])) _
      refine XS.ifNo X28.here hx rfl (hb hby at_115) rfl ((if0 _ _).trans (teq hc30).2) ?_
      show Steps p.tables e below (T28.setTop (mkF m 118 #[.val (.long q1), .second, .val (.long q2), .second, .val (.long q3), .second, .val (.int p4), .val (.long u), .second, .val (.ref b4), .val (.int (1 : Int32)), .val (.long q2), .second, .val (.int (if q1 < q2 then (0 : Int32) else (1 : Int32))), .val (.int (if q1 < q2 then (0 : Int32) else (1 : Int32))), .unset, .unset, .unset, .unset] [(.int (if q1 < q2 then (1 : Int32) else (0 : Int32)))])) _
      refine XS.iconst X28.here hx rfl (hb hby at_118) ?_
      show Steps p.tables e below (T28.setTop (mkF m 119 #[.val (.long q1), .second, .val (.long q2), .second, .val (.long q3), .second, .val (.int p4), .val (.long u), .second, .val (.ref b4), .val (.int (1 : Int32)), .val (.long q2), .second, .val (.int (if q1 < q2 then (0 : Int32) else (1 : Int32))), .val (.int (if q1 < q2 then (0 : Int32) else (1 : Int32))), .unset, .unset, .unset, .unset] [(.int (1 : Int32)), (.int (if q1 < q2 then (1 : Int32) else (0 : Int32)))])) _
      refine XS.goto X28.here hx rfl (pc0 := 119) (pc' := 123) rfl (hb hby at_119) (by decide) (by decide) ?_
      show Steps p.tables e below (T28.setTop (mkF m 123 #[.val (.long q1), .second, .val (.long q2), .second, .val (.long q3), .second, .val (.int p4), .val (.long u), .second, .val (.ref b4), .val (.int (1 : Int32)), .val (.long q2), .second, .val (.int (if q1 < q2 then (0 : Int32) else (1 : Int32))), .val (.int (if q1 < q2 then (0 : Int32) else (1 : Int32))), .unset, .unset, .unset, .unset] [(.int (1 : Int32)), (.int (if q1 < q2 then (1 : Int32) else (0 : Int32)))])) _
      simpa only [if_pos hc30] using kt
    · show Steps p.tables e below (T28.setTop (mkF m 115 #[.val (.long q1), .second, .val (.long q2), .second, .val (.long q3), .second, .val (.int p4), .val (.long u), .second, .val (.ref b4), .val (.int (1 : Int32)), .val (.long q2), .second, .val (.int (if q1 < q2 then (0 : Int32) else (1 : Int32))), .val (.int (if q1 < q2 then (0 : Int32) else (1 : Int32))), .unset, .unset, .unset, .unset] [(.int (if q1 < q2 then (0 : Int32) else (1 : Int32))), (.int (if q1 < q2 then (1 : Int32) else (0 : Int32)))])) _
      refine XS.ifYes X28.here hx rfl (pc0 := 115) (pc' := 122) rfl (hb hby at_115) rfl ((if0 _ _).trans (feq hc30).2) (by decide) (by decide) ?_
      show Steps p.tables e below (T28.setTop (mkF m 122 #[.val (.long q1), .second, .val (.long q2), .second, .val (.long q3), .second, .val (.int p4), .val (.long u), .second, .val (.ref b4), .val (.int (1 : Int32)), .val (.long q2), .second, .val (.int (if q1 < q2 then (0 : Int32) else (1 : Int32))), .val (.int (if q1 < q2 then (0 : Int32) else (1 : Int32))), .unset, .unset, .unset, .unset] [(.int (if q1 < q2 then (1 : Int32) else (0 : Int32)))])) _
      refine XS.iconst X28.here hx rfl (hb hby at_122) ?_
      show Steps p.tables e below (T28.setTop (mkF m 123 #[.val (.long q1), .second, .val (.long q2), .second, .val (.long q3), .second, .val (.int p4), .val (.long u), .second, .val (.ref b4), .val (.int (1 : Int32)), .val (.long q2), .second, .val (.int (if q1 < q2 then (0 : Int32) else (1 : Int32))), .val (.int (if q1 < q2 then (0 : Int32) else (1 : Int32))), .unset, .unset, .unset, .unset] [(.int (0 : Int32)), (.int (if q1 < q2 then (1 : Int32) else (0 : Int32)))])) _
      simpa only [if_neg hc30] using kt)
  obtain ⟨cq32, kq32, q32a, q32b, q32c⟩ := isOf hZ r28_0 r23_1
  obtain ⟨_, _, ⟨T32, L32, k32, n32⟩, -, X32, ⟨Lc32, hQ32, l32, y32, z32⟩, st32⟩ := X28.virtualBack hx (y := (⟨"com/example/shunter/shunter/pick/Work", "hasStopped", "()Z"⟩ : MethodName)) (z := (⟨"com/example/shunter/shunter/pick/Work", "hasStopped", "()Z"⟩ : MethodName)) hown (mvT hZ (hw _ (List.mem_of_getElem? (i := 13) rfl))) (mvT hZ (hw _ (List.mem_of_getElem? (i := 14) rfl))) (notFace_of_selects (args := #[]) (mvT hZ (hw _ (List.mem_of_getElem? (i := 16) rfl)))) (mvT hZ (hw _ (List.mem_of_getElem? (i := 16) rfl))) (mvT hZ (hw _ (List.mem_of_getElem? (i := 15) rfl))) (by decide) (backOf (W := 0) (rm3 l Z a0 hw [] b4 (if q1 < q2 then (1 : Int32) else (0 : Int32)) T23.heap n0 Z23 r23_4 (own_nar own_n1 own_n0)) hZ (hw _ (List.mem_of_getElem? (i := 17) rfl)) (hw _ (List.mem_of_getElem? (i := 2) rfl)) (by decide) (by decide)) q32a q32c (g := (mkF m 128 #[.val (.long q1), .second, .val (.long q2), .second, .val (.long q3), .second, .val (.int p4), .val (.long u), .second, .val (.ref b4), .val (.int (1 : Int32)), .val (.long q2), .second, .val (.int (if q1 < q2 then (0 : Int32) else (1 : Int32))), .val (.int (if q1 < q2 then (0 : Int32) else (1 : Int32))), .unset, .unset, .unset, .unset] [(.ref b4)])) rfl (by rw [hml]; rfl) (Steps.refl _) (argsL := []) (rest := []) (lenOf pd_2 rfl) rfl (by show 2 * 0 + _ ≤ _; exact Nat.le_of_eq rfl) (hb hby at_128) (fun _ _ => ⟨rfl, r28_0, (by decide : 1 + 0 ≤ _), (by decide : 4 + 0 ≤ _)⟩)
  dsimp only [Pt.U, Pt.locs, Pt.cells, Pt.slots] at X32 l32 y32 z32 st32 hQ32
  subst l32 y32 z32
  obtain ⟨rfl, N32q, r32_0⟩ := hQ32
  have N32 := Fr.app N28 N32q
  have c33 : Goes p e below s₁ (entryFrame m #[(.long q1), (.long q2), (.long q3), (.int p4)] maxLocals) T32 (mkF m 133 #[.val (.long q1), .second, .val (.long q2), .second, .val (.long q3), .second, .val (.int p4), .val (.long u), .second, .val (.ref b4), .val (.int (1 : Int32)), .val (.long q2), .second, .val (.int (if q1 < q2 then (0 : Int32) else (1 : Int32))), .val (.int (if q1 < q2 then (0 : Int32) else (1 : Int32))), .unset, .unset, .unset, .unset] [(.int (if q1 < q2 then (0 : Int32) else (1 : Int32))), (.int (if q1 < q2 then (1 : Int32) else (0 : Int32)))]) := fun t kt => c31 t (by
    show Steps p.tables e below (T28.setTop (mkF m 123 #[.val (.long q1), .second, .val (.long q2), .second, .val (.long q3), .second, .val (.int p4), .val (.long u), .second, .val (.ref b4), .val (.int (1 : Int32)), .val (.long q2), .second, .val (.int (if q1 < q2 then (0 : Int32) else (1 : Int32))), .val (.int (if q1 < q2 then (0 : Int32) else (1 : Int32))), .unset, .unset, .unset, .unset] [(.int (if (if q1 < q2 then (0 : Int32) else (1 : Int32)) = (0 : Int32) then (1 : Int32) else (0 : Int32))), (.int (if q1 < q2 then (1 : Int32) else (0 : Int32)))])) _
    refine XS.icmpNo X28.here hx rfl (hb hby at_123) rfl (teq (own_neg : ((if q1 < q2 then (1 : Int32) else (0 : Int32)) = (if (if q1 < q2 then (0 : Int32) else (1 : Int32)) = (0 : Int32) then (1 : Int32) else (0 : Int32))))).2 ?_
    show Steps p.tables e below (T28.setTop (mkF m 126 #[.val (.long q1), .second, .val (.long q2), .second, .val (.long q3), .second, .val (.int p4), .val (.long u), .second, .val (.ref b4), .val (.int (1 : Int32)), .val (.long q2), .second, .val (.int (if q1 < q2 then (0 : Int32) else (1 : Int32))), .val (.int (if q1 < q2 then (0 : Int32) else (1 : Int32))), .unset, .unset, .unset, .unset] [])) _
    refine XS.aload X28.here hx rfl (hb hby at_126) rfl rfl ?_
    show Steps p.tables e below (T28.setTop (mkF m 128 #[.val (.long q1), .second, .val (.long q2), .second, .val (.long q3), .second, .val (.int p4), .val (.long u), .second, .val (.ref b4), .val (.int (1 : Int32)), .val (.long q2), .second, .val (.int (if q1 < q2 then (0 : Int32) else (1 : Int32))), .val (.int (if q1 < q2 then (0 : Int32) else (1 : Int32))), .unset, .unset, .unset, .unset] [(.ref b4)])) _
    refine st32.trans ?_
    show Steps p.tables e below (T32.setTop (mkF m 131 #[.val (.long q1), .second, .val (.long q2), .second, .val (.long q3), .second, .val (.int p4), .val (.long u), .second, .val (.ref b4), .val (.int (1 : Int32)), .val (.long q2), .second, .val (.int (if q1 < q2 then (0 : Int32) else (1 : Int32))), .val (.int (if q1 < q2 then (0 : Int32) else (1 : Int32))), .unset, .unset, .unset, .unset] [(.int (if q1 < q2 then (1 : Int32) else (0 : Int32)))])) _
    refine XS.iload X32.here hx rfl (hb hby at_131) rfl ?_
    show Steps p.tables e below (T32.setTop (mkF m 133 #[.val (.long q1), .second, .val (.long q2), .second, .val (.long q3), .second, .val (.int p4), .val (.long u), .second, .val (.ref b4), .val (.int (1 : Int32)), .val (.long q2), .second, .val (.int (if q1 < q2 then (0 : Int32) else (1 : Int32))), .val (.int (if q1 < q2 then (0 : Int32) else (1 : Int32))), .unset, .unset, .unset, .unset] [(.int (if q1 < q2 then (0 : Int32) else (1 : Int32))), (.int (if q1 < q2 then (1 : Int32) else (0 : Int32)))])) _
    exact kt)
  have c35 : Goes p e below s₁ (entryFrame m #[(.long q1), (.long q2), (.long q3), (.int p4)] maxLocals) T32 (mkF m 141 #[.val (.long q1), .second, .val (.long q2), .second, .val (.long q3), .second, .val (.int p4), .val (.long u), .second, .val (.ref b4), .val (.int (1 : Int32)), .val (.long q2), .second, .val (.int (if q1 < q2 then (0 : Int32) else (1 : Int32))), .val (.int (if q1 < q2 then (0 : Int32) else (1 : Int32))), .unset, .unset, .unset, .unset] [(.int (if (if q1 < q2 then (0 : Int32) else (1 : Int32)) = (0 : Int32) then (1 : Int32) else (0 : Int32))), (.int (if q1 < q2 then (1 : Int32) else (0 : Int32)))]) := fun t kt => c33 t (by
    by_cases hc34 : (if q1 < q2 then (0 : Int32) else (1 : Int32)) = (0 : Int32)
    · show Steps p.tables e below (T32.setTop (mkF m 133 #[.val (.long q1), .second, .val (.long q2), .second, .val (.long q3), .second, .val (.int p4), .val (.long u), .second, .val (.ref b4), .val (.int (1 : Int32)), .val (.long q2), .second, .val (.int (if q1 < q2 then (0 : Int32) else (1 : Int32))), .val (.int (if q1 < q2 then (0 : Int32) else (1 : Int32))), .unset, .unset, .unset, .unset] [(.int (if q1 < q2 then (0 : Int32) else (1 : Int32))), (.int (if q1 < q2 then (1 : Int32) else (0 : Int32)))])) _
      refine XS.ifNo X32.here hx rfl (hb hby at_133) rfl ((if0 _ _).trans (teq hc34).2) ?_
      show Steps p.tables e below (T32.setTop (mkF m 136 #[.val (.long q1), .second, .val (.long q2), .second, .val (.long q3), .second, .val (.int p4), .val (.long u), .second, .val (.ref b4), .val (.int (1 : Int32)), .val (.long q2), .second, .val (.int (if q1 < q2 then (0 : Int32) else (1 : Int32))), .val (.int (if q1 < q2 then (0 : Int32) else (1 : Int32))), .unset, .unset, .unset, .unset] [(.int (if q1 < q2 then (1 : Int32) else (0 : Int32)))])) _
      refine XS.iconst X32.here hx rfl (hb hby at_136) ?_
      show Steps p.tables e below (T32.setTop (mkF m 137 #[.val (.long q1), .second, .val (.long q2), .second, .val (.long q3), .second, .val (.int p4), .val (.long u), .second, .val (.ref b4), .val (.int (1 : Int32)), .val (.long q2), .second, .val (.int (if q1 < q2 then (0 : Int32) else (1 : Int32))), .val (.int (if q1 < q2 then (0 : Int32) else (1 : Int32))), .unset, .unset, .unset, .unset] [(.int (1 : Int32)), (.int (if q1 < q2 then (1 : Int32) else (0 : Int32)))])) _
      refine XS.goto X32.here hx rfl (pc0 := 137) (pc' := 141) rfl (hb hby at_137) (by decide) (by decide) ?_
      show Steps p.tables e below (T32.setTop (mkF m 141 #[.val (.long q1), .second, .val (.long q2), .second, .val (.long q3), .second, .val (.int p4), .val (.long u), .second, .val (.ref b4), .val (.int (1 : Int32)), .val (.long q2), .second, .val (.int (if q1 < q2 then (0 : Int32) else (1 : Int32))), .val (.int (if q1 < q2 then (0 : Int32) else (1 : Int32))), .unset, .unset, .unset, .unset] [(.int (1 : Int32)), (.int (if q1 < q2 then (1 : Int32) else (0 : Int32)))])) _
      simpa only [if_pos hc34] using kt
    · show Steps p.tables e below (T32.setTop (mkF m 133 #[.val (.long q1), .second, .val (.long q2), .second, .val (.long q3), .second, .val (.int p4), .val (.long u), .second, .val (.ref b4), .val (.int (1 : Int32)), .val (.long q2), .second, .val (.int (if q1 < q2 then (0 : Int32) else (1 : Int32))), .val (.int (if q1 < q2 then (0 : Int32) else (1 : Int32))), .unset, .unset, .unset, .unset] [(.int (if q1 < q2 then (0 : Int32) else (1 : Int32))), (.int (if q1 < q2 then (1 : Int32) else (0 : Int32)))])) _
      refine XS.ifYes X32.here hx rfl (pc0 := 133) (pc' := 140) rfl (hb hby at_133) rfl ((if0 _ _).trans (feq hc34).2) (by decide) (by decide) ?_
      show Steps p.tables e below (T32.setTop (mkF m 140 #[.val (.long q1), .second, .val (.long q2), .second, .val (.long q3), .second, .val (.int p4), .val (.long u), .second, .val (.ref b4), .val (.int (1 : Int32)), .val (.long q2), .second, .val (.int (if q1 < q2 then (0 : Int32) else (1 : Int32))), .val (.int (if q1 < q2 then (0 : Int32) else (1 : Int32))), .unset, .unset, .unset, .unset] [(.int (if q1 < q2 then (1 : Int32) else (0 : Int32)))])) _
      refine XS.iconst X32.here hx rfl (hb hby at_140) ?_
      show Steps p.tables e below (T32.setTop (mkF m 141 #[.val (.long q1), .second, .val (.long q2), .second, .val (.long q3), .second, .val (.int p4), .val (.long u), .second, .val (.ref b4), .val (.int (1 : Int32)), .val (.long q2), .second, .val (.int (if q1 < q2 then (0 : Int32) else (1 : Int32))), .val (.int (if q1 < q2 then (0 : Int32) else (1 : Int32))), .unset, .unset, .unset, .unset] [(.int (0 : Int32)), (.int (if q1 < q2 then (1 : Int32) else (0 : Int32)))])) _
      simpa only [if_neg hc34] using kt)
  have c36 : Goes p e below s₁ (entryFrame m #[(.long q1), (.long q2), (.long q3), (.int p4)] maxLocals) T32 (mkF m 162 #[.val (.long q1), .second, .val (.long q2), .second, .val (.long q3), .second, .val (.int p4), .val (.long u), .second, .val (.ref b4), .val (.int (1 : Int32)), .val (.long q2), .second, .val (.int (if q1 < q2 then (0 : Int32) else (1 : Int32))), .val (.int (if q1 < q2 then (0 : Int32) else (1 : Int32))), .val (.long (q2 + u)), .second, .unset, .unset] [(.int (lcmpW (q2 + u) q1))]) := fun t kt => c35 t (by
    show Steps p.tables e below (T32.setTop (mkF m 141 #[.val (.long q1), .second, .val (.long q2), .second, .val (.long q3), .second, .val (.int p4), .val (.long u), .second, .val (.ref b4), .val (.int (1 : Int32)), .val (.long q2), .second, .val (.int (if q1 < q2 then (0 : Int32) else (1 : Int32))), .val (.int (if q1 < q2 then (0 : Int32) else (1 : Int32))), .unset, .unset, .unset, .unset] [(.int (if (if q1 < q2 then (0 : Int32) else (1 : Int32)) = (0 : Int32) then (1 : Int32) else (0 : Int32))), (.int (if q1 < q2 then (1 : Int32) else (0 : Int32)))])) _
    refine XS.icmpNo X32.here hx rfl (hb hby at_141) rfl (teq (own_neg : ((if q1 < q2 then (1 : Int32) else (0 : Int32)) = (if (if q1 < q2 then (0 : Int32) else (1 : Int32)) = (0 : Int32) then (1 : Int32) else (0 : Int32))))).2 ?_
    show Steps p.tables e below (T32.setTop (mkF m 144 #[.val (.long q1), .second, .val (.long q2), .second, .val (.long q3), .second, .val (.int p4), .val (.long u), .second, .val (.ref b4), .val (.int (1 : Int32)), .val (.long q2), .second, .val (.int (if q1 < q2 then (0 : Int32) else (1 : Int32))), .val (.int (if q1 < q2 then (0 : Int32) else (1 : Int32))), .unset, .unset, .unset, .unset] [])) _
    refine XS.iconst X32.here hx rfl (hb hby at_144) ?_
    show Steps p.tables e below (T32.setTop (mkF m 145 #[.val (.long q1), .second, .val (.long q2), .second, .val (.long q3), .second, .val (.int p4), .val (.long u), .second, .val (.ref b4), .val (.int (1 : Int32)), .val (.long q2), .second, .val (.int (if q1 < q2 then (0 : Int32) else (1 : Int32))), .val (.int (if q1 < q2 then (0 : Int32) else (1 : Int32))), .unset, .unset, .unset, .unset] [(.int (1 : Int32))])) _
    refine XS.goto X32.here hx rfl (pc0 := 145) (pc' := 149) rfl (hb hby at_145) (by decide) (by decide) ?_
    show Steps p.tables e below (T32.setTop (mkF m 149 #[.val (.long q1), .second, .val (.long q2), .second, .val (.long q3), .second, .val (.int p4), .val (.long u), .second, .val (.ref b4), .val (.int (1 : Int32)), .val (.long q2), .second, .val (.int (if q1 < q2 then (0 : Int32) else (1 : Int32))), .val (.int (if q1 < q2 then (0 : Int32) else (1 : Int32))), .unset, .unset, .unset, .unset] [(.int (1 : Int32))])) _
    refine XS.istore X32.here hx rfl (hb hby at_149) rfl (l' := #[.val (.long q1), .second, .val (.long q2), .second, .val (.long q3), .second, .val (.int p4), .val (.long u), .second, .val (.ref b4), .val (.int (1 : Int32)), .val (.long q2), .second, .val (.int (if q1 < q2 then (0 : Int32) else (1 : Int32))), .val (.int (if q1 < q2 then (0 : Int32) else (1 : Int32))), .unset, .unset, .unset, .unset]) rfl ?_
    show Steps p.tables e below (T32.setTop (mkF m 151 #[.val (.long q1), .second, .val (.long q2), .second, .val (.long q3), .second, .val (.int p4), .val (.long u), .second, .val (.ref b4), .val (.int (1 : Int32)), .val (.long q2), .second, .val (.int (if q1 < q2 then (0 : Int32) else (1 : Int32))), .val (.int (if q1 < q2 then (0 : Int32) else (1 : Int32))), .unset, .unset, .unset, .unset] [])) _
    refine XS.lload X32.here hx rfl (hb hby at_151) rfl ?_
    show Steps p.tables e below (T32.setTop (mkF m 153 #[.val (.long q1), .second, .val (.long q2), .second, .val (.long q3), .second, .val (.int p4), .val (.long u), .second, .val (.ref b4), .val (.int (1 : Int32)), .val (.long q2), .second, .val (.int (if q1 < q2 then (0 : Int32) else (1 : Int32))), .val (.int (if q1 < q2 then (0 : Int32) else (1 : Int32))), .unset, .unset, .unset, .unset] [(.long q2)])) _
    refine XS.lload X32.here hx rfl (hb hby at_153) rfl ?_
    show Steps p.tables e below (T32.setTop (mkF m 155 #[.val (.long q1), .second, .val (.long q2), .second, .val (.long q3), .second, .val (.int p4), .val (.long u), .second, .val (.ref b4), .val (.int (1 : Int32)), .val (.long q2), .second, .val (.int (if q1 < q2 then (0 : Int32) else (1 : Int32))), .val (.int (if q1 < q2 then (0 : Int32) else (1 : Int32))), .unset, .unset, .unset, .unset] [(.long u), (.long q2)])) _
    refine XS.ladd X32.here hx rfl (hb hby at_155) rfl ?_
    show Steps p.tables e below (T32.setTop (mkF m 156 #[.val (.long q1), .second, .val (.long q2), .second, .val (.long q3), .second, .val (.int p4), .val (.long u), .second, .val (.ref b4), .val (.int (1 : Int32)), .val (.long q2), .second, .val (.int (if q1 < q2 then (0 : Int32) else (1 : Int32))), .val (.int (if q1 < q2 then (0 : Int32) else (1 : Int32))), .unset, .unset, .unset, .unset] [(.long (q2 + u))])) _
    refine XS.lstore X32.here hx rfl (hb hby at_156) rfl (l' := #[.val (.long q1), .second, .val (.long q2), .second, .val (.long q3), .second, .val (.int p4), .val (.long u), .second, .val (.ref b4), .val (.int (1 : Int32)), .val (.long q2), .second, .val (.int (if q1 < q2 then (0 : Int32) else (1 : Int32))), .val (.int (if q1 < q2 then (0 : Int32) else (1 : Int32))), .val (.long (q2 + u)), .second, .unset, .unset]) rfl ?_
    show Steps p.tables e below (T32.setTop (mkF m 158 #[.val (.long q1), .second, .val (.long q2), .second, .val (.long q3), .second, .val (.int p4), .val (.long u), .second, .val (.ref b4), .val (.int (1 : Int32)), .val (.long q2), .second, .val (.int (if q1 < q2 then (0 : Int32) else (1 : Int32))), .val (.int (if q1 < q2 then (0 : Int32) else (1 : Int32))), .val (.long (q2 + u)), .second, .unset, .unset] [])) _
    refine XS.lload X32.here hx rfl (hb hby at_158) rfl ?_
    show Steps p.tables e below (T32.setTop (mkF m 160 #[.val (.long q1), .second, .val (.long q2), .second, .val (.long q3), .second, .val (.int p4), .val (.long u), .second, .val (.ref b4), .val (.int (1 : Int32)), .val (.long q2), .second, .val (.int (if q1 < q2 then (0 : Int32) else (1 : Int32))), .val (.int (if q1 < q2 then (0 : Int32) else (1 : Int32))), .val (.long (q2 + u)), .second, .unset, .unset] [(.long (q2 + u))])) _
    refine XS.lloadN X32.here hx rfl (hb hby at_160) rfl ?_
    show Steps p.tables e below (T32.setTop (mkF m 161 #[.val (.long q1), .second, .val (.long q2), .second, .val (.long q3), .second, .val (.int p4), .val (.long u), .second, .val (.ref b4), .val (.int (1 : Int32)), .val (.long q2), .second, .val (.int (if q1 < q2 then (0 : Int32) else (1 : Int32))), .val (.int (if q1 < q2 then (0 : Int32) else (1 : Int32))), .val (.long (q2 + u)), .second, .unset, .unset] [(.long q1), (.long (q2 + u))])) _
    refine XS.lcmp X32.here hx rfl (hb hby at_161) rfl ?_
    show Steps p.tables e below (T32.setTop (mkF m 162 #[.val (.long q1), .second, .val (.long q2), .second, .val (.long q3), .second, .val (.int p4), .val (.long u), .second, .val (.ref b4), .val (.int (1 : Int32)), .val (.long q2), .second, .val (.int (if q1 < q2 then (0 : Int32) else (1 : Int32))), .val (.int (if q1 < q2 then (0 : Int32) else (1 : Int32))), .val (.long (q2 + u)), .second, .unset, .unset] [(.int (lcmpW (q2 + u) q1))])) _
    exact kt)
  have c38 : Goes p e below s₁ (entryFrame m #[(.long q1), (.long q2), (.long q3), (.int p4)] maxLocals) T32 (mkF m 170 #[.val (.long q1), .second, .val (.long q2), .second, .val (.long q3), .second, .val (.int p4), .val (.long u), .second, .val (.ref b4), .val (.int (1 : Int32)), .val (.long q2), .second, .val (.int (if q1 < q2 then (0 : Int32) else (1 : Int32))), .val (.int (if q1 < q2 then (0 : Int32) else (1 : Int32))), .val (.long (q2 + u)), .second, .unset, .unset] [(.int (if q1 < (q2 + u) then (0 : Int32) else (1 : Int32)))]) := fun t kt => c36 t (by
    by_cases hc37 : q1 < (q2 + u)
    · show Steps p.tables e below (T32.setTop (mkF m 162 #[.val (.long q1), .second, .val (.long q2), .second, .val (.long q3), .second, .val (.int p4), .val (.long u), .second, .val (.ref b4), .val (.int (1 : Int32)), .val (.long q2), .second, .val (.int (if q1 < q2 then (0 : Int32) else (1 : Int32))), .val (.int (if q1 < q2 then (0 : Int32) else (1 : Int32))), .val (.long (q2 + u)), .second, .unset, .unset] [(.int (lcmpW (q2 + u) q1))])) _
      refine XS.ifYes X32.here hx rfl (pc0 := 162) (pc' := 169) rfl (hb hby at_162) rfl ((if0 _ _).trans (tlt ((lw_gt _ _).mpr hc37)).2.2.1) (by decide) (by decide) ?_
      show Steps p.tables e below (T32.setTop (mkF m 169 #[.val (.long q1), .second, .val (.long q2), .second, .val (.long q3), .second, .val (.int p4), .val (.long u), .second, .val (.ref b4), .val (.int (1 : Int32)), .val (.long q2), .second, .val (.int (if q1 < q2 then (0 : Int32) else (1 : Int32))), .val (.int (if q1 < q2 then (0 : Int32) else (1 : Int32))), .val (.long (q2 + u)), .second, .unset, .unset] [])) _
      refine XS.iconst X32.here hx rfl (hb hby at_169) ?_
      show Steps p.tables e below (T32.setTop (mkF m 170 #[.val (.long q1), .second, .val (.long q2), .second, .val (.long q3), .second, .val (.int p4), .val (.long u), .second, .val (.ref b4), .val (.int (1 : Int32)), .val (.long q2), .second, .val (.int (if q1 < q2 then (0 : Int32) else (1 : Int32))), .val (.int (if q1 < q2 then (0 : Int32) else (1 : Int32))), .val (.long (q2 + u)), .second, .unset, .unset] [(.int (0 : Int32))])) _
      simpa only [if_pos hc37] using kt
    · show Steps p.tables e below (T32.setTop (mkF m 162 #[.val (.long q1), .second, .val (.long q2), .second, .val (.long q3), .second, .val (.int p4), .val (.long u), .second, .val (.ref b4), .val (.int (1 : Int32)), .val (.long q2), .second, .val (.int (if q1 < q2 then (0 : Int32) else (1 : Int32))), .val (.int (if q1 < q2 then (0 : Int32) else (1 : Int32))), .val (.long (q2 + u)), .second, .unset, .unset] [(.int (lcmpW (q2 + u) q1))])) _
      refine XS.ifNo X32.here hx rfl (hb hby at_162) rfl ((if0 _ _).trans (flt (fun q => hc37 ((lw_gt _ _).mp q))).2.2.1) ?_
      show Steps p.tables e below (T32.setTop (mkF m 165 #[.val (.long q1), .second, .val (.long q2), .second, .val (.long q3), .second, .val (.int p4), .val (.long u), .second, .val (.ref b4), .val (.int (1 : Int32)), .val (.long q2), .second, .val (.int (if q1 < q2 then (0 : Int32) else (1 : Int32))), .val (.int (if q1 < q2 then (0 : Int32) else (1 : Int32))), .val (.long (q2 + u)), .second, .unset, .unset] [])) _
      refine XS.iconst X32.here hx rfl (hb hby at_165) ?_
      show Steps p.tables e below (T32.setTop (mkF m 166 #[.val (.long q1), .second, .val (.long q2), .second, .val (.long q3), .second, .val (.int p4), .val (.long u), .second, .val (.ref b4), .val (.int (1 : Int32)), .val (.long q2), .second, .val (.int (if q1 < q2 then (0 : Int32) else (1 : Int32))), .val (.int (if q1 < q2 then (0 : Int32) else (1 : Int32))), .val (.long (q2 + u)), .second, .unset, .unset] [(.int (1 : Int32))])) _
      refine XS.goto X32.here hx rfl (pc0 := 166) (pc' := 170) rfl (hb hby at_166) (by decide) (by decide) ?_
      show Steps p.tables e below (T32.setTop (mkF m 170 #[.val (.long q1), .second, .val (.long q2), .second, .val (.long q3), .second, .val (.int p4), .val (.long u), .second, .val (.ref b4), .val (.int (1 : Int32)), .val (.long q2), .second, .val (.int (if q1 < q2 then (0 : Int32) else (1 : Int32))), .val (.int (if q1 < q2 then (0 : Int32) else (1 : Int32))), .val (.long (q2 + u)), .second, .unset, .unset] [(.int (1 : Int32))])) _
      simpa only [if_neg hc37] using kt)
  obtain ⟨cq39, kq39, q39a, q39b, q39c⟩ := isOf hZ r32_0 r23_1
  obtain ⟨_, _, ⟨T39, L39, k39, n39⟩, -, X39, ⟨Lc39, hQ39, l39, y39, z39⟩, st39⟩ := X32.virtualBack hx (y := (⟨"com/example/shunter/shunter/pick/Work", "charge", "(J)Z"⟩ : MethodName)) (z := (⟨"com/example/shunter/shunter/pick/Work", "charge", "(J)Z"⟩ : MethodName)) hown (mvT hZ (hw _ (List.mem_of_getElem? (i := 27) rfl))) (mvT hZ (hw _ (List.mem_of_getElem? (i := 28) rfl))) (notFace_of_selects (args := #[]) (mvT hZ (hw _ (List.mem_of_getElem? (i := 30) rfl)))) (mvT hZ (hw _ (List.mem_of_getElem? (i := 30) rfl))) (mvT hZ (hw _ (List.mem_of_getElem? (i := 29) rfl))) (by decide) (backOf (W := 0) (rm5 l Z a0 hw [] b4 u q2 q1 (if q1 < q2 then (1 : Int32) else (0 : Int32)) (q2 + u) T23.heap n0 Z23 r23_1 r23_2 r23_3 r23_4 rfl g_b4) hZ (hw _ (List.mem_of_getElem? (i := 31) rfl)) (hw _ (List.mem_of_getElem? (i := 2) rfl)) (by decide) (by decide)) q39a q39c (g := (mkF m 176 #[.val (.long q1), .second, .val (.long q2), .second, .val (.long q3), .second, .val (.int p4), .val (.long u), .second, .val (.ref b4), .val (.int (1 : Int32)), .val (.long q2), .second, .val (.int (if q1 < q2 then (0 : Int32) else (1 : Int32))), .val (.int (if q1 < q2 then (0 : Int32) else (1 : Int32))), .val (.long (q2 + u)), .second, .val (.int (if q1 < (q2 + u) then (0 : Int32) else (1 : Int32))), .unset] [(.long u), (.ref b4)])) rfl (by rw [hml]; rfl) (Steps.refl _) (argsL := [(.long u)]) (rest := []) (lenOf pd_3 rfl) rfl (by show 2 * 0 + _ ≤ _; exact Nat.le_of_eq rfl) (hb hby at_176) (fun _ _ => ⟨rfl, r32_0, (by decide : 1 + 0 ≤ _), (by decide : 4 + 0 ≤ _)⟩)
  dsimp only [Pt.U, Pt.locs, Pt.cells, Pt.slots] at X39 l39 y39 z39 st39 hQ39
  subst l39 y39 z39
  obtain ⟨rfl, N39q, r39_0, r39_1, r39_2, r39_3, r39_4⟩ := hQ39
  have N39 := Fr.app N32 N39q
  have f40 := r23_1.keep r39_0
  have K39 : Keep h0 T39.heap [] := K23.trans r39_0 (allS (Or.inr sz_b4) all0)
  have Z39 : n0 ≤ T39.heap.size := Nat.le_trans Z23 r39_0.1
  obtain ⟨cq44, kq44, q44a, q44b, q44c⟩ := isOf hZ rfl r39_1
  obtain ⟨_, _, ⟨T44, L44, k44, n44⟩, -, X44, ⟨Lc44, hQ44, l44, y44, z44⟩, st44⟩ := X39.virtualBack hx (y := (⟨"com/example/shunter/shunter/pick/Work", "isSpent", "()Z"⟩ : MethodName)) (z := (⟨"com/example/shunter/shunter/pick/Work", "isSpent", "()Z"⟩ : MethodName)) hown (mvT hZ (hw _ (List.mem_of_getElem? (i := 20) rfl))) (mvT hZ (hw _ (List.mem_of_getElem? (i := 21) rfl))) (notFace_of_selects (args := #[]) (mvT hZ (hw _ (List.mem_of_getElem? (i := 23) rfl)))) (mvT hZ (hw _ (List.mem_of_getElem? (i := 23) rfl))) (mvT hZ (hw _ (List.mem_of_getElem? (i := 22) rfl))) (by decide) (backOf (W := 0) (rm4 l Z a0 hw [] b4 (q2 + u) q1 T39.heap n0 Z39 r39_2 r39_3) hZ (hw _ (List.mem_of_getElem? (i := 24) rfl)) (hw _ (List.mem_of_getElem? (i := 2) rfl)) (by decide) (by decide)) q44a q44c (g := (mkF m 195 #[.val (.long q1), .second, .val (.long q2), .second, .val (.long q3), .second, .val (.int p4), .val (.long u), .second, .val (.ref b4), .val (.int (1 : Int32)), .val (.long q2), .second, .val (.int (if q1 < q2 then (0 : Int32) else (1 : Int32))), .val (.int (if q1 < q2 then (0 : Int32) else (1 : Int32))), .val (.long (q2 + u)), .second, .val (.int (if q1 < (q2 + u) then (0 : Int32) else (1 : Int32))), .val (.int (if q1 < (q2 + u) then (0 : Int32) else (1 : Int32)))] [(.ref b4)])) rfl (by rw [hml]; rfl) (Steps.refl _) (argsL := []) (rest := []) (lenOf pd_2 rfl) rfl (by show 2 * 0 + _ ≤ _; exact Nat.le_of_eq rfl) (hb hby at_195) (fun _ _ => ⟨rfl, rfl, (by decide : 1 + 0 ≤ _), (by decide : 4 + 0 ≤ _)⟩)
  dsimp only [Pt.U, Pt.locs, Pt.cells, Pt.slots] at X44 l44 y44 z44 st44 hQ44
  subst l44 y44 z44
  obtain ⟨rfl, N44q, r44_0⟩ := hQ44
  have N44 := Fr.app N39 N44q
  have c45 : Goes p e below s₁ (entryFrame m #[(.long q1), (.long q2), (.long q3), (.int p4)] maxLocals) T44 (mkF m 200 #[.val (.long q1), .second, .val (.long q2), .second, .val (.long q3), .second, .val (.int p4), .val (.long u), .second, .val (.ref b4), .val (.int (1 : Int32)), .val (.long q2), .second, .val (.int (if q1 < q2 then (0 : Int32) else (1 : Int32))), .val (.int (if q1 < q2 then (0 : Int32) else (1 : Int32))), .val (.long (q2 + u)), .second, .val (.int (if q1 < (q2 + u) then (0 : Int32) else (1 : Int32))), .val (.int (if q1 < (q2 + u) then (0 : Int32) else (1 : Int32)))] [(.int (if q1 < (q2 + u) then (0 : Int32) else (1 : Int32))), (.int (if q1 < (q2 + u) then (1 : Int32) else (0 : Int32)))]) := fun t kt => c38 t (by
    show Steps p.tables e below (T32.setTop (mkF m 170 #[.val (.long q1), .second, .val (.long q2), .second, .val (.long q3), .second, .val (.int p4), .val (.long u), .second, .val (.ref b4), .val (.int (1 : Int32)), .val (.long q2), .second, .val (.int (if q1 < q2 then (0 : Int32) else (1 : Int32))), .val (.int (if q1 < q2 then (0 : Int32) else (1 : Int32))), .val (.long (q2 + u)), .second, .unset, .unset] [(.int (if q1 < (q2 + u) then (0 : Int32) else (1 : Int32)))])) _
    refine XS.istore X32.here hx rfl (hb hby at_170) rfl (l' := #[.val (.long q1), .second, .val (.long q2), .second, .val (.long q3), .second, .val (.int p4), .val (.long u), .second, .val (.ref b4), .val (.int (1 : Int32)), .val (.long q2), .second, .val (.int (if q1 < q2 then (0 : Int32) else (1 : Int32))), .val (.int (if q1 < q2 then (0 : Int32) else (1 : Int32))), .val (.long (q2 + u)), .second, .val (.int (if q1 < (q2 + u) then (0 : Int32) else (1 : Int32))), .unset]) rfl ?_
    show Steps p.tables e below (T32.setTop (mkF m 172 #[.val (.long q1), .second, .val (.long q2), .second, .val (.long q3), .second, .val (.int p4), .val (.long u), .second, .val (.ref b4), .val (.int (1 : Int32)), .val (.long q2), .second, .val (.int (if q1 < q2 then (0 : Int32) else (1 : Int32))), .val (.int (if q1 < q2 then (0 : Int32) else (1 : Int32))), .val (.long (q2 + u)), .second, .val (.int (if q1 < (q2 + u) then (0 : Int32) else (1 : Int32))), .unset] [])) _
    refine XS.aload X32.here hx rfl (hb hby at_172) rfl rfl ?_
    show Steps p.tables e below (T32.setTop (mkF m 174 #[.val (.long q1), .second, .val (.long q2), .second, .val (.long q3), .second, .val (.int p4), .val (.long u), .second, .val (.ref b4), .val (.int (1 : Int32)), .val (.long q2), .second, .val (.int (if q1 < q2 then (0 : Int32) else (1 : Int32))), .val (.int (if q1 < q2 then (0 : Int32) else (1 : Int32))), .val (.long (q2 + u)), .second, .val (.int (if q1 < (q2 + u) then (0 : Int32) else (1 : Int32))), .unset] [(.ref b4)])) _
    refine XS.lload X32.here hx rfl (hb hby at_174) rfl ?_
    show Steps p.tables e below (T32.setTop (mkF m 176 #[.val (.long q1), .second, .val (.long q2), .second, .val (.long q3), .second, .val (.int p4), .val (.long u), .second, .val (.ref b4), .val (.int (1 : Int32)), .val (.long q2), .second, .val (.int (if q1 < q2 then (0 : Int32) else (1 : Int32))), .val (.int (if q1 < q2 then (0 : Int32) else (1 : Int32))), .val (.long (q2 + u)), .second, .val (.int (if q1 < (q2 + u) then (0 : Int32) else (1 : Int32))), .unset] [(.long u), (.ref b4)])) _
    refine st39.trans ?_
    show Steps p.tables e below (T39.setTop (mkF m 179 #[.val (.long q1), .second, .val (.long q2), .second, .val (.long q3), .second, .val (.int p4), .val (.long u), .second, .val (.ref b4), .val (.int (1 : Int32)), .val (.long q2), .second, .val (.int (if q1 < q2 then (0 : Int32) else (1 : Int32))), .val (.int (if q1 < q2 then (0 : Int32) else (1 : Int32))), .val (.long (q2 + u)), .second, .val (.int (if q1 < (q2 + u) then (0 : Int32) else (1 : Int32))), .unset] [(.int (if q1 < (q2 + u) then (0 : Int32) else (1 : Int32)))])) _
    refine XS.istore X39.here hx rfl (hb hby at_179) rfl (l' := #[.val (.long q1), .second, .val (.long q2), .second, .val (.long q3), .second, .val (.int p4), .val (.long u), .second, .val (.ref b4), .val (.int (1 : Int32)), .val (.long q2), .second, .val (.int (if q1 < q2 then (0 : Int32) else (1 : Int32))), .val (.int (if q1 < q2 then (0 : Int32) else (1 : Int32))), .val (.long (q2 + u)), .second, .val (.int (if q1 < (q2 + u) then (0 : Int32) else (1 : Int32))), .val (.int (if q1 < (q2 + u) then (0 : Int32) else (1 : Int32)))]) rfl ?_
    show Steps p.tables e below (T39.setTop (mkF m 181 #[.val (.long q1), .second, .val (.long q2), .second, .val (.long q3), .second, .val (.int p4), .val (.long u), .second, .val (.ref b4), .val (.int (1 : Int32)), .val (.long q2), .second, .val (.int (if q1 < q2 then (0 : Int32) else (1 : Int32))), .val (.int (if q1 < q2 then (0 : Int32) else (1 : Int32))), .val (.long (q2 + u)), .second, .val (.int (if q1 < (q2 + u) then (0 : Int32) else (1 : Int32))), .val (.int (if q1 < (q2 + u) then (0 : Int32) else (1 : Int32)))] [])) _
    refine XS.iload X39.here hx rfl (hb hby at_181) rfl ?_
    show Steps p.tables e below (T39.setTop (mkF m 183 #[.val (.long q1), .second, .val (.long q2), .second, .val (.long q3), .second, .val (.int p4), .val (.long u), .second, .val (.ref b4), .val (.int (1 : Int32)), .val (.long q2), .second, .val (.int (if q1 < q2 then (0 : Int32) else (1 : Int32))), .val (.int (if q1 < q2 then (0 : Int32) else (1 : Int32))), .val (.long (q2 + u)), .second, .val (.int (if q1 < (q2 + u) then (0 : Int32) else (1 : Int32))), .val (.int (if q1 < (q2 + u) then (0 : Int32) else (1 : Int32)))] [(.int (1 : Int32))])) _
    refine XS.ifNo X39.here hx rfl (hb hby at_183) rfl ((if0 _ _).trans (feq (by decide : ¬ ((1 : Int32) = (0 : Int32)))).1) ?_
    show Steps p.tables e below (T39.setTop (mkF m 186 #[.val (.long q1), .second, .val (.long q2), .second, .val (.long q3), .second, .val (.int p4), .val (.long u), .second, .val (.ref b4), .val (.int (1 : Int32)), .val (.long q2), .second, .val (.int (if q1 < q2 then (0 : Int32) else (1 : Int32))), .val (.int (if q1 < q2 then (0 : Int32) else (1 : Int32))), .val (.long (q2 + u)), .second, .val (.int (if q1 < (q2 + u) then (0 : Int32) else (1 : Int32))), .val (.int (if q1 < (q2 + u) then (0 : Int32) else (1 : Int32)))] [])) _
    refine XS.iload X39.here hx rfl (hb hby at_186) rfl ?_
    show Steps p.tables e below (T39.setTop (mkF m 188 #[.val (.long q1), .second, .val (.long q2), .second, .val (.long q3), .second, .val (.int p4), .val (.long u), .second, .val (.ref b4), .val (.int (1 : Int32)), .val (.long q2), .second, .val (.int (if q1 < q2 then (0 : Int32) else (1 : Int32))), .val (.int (if q1 < q2 then (0 : Int32) else (1 : Int32))), .val (.long (q2 + u)), .second, .val (.int (if q1 < (q2 + u) then (0 : Int32) else (1 : Int32))), .val (.int (if q1 < (q2 + u) then (0 : Int32) else (1 : Int32)))] [(.int (if q1 < (q2 + u) then (0 : Int32) else (1 : Int32)))])) _
    refine XS.iload X39.here hx rfl (hb hby at_188) rfl ?_
    show Steps p.tables e below (T39.setTop (mkF m 190 #[.val (.long q1), .second, .val (.long q2), .second, .val (.long q3), .second, .val (.int p4), .val (.long u), .second, .val (.ref b4), .val (.int (1 : Int32)), .val (.long q2), .second, .val (.int (if q1 < q2 then (0 : Int32) else (1 : Int32))), .val (.int (if q1 < q2 then (0 : Int32) else (1 : Int32))), .val (.long (q2 + u)), .second, .val (.int (if q1 < (q2 + u) then (0 : Int32) else (1 : Int32))), .val (.int (if q1 < (q2 + u) then (0 : Int32) else (1 : Int32)))] [(.int (if q1 < (q2 + u) then (0 : Int32) else (1 : Int32))), (.int (if q1 < (q2 + u) then (0 : Int32) else (1 : Int32)))])) _
    refine XS.icmpNo X39.here hx rfl (hb hby at_190) rfl (teq (rfl : (if q1 < (q2 + u) then (0 : Int32) else (1 : Int32)) = (if q1 < (q2 + u) then (0 : Int32) else (1 : Int32)))).2 ?_
    show Steps p.tables e below (T39.setTop (mkF m 193 #[.val (.long q1), .second, .val (.long q2), .second, .val (.long q3), .second, .val (.int p4), .val (.long u), .second, .val (.ref b4), .val (.int (1 : Int32)), .val (.long q2), .second, .val (.int (if q1 < q2 then (0 : Int32) else (1 : Int32))), .val (.int (if q1 < q2 then (0 : Int32) else (1 : Int32))), .val (.long (q2 + u)), .second, .val (.int (if q1 < (q2 + u) then (0 : Int32) else (1 : Int32))), .val (.int (if q1 < (q2 + u) then (0 : Int32) else (1 : Int32)))] [])) _
    refine XS.aload X39.here hx rfl (hb hby at_193) rfl rfl ?_
    show Steps p.tables e below (T39.setTop (mkF m 195 #[.val (.long q1), .second, .val (.long q2), .second, .val (.long q3), .second, .val (.int p4), .val (.long u), .second, .val (.ref b4), .val (.int (1 : Int32)), .val (.long q2), .second, .val (.int (if q1 < q2 then (0 : Int32) else (1 : Int32))), .val (.int (if q1 < q2 then (0 : Int32) else (1 : Int32))), .val (.long (q2 + u)), .second, .val (.int (if q1 < (q2 + u) then (0 : Int32) else (1 : Int32))), .val (.int (if q1 < (q2 + u) then (0 : Int32) else (1 : Int32)))] [(.ref b4)])) _
    refine st44.trans ?_
    show Steps p.tables e below (T44.setTop (mkF m 198 #[.val (.long q1), .second, .val (.long q2), .second, .val (.long q3), .second, .val (.int p4), .val (.long u), .second, .val (.ref b4), .val (.int (1 : Int32)), .val (.long q2), .second, .val (.int (if q1 < q2 then (0 : Int32) else (1 : Int32))), .val (.int (if q1 < q2 then (0 : Int32) else (1 : Int32))), .val (.long (q2 + u)), .second, .val (.int (if q1 < (q2 + u) then (0 : Int32) else (1 : Int32))), .val (.int (if q1 < (q2 + u) then (0 : Int32) else (1 : Int32)))] [(.int (if q1 < (q2 + u) then (1 : Int32) else (0 : Int32)))])) _
    refine XS.iload X44.here hx rfl (hb hby at_198) rfl ?_
    show Steps p.tables e below (T44.setTop (mkF m 200 #[.val (.long q1), .second, .val (.long q2), .second, .val (.long q3), .second, .val (.int p4), .val (.long u), .second, .val (.ref b4), .val (.int (1 : Int32)), .val (.long q2), .second, .val (.int (if q1 < q2 then (0 : Int32) else (1 : Int32))), .val (.int (if q1 < q2 then (0 : Int32) else (1 : Int32))), .val (.long (q2 + u)), .second, .val (.int (if q1 < (q2 + u) then (0 : Int32) else (1 : Int32))), .val (.int (if q1 < (q2 + u) then (0 : Int32) else (1 : Int32)))] [(.int (if q1 < (q2 + u) then (0 : Int32) else (1 : Int32))), (.int (if q1 < (q2 + u) then (1 : Int32) else (0 : Int32)))])) _
    exact kt)
  have c47 : Goes p e below s₁ (entryFrame m #[(.long q1), (.long q2), (.long q3), (.int p4)] maxLocals) T44 (mkF m 208 #[.val (.long q1), .second, .val (.long q2), .second, .val (.long q3), .second, .val (.int p4), .val (.long u), .second, .val (.ref b4), .val (.int (1 : Int32)), .val (.long q2), .second, .val (.int (if q1 < q2 then (0 : Int32) else (1 : Int32))), .val (.int (if q1 < q2 then (0 : Int32) else (1 : Int32))), .val (.long (q2 + u)), .second, .val (.int (if q1 < (q2 + u) then (0 : Int32) else (1 : Int32))), .val (.int (if q1 < (q2 + u) then (0 : Int32) else (1 : Int32)))] [(.int (if (if q1 < (q2 + u) then (0 : Int32) else (1 : Int32)) = (0 : Int32) then (1 : Int32) else (0 : Int32))), (.int (if q1 < (q2 + u) then (1 : Int32) else (0 : Int32)))]) := fun t kt => c45 t (by
    by_cases hc46 : (if q1 < (q2 + u) then (0 : Int32) else (1 : Int32)) = (0 : Int32)
    · show Steps p.tables e below (T44.setTop (mkF m 200 #[.val (.long q1), .second, .val (.long q2), .second, .val (.long q3), .second, .val (.int p4), .val (.long u), .second, .val (.ref b4), .val (.int (1 : Int32)), .val (.long q2), .second, .val (.int (if q1 < q2 then (0 : Int32) else (1 : Int32))), .val (.int (if q1 < q2 then (0 : Int32) else (1 : Int32))), .val (.long (q2 + u)), .second, .val (.int (if q1 < (q2 + u) then (0 : Int32) else (1 : Int32))), .val (.int (if q1 < (q2 + u) then (0 : Int32) else (1 : Int32)))] [(.int (if q1 < (q2 + u) then (0 : Int32) else (1 : Int32))), (.int (if q1 < (q2 + u) then (1 : Int32) else (0 : Int32)))])) _
      refine XS.ifNo X44.here hx rfl (hb hby at_200) rfl ((if0 _ _).trans (teq hc46).2) ?_
      show Steps p.tables e below (T44.setTop (mkF m 203 #[.val (.long q1), .second, .val (.long q2), .second, .val (.long q3), .second, .val (.int p4), .val (.long u), .second, .val (.ref b4), .val (.int (1 : Int32)), .val (.long q2), .second, .val (.int (if q1 < q2 then (0 : Int32) else (1 : Int32))), .val (.int (if q1 < q2 then (0 : Int32) else (1 : Int32))), .val (.long (q2 + u)), .second, .val (.int (if q1 < (q2 + u) then (0 : Int32) else (1 : Int32))), .val (.int (if q1 < (q2 + u) then (0 : Int32) else (1 : Int32)))] [(.int (if q1 < (q2 + u) then (1 : Int32) else (0 : Int32)))])) _
      refine XS.iconst X44.here hx rfl (hb hby at_203) ?_
      show Steps p.tables e below (T44.setTop (mkF m 204 #[.val (.long q1), .second, .val (.long q2), .second, .val (.long q3), .second, .val (.int p4), .val (.long u), .second, .val (.ref b4), .val (.int (1 : Int32)), .val (.long q2), .second, .val (.int (if q1 < q2 then (0 : Int32) else (1 : Int32))), .val (.int (if q1 < q2 then (0 : Int32) else (1 : Int32))), .val (.long (q2 + u)), .second, .val (.int (if q1 < (q2 + u) then (0 : Int32) else (1 : Int32))), .val (.int (if q1 < (q2 + u) then (0 : Int32) else (1 : Int32)))] [(.int (1 : Int32)), (.int (if q1 < (q2 + u) then (1 : Int32) else (0 : Int32)))])) _
      refine XS.goto X44.here hx rfl (pc0 := 204) (pc' := 208) rfl (hb hby at_204) (by decide) (by decide) ?_
      show Steps p.tables e below (T44.setTop (mkF m 208 #[.val (.long q1), .second, .val (.long q2), .second, .val (.long q3), .second, .val (.int p4), .val (.long u), .second, .val (.ref b4), .val (.int (1 : Int32)), .val (.long q2), .second, .val (.int (if q1 < q2 then (0 : Int32) else (1 : Int32))), .val (.int (if q1 < q2 then (0 : Int32) else (1 : Int32))), .val (.long (q2 + u)), .second, .val (.int (if q1 < (q2 + u) then (0 : Int32) else (1 : Int32))), .val (.int (if q1 < (q2 + u) then (0 : Int32) else (1 : Int32)))] [(.int (1 : Int32)), (.int (if q1 < (q2 + u) then (1 : Int32) else (0 : Int32)))])) _
      simpa only [if_pos hc46] using kt
    · show Steps p.tables e below (T44.setTop (mkF m 200 #[.val (.long q1), .second, .val (.long q2), .second, .val (.long q3), .second, .val (.int p4), .val (.long u), .second, .val (.ref b4), .val (.int (1 : Int32)), .val (.long q2), .second, .val (.int (if q1 < q2 then (0 : Int32) else (1 : Int32))), .val (.int (if q1 < q2 then (0 : Int32) else (1 : Int32))), .val (.long (q2 + u)), .second, .val (.int (if q1 < (q2 + u) then (0 : Int32) else (1 : Int32))), .val (.int (if q1 < (q2 + u) then (0 : Int32) else (1 : Int32)))] [(.int (if q1 < (q2 + u) then (0 : Int32) else (1 : Int32))), (.int (if q1 < (q2 + u) then (1 : Int32) else (0 : Int32)))])) _
      refine XS.ifYes X44.here hx rfl (pc0 := 200) (pc' := 207) rfl (hb hby at_200) rfl ((if0 _ _).trans (feq hc46).2) (by decide) (by decide) ?_
      show Steps p.tables e below (T44.setTop (mkF m 207 #[.val (.long q1), .second, .val (.long q2), .second, .val (.long q3), .second, .val (.int p4), .val (.long u), .second, .val (.ref b4), .val (.int (1 : Int32)), .val (.long q2), .second, .val (.int (if q1 < q2 then (0 : Int32) else (1 : Int32))), .val (.int (if q1 < q2 then (0 : Int32) else (1 : Int32))), .val (.long (q2 + u)), .second, .val (.int (if q1 < (q2 + u) then (0 : Int32) else (1 : Int32))), .val (.int (if q1 < (q2 + u) then (0 : Int32) else (1 : Int32)))] [(.int (if q1 < (q2 + u) then (1 : Int32) else (0 : Int32)))])) _
      refine XS.iconst X44.here hx rfl (hb hby at_207) ?_
      show Steps p.tables e below (T44.setTop (mkF m 208 #[.val (.long q1), .second, .val (.long q2), .second, .val (.long q3), .second, .val (.int p4), .val (.long u), .second, .val (.ref b4), .val (.int (1 : Int32)), .val (.long q2), .second, .val (.int (if q1 < q2 then (0 : Int32) else (1 : Int32))), .val (.int (if q1 < q2 then (0 : Int32) else (1 : Int32))), .val (.long (q2 + u)), .second, .val (.int (if q1 < (q2 + u) then (0 : Int32) else (1 : Int32))), .val (.int (if q1 < (q2 + u) then (0 : Int32) else (1 : Int32)))] [(.int (0 : Int32)), (.int (if q1 < (q2 + u) then (1 : Int32) else (0 : Int32)))])) _
      simpa only [if_neg hc46] using kt)
  obtain ⟨cq48, kq48, q48a, q48b, q48c⟩ := isOf hZ r44_0 r39_1
  obtain ⟨_, _, ⟨T48, L48, k48, n48⟩, -, X48, ⟨Lc48, hQ48, l48, y48, z48⟩, st48⟩ := X44.virtualBack hx (y := (⟨"com/example/shunter/shunter/pick/Work", "hasStopped", "()Z"⟩ : MethodName)) (z := (⟨"com/example/shunter/shunter/pick/Work", "hasStopped", "()Z"⟩ : MethodName)) hown (mvT hZ (hw _ (List.mem_of_getElem? (i := 13) rfl))) (mvT hZ (hw _ (List.mem_of_getElem? (i := 14) rfl))) (notFace_of_selects (args := #[]) (mvT hZ (hw _ (List.mem_of_getElem? (i := 16) rfl)))) (mvT hZ (hw _ (List.mem_of_getElem? (i := 16) rfl))) (mvT hZ (hw _ (List.mem_of_getElem? (i := 15) rfl))) (by decide) (backOf (W := 0) (rm3 l Z a0 hw [] b4 (if q1 < (q2 + u) then (1 : Int32) else (if q1 < q2 then (1 : Int32) else (0 : Int32))) T39.heap n0 Z39 r39_4 (own_nar own_n1 (own_nar own_n1 own_n0))) hZ (hw _ (List.mem_of_getElem? (i := 17) rfl)) (hw _ (List.mem_of_getElem? (i := 2) rfl)) (by decide) (by decide)) q48a q48c (g := (mkF m 213 #[.val (.long q1), .second, .val (.long q2), .second, .val (.long q3), .second, .val (.int p4), .val (.long u), .second, .val (.ref b4), .val (.int (1 : Int32)), .val (.long q2), .second, .val (.int (if q1 < q2 then (0 : Int32) else (1 : Int32))), .val (.int (if q1 < q2 then (0 : Int32) else (1 : Int32))), .val (.long (q2 + u)), .second, .val (.int (if q1 < (q2 + u) then (0 : Int32) else (1 : Int32))), .val (.int (if q1 < (q2 + u) then (0 : Int32) else (1 : Int32)))] [(.ref b4)])) rfl (by rw [hml]; rfl) (Steps.refl _) (argsL := []) (rest := []) (lenOf pd_2 rfl) rfl (by show 2 * 0 + _ ≤ _; exact Nat.le_of_eq rfl) (hb hby at_213) (fun _ _ => ⟨rfl, r44_0, (by decide : 1 + 0 ≤ _), (by decide : 4 + 0 ≤ _)⟩)
  dsimp only [Pt.U, Pt.locs, Pt.cells, Pt.slots] at X48 l48 y48 z48 st48 hQ48
  subst l48 y48 z48
  obtain ⟨rfl, N48q, r48_0⟩ := hQ48
  have N48 := Fr.app N44 N48q
  have c49 : Goes p e below s₁ (entryFrame m #[(.long q1), (.long q2), (.long q3), (.int p4)] maxLocals) T48 (mkF m 218 #[.val (.long q1), .second, .val (.long q2), .second, .val (.long q3), .second, .val (.int p4), .val (.long u), .second, .val (.ref b4), .val (.int (1 : Int32)), .val (.long q2), .second, .val (.int (if q1 < q2 then (0 : Int32) else (1 : Int32))), .val (.int (if q1 < q2 then (0 : Int32) else (1 : Int32))), .val (.long (q2 + u)), .second, .val (.int (if q1 < (q2 + u) then (0 : Int32) else (1 : Int32))), .val (.int (if q1 < (q2 + u) then (0 : Int32) else (1 : Int32)))] [(.int (if q1 < q2 then (0 : Int32) else (1 : Int32))), (.int (if q1 < (q2 + u) then (1 : Int32) else (if q1 < q2 then (1 : Int32) else (0 : Int32))))]) := fun t kt => c47 t (by
    show Steps p.tables e below (T44.setTop (mkF m 208 #[.val (.long q1), .second, .val (.long q2), .second, .val (.long q3), .second, .val (.int p4), .val (.long u), .second, .val (.ref b4), .val (.int (1 : Int32)), .val (.long q2), .second, .val (.int (if q1 < q2 then (0 : Int32) else (1 : Int32))), .val (.int (if q1 < q2 then (0 : Int32) else (1 : Int32))), .val (.long (q2 + u)), .second, .val (.int (if q1 < (q2 + u) then (0 : Int32) else (1 : Int32))), .val (.int (if q1 < (q2 + u) then (0 : Int32) else (1 : Int32)))] [(.int (if (if q1 < (q2 + u) then (0 : Int32) else (1 : Int32)) = (0 : Int32) then (1 : Int32) else (0 : Int32))), (.int (if q1 < (q2 + u) then (1 : Int32) else (0 : Int32)))])) _
    refine XS.icmpNo X44.here hx rfl (hb hby at_208) rfl (teq (own_neg : ((if q1 < (q2 + u) then (1 : Int32) else (0 : Int32)) = (if (if q1 < (q2 + u) then (0 : Int32) else (1 : Int32)) = (0 : Int32) then (1 : Int32) else (0 : Int32))))).2 ?_
    show Steps p.tables e below (T44.setTop (mkF m 211 #[.val (.long q1), .second, .val (.long q2), .second, .val (.long q3), .second, .val (.int p4), .val (.long u), .second, .val (.ref b4), .val (.int (1 : Int32)), .val (.long q2), .second, .val (.int (if q1 < q2 then (0 : Int32) else (1 : Int32))), .val (.int (if q1 < q2 then (0 : Int32) else (1 : Int32))), .val (.long (q2 + u)), .second, .val (.int (if q1 < (q2 + u) then (0 : Int32) else (1 : Int32))), .val (.int (if q1 < (q2 + u) then (0 : Int32) else (1 : Int32)))] [])) _
    refine XS.aload X44.here hx rfl (hb hby at_211) rfl rfl ?_
    show Steps p.tables e below (T44.setTop (mkF m 213 #[.val (.long q1), .second, .val (.long q2), .second, .val (.long q3), .second, .val (.int p4), .val (.long u), .second, .val (.ref b4), .val (.int (1 : Int32)), .val (.long q2), .second, .val (.int (if q1 < q2 then (0 : Int32) else (1 : Int32))), .val (.int (if q1 < q2 then (0 : Int32) else (1 : Int32))), .val (.long (q2 + u)), .second, .val (.int (if q1 < (q2 + u) then (0 : Int32) else (1 : Int32))), .val (.int (if q1 < (q2 + u) then (0 : Int32) else (1 : Int32)))] [(.ref b4)])) _
    refine st48.trans ?_
    show Steps p.tables e below (T48.setTop (mkF m 216 #[.val (.long q1), .second, .val (.long q2), .second, .val (.long q3), .second, .val (.int p4), .val (.long u), .second, .val (.ref b4), .val (.int (1 : Int32)), .val (.long q2), .second, .val (.int (if q1 < q2 then (0 : Int32) else (1 : Int32))), .val (.int (if q1 < q2 then (0 : Int32) else (1 : Int32))), .val (.long (q2 + u)), .second, .val (.int (if q1 < (q2 + u) then (0 : Int32) else (1 : Int32))), .val (.int (if q1 < (q2 + u) then (0 : Int32) else (1 : Int32)))] [(.int (if q1 < (q2 + u) then (1 : Int32) else (if q1 < q2 then (1 : Int32) else (0 : Int32))))])) _
    refine XS.iload X48.here hx rfl (hb hby at_216) rfl ?_
    show Steps p.tables e below (T48.setTop (mkF m 218 #[.val (.long q1), .second, .val (.long q2), .second, .val (.long q3), .second, .val (.int p4), .val (.long u), .second, .val (.ref b4), .val (.int (1 : Int32)), .val (.long q2), .second, .val (.int (if q1 < q2 then (0 : Int32) else (1 : Int32))), .val (.int (if q1 < q2 then (0 : Int32) else (1 : Int32))), .val (.long (q2 + u)), .second, .val (.int (if q1 < (q2 + u) then (0 : Int32) else (1 : Int32))), .val (.int (if q1 < (q2 + u) then (0 : Int32) else (1 : Int32)))] [(.int (if q1 < q2 then (0 : Int32) else (1 : Int32))), (.int (if q1 < (q2 + u) then (1 : Int32) else (if q1 < q2 then (1 : Int32) else (0 : Int32))))])) _
    exact kt)
  by_cases hc50 : (if q1 < q2 then (0 : Int32) else (1 : Int32)) = (0 : Int32)
  · obtain ⟨fs, hr, hrun, hended, hW, hsame⟩ := X48.leave (v := some (.int (1 : Int32))) (fun h => by rw [Bd.returns] at h; cases h)
    refine ⟨_, _, c49 _ ?_, hrun, hended, _, _, rfl, ?_, ⟨_, rfl⟩, hW, hsame.mono (by decide) (by decide)⟩
    · show Steps p.tables e below (T48.setTop (mkF m 218 #[.val (.long q1), .second, .val (.long q2), .second, .val (.long q3), .second, .val (.int p4), .val (.long u), .second, .val (.ref b4), .val (.int (1 : Int32)), .val (.long q2), .second, .val (.int (if q1 < q2 then (0 : Int32) else (1 : Int32))), .val (.int (if q1 < q2 then (0 : Int32) else (1 : Int32))), .val (.long (q2 + u)), .second, .val (.int (if q1 < (q2 + u) then (0 : Int32) else (1 : Int32))), .val (.int (if q1 < (q2 + u) then (0 : Int32) else (1 : Int32)))] [(.int (if q1 < q2 then (0 : Int32) else (1 : Int32))), (.int (if q1 < (q2 + u) then (1 : Int32) else (if q1 < q2 then (1 : Int32) else (0 : Int32))))])) _
      refine XS.ifYes X48.here hx rfl (pc0 := 218) (pc' := 226) rfl (hb hby at_218) rfl ((if0 _ _).trans (teq hc50).1) (by decide) (by decide) ?_
      show Steps p.tables e below (T48.setTop (mkF m 226 #[.val (.long q1), .second, .val (.long q2), .second, .val (.long q3), .second, .val (.int p4), .val (.long u), .second, .val (.ref b4), .val (.int (1 : Int32)), .val (.long q2), .second, .val (.int (if q1 < q2 then (0 : Int32) else (1 : Int32))), .val (.int (if q1 < q2 then (0 : Int32) else (1 : Int32))), .val (.long (q2 + u)), .second, .val (.int (if q1 < (q2 + u) then (0 : Int32) else (1 : Int32))), .val (.int (if q1 < (q2 + u) then (0 : Int32) else (1 : Int32)))] [(.int (if q1 < (q2 + u) then (1 : Int32) else (if q1 < q2 then (1 : Int32) else (0 : Int32))))])) _
      refine XS.iconst X48.here hx rfl (hb hby at_226) ?_
      show Steps p.tables e below (T48.setTop (mkF m 227 #[.val (.long q1), .second, .val (.long q2), .second, .val (.long q3), .second, .val (.int p4), .val (.long u), .second, .val (.ref b4), .val (.int (1 : Int32)), .val (.long q2), .second, .val (.int (if q1 < q2 then (0 : Int32) else (1 : Int32))), .val (.int (if q1 < q2 then (0 : Int32) else (1 : Int32))), .val (.long (q2 + u)), .second, .val (.int (if q1 < (q2 + u) then (0 : Int32) else (1 : Int32))), .val (.int (if q1 < (q2 + u) then (0 : Int32) else (1 : Int32)))] [(.int (1 : Int32)), (.int (if q1 < (q2 + u) then (1 : Int32) else (if q1 < q2 then (1 : Int32) else (0 : Int32))))])) _
      refine XS.goto X48.here hx rfl (pc0 := 227) (pc' := 231) rfl (hb hby at_227) (by decide) (by decide) ?_
      show Steps p.tables e below (T48.setTop (mkF m 231 #[.val (.long q1), .second, .val (.long q2), .second, .val (.long q3), .second, .val (.int p4), .val (.long u), .second, .val (.ref b4), .val (.int (1 : Int32)), .val (.long q2), .second, .val (.int (if q1 < q2 then (0 : Int32) else (1 : Int32))), .val (.int (if q1 < q2 then (0 : Int32) else (1 : Int32))), .val (.long (q2 + u)), .second, .val (.int (if q1 < (q2 + u) then (0 : Int32) else (1 : Int32))), .val (.int (if q1 < (q2 + u) then (0 : Int32) else (1 : Int32)))] [(.int (1 : Int32)), (.int (if q1 < (q2 + u) then (1 : Int32) else (if q1 < q2 then (1 : Int32) else (0 : Int32))))])) _
      refine XS.icmpNo X48.here hx rfl (hb hby at_231) rfl (teq (own_f1 hc50 : ((if q1 < (q2 + u) then (1 : Int32) else (if q1 < q2 then (1 : Int32) else (0 : Int32))) = (1 : Int32)))).2 ?_
      show Steps p.tables e below (T48.setTop (mkF m 234 #[.val (.long q1), .second, .val (.long q2), .second, .val (.long q3), .second, .val (.int p4), .val (.long u), .second, .val (.ref b4), .val (.int (1 : Int32)), .val (.long q2), .second, .val (.int (if q1 < q2 then (0 : Int32) else (1 : Int32))), .val (.int (if q1 < q2 then (0 : Int32) else (1 : Int32))), .val (.long (q2 + u)), .second, .val (.int (if q1 < (q2 + u) then (0 : Int32) else (1 : Int32))), .val (.int (if q1 < (q2 + u) then (0 : Int32) else (1 : Int32)))] [])) _
      refine XS.iconst X48.here hx rfl (hb hby at_234) ?_
      show Steps p.tables e below (T48.setTop (mkF m 235 #[.val (.long q1), .second, .val (.long q2), .second, .val (.long q3), .second, .val (.int p4), .val (.long u), .second, .val (.ref b4), .val (.int (1 : Int32)), .val (.long q2), .second, .val (.int (if q1 < q2 then (0 : Int32) else (1 : Int32))), .val (.int (if q1 < q2 then (0 : Int32) else (1 : Int32))), .val (.long (q2 + u)), .second, .val (.int (if q1 < (q2 + u) then (0 : Int32) else (1 : Int32))), .val (.int (if q1 < (q2 + u) then (0 : Int32) else (1 : Int32)))] [(.int (1 : Int32))])) _
      refine XS.goto X48.here hx rfl (pc0 := 235) (pc' := 239) rfl (hb hby at_235) (by decide) (by decide) ?_
      show Steps p.tables e below (T48.setTop (mkF m 239 #[.val (.long q1), .second, .val (.long q2), .second, .val (.long q3), .second, .val (.int p4), .val (.long u), .second, .val (.ref b4), .val (.int (1 : Int32)), .val (.long q2), .second, .val (.int (if q1 < q2 then (0 : Int32) else (1 : Int32))), .val (.int (if q1 < q2 then (0 : Int32) else (1 : Int32))), .val (.long (q2 + u)), .second, .val (.int (if q1 < (q2 + u) then (0 : Int32) else (1 : Int32))), .val (.int (if q1 < (q2 + u) then (0 : Int32) else (1 : Int32)))] [(.int (1 : Int32))])) _
      refine XS.istore X48.here hx rfl (hb hby at_239) rfl (l' := #[.val (.long q1), .second, .val (.long q2), .second, .val (.long q3), .second, .val (.int p4), .val (.long u), .second, .val (.ref b4), .val (.int (1 : Int32)), .val (.long q2), .second, .val (.int (if q1 < q2 then (0 : Int32) else (1 : Int32))), .val (.int (if q1 < q2 then (0 : Int32) else (1 : Int32))), .val (.long (q2 + u)), .second, .val (.int (if q1 < (q2 + u) then (0 : Int32) else (1 : Int32))), .val (.int (if q1 < (q2 + u) then (0 : Int32) else (1 : Int32)))]) rfl ?_
      show Steps p.tables e below (T48.setTop (mkF m 241 #[.val (.long q1), .second, .val (.long q2), .second, .val (.long q3), .second, .val (.int p4), .val (.long u), .second, .val (.ref b4), .val (.int (1 : Int32)), .val (.long q2), .second, .val (.int (if q1 < q2 then (0 : Int32) else (1 : Int32))), .val (.int (if q1 < q2 then (0 : Int32) else (1 : Int32))), .val (.long (q2 + u)), .second, .val (.int (if q1 < (q2 + u) then (0 : Int32) else (1 : Int32))), .val (.int (if q1 < (q2 + u) then (0 : Int32) else (1 : Int32)))] [])) _
      refine XS.iload X48.here hx rfl (hb hby at_241) rfl ?_
      show Steps p.tables e below (T48.setTop (mkF m 243 #[.val (.long q1), .second, .val (.long q2), .second, .val (.long q3), .second, .val (.int p4), .val (.long u), .second, .val (.ref b4), .val (.int (1 : Int32)), .val (.long q2), .second, .val (.int (if q1 < q2 then (0 : Int32) else (1 : Int32))), .val (.int (if q1 < q2 then (0 : Int32) else (1 : Int32))), .val (.long (q2 + u)), .second, .val (.int (if q1 < (q2 + u) then (0 : Int32) else (1 : Int32))), .val (.int (if q1 < (q2 + u) then (0 : Int32) else (1 : Int32)))] [(.int (1 : Int32))])) _
      exact retN X48 hx (t := .boolean) Bd.returns (by simp) (hb hby at_243) hr
    · show Q0 Z q1 q2 q3 p4 h0 n0 _ T48.heap _
      rw [r48_0]
      exact ⟨rfl, N48⟩
  · have c51 : Goes p e below s₁ (entryFrame m #[(.long q1), (.long q2), (.long q3), (.int p4)] maxLocals) T48 (mkF m 223 #[.val (.long q1), .second, .val (.long q2), .second, .val (.long q3), .second, .val (.int p4), .val (.long u), .second, .val (.ref b4), .val (.int (1 : Int32)), .val (.long q2), .second, .val (.int (if q1 < q2 then (0 : Int32) else (1 : Int32))), .val (.int (if q1 < q2 then (0 : Int32) else (1 : Int32))), .val (.long (q2 + u)), .second, .val (.int (if q1 < (q2 + u) then (0 : Int32) else (1 : Int32))), .val (.int (if q1 < (q2 + u) then (0 : Int32) else (1 : Int32)))] [(.int (if q1 < (q2 + u) then (0 : Int32) else (1 : Int32))), (.int (if q1 < (q2 + u) then (1 : Int32) else (if q1 < q2 then (1 : Int32) else (0 : Int32))))]) := fun t kt => c49 t (by
      show Steps p.tables e below (T48.setTop (mkF m 218 #[.val (.long q1), .second, .val (.long q2), .second, .val (.long q3), .second, .val (.int p4), .val (.long u), .second, .val (.ref b4), .val (.int (1 : Int32)), .val (.long q2), .second, .val (.int (if q1 < q2 then (0 : Int32) else (1 : Int32))), .val (.int (if q1 < q2 then (0 : Int32) else (1 : Int32))), .val (.long (q2 + u)), .second, .val (.int (if q1 < (q2 + u) then (0 : Int32) else (1 : Int32))), .val (.int (if q1 < (q2 + u) then (0 : Int32) else (1 : Int32)))] [(.int (if q1 < q2 then (0 : Int32) else (1 : Int32))), (.int (if q1 < (q2 + u) then (1 : Int32) else (if q1 < q2 then (1 : Int32) else (0 : Int32))))])) _
      refine XS.ifNo X48.here hx rfl (hb hby at_218) rfl ((if0 _ _).trans (feq hc50).1) ?_
      show Steps p.tables e below (T48.setTop (mkF m 221 #[.val (.long q1), .second, .val (.long q2), .second, .val (.long q3), .second, .val (.int p4), .val (.long u), .second, .val (.ref b4), .val (.int (1 : Int32)), .val (.long q2), .second, .val (.int (if q1 < q2 then (0 : Int32) else (1 : Int32))), .val (.int (if q1 < q2 then (0 : Int32) else (1 : Int32))), .val (.long (q2 + u)), .second, .val (.int (if q1 < (q2 + u) then (0 : Int32) else (1 : Int32))), .val (.int (if q1 < (q2 + u) then (0 : Int32) else (1 : Int32)))] [(.int (if q1 < (q2 + u) then (1 : Int32) else (if q1 < q2 then (1 : Int32) else (0 : Int32))))])) _
      refine XS.iload X48.here hx rfl (hb hby at_221) rfl ?_
      show Steps p.tables e below (T48.setTop (mkF m 223 #[.val (.long q1), .second, .val (.long q2), .second, .val (.long q3), .second, .val (.int p4), .val (.long u), .second, .val (.ref b4), .val (.int (1 : Int32)), .val (.long q2), .second, .val (.int (if q1 < q2 then (0 : Int32) else (1 : Int32))), .val (.int (if q1 < q2 then (0 : Int32) else (1 : Int32))), .val (.long (q2 + u)), .second, .val (.int (if q1 < (q2 + u) then (0 : Int32) else (1 : Int32))), .val (.int (if q1 < (q2 + u) then (0 : Int32) else (1 : Int32)))] [(.int (if q1 < (q2 + u) then (0 : Int32) else (1 : Int32))), (.int (if q1 < (q2 + u) then (1 : Int32) else (if q1 < q2 then (1 : Int32) else (0 : Int32))))])) _
      exact kt)
    have c53 : Goes p e below s₁ (entryFrame m #[(.long q1), (.long q2), (.long q3), (.int p4)] maxLocals) T48 (mkF m 231 #[.val (.long q1), .second, .val (.long q2), .second, .val (.long q3), .second, .val (.int p4), .val (.long u), .second, .val (.ref b4), .val (.int (1 : Int32)), .val (.long q2), .second, .val (.int (if q1 < q2 then (0 : Int32) else (1 : Int32))), .val (.int (if q1 < q2 then (0 : Int32) else (1 : Int32))), .val (.long (q2 + u)), .second, .val (.int (if q1 < (q2 + u) then (0 : Int32) else (1 : Int32))), .val (.int (if q1 < (q2 + u) then (0 : Int32) else (1 : Int32)))] [(.int (if (if q1 < (q2 + u) then (0 : Int32) else (1 : Int32)) = (0 : Int32) then (1 : Int32) else (0 : Int32))), (.int (if q1 < (q2 + u) then (1 : Int32) else (if q1 < q2 then (1 : Int32) else (0 : Int32))))]) := fun t kt => c51 t (by
      by_cases hc52 : (if q1 < (q2 + u) then (0 : Int32) else (1 : Int32)) = (0 : Int32)
      · show Steps p.tables e below (T48.setTop (mkF m 223 #[.val (.long q1), .second, .val (.long q2), .second, .val (.long q3), .second, .val (.int p4), .val (.long u), .second, .val (.ref b4), .val (.int (1 : Int32)), .val (.long q2), .second, .val (.int (if q1 < q2 then (0 : Int32) else (1 : Int32))), .val (.int (if q1 < q2 then (0 : Int32) else (1 : Int32))), .val (.long (q2 + u)), .second, .val (.int (if q1 < (q2 + u) then (0 : Int32) else (1 : Int32))), .val (.int (if q1 < (q2 + u) then (0 : Int32) else (1 : Int32)))] [(.int (if q1 < (q2 + u) then (0 : Int32) else (1 : Int32))), (.int (if q1 < (q2 + u) then (1 : Int32) else (if q1 < q2 then (1 : Int32) else (0 : Int32))))])) _
        refine XS.ifNo X48.here hx rfl (hb hby at_223) rfl ((if0 _ _).trans (teq hc52).2) ?_
        show Steps p.tables e below (T48.setTop (mkF m 226 #[.val (.long q1), .second, .val (.long q2), .second, .val (.long q3), .second, .val (.int p4), .val (.long u), .second, .val (.ref b4), .val (.int (1 : Int32)), .val (.long q2), .second, .val (.int (if q1 < q2 then (0 : Int32) else (1 : Int32))), .val (.int (if q1 < q2 then (0 : Int32) else (1 : Int32))), .val (.long (q2 + u)), .second, .val (.int (if q1 < (q2 + u) then (0 : Int32) else (1 : Int32))), .val (.int (if q1 < (q2 + u) then (0 : Int32) else (1 : Int32)))] [(.int (if q1 < (q2 + u) then (1 : Int32) else (if q1 < q2 then (1 : Int32) else (0 : Int32))))])) _
        refine XS.iconst X48.here hx rfl (hb hby at_226) ?_
        show Steps p.tables e below (T48.setTop (mkF m 227 #[.val (.long q1), .second, .val (.long q2), .second, .val (.long q3), .second, .val (.int p4), .val (.long u), .second, .val (.ref b4), .val (.int (1 : Int32)), .val (.long q2), .second, .val (.int (if q1 < q2 then (0 : Int32) else (1 : Int32))), .val (.int (if q1 < q2 then (0 : Int32) else (1 : Int32))), .val (.long (q2 + u)), .second, .val (.int (if q1 < (q2 + u) then (0 : Int32) else (1 : Int32))), .val (.int (if q1 < (q2 + u) then (0 : Int32) else (1 : Int32)))] [(.int (1 : Int32)), (.int (if q1 < (q2 + u) then (1 : Int32) else (if q1 < q2 then (1 : Int32) else (0 : Int32))))])) _
        refine XS.goto X48.here hx rfl (pc0 := 227) (pc' := 231) rfl (hb hby at_227) (by decide) (by decide) ?_
        show Steps p.tables e below (T48.setTop (mkF m 231 #[.val (.long q1), .second, .val (.long q2), .second, .val (.long q3), .second, .val (.int p4), .val (.long u), .second, .val (.ref b4), .val (.int (1 : Int32)), .val (.long q2), .second, .val (.int (if q1 < q2 then (0 : Int32) else (1 : Int32))), .val (.int (if q1 < q2 then (0 : Int32) else (1 : Int32))), .val (.long (q2 + u)), .second, .val (.int (if q1 < (q2 + u) then (0 : Int32) else (1 : Int32))), .val (.int (if q1 < (q2 + u) then (0 : Int32) else (1 : Int32)))] [(.int (1 : Int32)), (.int (if q1 < (q2 + u) then (1 : Int32) else (if q1 < q2 then (1 : Int32) else (0 : Int32))))])) _
        simpa only [if_pos hc52] using kt
      · show Steps p.tables e below (T48.setTop (mkF m 223 #[.val (.long q1), .second, .val (.long q2), .second, .val (.long q3), .second, .val (.int p4), .val (.long u), .second, .val (.ref b4), .val (.int (1 : Int32)), .val (.long q2), .second, .val (.int (if q1 < q2 then (0 : Int32) else (1 : Int32))), .val (.int (if q1 < q2 then (0 : Int32) else (1 : Int32))), .val (.long (q2 + u)), .second, .val (.int (if q1 < (q2 + u) then (0 : Int32) else (1 : Int32))), .val (.int (if q1 < (q2 + u) then (0 : Int32) else (1 : Int32)))] [(.int (if q1 < (q2 + u) then (0 : Int32) else (1 : Int32))), (.int (if q1 < (q2 + u) then (1 : Int32) else (if q1 < q2 then (1 : Int32) else (0 : Int32))))])) _
        refine XS.ifYes X48.here hx rfl (pc0 := 223) (pc' := 230) rfl (hb hby at_223) rfl ((if0 _ _).trans (feq hc52).2) (by decide) (by decide) ?_
        show Steps p.tables e below (T48.setTop (mkF m 230 #[.val (.long q1), .second, .val (.long q2), .second, .val (.long q3), .second, .val (.int p4), .val (.long u), .second, .val (.ref b4), .val (.int (1 : Int32)), .val (.long q2), .second, .val (.int (if q1 < q2 then (0 : Int32) else (1 : Int32))), .val (.int (if q1 < q2 then (0 : Int32) else (1 : Int32))), .val (.long (q2 + u)), .second, .val (.int (if q1 < (q2 + u) then (0 : Int32) else (1 : Int32))), .val (.int (if q1 < (q2 + u) then (0 : Int32) else (1 : Int32)))] [(.int (if q1 < (q2 + u) then (1 : Int32) else (if q1 < q2 then (1 : Int32) else (0 : Int32))))])) _
        refine XS.iconst X48.here hx rfl (hb hby at_230) ?_
        show Steps p.tables e below (T48.setTop (mkF m 231 #[.val (.long q1), .second, .val (.long q2), .second, .val (.long q3), .second, .val (.int p4), .val (.long u), .second, .val (.ref b4), .val (.int (1 : Int32)), .val (.long q2), .second, .val (.int (if q1 < q2 then (0 : Int32) else (1 : Int32))), .val (.int (if q1 < q2 then (0 : Int32) else (1 : Int32))), .val (.long (q2 + u)), .second, .val (.int (if q1 < (q2 + u) then (0 : Int32) else (1 : Int32))), .val (.int (if q1 < (q2 + u) then (0 : Int32) else (1 : Int32)))] [(.int (0 : Int32)), (.int (if q1 < (q2 + u) then (1 : Int32) else (if q1 < q2 then (1 : Int32) else (0 : Int32))))])) _
        simpa only [if_neg hc52] using kt)
    obtain ⟨fs, hr, hrun, hended, hW, hsame⟩ := X48.leave (v := some (.int (1 : Int32))) (fun h => by rw [Bd.returns] at h; cases h)
    refine ⟨_, _, c53 _ ?_, hrun, hended, _, _, rfl, ?_, ⟨_, rfl⟩, hW, hsame.mono (by decide) (by decide)⟩
    · show Steps p.tables e below (T48.setTop (mkF m 231 #[.val (.long q1), .second, .val (.long q2), .second, .val (.long q3), .second, .val (.int p4), .val (.long u), .second, .val (.ref b4), .val (.int (1 : Int32)), .val (.long q2), .second, .val (.int (if q1 < q2 then (0 : Int32) else (1 : Int32))), .val (.int (if q1 < q2 then (0 : Int32) else (1 : Int32))), .val (.long (q2 + u)), .second, .val (.int (if q1 < (q2 + u) then (0 : Int32) else (1 : Int32))), .val (.int (if q1 < (q2 + u) then (0 : Int32) else (1 : Int32)))] [(.int (if (if q1 < (q2 + u) then (0 : Int32) else (1 : Int32)) = (0 : Int32) then (1 : Int32) else (0 : Int32))), (.int (if q1 < (q2 + u) then (1 : Int32) else (if q1 < q2 then (1 : Int32) else (0 : Int32))))])) _
      refine XS.icmpNo X48.here hx rfl (hb hby at_231) rfl (teq (own_f2 hc50 : ((if q1 < (q2 + u) then (1 : Int32) else (if q1 < q2 then (1 : Int32) else (0 : Int32))) = (if (if q1 < (q2 + u) then (0 : Int32) else (1 : Int32)) = (0 : Int32) then (1 : Int32) else (0 : Int32))))).2 ?_
      show Steps p.tables e below (T48.setTop (mkF m 234 #[.val (.long q1), .second, .val (.long q2), .second, .val (.long q3), .second, .val (.int p4), .val (.long u), .second, .val (.ref b4), .val (.int (1 : Int32)), .val (.long q2), .second, .val (.int (if q1 < q2 then (0 : Int32) else (1 : Int32))), .val (.int (if q1 < q2 then (0 : Int32) else (1 : Int32))), .val (.long (q2 + u)), .second, .val (.int (if q1 < (q2 + u) then (0 : Int32) else (1 : Int32))), .val (.int (if q1 < (q2 + u) then (0 : Int32) else (1 : Int32)))] [])) _
      refine XS.iconst X48.here hx rfl (hb hby at_234) ?_
      show Steps p.tables e below (T48.setTop (mkF m 235 #[.val (.long q1), .second, .val (.long q2), .second, .val (.long q3), .second, .val (.int p4), .val (.long u), .second, .val (.ref b4), .val (.int (1 : Int32)), .val (.long q2), .second, .val (.int (if q1 < q2 then (0 : Int32) else (1 : Int32))), .val (.int (if q1 < q2 then (0 : Int32) else (1 : Int32))), .val (.long (q2 + u)), .second, .val (.int (if q1 < (q2 + u) then (0 : Int32) else (1 : Int32))), .val (.int (if q1 < (q2 + u) then (0 : Int32) else (1 : Int32)))] [(.int (1 : Int32))])) _
      refine XS.goto X48.here hx rfl (pc0 := 235) (pc' := 239) rfl (hb hby at_235) (by decide) (by decide) ?_
      show Steps p.tables e below (T48.setTop (mkF m 239 #[.val (.long q1), .second, .val (.long q2), .second, .val (.long q3), .second, .val (.int p4), .val (.long u), .second, .val (.ref b4), .val (.int (1 : Int32)), .val (.long q2), .second, .val (.int (if q1 < q2 then (0 : Int32) else (1 : Int32))), .val (.int (if q1 < q2 then (0 : Int32) else (1 : Int32))), .val (.long (q2 + u)), .second, .val (.int (if q1 < (q2 + u) then (0 : Int32) else (1 : Int32))), .val (.int (if q1 < (q2 + u) then (0 : Int32) else (1 : Int32)))] [(.int (1 : Int32))])) _
      refine XS.istore X48.here hx rfl (hb hby at_239) rfl (l' := #[.val (.long q1), .second, .val (.long q2), .second, .val (.long q3), .second, .val (.int p4), .val (.long u), .second, .val (.ref b4), .val (.int (1 : Int32)), .val (.long q2), .second, .val (.int (if q1 < q2 then (0 : Int32) else (1 : Int32))), .val (.int (if q1 < q2 then (0 : Int32) else (1 : Int32))), .val (.long (q2 + u)), .second, .val (.int (if q1 < (q2 + u) then (0 : Int32) else (1 : Int32))), .val (.int (if q1 < (q2 + u) then (0 : Int32) else (1 : Int32)))]) rfl ?_
      show Steps p.tables e below (T48.setTop (mkF m 241 #[.val (.long q1), .second, .val (.long q2), .second, .val (.long q3), .second, .val (.int p4), .val (.long u), .second, .val (.ref b4), .val (.int (1 : Int32)), .val (.long q2), .second, .val (.int (if q1 < q2 then (0 : Int32) else (1 : Int32))), .val (.int (if q1 < q2 then (0 : Int32) else (1 : Int32))), .val (.long (q2 + u)), .second, .val (.int (if q1 < (q2 + u) then (0 : Int32) else (1 : Int32))), .val (.int (if q1 < (q2 + u) then (0 : Int32) else (1 : Int32)))] [])) _
      refine XS.iload X48.here hx rfl (hb hby at_241) rfl ?_
      show Steps p.tables e below (T48.setTop (mkF m 243 #[.val (.long q1), .second, .val (.long q2), .second, .val (.long q3), .second, .val (.int p4), .val (.long u), .second, .val (.ref b4), .val (.int (1 : Int32)), .val (.long q2), .second, .val (.int (if q1 < q2 then (0 : Int32) else (1 : Int32))), .val (.int (if q1 < q2 then (0 : Int32) else (1 : Int32))), .val (.long (q2 + u)), .second, .val (.int (if q1 < (q2 + u) then (0 : Int32) else (1 : Int32))), .val (.int (if q1 < (q2 + u) then (0 : Int32) else (1 : Int32)))] [(.int (1 : Int32))])) _
      exact retN X48 hx (t := .boolean) Bd.returns (by simp) (hb hby at_243) hr
    · show Q0 Z q1 q2 q3 p4 h0 n0 _ T48.heap _
      rw [r48_0]
      exact ⟨rfl, N48⟩
set_option maxRecDepth 65536 in
set_option maxHeartbeats 40000000 in
theorem comes_1 {Post : Tables → Env → Array Value → State → Outcome → State → Prop} (hpost : ∀ tb e args s v u, (limb_1_1.after args s (.returned v) u = true ∧ limb_1_2.after args s (.returned v) u = true ∧ True) → FrameEnd s (.returned v) u (Jvm.fieldLocs frame_1_writes args s ++ Jvm.arrayLocs frame_1_arrays args s ++ Jvm.staticLocs frame_1_statics s) 16 128 → Post tb e args s (.returned v) u) :
    ArmFor flags0 classFile x code maxLocals ret World_1 tables_1 room_1 Calls_1 rest_1 Pre_1 Post := by
  intro l hfl _ _ p e ha hc hk s m args below hf hA hF happ hP
  obtain ⟨hcalls, hrest, hpre⟩ := hP
  obtain ⟨-, -, -, hnamed, -, -, -, hat⟩ := (Spec.applies_iff hf).mp happ
  obtain ⟨hg, hn⟩ := and_e (Cond.before_iff.mp (show (Jvm.Cond.and given_1 narrow_1).before args s = true from hpre))
  obtain ⟨g1, g2⟩ := and_e hg
  obtain ⟨g3, g4⟩ := and_e g2
  obtain ⟨g5, g6⟩ := and_e g4
  obtain ⟨g7, g8⟩ := and_e g6
  obtain ⟨w0, w1, w2, w3, rfl⟩ : ∃ w0 w1 w2 w3 : Value, args = #[w0, w1, w2, w3] := by
    have hs : args.size = 4 := by simpa [Cond.value, given_1] using g1
    obtain ⟨L⟩ := args
    match L, hs with
    | [w0, w1, w2, w3], _ => exact ⟨w0, w1, w2, w3, rfl⟩
  have hw := fun d (hd : d ∈ tables_1) => atoms_spec (ws := Jvm.Cond.code x code maxLocals ret :: tables_1) hat d (List.mem_cons_of_mem _ hd)
  have hfit : Fit s := fun {y c} hc i hi => by
    obtain ⟨ha, rfl⟩ := Array.getElem?_eq_some_iff.mp hc
    have q := List.all_eq_true.mp ((Array.all_eq_true_iff_forall_mem.mp hF) _ (Array.getElem_mem ha)) i (List.mem_range.mpr hi)
    simpa [Array.getElem?_eq_getElem hi] using q
  obtain ⟨i0, ei0⟩ := isL_v g3
  obtain rfl : w0 = (.long i0) := Option.some.inj ei0
  obtain ⟨i1, ei1⟩ := isL_v g5
  obtain rfl : w1 = (.long i1) := Option.some.inj ei1
  obtain ⟨i2, ei2⟩ := isL_v g7
  obtain rfl : w2 = (.long i2) := Option.some.inj ei2
  obtain ⟨i3, ei3⟩ := is_v g8
  obtain rfl : w3 = (.int i3) := Option.some.inj ei3
  obtain ⟨n, o, h1, h2, h3, _, L, rfl, ⟨rfl, N⟩, hq⟩ := rm0 l s _ hw tables_1 i0 i1 i2 i3  s.heap s.heap.size (Nat.le_refl _)  p e ha hc hk s m _ below hf ((Spec.applies_iff_loose hf).mp happ).1 ⟨rfl, State.Warmed39.refl s, rfl⟩ trivial
  refine ⟨n, _, h1, h2, h3, hpost _ _ _ _ _ _ ⟨Cond.after_iff.mpr rfl, Cond.after_iff.mpr (eq_i res_at (Term.int_eval (1)) rfl), trivial⟩ ⟨hq.1, hq.2.1, (hq.2.2.sift fun y hy => Or.inr (N y hy)).mono (by decide) (by decide)⟩⟩
theorem main_1_1 : Claimed_1_1 := comes_1 fun _ _ _ _ _ _ h hF => ⟨h.1, hF⟩
theorem main_1_2 : Claimed_1_2 := comes_1 fun _ _ _ _ _ _ h hF => ⟨h.2.1, hF⟩
end Jvm.Pilot.@@N@@
namespace Jvm.Pilot.@@N@@
open Jvm Jvm.ClassFile Sem Op Lib Jvm.Free Jvm.Stand Jvm.Pilot.@@N@@.Jvm.D
/-! MADE BY PROGRAM (witnessworld.py) out of the Statement's table words and the real class files: 9 classes; the members and pool entries that the words name. The judged class is class 1, her method 1. -/
namespace start1
open Jvm.ClassFile
def u (s : String) : CpInfo := .utf8 (stringToUtf16 s)
/-- a pool by its gaps: so many unusable entries, then the entry; so many at the end -/
def gap : Nat → List CpInfo → List CpInfo
  | 0, r => r
  | n + 1, r => .unusable :: gap n r
def poolList (es : List (Nat × CpInfo)) (last : Nat) : List CpInfo := es.foldr (fun e r => gap e.1 (e.2 :: r)) (gap last [])
def pool (es : List (Nat × CpInfo)) (last : Nat) : Array CpInfo := ⟨poolList es last⟩
def fileOf (pool : Array CpInfo) (this : Nat) (attrs : Array Attribute := #[]) (ms : Array MethodInfo := #[]) (fl : Nat := 33) (sup : Nat := 0) (ifs : Array Nat := #[]) (fds : Array FieldInfo := #[]) : ClassFile where
  minorVersion := 0
  majorVersion := 65
  constantPool := pool
  accessFlags := fl
  thisClass := this
  superClass := sup
  interfaces := ifs
  fields := fds
  methods := ms
  attributes := attrs
def plain (name : String) (sup : Option ClassId) : Class where
  name := name
  kind := .ordinary
  loader := none
  accessFlags := 33
  super := sup
  interfaces := #[]
  cf := none
  fields := #[]
  methods := #[]
  instanceTypes := #[]
  staticTypes := #[]
  resolved := #[]
  callSites := []
  init := .initialized
  statics := none
  mirror := none

def pool0 : Array CpInfo := pool [(5, u "<init>"), (0, u "()V"), (1, .class_ 10), (1, u "java/lang/Object")] 113

def k0c0 : Code := { maxStack := 0, maxLocals := 1, code := object_method_1_code, exceptionTable := #[], attributes := #[] }
def k0m0 : Method := { name := "<init>", desc := "()V", sig := { parameters := [], returnType := none }, accessFlags := 1, code := some k0c0 }
/-- java/lang/Object -/
def k0 : Class := { plain "java/lang/Object" none with
  accessFlags := 33
  interfaces := #[]
  cf := some (fileOf pool0 8 #[] #[{ accessFlags := 1, nameIndex := 5, descriptorIndex := 6, attributes := #[] }] 33 0 #[] #[])
  fields := #[]
  methods := #[k0m0]
  instanceTypes := #[]
  staticTypes := #[]
  resolved := Array.replicate 124 none
  statics := none }

def pool1 : Array CpInfo := pool [(2, .class_ 4), (1, u "java/lang/Object"), (0, u "<init>"), (0, u "()V"), (0, .class_ 8), (0, u "com/example/shunter/shunter/pick/Work"), (0, .methodref 7 10), (0, .nameAndType 5 11), (0, u "(J)V"), (0, .methodref 7 13), (0, .nameAndType 14 15), (0, u "hasStopped"), (0, u "()Z"), (0, .methodref 7 17), (0, .nameAndType 18 15), (0, u "isSpent"), (0, .methodref 7 20), (0, .nameAndType 21 22), (0, u "charge"), (0, u "(J)Z"), (0, .class_ 24), (0, u "com/example/shunter/shunter/pick/WorkChargePinLaw"), (2, u "law"), (0, u "(JJJI)Z")] 3

def k1m0 : Method := { name := "<init>", desc := "()V", sig := { parameters := [], returnType := none }, accessFlags := 1, code := none }
def k1c1 : Code := { maxStack := 5, maxLocals := 19, code := code, exceptionTable := #[], attributes := #[] }
def k1m1 : Method := { name := "law", desc := "(JJJI)Z", sig := { parameters := [.long, .long, .long, .int], returnType := some .boolean }, accessFlags := 9, code := some k1c1 }
/-- com/example/shunter/shunter/pick/WorkChargePinLaw -/
def k1 : Class := { plain "com/example/shunter/shunter/pick/WorkChargePinLaw" (some 0) with
  accessFlags := 49
  interfaces := #[]
  cf := some (fileOf pool1 23 #[] #[{ accessFlags := 1, nameIndex := 5, descriptorIndex := 6, attributes := #[] }, { accessFlags := 9, nameIndex := 27, descriptorIndex := 28, attributes := #[] }] 49 2 #[] #[])
  fields := #[]
  methods := #[k1m0, k1m1]
  instanceTypes := #[]
  staticTypes := #[]
  resolved := Array.replicate 32 none
  statics := none }

def pool2 : Array CpInfo := pool [(1, .methodref 2 3), (0, .class_ 4), (0, .nameAndType 5 6), (0, u "java/lang/Object"), (0, u "<init>"), (0, u "()V"), (0, .fieldref 8 9), (0, .class_ 10), (0, .nameAndType 11 12), (0, u "com/example/shunter/shunter/pick/Work"), (0, u "limit"), (0, u "J"), (0, .fieldref 8 14), (0, .nameAndType 15 12), (0, u "phaseLimit"), (0, .fieldref 8 17), (0, .nameAndType 18 12), (0, u "done"), (6, .fieldref 8 26), (0, .nameAndType 27 28), (0, u "stopped"), (0, u "Z"), (0, u "(J)V"), (6, u "charge"), (0, u "(J)Z"), (1, u "isSpent"), (0, u "()Z"), (0, u "hasStopped")] 2

def k2c0 : Code := { maxStack := 3, maxLocals := 3, code := prog_27_method_1_code, exceptionTable := #[], attributes := #[] }
def k2m0 : Method := { name := "<init>", desc := "(J)V", sig := { parameters := [.long], returnType := none }, accessFlags := 0, code := some k2c0 }
def k2c1 : Code := { maxStack := 5, maxLocals := 3, code := prog_27_method_4_code, exceptionTable := #[], attributes := #[] }
def k2m1 : Method := { name := "charge", desc := "(J)Z", sig := { parameters := [.long], returnType := some .boolean }, accessFlags := 0, code := some k2c1 }
def k2c2 : Code := { maxStack := 4, maxLocals := 1, code := prog_27_method_5_code, exceptionTable := #[], attributes := #[] }
def k2m2 : Method := { name := "isSpent", desc := "()Z", sig := { parameters := [], returnType := some .boolean }, accessFlags := 0, code := some k2c2 }
def k2c3 : Code := { maxStack := 1, maxLocals := 1, code := prog_27_method_6_code, exceptionTable := #[], attributes := #[] }
def k2m3 : Method := { name := "hasStopped", desc := "()Z", sig := { parameters := [], returnType := some .boolean }, accessFlags := 0, code := some k2c3 }
/-- com/example/shunter/shunter/pick/Work -/
def k2 : Class := { plain "com/example/shunter/shunter/pick/Work" (some 0) with
  accessFlags := 32
  interfaces := #[]
  cf := some (fileOf pool2 8 #[] #[{ accessFlags := 0, nameIndex := 5, descriptorIndex := 29, attributes := #[] }, { accessFlags := 0, nameIndex := 36, descriptorIndex := 37, attributes := #[] }, { accessFlags := 0, nameIndex := 39, descriptorIndex := 40, attributes := #[] }, { accessFlags := 0, nameIndex := 41, descriptorIndex := 40, attributes := #[] }] 32 2 #[] #[{ accessFlags := 18, nameIndex := 11, descriptorIndex := 12, attributes := #[] }, { accessFlags := 2, nameIndex := 18, descriptorIndex := 12, attributes := #[] }, { accessFlags := 2, nameIndex := 15, descriptorIndex := 12, attributes := #[] }, { accessFlags := 2, nameIndex := 27, descriptorIndex := 28, attributes := #[] }])
  fields := #[{ name := "limit", type := .long, accessFlags := 18, slot := 0, constantValue := 0 }, { name := "done", type := .long, accessFlags := 2, slot := 1, constantValue := 0 }, { name := "phaseLimit", type := .long, accessFlags := 2, slot := 2, constantValue := 0 }, { name := "stopped", type := .boolean, accessFlags := 2, slot := 3, constantValue := 0 }]
  methods := #[k2m0, k2m1, k2m2, k2m3]
  instanceTypes := #[.long, .long, .long, .boolean]
  staticTypes := #[]
  resolved := Array.replicate 44 none
  statics := none }

def pool3 : Array CpInfo := pool [(1, u "java/lang/Cloneable"), (0, .class_ 1), (0, u "java/lang/Object"), (0, .class_ 3)] 3

/-- java/lang/Cloneable -/
def k3 : Class := { plain "java/lang/Cloneable" (some 0) with
  accessFlags := 1537
  interfaces := #[]
  cf := some (fileOf pool3 2 #[] #[] 1537 4 #[] #[])
  fields := #[]
  methods := #[]
  instanceTypes := #[]
  staticTypes := #[]
  resolved := Array.replicate 8 none
  statics := none }

def pool4 : Array CpInfo := pool [(1, u "java/io/Serializable"), (0, .class_ 1), (0, u "java/lang/Object"), (0, .class_ 3)] 3

/-- java/io/Serializable -/
def k4 : Class := { plain "java/io/Serializable" (some 0) with
  accessFlags := 1537
  interfaces := #[]
  cf := some (fileOf pool4 2 #[] #[] 1537 4 #[] #[])
  fields := #[]
  methods := #[]
  instanceTypes := #[]
  staticTypes := #[]
  resolved := Array.replicate 8 none
  statics := none }

/-- the primitive byte -/
def k5 : Class := { plain "byte" none with kind := .primitive 'B', accessFlags := 0x411 }
/-- [B -/
def k6 : Class := { plain "[B" (some 0) with kind := .array 5 .byte, interfaces := #[3, 4], accessFlags := 1041 }

/-- the primitive int -/
def k7 : Class := { plain "int" none with kind := .primitive 'I', accessFlags := 0x411 }
/-- [I -/
def k8 : Class := { plain "[I" (some 0) with kind := .array 7 .int, interfaces := #[3, 4], accessFlags := 1041 }

def heap : Heap := #[]
def classes : Array Class := #[k0, k1, k2, k3, k4, k5, k6, k7, k8]
def interned : List (Array UInt16 × Addr) := []
def slotsUsed : Nat := 0
def theMethod : MethodId := ⟨1, 1⟩
def args0 : Array Value := #[.long 3, .long 1, .long 7, .int 3]
def aboutOver (below : List Frame) : State where
  vm := { classes := classes, interned := interned.toArray }
  heap := heap
  slotsUsed := slotsUsed
  threads := #[{ frames := .invoking theMethod args0 :: below }]
def below0 : List Frame := [.native { method := ⟨0, 0⟩, args := #[] }]
def about1 : State := aboutOver below0
def p0 : Program := .bare "" "" ""
def e0 : Env := launch0.env 0 0 0
theorem w_frames : about1.frames = Frame.invoking theMethod args0 :: below0 := rfl
set_option maxRecDepth 65536 in
theorem w_args : argsFit about1.vm theMethod args0 = true := by decide +kernel
set_option maxRecDepth 65536 in
theorem w_heap : heapFits about1 = true := by decide +kernel
set_option maxRecDepth 65536 in
theorem w_runnable : about1.curStatus? = some .runnable := by decide +kernel
set_option maxRecDepth 65536 in
theorem w_alone : about1.alone = true := by decide +kernel
set_option maxRecDepth 65536 in
theorem w_named : about1.methodNamed? x = some theMethod := by decide +kernel
set_option maxRecDepth 65536 in
theorem w_hears : about1.hears theMethod below0 = true := by decide +kernel
set_option maxRecDepth 65536 in
theorem w_ripe : about1.ripe theMethod args0 below0 = true := by decide +kernel
theorem w_running : about1.status = .running := rfl
set_option maxRecDepth 65536 in
theorem w_room : about1.hasRoom e0.platform room_1 = true :=
  launch0.hasRoom_least _ room_1 (by decide +kernel) (by decide +kernel) (by decide +kernel) (by decide +kernel) (by decide +kernel) (by decide +kernel)
theorem allAtoms_all (ts : List Jvm.Cond) (a : Array Jvm.Value) (st : Jvm.State) : (allAtoms ts).before a st = ts.all (fun c => c.before a st) := by
  induction ts with
  | nil => rfl
  | cons c t ih =>
    show (Jvm.Cond.and c (allAtoms t)).before a st = _
    rw [Jvm.Cond.before_and, ih, List.all_cons]
def words1 : List Jvm.Cond := Jvm.Cond.code x code maxLocals ret :: tables_1
/-- a 'code' word, met by the world's own term for the bytes: nothing is compared byte by byte -/
theorem code_word {y : MethodName} {bytes : ByteArray} {mx : Nat} {rt : Option FieldType} {a : Array Value} {s : State} {m : MethodId} {meth : Method} {c : Code} (h1 : s.methodNamed? y = some m) (h2 : s.vm.method? m = some meth) (h3 : meth.code = some c) (h4 : c.code = bytes)
    (h5 : (c.maxLocals == mx && c.exceptionTable.isEmpty && decide (c.maxStack ≤ mostOperands) && decide (meth.sig.returnType = rt) && !meth.locks && decide (parseMethodDescriptor y.desc = some meth.sig)) = true) : (Jvm.Cond.code y bytes mx rt).before a s = true := by
  simp only [Bool.and_eq_true, beq_iff_eq, Bool.not_eq_true', decide_eq_true_eq] at h5
  obtain ⟨⟨⟨⟨⟨g1, g2⟩, g3⟩, g4⟩, g5⟩, g6⟩ := h5
  simp [Cond.before, Cond.holds, Cond.value, h1, h2, h3, h4, g1, g2, g3, g4, g5, g6]
def isCode : Jvm.Cond → Bool
  | .code _ _ _ _ => true
  | _ => false
theorem all_split {L : List Jvm.Cond} {P : Jvm.Cond → Bool} (h1 : L.all (fun c => isCode c || P c) = true) (h2 : ∀ c ∈ L.filter isCode, P c = true) : L.all P = true := by
  refine List.all_eq_true.mpr fun c hc => ?_
  have h := List.all_eq_true.mp h1 c hc
  rcases Bool.eq_false_or_eq_true (isCode c) with hi | hi
  · exact h2 c (List.mem_filter.mpr ⟨hc, hi⟩)
  · simpa [hi] using h
set_option maxRecDepth 65536 in
theorem w_c0 : (Jvm.Cond.code x code maxLocals ret).before args0 about1 = true := code_word (m := ⟨1, 1⟩) (meth := k1m1) (c := k1c1) (by decide +kernel) rfl rfl rfl (by decide +kernel)
set_option maxRecDepth 65536 in
theorem w_c1 : (Jvm.Cond.code ({ cls := "com/example/shunter/shunter/pick/Work", name := "<init>", desc := "(J)V" } : Jvm.MethodName) prog_27_method_1_code (3 : Nat) (Option.none : Option Jvm.ClassFile.FieldType)).before args0 about1 = true := code_word (m := ⟨2, 0⟩) (meth := k2m0) (c := k2c0) (by decide +kernel) rfl rfl rfl (by decide +kernel)
set_option maxRecDepth 65536 in
theorem w_c2 : (Jvm.Cond.code ({ cls := "java/lang/Object", name := "<init>", desc := "()V" } : Jvm.MethodName) object_method_1_code (1 : Nat) (Option.none : Option Jvm.ClassFile.FieldType)).before args0 about1 = true := code_word (m := ⟨0, 0⟩) (meth := k0m0) (c := k0c0) (by decide +kernel) rfl rfl rfl (by decide +kernel)
set_option maxRecDepth 65536 in
theorem w_c3 : (Jvm.Cond.code ({ cls := "com/example/shunter/shunter/pick/Work", name := "hasStopped", desc := "()Z" } : Jvm.MethodName) prog_27_method_6_code (1 : Nat) (Option.some Jvm.ClassFile.FieldType.boolean)).before args0 about1 = true := code_word (m := ⟨2, 3⟩) (meth := k2m3) (c := k2c3) (by decide +kernel) rfl rfl rfl (by decide +kernel)
set_option maxRecDepth 65536 in
theorem w_c4 : (Jvm.Cond.code ({ cls := "com/example/shunter/shunter/pick/Work", name := "isSpent", desc := "()Z" } : Jvm.MethodName) prog_27_method_5_code (1 : Nat) (Option.some Jvm.ClassFile.FieldType.boolean)).before args0 about1 = true := code_word (m := ⟨2, 2⟩) (meth := k2m2) (c := k2c2) (by decide +kernel) rfl rfl rfl (by decide +kernel)
set_option maxRecDepth 65536 in
theorem w_c5 : (Jvm.Cond.code ({ cls := "com/example/shunter/shunter/pick/Work", name := "charge", desc := "(J)Z" } : Jvm.MethodName) prog_27_method_4_code (3 : Nat) (Option.some Jvm.ClassFile.FieldType.boolean)).before args0 about1 = true := code_word (m := ⟨2, 1⟩) (meth := k2m1) (c := k2c1) (by decide +kernel) rfl rfl rfl (by decide +kernel)
def codes1 : List Jvm.Cond := [Jvm.Cond.code x code maxLocals ret, Jvm.Cond.code ({ cls := "com/example/shunter/shunter/pick/Work", name := "<init>", desc := "(J)V" } : Jvm.MethodName) prog_27_method_1_code (3 : Nat) (Option.none : Option Jvm.ClassFile.FieldType), Jvm.Cond.code ({ cls := "java/lang/Object", name := "<init>", desc := "()V" } : Jvm.MethodName) object_method_1_code (1 : Nat) (Option.none : Option Jvm.ClassFile.FieldType), Jvm.Cond.code ({ cls := "com/example/shunter/shunter/pick/Work", name := "hasStopped", desc := "()Z" } : Jvm.MethodName) prog_27_method_6_code (1 : Nat) (Option.some Jvm.ClassFile.FieldType.boolean), Jvm.Cond.code ({ cls := "com/example/shunter/shunter/pick/Work", name := "isSpent", desc := "()Z" } : Jvm.MethodName) prog_27_method_5_code (1 : Nat) (Option.some Jvm.ClassFile.FieldType.boolean), Jvm.Cond.code ({ cls := "com/example/shunter/shunter/pick/Work", name := "charge", desc := "(J)Z" } : Jvm.MethodName) prog_27_method_4_code (3 : Nat) (Option.some Jvm.ClassFile.FieldType.boolean)]
set_option maxRecDepth 65536 in
theorem codes_eq : words1.filter isCode = codes1 := rfl
theorem w_codes : ∀ c ∈ words1.filter isCode, c.before args0 about1 = true := by
  rw [codes_eq]
  intro c hc
  simp only [codes1, List.mem_cons, List.not_mem_nil, or_false] at hc
  rcases hc with rfl | rfl | rfl | rfl | rfl | rfl
  · exact w_c0
  · exact w_c1
  · exact w_c2
  · exact w_c3
  · exact w_c4
  · exact w_c5
set_option maxRecDepth 65536 in
theorem w_t1 : (words1.take 24).all (fun c => isCode c || c.before args0 about1) = true := by decide +kernel
set_option maxRecDepth 65536 in
theorem w_t2 : (words1.drop 24).all (fun c => isCode c || c.before args0 about1) = true := by decide +kernel
theorem w_tables : (allAtoms (Jvm.Cond.code x code maxLocals ret :: tables_1)).before args0 about1 = true := by
  rw [allAtoms_all]
  show words1.all (fun c => c.before args0 about1) = true
  refine all_split ?_ w_codes
  rw [← List.take_append_drop 24 words1, List.all_append, w_t1, w_t2]
  rfl
set_option maxRecDepth 65536 in
theorem w_case : (Jvm.Cond.and given_1 narrow_1).before args0 about1 = true := by decide +kernel
theorem w_applies : (headSpec (Jvm.Cond.code x code maxLocals ret :: tables_1) room_1).applies x e0.platform about1 = true :=
  (Spec.applies_iff w_frames).mpr ⟨w_running, w_runnable, w_alone, w_named, w_hears, w_ripe, w_room, w_tables⟩
theorem atStart : AtStart classFile x code maxLocals ret World_1 tables_1 room_1 Calls_1 rest_1 Pre_1 launch0 p0 e0 about1 theMethod args0 below0 :=
  ⟨lists_1, trivial, launch0.admits_env _ _ _, launch0.least_env, fairChoices_fair.cas, fairChoices_fair.clock, w_frames, w_args, w_heap, w_applies, trivial, trivial, w_case⟩
end start1
theorem witness_1 : WitnessClaimed_1 := ⟨start1.p0, start1.e0, start1.about1, start1.theMethod, start1.args0, start1.below0, start1.atStart⟩
end Jvm.Pilot.@@N@@
