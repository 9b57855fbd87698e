import JvmDerived
import JvmDerived.Pilot.@@N@@Statement
import JvmDerived.Pilot.@@N@@Code
set_option linter.unusedVariables false
set_option linter.unusedSimpArgs false
namespace Jvm.RoadKit
open Sem ClassFile Op Lib Jvm.Stand Jvm.Free Jvm.LawKit
section New
variable {p : Program} {l : Launch} {e : Env} {R : Room} {s : State} {m : MethodId} {args : Array Value} {below : List Frame} {meth : Method} {c : Code} {T : State} {locs : List Loc} {cells slots : Nat}
theorem retI (X : Stand p l e R s m args below meth c T locs cells slots) (hx : p.tables.exec = Jvm.exec) {pc : Nat} {Ls : Array Slot} {z : Int32} {rest : List Value} (hret : meth.sig.returnType = some .int) (hd : decode c.code pc = .ok (.ireturn, 1)) {fs : List Frame}
    (hl : ∀ (f : JFrame) (acts : List Action), f.method = m → f.locked = none → f.entered = [] → (doReturn e (T.setTop f) acts (some (.int z))).1 = T.setFrames fs) : Steps p.tables e below (T.setTop (mkF m pc Ls (.int z :: rest))) (T.setFrames fs) := by
  have hm' : T.vm.method? m = some meth := X.method'
  have hn : narrow .int (.int z) = .int z := rfl
  show Steps p.tables e below (T.setTop { method := m, pc := pc, locals := Ls, stack := _ :: rest, locked := none }) _
  jvm_step X.here [X.here.top, hx, hd, hm', hret, hn]
  first | (intro acts; rw [hl _ acts rfl rfl rfl]) | rw [hl _ _ rfl rfl rfl]
  exact Steps.refl _
end New
end Jvm.RoadKit
namespace Jvm.Pilot.@@N@@
open Jvm Jvm.ClassFile Sem Op Lib Jvm.Free Jvm.Stand Jvm.LawKit Jvm.RoadKit Bundle Jvm.Pilot.@@N@@.Jvm.D
theorem own_fldk {t : Term} {a0 : Array Value} {s : State} {x : Addr} {C n d : String} {k : Int32} (ht : t.eval a0 s none [] s = some (.ref x)) (h : (Jvm.Cond.eq (Term.field t C n d) (Term.int k)).value a0 s none s [] = some true) : Fld s s.heap x C n d (.int k) := by
  obtain ⟨u, y, hu, hy, hk, hk'⟩ := cmp_v (Or.inl h)
  obtain rfl : y = .int k := (Option.some.inj hy).symm
  obtain ⟨z, rfl⟩ : ∃ z, u = .int z := hk'
  have q := Cond.eq_ints (b := Term.int k) (y := k) hu rfl
  have e : z = k := gotT q h
  subst e
  exact Fld.start ((fld_at ht).symm.trans hu)
def own_pick (k : Int32) (a_NULL a_BOOLEAN a_INT a_LONG a_FLOAT a_DOUBLE a_BYTES a_STRING a_RECORD a_ENUM a_ARRAY a_MAP a_UNION a_FIXED : Addr) : Addr := if k = (0 : Int32) then a_NULL else if k = (1 : Int32) then a_BOOLEAN else if k = (2 : Int32) then a_INT else if k = (3 : Int32) then a_LONG else if k = (4 : Int32) then a_FLOAT else if k = (5 : Int32) then a_DOUBLE else if k = (6 : Int32) then a_BYTES else if k = (7 : Int32) then a_STRING else if k = (8 : Int32) then a_RECORD else if k = (9 : Int32) then a_ENUM else if k = (10 : Int32) then a_ARRAY else if k = (11 : Int32) then a_MAP else if k = (12 : Int32) then a_UNION else a_FIXED
def own_exp (t : Addr) (a_NULL a_BOOLEAN a_INT a_LONG a_FLOAT a_DOUBLE a_BYTES a_STRING : Addr) : Int32 := if t = a_NULL then (1 : Int32) else if t = a_BOOLEAN then (1 : Int32) else if t = a_INT then (1 : Int32) else if t = a_LONG then (1 : Int32) else if t = a_FLOAT then (1 : Int32) else if t = a_DOUBLE then (1 : Int32) else if t = a_BYTES then (1 : Int32) else if t = a_STRING then (1 : Int32) else (0 : Int32)
theorem own_k (x : Int32) : 0 ≤ ((x &&& (2147483647 : Int32)) % (14 : Int32)).toInt ∧ ((x &&& (2147483647 : Int32)) % (14 : Int32)).toInt < 14 := by
  have h := (c_iremV (x &&& (2147483647 : Int32)) (14 : Int32)).1 (c_and x (2147483647 : Int32) (by decide)).1 (by decide)
  have e1 : (14 : Int32).toInt = 14 := by decide
  omega
theorem own_cases (k : Int32) (h : 0 ≤ k.toInt ∧ k.toInt < 14) : k = 0 ∨ k = 1 ∨ k = 2 ∨ k = 3 ∨ k = 4 ∨ k = 5 ∨ k = 6 ∨ k = 7 ∨ k = 8 ∨ k = 9 ∨ k = 10 ∨ k = 11 ∨ k = 12 ∨ k = 13 := by
  have e : ∀ (j : Int32), k = j ↔ k.toInt = j.toInt := fun j => Int32.toInt_inj.symm
  simp only [e]
  have q : k.toInt = 0 ∨ k.toInt = 1 ∨ k.toInt = 2 ∨ k.toInt = 3 ∨ k.toInt = 4 ∨ k.toInt = 5 ∨ k.toInt = 6 ∨ k.toInt = 7 ∨ k.toInt = 8 ∨ k.toInt = 9 ∨ k.toInt = 10 ∨ k.toInt = 11 ∨ k.toInt = 12 ∨ k.toInt = 13 := by omega
  exact q
theorem d1_0 : decode method_2_code 0 = .ok (.iload_n 0, 1) := by decide +kernel
theorem d1_1 : decode method_2_code 1 = .ok (.ifCond .ne 7, 3) := by decide +kernel
theorem d1_4 : decode method_2_code 4 = .ok (.getstatic 7, 3) := by decide +kernel
theorem d1_7 : decode method_2_code 7 = .ok (.areturn, 1) := by decide +kernel
theorem d1_8 : decode method_2_code 8 = .ok (.iload_n 0, 1) := by decide +kernel
theorem d1_9 : decode method_2_code 9 = .ok (.iconst 1, 1) := by decide +kernel
theorem d1_10 : decode method_2_code 10 = .ok (.if_icmp .ne 7, 3) := by decide +kernel
theorem d1_13 : decode method_2_code 13 = .ok (.getstatic 13, 3) := by decide +kernel
theorem d1_16 : decode method_2_code 16 = .ok (.areturn, 1) := by decide +kernel
theorem d1_17 : decode method_2_code 17 = .ok (.iload_n 0, 1) := by decide +kernel
theorem d1_18 : decode method_2_code 18 = .ok (.iconst 2, 1) := by decide +kernel
theorem d1_19 : decode method_2_code 19 = .ok (.if_icmp .ne 7, 3) := by decide +kernel
theorem d1_22 : decode method_2_code 22 = .ok (.getstatic 16, 3) := by decide +kernel
theorem d1_25 : decode method_2_code 25 = .ok (.areturn, 1) := by decide +kernel
theorem d1_26 : decode method_2_code 26 = .ok (.iload_n 0, 1) := by decide +kernel
theorem d1_27 : decode method_2_code 27 = .ok (.iconst 3, 1) := by decide +kernel
theorem d1_28 : decode method_2_code 28 = .ok (.if_icmp .ne 7, 3) := by decide +kernel
theorem d1_31 : decode method_2_code 31 = .ok (.getstatic 19, 3) := by decide +kernel
theorem d1_34 : decode method_2_code 34 = .ok (.areturn, 1) := by decide +kernel
theorem d1_35 : decode method_2_code 35 = .ok (.iload_n 0, 1) := by decide +kernel
theorem d1_36 : decode method_2_code 36 = .ok (.iconst 4, 1) := by decide +kernel
theorem d1_37 : decode method_2_code 37 = .ok (.if_icmp .ne 7, 3) := by decide +kernel
theorem d1_40 : decode method_2_code 40 = .ok (.getstatic 22, 3) := by decide +kernel
theorem d1_43 : decode method_2_code 43 = .ok (.areturn, 1) := by decide +kernel
theorem d1_44 : decode method_2_code 44 = .ok (.iload_n 0, 1) := by decide +kernel
theorem d1_45 : decode method_2_code 45 = .ok (.iconst 5, 1) := by decide +kernel
theorem d1_46 : decode method_2_code 46 = .ok (.if_icmp .ne 7, 3) := by decide +kernel
theorem d1_49 : decode method_2_code 49 = .ok (.getstatic 25, 3) := by decide +kernel
theorem d1_52 : decode method_2_code 52 = .ok (.areturn, 1) := by decide +kernel
theorem d1_53 : decode method_2_code 53 = .ok (.iload_n 0, 1) := by decide +kernel
theorem d1_54 : decode method_2_code 54 = .ok (.bipush 6, 2) := by decide +kernel
theorem d1_56 : decode method_2_code 56 = .ok (.if_icmp .ne 7, 3) := by decide +kernel
theorem d1_59 : decode method_2_code 59 = .ok (.getstatic 28, 3) := by decide +kernel
theorem d1_62 : decode method_2_code 62 = .ok (.areturn, 1) := by decide +kernel
theorem d1_63 : decode method_2_code 63 = .ok (.iload_n 0, 1) := by decide +kernel
theorem d1_64 : decode method_2_code 64 = .ok (.bipush 7, 2) := by decide +kernel
theorem d1_66 : decode method_2_code 66 = .ok (.if_icmp .ne 7, 3) := by decide +kernel
theorem d1_69 : decode method_2_code 69 = .ok (.getstatic 31, 3) := by decide +kernel
theorem d1_72 : decode method_2_code 72 = .ok (.areturn, 1) := by decide +kernel
theorem d1_73 : decode method_2_code 73 = .ok (.iload_n 0, 1) := by decide +kernel
theorem d1_74 : decode method_2_code 74 = .ok (.bipush 8, 2) := by decide +kernel
theorem d1_76 : decode method_2_code 76 = .ok (.if_icmp .ne 7, 3) := by decide +kernel
theorem d1_79 : decode method_2_code 79 = .ok (.getstatic 34, 3) := by decide +kernel
theorem d1_82 : decode method_2_code 82 = .ok (.areturn, 1) := by decide +kernel
theorem d1_83 : decode method_2_code 83 = .ok (.iload_n 0, 1) := by decide +kernel
theorem d1_84 : decode method_2_code 84 = .ok (.bipush 9, 2) := by decide +kernel
theorem d1_86 : decode method_2_code 86 = .ok (.if_icmp .ne 7, 3) := by decide +kernel
theorem d1_89 : decode method_2_code 89 = .ok (.getstatic 37, 3) := by decide +kernel
theorem d1_92 : decode method_2_code 92 = .ok (.areturn, 1) := by decide +kernel
theorem d1_93 : decode method_2_code 93 = .ok (.iload_n 0, 1) := by decide +kernel
theorem d1_94 : decode method_2_code 94 = .ok (.bipush 10, 2) := by decide +kernel
theorem d1_96 : decode method_2_code 96 = .ok (.if_icmp .ne 7, 3) := by decide +kernel
theorem d1_99 : decode method_2_code 99 = .ok (.getstatic 40, 3) := by decide +kernel
theorem d1_102 : decode method_2_code 102 = .ok (.areturn, 1) := by decide +kernel
theorem d1_103 : decode method_2_code 103 = .ok (.iload_n 0, 1) := by decide +kernel
theorem d1_104 : decode method_2_code 104 = .ok (.bipush 11, 2) := by decide +kernel
theorem d1_106 : decode method_2_code 106 = .ok (.if_icmp .ne 7, 3) := by decide +kernel
theorem d1_109 : decode method_2_code 109 = .ok (.getstatic 43, 3) := by decide +kernel
theorem d1_112 : decode method_2_code 112 = .ok (.areturn, 1) := by decide +kernel
theorem d1_113 : decode method_2_code 113 = .ok (.iload_n 0, 1) := by decide +kernel
theorem d1_114 : decode method_2_code 114 = .ok (.bipush 12, 2) := by decide +kernel
theorem d1_116 : decode method_2_code 116 = .ok (.if_icmp .ne 7, 3) := by decide +kernel
theorem d1_119 : decode method_2_code 119 = .ok (.getstatic 46, 3) := by decide +kernel
theorem d1_122 : decode method_2_code 122 = .ok (.areturn, 1) := by decide +kernel
theorem d1_123 : decode method_2_code 123 = .ok (.getstatic 49, 3) := by decide +kernel
theorem d1_126 : decode method_2_code 126 = .ok (.areturn, 1) := by decide +kernel
theorem pn_1 : plainName "com/example/moult/moult/schema/TypeIsPrimitivePinLaw" = true := by first | (simp [plainName, overriddenIn]; done) | decide +kernel
theorem ef_1 (m : MethodId) (p1 : Int32) : entryFrame m #[(.int p1)] 1 = mkF m 0 #[.val (.int p1)] [] := by first | (simp [entryFrame, mkF, argsToLocals, Value.category]; done) | rfl
def Q1 (Z : State) (p1 : Int32) (a_NULL : Addr) (a_BOOLEAN : Addr) (a_INT : Addr) (a_LONG : Addr) (a_FLOAT : Addr) (a_DOUBLE : Addr) (a_BYTES : Addr) (a_STRING : Addr) (a_RECORD : Addr) (a_ENUM : Addr) (a_ARRAY : Addr) (a_MAP : Addr) (a_UNION : Addr) (a_FIXED : Addr) (h0 : Heap) (n0 : Nat) (v : Option Value) (h : Heap) (L : List Loc) : Prop := v = some (.ref (own_pick p1 a_NULL a_BOOLEAN a_INT a_LONG a_FLOAT a_DOUBLE a_BYTES a_STRING a_RECORD a_ENUM a_ARRAY a_MAP a_UNION a_FIXED)) ∧ Fr n0 L ∧ h = h0
set_option maxRecDepth 65536 in
set_option maxHeartbeats 40000000 in
theorem rm1 (l : Launch) (Z : State) (a0 : Array Value) (hw : ∀ d ∈ tables_1, d.before a0 Z = true) (ws : List Jvm.Cond) (p1 : Int32) (a_NULL : Addr) (a_BOOLEAN : Addr) (a_INT : Addr) (a_LONG : Addr) (a_FLOAT : Addr) (a_DOUBLE : Addr) (a_BYTES : Addr) (a_STRING : Addr) (a_RECORD : Addr) (a_ENUM : Addr) (a_ARRAY : Addr) (a_MAP : Addr) (a_UNION : Addr) (a_FIXED : Addr) (h0 : Heap) (n0 : Nat) (Z0 : n0 ≤ h0.size) (S_NULL : Sta Z h0 "com/example/moult/moult/schema/Schema$Type" "NULL" "Lcom/example/moult/moult/schema/Schema$Type;" (.ref a_NULL)) (S_BOOLEAN : Sta Z h0 "com/example/moult/moult/schema/Schema$Type" "BOOLEAN" "Lcom/example/moult/moult/schema/Schema$Type;" (.ref a_BOOLEAN)) (S_INT : Sta Z h0 "com/example/moult/moult/schema/Schema$Type" "INT" "Lcom/example/moult/moult/schema/Schema$Type;" (.ref a_INT)) (S_LONG : Sta Z h0 "com/example/moult/moult/schema/Schema$Type" "LONG" "Lcom/example/moult/moult/schema/Schema$Type;" (.ref a_LONG)) (S_FLOAT : Sta Z h0 "com/example/moult/moult/schema/Schema$Type" "FLOAT" "Lcom/example/moult/moult/schema/Schema$Type;" (.ref a_FLOAT)) (S_DOUBLE : Sta Z h0 "com/example/moult/moult/schema/Schema$Type" "DOUBLE" "Lcom/example/moult/moult/schema/Schema$Type;" (.ref a_DOUBLE)) (S_BYTES : Sta Z h0 "com/example/moult/moult/schema/Schema$Type" "BYTES" "Lcom/example/moult/moult/schema/Schema$Type;" (.ref a_BYTES)) (S_STRING : Sta Z h0 "com/example/moult/moult/schema/Schema$Type" "STRING" "Lcom/example/moult/moult/schema/Schema$Type;" (.ref a_STRING)) (S_RECORD : Sta Z h0 "com/example/moult/moult/schema/Schema$Type" "RECORD" "Lcom/example/moult/moult/schema/Schema$Type;" (.ref a_RECORD)) (S_ENUM : Sta Z h0 "com/example/moult/moult/schema/Schema$Type" "ENUM" "Lcom/example/moult/moult/schema/Schema$Type;" (.ref a_ENUM)) (S_ARRAY : Sta Z h0 "com/example/moult/moult/schema/Schema$Type" "ARRAY" "Lcom/example/moult/moult/schema/Schema$Type;" (.ref a_ARRAY)) (S_MAP : Sta Z h0 "com/example/moult/moult/schema/Schema$Type" "MAP" "Lcom/example/moult/moult/schema/Schema$Type;" (.ref a_MAP)) (S_UNION : Sta Z h0 "com/example/moult/moult/schema/Schema$Type" "UNION" "Lcom/example/moult/moult/schema/Schema$Type;" (.ref a_UNION)) (S_FIXED : Sta Z h0 "com/example/moult/moult/schema/Schema$Type" "FIXED" "Lcom/example/moult/moult/schema/Schema$Type;" (.ref a_FIXED)) :
    MetFree l (⟨"com/example/moult/moult/schema/TypeIsPrimitivePinLaw", "pick", "(I)Lcom/example/moult/moult/schema/Schema$Type;"⟩ : MethodName) (head1 (Jvm.Cond.code (⟨"com/example/moult/moult/schema/TypeIsPrimitivePinLaw", "pick", "(I)Lcom/example/moult/moult/schema/Schema$Type;"⟩ : MethodName) method_2_code 1 (some (.object "com/example/moult/moult/schema/Schema$Type")) :: ws) ({ frames := 0, cells := 0, slots := 0, locals := 0 } : Room)) (fun a U => a = #[(.int p1)] ∧ Z.Warmed39 U.vm ∧ U.heap = h0) (fun _ _ _ _ _ => True) (fun _ U o U' => ∃ v L, o = .returned v ∧ Q1 Z p1 a_NULL a_BOOLEAN a_INT a_LONG a_FLOAT a_DOUBLE a_BYTES a_STRING a_RECORD a_ENUM a_ARRAY a_MAP a_UNION a_FIXED h0 n0 v U'.heap L ∧ FrameEnd U o U' L ({ frames := 0, cells := 0, slots := 0, locals := 0 } : Room).cells ({ frames := 0, cells := 0, slots := 0, locals := 0 } : Room).slots) := by
  refine MetFree.of_bodySF (plainFor_of_name pn_1) hisR ?_
  intro p e s m args below meth c s₁ Bd hml0 hP hK
  obtain ⟨rfl, hZ, hh⟩ := hP
  have hx := Bd.exec
  have hby := Bd.bytes
  have hml : c.maxLocals = 1 := hml0
  have hown : s.vm.findClass "com/example/moult/moult/schema/TypeIsPrimitivePinLaw" = some m.cls := findClass_of_methodNamed Bd.named
  have hnm := (name_of_methodNamed Bd.named Bd.method).1
  have X0 : Stand p l e ({ frames := 0, cells := 0, slots := 0, locals := 0 } : Room) s m #[(.int p1)] below meth c s₁ [] 0 0 := Stand.of_body Bd
  have e0 : s₁.heap = h0 := by rw [← hh, Bd.state]; rfl
  have N0 := Fr.nil n0
  have pre0 : ∀ t, Steps p.tables e below (s₁.setTop (mkF m 0 #[.val (.int p1)] [])) t → Steps p.tables e below (s₁.setTop (entryFrame m #[(.int p1)] 1)) t := fun t k => castTop (ef_1 m p1) k
  have K0 : Keep h0 h0 [] := Keep.refl h0 []
  have c1 : Goes p e below s₁ (entryFrame m #[(.int p1)] 1) s₁ (mkF m 1 #[.val (.int p1)] [(.int p1)]) := fun t kt => pre0 t (by
    show Steps p.tables e below (s₁.setTop (mkF m 0 #[.val (.int p1)] [])) _
    refine XS.iloadN X0.here hx rfl (hb hby d1_0) rfl ?_
    show Steps p.tables e below (s₁.setTop (mkF m 1 #[.val (.int p1)] [(.int p1)])) _
    exact kt)
  by_cases hc2 : p1 = (0 : Int32)
  · obtain ⟨T3, X3, e3, st3⟩ := getS2 X0 hx hZ hown (host := "") (Or.inl (hw _ (List.mem_of_getElem? (i := 5) rfl))) Via.refl e0 S_NULL (g := (mkF m 4 #[.val (.int p1)] [])) rfl (hb hby d1_4)
    have hv : a_NULL = own_pick p1 a_NULL a_BOOLEAN a_INT a_LONG a_FLOAT a_DOUBLE a_BYTES a_STRING a_RECORD a_ENUM a_ARRAY a_MAP a_UNION a_FIXED := by simp [own_pick, hc2]
    obtain ⟨fs, hr, hrun, hended, hW, hsame⟩ := X3.leave (v := some (.ref a_NULL)) (fun h => by rw [Bd.returns] at h; cases h)
    refine ⟨_, _, c1 _ ?_, hrun, hended, _, _, rfl, ?_, ⟨_, rfl⟩, hW, hsame.mono (by decide) (by decide)⟩
    · show Steps p.tables e below (s₁.setTop (mkF m 1 #[.val (.int p1)] [(.int p1)])) _
      refine XS.ifNo X0.here hx rfl (hb hby d1_1) rfl ((if0 _ _).trans (teq hc2).2) ?_
      show Steps p.tables e below (s₁.setTop (mkF m 4 #[.val (.int p1)] [])) _
      refine st3 _ ?_
      show Steps p.tables e below (T3.setTop (mkF m 7 #[.val (.int p1)] [(.ref a_NULL)])) _
      jvm_step X3.here [X3.here.top, hx, (hb hby d1_7), X3.method', Bd.returns, Value.isRef, FieldType.isReference]
      first | (intro acts; rw [hr _ acts rfl rfl rfl]) | rw [hr _ _ rfl rfl rfl]
      exact Steps.refl _
    · show Q1 Z p1 a_NULL a_BOOLEAN a_INT a_LONG a_FLOAT a_DOUBLE a_BYTES a_STRING a_RECORD a_ENUM a_ARRAY a_MAP a_UNION a_FIXED h0 n0 _ T3.heap _
      rw [e3]
      exact ⟨congrArg (fun z => some (Value.ref z)) hv, N0, rfl⟩
  · have c4 : Goes p e below s₁ (entryFrame m #[(.int p1)] 1) s₁ (mkF m 10 #[.val (.int p1)] [(.int (1 : Int32)), (.int p1)]) := fun t kt => c1 t (by
      show Steps p.tables e below (s₁.setTop (mkF m 1 #[.val (.int p1)] [(.int p1)])) _
      refine XS.ifYes X0.here hx rfl (pc0 := 1) (pc' := 8) rfl (hb hby d1_1) rfl ((if0 _ _).trans (feq hc2).2) (by decide) (by decide) ?_
      show Steps p.tables e below (s₁.setTop (mkF m 8 #[.val (.int p1)] [])) _
      refine XS.iloadN X0.here hx rfl (hb hby d1_8) rfl ?_
      show Steps p.tables e below (s₁.setTop (mkF m 9 #[.val (.int p1)] [(.int p1)])) _
      refine XS.iconst X0.here hx rfl (hb hby d1_9) ?_
      show Steps p.tables e below (s₁.setTop (mkF m 10 #[.val (.int p1)] [(.int (1 : Int32)), (.int p1)])) _
      exact kt)
    by_cases hc5 : p1 = (1 : Int32)
    · obtain ⟨T6, X6, e6, st6⟩ := getS2 X0 hx hZ hown (host := "") (Or.inl (hw _ (List.mem_of_getElem? (i := 29) rfl))) Via.refl e0 S_BOOLEAN (g := (mkF m 13 #[.val (.int p1)] [])) rfl (hb hby d1_13)
      have hv : a_BOOLEAN = own_pick p1 a_NULL a_BOOLEAN a_INT a_LONG a_FLOAT a_DOUBLE a_BYTES a_STRING a_RECORD a_ENUM a_ARRAY a_MAP a_UNION a_FIXED := by simp [own_pick, hc2, hc5]
      obtain ⟨fs, hr, hrun, hended, hW, hsame⟩ := X6.leave (v := some (.ref a_BOOLEAN)) (fun h => by rw [Bd.returns] at h; cases h)
      refine ⟨_, _, c4 _ ?_, hrun, hended, _, _, rfl, ?_, ⟨_, rfl⟩, hW, hsame.mono (by decide) (by decide)⟩
      · show Steps p.tables e below (s₁.setTop (mkF m 10 #[.val (.int p1)] [(.int (1 : Int32)), (.int p1)])) _
        refine XS.icmpNo X0.here hx rfl (hb hby d1_10) rfl (teq hc5).2 ?_
        show Steps p.tables e below (s₁.setTop (mkF m 13 #[.val (.int p1)] [])) _
        refine st6 _ ?_
        show Steps p.tables e below (T6.setTop (mkF m 16 #[.val (.int p1)] [(.ref a_BOOLEAN)])) _
        jvm_step X6.here [X6.here.top, hx, (hb hby d1_16), X6.method', Bd.returns, Value.isRef, FieldType.isReference]
        first | (intro acts; rw [hr _ acts rfl rfl rfl]) | rw [hr _ _ rfl rfl rfl]
        exact Steps.refl _
      · show Q1 Z p1 a_NULL a_BOOLEAN a_INT a_LONG a_FLOAT a_DOUBLE a_BYTES a_STRING a_RECORD a_ENUM a_ARRAY a_MAP a_UNION a_FIXED h0 n0 _ T6.heap _
        rw [e6]
        exact ⟨congrArg (fun z => some (Value.ref z)) hv, N0, rfl⟩
    · have c7 : Goes p e below s₁ (entryFrame m #[(.int p1)] 1) s₁ (mkF m 19 #[.val (.int p1)] [(.int (2 : Int32)), (.int p1)]) := fun t kt => c4 t (by
        show Steps p.tables e below (s₁.setTop (mkF m 10 #[.val (.int p1)] [(.int (1 : Int32)), (.int p1)])) _
        refine XS.icmpYes X0.here hx rfl (pc0 := 10) (pc' := 17) rfl (hb hby d1_10) rfl (feq hc5).2 (by decide) (by decide) ?_
        show Steps p.tables e below (s₁.setTop (mkF m 17 #[.val (.int p1)] [])) _
        refine XS.iloadN X0.here hx rfl (hb hby d1_17) rfl ?_
        show Steps p.tables e below (s₁.setTop (mkF m 18 #[.val (.int p1)] [(.int p1)])) _
        refine XS.iconst X0.here hx rfl (hb hby d1_18) ?_
        show Steps p.tables e below (s₁.setTop (mkF m 19 #[.val (.int p1)] [(.int (2 : Int32)), (.int p1)])) _
        exact kt)
      by_cases hc8 : p1 = (2 : Int32)
      · obtain ⟨T9, X9, e9, st9⟩ := getS2 X0 hx hZ hown (host := "") (Or.inl (hw _ (List.mem_of_getElem? (i := 31) rfl))) Via.refl e0 S_INT (g := (mkF m 22 #[.val (.int p1)] [])) rfl (hb hby d1_22)
        have hv : a_INT = own_pick p1 a_NULL a_BOOLEAN a_INT a_LONG a_FLOAT a_DOUBLE a_BYTES a_STRING a_RECORD a_ENUM a_ARRAY a_MAP a_UNION a_FIXED := by simp [own_pick, hc2, hc5, hc8]
        obtain ⟨fs, hr, hrun, hended, hW, hsame⟩ := X9.leave (v := some (.ref a_INT)) (fun h => by rw [Bd.returns] at h; cases h)
        refine ⟨_, _, c7 _ ?_, hrun, hended, _, _, rfl, ?_, ⟨_, rfl⟩, hW, hsame.mono (by decide) (by decide)⟩
        · show Steps p.tables e below (s₁.setTop (mkF m 19 #[.val (.int p1)] [(.int (2 : Int32)), (.int p1)])) _
          refine XS.icmpNo X0.here hx rfl (hb hby d1_19) rfl (teq hc8).2 ?_
          show Steps p.tables e below (s₁.setTop (mkF m 22 #[.val (.int p1)] [])) _
          refine st9 _ ?_
          show Steps p.tables e below (T9.setTop (mkF m 25 #[.val (.int p1)] [(.ref a_INT)])) _
          jvm_step X9.here [X9.here.top, hx, (hb hby d1_25), X9.method', Bd.returns, Value.isRef, FieldType.isReference]
          first | (intro acts; rw [hr _ acts rfl rfl rfl]) | rw [hr _ _ rfl rfl rfl]
          exact Steps.refl _
        · show Q1 Z p1 a_NULL a_BOOLEAN a_INT a_LONG a_FLOAT a_DOUBLE a_BYTES a_STRING a_RECORD a_ENUM a_ARRAY a_MAP a_UNION a_FIXED h0 n0 _ T9.heap _
          rw [e9]
          exact ⟨congrArg (fun z => some (Value.ref z)) hv, N0, rfl⟩
      · have c10 : Goes p e below s₁ (entryFrame m #[(.int p1)] 1) s₁ (mkF m 28 #[.val (.int p1)] [(.int (3 : Int32)), (.int p1)]) := fun t kt => c7 t (by
          show Steps p.tables e below (s₁.setTop (mkF m 19 #[.val (.int p1)] [(.int (2 : Int32)), (.int p1)])) _
          refine XS.icmpYes X0.here hx rfl (pc0 := 19) (pc' := 26) rfl (hb hby d1_19) rfl (feq hc8).2 (by decide) (by decide) ?_
          show Steps p.tables e below (s₁.setTop (mkF m 26 #[.val (.int p1)] [])) _
          refine XS.iloadN X0.here hx rfl (hb hby d1_26) rfl ?_
          show Steps p.tables e below (s₁.setTop (mkF m 27 #[.val (.int p1)] [(.int p1)])) _
          refine XS.iconst X0.here hx rfl (hb hby d1_27) ?_
          show Steps p.tables e below (s₁.setTop (mkF m 28 #[.val (.int p1)] [(.int (3 : Int32)), (.int p1)])) _
          exact kt)
        by_cases hc11 : p1 = (3 : Int32)
        · obtain ⟨T12, X12, e12, st12⟩ := getS2 X0 hx hZ hown (host := "") (Or.inl (hw _ (List.mem_of_getElem? (i := 27) rfl))) Via.refl e0 S_LONG (g := (mkF m 31 #[.val (.int p1)] [])) rfl (hb hby d1_31)
          have hv : a_LONG = own_pick p1 a_NULL a_BOOLEAN a_INT a_LONG a_FLOAT a_DOUBLE a_BYTES a_STRING a_RECORD a_ENUM a_ARRAY a_MAP a_UNION a_FIXED := by simp [own_pick, hc2, hc5, hc8, hc11]
          obtain ⟨fs, hr, hrun, hended, hW, hsame⟩ := X12.leave (v := some (.ref a_LONG)) (fun h => by rw [Bd.returns] at h; cases h)
          refine ⟨_, _, c10 _ ?_, hrun, hended, _, _, rfl, ?_, ⟨_, rfl⟩, hW, hsame.mono (by decide) (by decide)⟩
          · show Steps p.tables e below (s₁.setTop (mkF m 28 #[.val (.int p1)] [(.int (3 : Int32)), (.int p1)])) _
            refine XS.icmpNo X0.here hx rfl (hb hby d1_28) rfl (teq hc11).2 ?_
            show Steps p.tables e below (s₁.setTop (mkF m 31 #[.val (.int p1)] [])) _
            refine st12 _ ?_
            show Steps p.tables e below (T12.setTop (mkF m 34 #[.val (.int p1)] [(.ref a_LONG)])) _
            jvm_step X12.here [X12.here.top, hx, (hb hby d1_34), X12.method', Bd.returns, Value.isRef, FieldType.isReference]
            first | (intro acts; rw [hr _ acts rfl rfl rfl]) | rw [hr _ _ rfl rfl rfl]
            exact Steps.refl _
          · show Q1 Z p1 a_NULL a_BOOLEAN a_INT a_LONG a_FLOAT a_DOUBLE a_BYTES a_STRING a_RECORD a_ENUM a_ARRAY a_MAP a_UNION a_FIXED h0 n0 _ T12.heap _
            rw [e12]
            exact ⟨congrArg (fun z => some (Value.ref z)) hv, N0, rfl⟩
        · have c13 : Goes p e below s₁ (entryFrame m #[(.int p1)] 1) s₁ (mkF m 37 #[.val (.int p1)] [(.int (4 : Int32)), (.int p1)]) := fun t kt => c10 t (by
            show Steps p.tables e below (s₁.setTop (mkF m 28 #[.val (.int p1)] [(.int (3 : Int32)), (.int p1)])) _
            refine XS.icmpYes X0.here hx rfl (pc0 := 28) (pc' := 35) rfl (hb hby d1_28) rfl (feq hc11).2 (by decide) (by decide) ?_
            show Steps p.tables e below (s₁.setTop (mkF m 35 #[.val (.int p1)] [])) _
            refine XS.iloadN X0.here hx rfl (hb hby d1_35) rfl ?_
            show Steps p.tables e below (s₁.setTop (mkF m 36 #[.val (.int p1)] [(.int p1)])) _
            refine XS.iconst X0.here hx rfl (hb hby d1_36) ?_
            show Steps p.tables e below (s₁.setTop (mkF m 37 #[.val (.int p1)] [(.int (4 : Int32)), (.int p1)])) _
            exact kt)
          by_cases hc14 : p1 = (4 : Int32)
          · obtain ⟨T15, X15, e15, st15⟩ := getS2 X0 hx hZ hown (host := "") (Or.inl (hw _ (List.mem_of_getElem? (i := 35) rfl))) Via.refl e0 S_FLOAT (g := (mkF m 40 #[.val (.int p1)] [])) rfl (hb hby d1_40)
            have hv : a_FLOAT = own_pick p1 a_NULL a_BOOLEAN a_INT a_LONG a_FLOAT a_DOUBLE a_BYTES a_STRING a_RECORD a_ENUM a_ARRAY a_MAP a_UNION a_FIXED := by simp [own_pick, hc2, hc5, hc8, hc11, hc14]
            obtain ⟨fs, hr, hrun, hended, hW, hsame⟩ := X15.leave (v := some (.ref a_FLOAT)) (fun h => by rw [Bd.returns] at h; cases h)
            refine ⟨_, _, c13 _ ?_, hrun, hended, _, _, rfl, ?_, ⟨_, rfl⟩, hW, hsame.mono (by decide) (by decide)⟩
            · show Steps p.tables e below (s₁.setTop (mkF m 37 #[.val (.int p1)] [(.int (4 : Int32)), (.int p1)])) _
              refine XS.icmpNo X0.here hx rfl (hb hby d1_37) rfl (teq hc14).2 ?_
              show Steps p.tables e below (s₁.setTop (mkF m 40 #[.val (.int p1)] [])) _
              refine st15 _ ?_
              show Steps p.tables e below (T15.setTop (mkF m 43 #[.val (.int p1)] [(.ref a_FLOAT)])) _
              jvm_step X15.here [X15.here.top, hx, (hb hby d1_43), X15.method', Bd.returns, Value.isRef, FieldType.isReference]
              first | (intro acts; rw [hr _ acts rfl rfl rfl]) | rw [hr _ _ rfl rfl rfl]
              exact Steps.refl _
            · show Q1 Z p1 a_NULL a_BOOLEAN a_INT a_LONG a_FLOAT a_DOUBLE a_BYTES a_STRING a_RECORD a_ENUM a_ARRAY a_MAP a_UNION a_FIXED h0 n0 _ T15.heap _
              rw [e15]
              exact ⟨congrArg (fun z => some (Value.ref z)) hv, N0, rfl⟩
          · have c16 : Goes p e below s₁ (entryFrame m #[(.int p1)] 1) s₁ (mkF m 46 #[.val (.int p1)] [(.int (5 : Int32)), (.int p1)]) := fun t kt => c13 t (by
              show Steps p.tables e below (s₁.setTop (mkF m 37 #[.val (.int p1)] [(.int (4 : Int32)), (.int p1)])) _
              refine XS.icmpYes X0.here hx rfl (pc0 := 37) (pc' := 44) rfl (hb hby d1_37) rfl (feq hc14).2 (by decide) (by decide) ?_
              show Steps p.tables e below (s₁.setTop (mkF m 44 #[.val (.int p1)] [])) _
              refine XS.iloadN X0.here hx rfl (hb hby d1_44) rfl ?_
              show Steps p.tables e below (s₁.setTop (mkF m 45 #[.val (.int p1)] [(.int p1)])) _
              refine XS.iconst X0.here hx rfl (hb hby d1_45) ?_
              show Steps p.tables e below (s₁.setTop (mkF m 46 #[.val (.int p1)] [(.int (5 : Int32)), (.int p1)])) _
              exact kt)
            by_cases hc17 : p1 = (5 : Int32)
            · obtain ⟨T18, X18, e18, st18⟩ := getS2 X0 hx hZ hown (host := "") (Or.inl (hw _ (List.mem_of_getElem? (i := 37) rfl))) Via.refl e0 S_DOUBLE (g := (mkF m 49 #[.val (.int p1)] [])) rfl (hb hby d1_49)
              have hv : a_DOUBLE = own_pick p1 a_NULL a_BOOLEAN a_INT a_LONG a_FLOAT a_DOUBLE a_BYTES a_STRING a_RECORD a_ENUM a_ARRAY a_MAP a_UNION a_FIXED := by simp [own_pick, hc2, hc5, hc8, hc11, hc14, hc17]
              obtain ⟨fs, hr, hrun, hended, hW, hsame⟩ := X18.leave (v := some (.ref a_DOUBLE)) (fun h => by rw [Bd.returns] at h; cases h)
              refine ⟨_, _, c16 _ ?_, hrun, hended, _, _, rfl, ?_, ⟨_, rfl⟩, hW, hsame.mono (by decide) (by decide)⟩
              · show Steps p.tables e below (s₁.setTop (mkF m 46 #[.val (.int p1)] [(.int (5 : Int32)), (.int p1)])) _
                refine XS.icmpNo X0.here hx rfl (hb hby d1_46) rfl (teq hc17).2 ?_
                show Steps p.tables e below (s₁.setTop (mkF m 49 #[.val (.int p1)] [])) _
                refine st18 _ ?_
                show Steps p.tables e below (T18.setTop (mkF m 52 #[.val (.int p1)] [(.ref a_DOUBLE)])) _
                jvm_step X18.here [X18.here.top, hx, (hb hby d1_52), X18.method', Bd.returns, Value.isRef, FieldType.isReference]
                first | (intro acts; rw [hr _ acts rfl rfl rfl]) | rw [hr _ _ rfl rfl rfl]
                exact Steps.refl _
              · show Q1 Z p1 a_NULL a_BOOLEAN a_INT a_LONG a_FLOAT a_DOUBLE a_BYTES a_STRING a_RECORD a_ENUM a_ARRAY a_MAP a_UNION a_FIXED h0 n0 _ T18.heap _
                rw [e18]
                exact ⟨congrArg (fun z => some (Value.ref z)) hv, N0, rfl⟩
            · have c19 : Goes p e below s₁ (entryFrame m #[(.int p1)] 1) s₁ (mkF m 56 #[.val (.int p1)] [(.int (6 : Int32)), (.int p1)]) := fun t kt => c16 t (by
                show Steps p.tables e below (s₁.setTop (mkF m 46 #[.val (.int p1)] [(.int (5 : Int32)), (.int p1)])) _
                refine XS.icmpYes X0.here hx rfl (pc0 := 46) (pc' := 53) rfl (hb hby d1_46) rfl (feq hc17).2 (by decide) (by decide) ?_
                show Steps p.tables e below (s₁.setTop (mkF m 53 #[.val (.int p1)] [])) _
                refine XS.iloadN X0.here hx rfl (hb hby d1_53) rfl ?_
                show Steps p.tables e below (s₁.setTop (mkF m 54 #[.val (.int p1)] [(.int p1)])) _
                refine XS.bipush X0.here hx rfl (hb hby d1_54) ?_
                show Steps p.tables e below (s₁.setTop (mkF m 56 #[.val (.int p1)] [(.int (6 : Int32)), (.int p1)])) _
                exact kt)
              by_cases hc20 : p1 = (6 : Int32)
              · obtain ⟨T21, X21, e21, st21⟩ := getS2 X0 hx hZ hown (host := "") (Or.inl (hw _ (List.mem_of_getElem? (i := 39) rfl))) Via.refl e0 S_BYTES (g := (mkF m 59 #[.val (.int p1)] [])) rfl (hb hby d1_59)
                have hv : a_BYTES = own_pick p1 a_NULL a_BOOLEAN a_INT a_LONG a_FLOAT a_DOUBLE a_BYTES a_STRING a_RECORD a_ENUM a_ARRAY a_MAP a_UNION a_FIXED := by simp [own_pick, hc2, hc5, hc8, hc11, hc14, hc17, hc20]
                obtain ⟨fs, hr, hrun, hended, hW, hsame⟩ := X21.leave (v := some (.ref a_BYTES)) (fun h => by rw [Bd.returns] at h; cases h)
                refine ⟨_, _, c19 _ ?_, hrun, hended, _, _, rfl, ?_, ⟨_, rfl⟩, hW, hsame.mono (by decide) (by decide)⟩
                · show Steps p.tables e below (s₁.setTop (mkF m 56 #[.val (.int p1)] [(.int (6 : Int32)), (.int p1)])) _
                  refine XS.icmpNo X0.here hx rfl (hb hby d1_56) rfl (teq hc20).2 ?_
                  show Steps p.tables e below (s₁.setTop (mkF m 59 #[.val (.int p1)] [])) _
                  refine st21 _ ?_
                  show Steps p.tables e below (T21.setTop (mkF m 62 #[.val (.int p1)] [(.ref a_BYTES)])) _
                  jvm_step X21.here [X21.here.top, hx, (hb hby d1_62), X21.method', Bd.returns, Value.isRef, FieldType.isReference]
                  first | (intro acts; rw [hr _ acts rfl rfl rfl]) | rw [hr _ _ rfl rfl rfl]
                  exact Steps.refl _
                · show Q1 Z p1 a_NULL a_BOOLEAN a_INT a_LONG a_FLOAT a_DOUBLE a_BYTES a_STRING a_RECORD a_ENUM a_ARRAY a_MAP a_UNION a_FIXED h0 n0 _ T21.heap _
                  rw [e21]
                  exact ⟨congrArg (fun z => some (Value.ref z)) hv, N0, rfl⟩
              · have c22 : Goes p e below s₁ (entryFrame m #[(.int p1)] 1) s₁ (mkF m 66 #[.val (.int p1)] [(.int (7 : Int32)), (.int p1)]) := fun t kt => c19 t (by
                  show Steps p.tables e below (s₁.setTop (mkF m 56 #[.val (.int p1)] [(.int (6 : Int32)), (.int p1)])) _
                  refine XS.icmpYes X0.here hx rfl (pc0 := 56) (pc' := 63) rfl (hb hby d1_56) rfl (feq hc20).2 (by decide) (by decide) ?_
                  show Steps p.tables e below (s₁.setTop (mkF m 63 #[.val (.int p1)] [])) _
                  refine XS.iloadN X0.here hx rfl (hb hby d1_63) rfl ?_
                  show Steps p.tables e below (s₁.setTop (mkF m 64 #[.val (.int p1)] [(.int p1)])) _
                  refine XS.bipush X0.here hx rfl (hb hby d1_64) ?_
                  show Steps p.tables e below (s₁.setTop (mkF m 66 #[.val (.int p1)] [(.int (7 : Int32)), (.int p1)])) _
                  exact kt)
                by_cases hc23 : p1 = (7 : Int32)
                · obtain ⟨T24, X24, e24, st24⟩ := getS2 X0 hx hZ hown (host := "") (Or.inl (hw _ (List.mem_of_getElem? (i := 41) rfl))) Via.refl e0 S_STRING (g := (mkF m 69 #[.val (.int p1)] [])) rfl (hb hby d1_69)
                  have hv : a_STRING = own_pick p1 a_NULL a_BOOLEAN a_INT a_LONG a_FLOAT a_DOUBLE a_BYTES a_STRING a_RECORD a_ENUM a_ARRAY a_MAP a_UNION a_FIXED := by simp [own_pick, hc2, hc5, hc8, hc11, hc14, hc17, hc20, hc23]
                  obtain ⟨fs, hr, hrun, hended, hW, hsame⟩ := X24.leave (v := some (.ref a_STRING)) (fun h => by rw [Bd.returns] at h; cases h)
                  refine ⟨_, _, c22 _ ?_, hrun, hended, _, _, rfl, ?_, ⟨_, rfl⟩, hW, hsame.mono (by decide) (by decide)⟩
                  · show Steps p.tables e below (s₁.setTop (mkF m 66 #[.val (.int p1)] [(.int (7 : Int32)), (.int p1)])) _
                    refine XS.icmpNo X0.here hx rfl (hb hby d1_66) rfl (teq hc23).2 ?_
                    show Steps p.tables e below (s₁.setTop (mkF m 69 #[.val (.int p1)] [])) _
                    refine st24 _ ?_
                    show Steps p.tables e below (T24.setTop (mkF m 72 #[.val (.int p1)] [(.ref a_STRING)])) _
                    jvm_step X24.here [X24.here.top, hx, (hb hby d1_72), X24.method', Bd.returns, Value.isRef, FieldType.isReference]
                    first | (intro acts; rw [hr _ acts rfl rfl rfl]) | rw [hr _ _ rfl rfl rfl]
                    exact Steps.refl _
                  · show Q1 Z p1 a_NULL a_BOOLEAN a_INT a_LONG a_FLOAT a_DOUBLE a_BYTES a_STRING a_RECORD a_ENUM a_ARRAY a_MAP a_UNION a_FIXED h0 n0 _ T24.heap _
                    rw [e24]
                    exact ⟨congrArg (fun z => some (Value.ref z)) hv, N0, rfl⟩
                · have c25 : Goes p e below s₁ (entryFrame m #[(.int p1)] 1) s₁ (mkF m 76 #[.val (.int p1)] [(.int (8 : Int32)), (.int p1)]) := fun t kt => c22 t (by
                    show Steps p.tables e below (s₁.setTop (mkF m 66 #[.val (.int p1)] [(.int (7 : Int32)), (.int p1)])) _
                    refine XS.icmpYes X0.here hx rfl (pc0 := 66) (pc' := 73) rfl (hb hby d1_66) rfl (feq hc23).2 (by decide) (by decide) ?_
                    show Steps p.tables e below (s₁.setTop (mkF m 73 #[.val (.int p1)] [])) _
                    refine XS.iloadN X0.here hx rfl (hb hby d1_73) rfl ?_
                    show Steps p.tables e below (s₁.setTop (mkF m 74 #[.val (.int p1)] [(.int p1)])) _
                    refine XS.bipush X0.here hx rfl (hb hby d1_74) ?_
                    show Steps p.tables e below (s₁.setTop (mkF m 76 #[.val (.int p1)] [(.int (8 : Int32)), (.int p1)])) _
                    exact kt)
                  by_cases hc26 : p1 = (8 : Int32)
                  · obtain ⟨T27, X27, e27, st27⟩ := getS2 X0 hx hZ hown (host := "") (Or.inl (hw _ (List.mem_of_getElem? (i := 48) rfl))) Via.refl e0 S_RECORD (g := (mkF m 79 #[.val (.int p1)] [])) rfl (hb hby d1_79)
                    have hv : a_RECORD = own_pick p1 a_NULL a_BOOLEAN a_INT a_LONG a_FLOAT a_DOUBLE a_BYTES a_STRING a_RECORD a_ENUM a_ARRAY a_MAP a_UNION a_FIXED := by simp [own_pick, hc2, hc5, hc8, hc11, hc14, hc17, hc20, hc23, hc26]
                    obtain ⟨fs, hr, hrun, hended, hW, hsame⟩ := X27.leave (v := some (.ref a_RECORD)) (fun h => by rw [Bd.returns] at h; cases h)
                    refine ⟨_, _, c25 _ ?_, hrun, hended, _, _, rfl, ?_, ⟨_, rfl⟩, hW, hsame.mono (by decide) (by decide)⟩
                    · show Steps p.tables e below (s₁.setTop (mkF m 76 #[.val (.int p1)] [(.int (8 : Int32)), (.int p1)])) _
                      refine XS.icmpNo X0.here hx rfl (hb hby d1_76) rfl (teq hc26).2 ?_
                      show Steps p.tables e below (s₁.setTop (mkF m 79 #[.val (.int p1)] [])) _
                      refine st27 _ ?_
                      show Steps p.tables e below (T27.setTop (mkF m 82 #[.val (.int p1)] [(.ref a_RECORD)])) _
                      jvm_step X27.here [X27.here.top, hx, (hb hby d1_82), X27.method', Bd.returns, Value.isRef, FieldType.isReference]
                      first | (intro acts; rw [hr _ acts rfl rfl rfl]) | rw [hr _ _ rfl rfl rfl]
                      exact Steps.refl _
                    · show Q1 Z p1 a_NULL a_BOOLEAN a_INT a_LONG a_FLOAT a_DOUBLE a_BYTES a_STRING a_RECORD a_ENUM a_ARRAY a_MAP a_UNION a_FIXED h0 n0 _ T27.heap _
                      rw [e27]
                      exact ⟨congrArg (fun z => some (Value.ref z)) hv, N0, rfl⟩
                  · have c28 : Goes p e below s₁ (entryFrame m #[(.int p1)] 1) s₁ (mkF m 86 #[.val (.int p1)] [(.int (9 : Int32)), (.int p1)]) := fun t kt => c25 t (by
                      show Steps p.tables e below (s₁.setTop (mkF m 76 #[.val (.int p1)] [(.int (8 : Int32)), (.int p1)])) _
                      refine XS.icmpYes X0.here hx rfl (pc0 := 76) (pc' := 83) rfl (hb hby d1_76) rfl (feq hc26).2 (by decide) (by decide) ?_
                      show Steps p.tables e below (s₁.setTop (mkF m 83 #[.val (.int p1)] [])) _
                      refine XS.iloadN X0.here hx rfl (hb hby d1_83) rfl ?_
                      show Steps p.tables e below (s₁.setTop (mkF m 84 #[.val (.int p1)] [(.int p1)])) _
                      refine XS.bipush X0.here hx rfl (hb hby d1_84) ?_
                      show Steps p.tables e below (s₁.setTop (mkF m 86 #[.val (.int p1)] [(.int (9 : Int32)), (.int p1)])) _
                      exact kt)
                    by_cases hc29 : p1 = (9 : Int32)
                    · obtain ⟨T30, X30, e30, st30⟩ := getS2 X0 hx hZ hown (host := "") (Or.inl (hw _ (List.mem_of_getElem? (i := 50) rfl))) Via.refl e0 S_ENUM (g := (mkF m 89 #[.val (.int p1)] [])) rfl (hb hby d1_89)
                      have hv : a_ENUM = own_pick p1 a_NULL a_BOOLEAN a_INT a_LONG a_FLOAT a_DOUBLE a_BYTES a_STRING a_RECORD a_ENUM a_ARRAY a_MAP a_UNION a_FIXED := by simp [own_pick, hc2, hc5, hc8, hc11, hc14, hc17, hc20, hc23, hc26, hc29]
                      obtain ⟨fs, hr, hrun, hended, hW, hsame⟩ := X30.leave (v := some (.ref a_ENUM)) (fun h => by rw [Bd.returns] at h; cases h)
                      refine ⟨_, _, c28 _ ?_, hrun, hended, _, _, rfl, ?_, ⟨_, rfl⟩, hW, hsame.mono (by decide) (by decide)⟩
                      · show Steps p.tables e below (s₁.setTop (mkF m 86 #[.val (.int p1)] [(.int (9 : Int32)), (.int p1)])) _
                        refine XS.icmpNo X0.here hx rfl (hb hby d1_86) rfl (teq hc29).2 ?_
                        show Steps p.tables e below (s₁.setTop (mkF m 89 #[.val (.int p1)] [])) _
                        refine st30 _ ?_
                        show Steps p.tables e below (T30.setTop (mkF m 92 #[.val (.int p1)] [(.ref a_ENUM)])) _
                        jvm_step X30.here [X30.here.top, hx, (hb hby d1_92), X30.method', Bd.returns, Value.isRef, FieldType.isReference]
                        first | (intro acts; rw [hr _ acts rfl rfl rfl]) | rw [hr _ _ rfl rfl rfl]
                        exact Steps.refl _
                      · show Q1 Z p1 a_NULL a_BOOLEAN a_INT a_LONG a_FLOAT a_DOUBLE a_BYTES a_STRING a_RECORD a_ENUM a_ARRAY a_MAP a_UNION a_FIXED h0 n0 _ T30.heap _
                        rw [e30]
                        exact ⟨congrArg (fun z => some (Value.ref z)) hv, N0, rfl⟩
                    · have c31 : Goes p e below s₁ (entryFrame m #[(.int p1)] 1) s₁ (mkF m 96 #[.val (.int p1)] [(.int (10 : Int32)), (.int p1)]) := fun t kt => c28 t (by
                        show Steps p.tables e below (s₁.setTop (mkF m 86 #[.val (.int p1)] [(.int (9 : Int32)), (.int p1)])) _
                        refine XS.icmpYes X0.here hx rfl (pc0 := 86) (pc' := 93) rfl (hb hby d1_86) rfl (feq hc29).2 (by decide) (by decide) ?_
                        show Steps p.tables e below (s₁.setTop (mkF m 93 #[.val (.int p1)] [])) _
                        refine XS.iloadN X0.here hx rfl (hb hby d1_93) rfl ?_
                        show Steps p.tables e below (s₁.setTop (mkF m 94 #[.val (.int p1)] [(.int p1)])) _
                        refine XS.bipush X0.here hx rfl (hb hby d1_94) ?_
                        show Steps p.tables e below (s₁.setTop (mkF m 96 #[.val (.int p1)] [(.int (10 : Int32)), (.int p1)])) _
                        exact kt)
                      by_cases hc32 : p1 = (10 : Int32)
                      · obtain ⟨T33, X33, e33, st33⟩ := getS2 X0 hx hZ hown (host := "") (Or.inl (hw _ (List.mem_of_getElem? (i := 46) rfl))) Via.refl e0 S_ARRAY (g := (mkF m 99 #[.val (.int p1)] [])) rfl (hb hby d1_99)
                        have hv : a_ARRAY = own_pick p1 a_NULL a_BOOLEAN a_INT a_LONG a_FLOAT a_DOUBLE a_BYTES a_STRING a_RECORD a_ENUM a_ARRAY a_MAP a_UNION a_FIXED := by simp [own_pick, hc2, hc5, hc8, hc11, hc14, hc17, hc20, hc23, hc26, hc29, hc32]
                        obtain ⟨fs, hr, hrun, hended, hW, hsame⟩ := X33.leave (v := some (.ref a_ARRAY)) (fun h => by rw [Bd.returns] at h; cases h)
                        refine ⟨_, _, c31 _ ?_, hrun, hended, _, _, rfl, ?_, ⟨_, rfl⟩, hW, hsame.mono (by decide) (by decide)⟩
                        · show Steps p.tables e below (s₁.setTop (mkF m 96 #[.val (.int p1)] [(.int (10 : Int32)), (.int p1)])) _
                          refine XS.icmpNo X0.here hx rfl (hb hby d1_96) rfl (teq hc32).2 ?_
                          show Steps p.tables e below (s₁.setTop (mkF m 99 #[.val (.int p1)] [])) _
                          refine st33 _ ?_
                          show Steps p.tables e below (T33.setTop (mkF m 102 #[.val (.int p1)] [(.ref a_ARRAY)])) _
                          jvm_step X33.here [X33.here.top, hx, (hb hby d1_102), X33.method', Bd.returns, Value.isRef, FieldType.isReference]
                          first | (intro acts; rw [hr _ acts rfl rfl rfl]) | rw [hr _ _ rfl rfl rfl]
                          exact Steps.refl _
                        · show Q1 Z p1 a_NULL a_BOOLEAN a_INT a_LONG a_FLOAT a_DOUBLE a_BYTES a_STRING a_RECORD a_ENUM a_ARRAY a_MAP a_UNION a_FIXED h0 n0 _ T33.heap _
                          rw [e33]
                          exact ⟨congrArg (fun z => some (Value.ref z)) hv, N0, rfl⟩
                      · have c34 : Goes p e below s₁ (entryFrame m #[(.int p1)] 1) s₁ (mkF m 106 #[.val (.int p1)] [(.int (11 : Int32)), (.int p1)]) := fun t kt => c31 t (by
                          show Steps p.tables e below (s₁.setTop (mkF m 96 #[.val (.int p1)] [(.int (10 : Int32)), (.int p1)])) _
                          refine XS.icmpYes X0.here hx rfl (pc0 := 96) (pc' := 103) rfl (hb hby d1_96) rfl (feq hc32).2 (by decide) (by decide) ?_
                          show Steps p.tables e below (s₁.setTop (mkF m 103 #[.val (.int p1)] [])) _
                          refine XS.iloadN X0.here hx rfl (hb hby d1_103) rfl ?_
                          show Steps p.tables e below (s₁.setTop (mkF m 104 #[.val (.int p1)] [(.int p1)])) _
                          refine XS.bipush X0.here hx rfl (hb hby d1_104) ?_
                          show Steps p.tables e below (s₁.setTop (mkF m 106 #[.val (.int p1)] [(.int (11 : Int32)), (.int p1)])) _
                          exact kt)
                        by_cases hc35 : p1 = (11 : Int32)
                        · obtain ⟨T36, X36, e36, st36⟩ := getS2 X0 hx hZ hown (host := "") (Or.inl (hw _ (List.mem_of_getElem? (i := 44) rfl))) Via.refl e0 S_MAP (g := (mkF m 109 #[.val (.int p1)] [])) rfl (hb hby d1_109)
                          have hv : a_MAP = own_pick p1 a_NULL a_BOOLEAN a_INT a_LONG a_FLOAT a_DOUBLE a_BYTES a_STRING a_RECORD a_ENUM a_ARRAY a_MAP a_UNION a_FIXED := by simp [own_pick, hc2, hc5, hc8, hc11, hc14, hc17, hc20, hc23, hc26, hc29, hc32, hc35]
                          obtain ⟨fs, hr, hrun, hended, hW, hsame⟩ := X36.leave (v := some (.ref a_MAP)) (fun h => by rw [Bd.returns] at h; cases h)
                          refine ⟨_, _, c34 _ ?_, hrun, hended, _, _, rfl, ?_, ⟨_, rfl⟩, hW, hsame.mono (by decide) (by decide)⟩
                          · show Steps p.tables e below (s₁.setTop (mkF m 106 #[.val (.int p1)] [(.int (11 : Int32)), (.int p1)])) _
                            refine XS.icmpNo X0.here hx rfl (hb hby d1_106) rfl (teq hc35).2 ?_
                            show Steps p.tables e below (s₁.setTop (mkF m 109 #[.val (.int p1)] [])) _
                            refine st36 _ ?_
                            show Steps p.tables e below (T36.setTop (mkF m 112 #[.val (.int p1)] [(.ref a_MAP)])) _
                            jvm_step X36.here [X36.here.top, hx, (hb hby d1_112), X36.method', Bd.returns, Value.isRef, FieldType.isReference]
                            first | (intro acts; rw [hr _ acts rfl rfl rfl]) | rw [hr _ _ rfl rfl rfl]
                            exact Steps.refl _
                          · show Q1 Z p1 a_NULL a_BOOLEAN a_INT a_LONG a_FLOAT a_DOUBLE a_BYTES a_STRING a_RECORD a_ENUM a_ARRAY a_MAP a_UNION a_FIXED h0 n0 _ T36.heap _
                            rw [e36]
                            exact ⟨congrArg (fun z => some (Value.ref z)) hv, N0, rfl⟩
                        · have c37 : Goes p e below s₁ (entryFrame m #[(.int p1)] 1) s₁ (mkF m 116 #[.val (.int p1)] [(.int (12 : Int32)), (.int p1)]) := fun t kt => c34 t (by
                            show Steps p.tables e below (s₁.setTop (mkF m 106 #[.val (.int p1)] [(.int (11 : Int32)), (.int p1)])) _
                            refine XS.icmpYes X0.here hx rfl (pc0 := 106) (pc' := 113) rfl (hb hby d1_106) rfl (feq hc35).2 (by decide) (by decide) ?_
                            show Steps p.tables e below (s₁.setTop (mkF m 113 #[.val (.int p1)] [])) _
                            refine XS.iloadN X0.here hx rfl (hb hby d1_113) rfl ?_
                            show Steps p.tables e below (s₁.setTop (mkF m 114 #[.val (.int p1)] [(.int p1)])) _
                            refine XS.bipush X0.here hx rfl (hb hby d1_114) ?_
                            show Steps p.tables e below (s₁.setTop (mkF m 116 #[.val (.int p1)] [(.int (12 : Int32)), (.int p1)])) _
                            exact kt)
                          by_cases hc38 : p1 = (12 : Int32)
                          · obtain ⟨T39, X39, e39, st39⟩ := getS2 X0 hx hZ hown (host := "") (Or.inl (hw _ (List.mem_of_getElem? (i := 33) rfl))) Via.refl e0 S_UNION (g := (mkF m 119 #[.val (.int p1)] [])) rfl (hb hby d1_119)
                            have hv : a_UNION = own_pick p1 a_NULL a_BOOLEAN a_INT a_LONG a_FLOAT a_DOUBLE a_BYTES a_STRING a_RECORD a_ENUM a_ARRAY a_MAP a_UNION a_FIXED := by simp [own_pick, hc2, hc5, hc8, hc11, hc14, hc17, hc20, hc23, hc26, hc29, hc32, hc35, hc38]
                            obtain ⟨fs, hr, hrun, hended, hW, hsame⟩ := X39.leave (v := some (.ref a_UNION)) (fun h => by rw [Bd.returns] at h; cases h)
                            refine ⟨_, _, c37 _ ?_, hrun, hended, _, _, rfl, ?_, ⟨_, rfl⟩, hW, hsame.mono (by decide) (by decide)⟩
                            · show Steps p.tables e below (s₁.setTop (mkF m 116 #[.val (.int p1)] [(.int (12 : Int32)), (.int p1)])) _
                              refine XS.icmpNo X0.here hx rfl (hb hby d1_116) rfl (teq hc38).2 ?_
                              show Steps p.tables e below (s₁.setTop (mkF m 119 #[.val (.int p1)] [])) _
                              refine st39 _ ?_
                              show Steps p.tables e below (T39.setTop (mkF m 122 #[.val (.int p1)] [(.ref a_UNION)])) _
                              jvm_step X39.here [X39.here.top, hx, (hb hby d1_122), X39.method', Bd.returns, Value.isRef, FieldType.isReference]
                              first | (intro acts; rw [hr _ acts rfl rfl rfl]) | rw [hr _ _ rfl rfl rfl]
                              exact Steps.refl _
                            · show Q1 Z p1 a_NULL a_BOOLEAN a_INT a_LONG a_FLOAT a_DOUBLE a_BYTES a_STRING a_RECORD a_ENUM a_ARRAY a_MAP a_UNION a_FIXED h0 n0 _ T39.heap _
                              rw [e39]
                              exact ⟨congrArg (fun z => some (Value.ref z)) hv, N0, rfl⟩
                          · obtain ⟨T40, X40, e40, st40⟩ := getS2 X0 hx hZ hown (host := "") (Or.inl (hw _ (List.mem_of_getElem? (i := 42) rfl))) Via.refl e0 S_FIXED (g := (mkF m 123 #[.val (.int p1)] [])) rfl (hb hby d1_123)
                            have hv : a_FIXED = own_pick p1 a_NULL a_BOOLEAN a_INT a_LONG a_FLOAT a_DOUBLE a_BYTES a_STRING a_RECORD a_ENUM a_ARRAY a_MAP a_UNION a_FIXED := by simp [own_pick, hc2, hc5, hc8, hc11, hc14, hc17, hc20, hc23, hc26, hc29, hc32, hc35, hc38]
                            obtain ⟨fs, hr, hrun, hended, hW, hsame⟩ := X40.leave (v := some (.ref a_FIXED)) (fun h => by rw [Bd.returns] at h; cases h)
                            refine ⟨_, _, c37 _ ?_, hrun, hended, _, _, rfl, ?_, ⟨_, rfl⟩, hW, hsame.mono (by decide) (by decide)⟩
                            · show Steps p.tables e below (s₁.setTop (mkF m 116 #[.val (.int p1)] [(.int (12 : Int32)), (.int p1)])) _
                              refine XS.icmpYes X0.here hx rfl (pc0 := 116) (pc' := 123) rfl (hb hby d1_116) rfl (feq hc38).2 (by decide) (by decide) ?_
                              show Steps p.tables e below (s₁.setTop (mkF m 123 #[.val (.int p1)] [])) _
                              refine st40 _ ?_
                              show Steps p.tables e below (T40.setTop (mkF m 126 #[.val (.int p1)] [(.ref a_FIXED)])) _
                              jvm_step X40.here [X40.here.top, hx, (hb hby d1_126), X40.method', Bd.returns, Value.isRef, FieldType.isReference]
                              first | (intro acts; rw [hr _ acts rfl rfl rfl]) | rw [hr _ _ rfl rfl rfl]
                              exact Steps.refl _
                            · show Q1 Z p1 a_NULL a_BOOLEAN a_INT a_LONG a_FLOAT a_DOUBLE a_BYTES a_STRING a_RECORD a_ENUM a_ARRAY a_MAP a_UNION a_FIXED h0 n0 _ T40.heap _
                              rw [e40]
                              exact ⟨congrArg (fun z => some (Value.ref z)) hv, N0, rfl⟩
theorem d3_0 : decode jdk_37_method_2_code 0 = .ok (.aload_n 0, 1) := by decide +kernel
theorem d3_1 : decode jdk_37_method_2_code 1 = .ok (.getfield 7, 3) := by decide +kernel
theorem d3_4 : decode jdk_37_method_2_code 4 = .ok (.ireturn, 1) := by decide +kernel
theorem pn_3 : plainName "java/lang/Enum" = true := by first | (simp [plainName, overriddenIn]; done) | decide +kernel
theorem ef_3 (m : MethodId) (a1 : Addr) : entryFrame m #[(.ref a1)] 1 = mkF m 0 #[.val (.ref a1)] [] := by first | (simp [entryFrame, mkF, argsToLocals, Value.category]; done) | rfl
def Q3 (Z : State) (a1 : Addr) (w1 : Int32) (h0 : Heap) (n0 : Nat) (v : Option Value) (h : Heap) (L : List Loc) : Prop := v = some (.int w1) ∧ Fr n0 L ∧ h = h0
set_option maxRecDepth 65536 in
set_option maxHeartbeats 40000000 in
theorem rm3 (l : Launch) (Z : State) (a0 : Array Value) (hw : ∀ d ∈ tables_1, d.before a0 Z = true) (ws : List Jvm.Cond) (a1 : Addr) (w1 : Int32) (h0 : Heap) (n0 : Nat) (Z0 : n0 ≤ h0.size) (F_1 : Fld Z h0 a1 "java/lang/Enum" "ordinal" "I" (.int w1)) :
    MetFree l (⟨"java/lang/Enum", "ordinal", "()I"⟩ : MethodName) (head1 (Jvm.Cond.code (⟨"java/lang/Enum", "ordinal", "()I"⟩ : MethodName) jdk_37_method_2_code 1 (some .int) :: ws) ({ frames := 0, cells := 0, slots := 0, locals := 0 } : Room)) (fun a U => a = #[(.ref a1)] ∧ Z.Warmed39 U.vm ∧ U.heap = h0) (fun _ _ _ _ _ => True) (fun _ U o U' => ∃ v L, o = .returned v ∧ Q3 Z a1 w1 h0 n0 v U'.heap L ∧ FrameEnd U o U' L ({ frames := 0, cells := 0, slots := 0, locals := 0 } : Room).cells ({ frames := 0, cells := 0, slots := 0, locals := 0 } : Room).slots) := by
  refine MetFree.of_bodySF (plainFor_of_name pn_3) hisR ?_
  intro p e s m args below meth c s₁ Bd hml0 hP hK
  obtain ⟨rfl, hZ, hh⟩ := hP
  have hx := Bd.exec
  have hby := Bd.bytes
  have hml : c.maxLocals = 1 := hml0
  have hown : s.vm.findClass "java/lang/Enum" = some m.cls := findClass_of_methodNamed Bd.named
  have hnm := (name_of_methodNamed Bd.named Bd.method).1
  have X0 : Stand p l e ({ frames := 0, cells := 0, slots := 0, locals := 0 } : Room) s m #[(.ref a1)] below meth c s₁ [] 0 0 := Stand.of_body Bd
  have e0 : s₁.heap = h0 := by rw [← hh, Bd.state]; rfl
  have N0 := Fr.nil n0
  have pre0 : ∀ t, Steps p.tables e below (s₁.setTop (mkF m 0 #[.val (.ref a1)] [])) t → Steps p.tables e below (s₁.setTop (entryFrame m #[(.ref a1)] 1)) t := fun t k => castTop (ef_3 m a1) k
  have K0 : Keep h0 h0 [] := Keep.refl h0 []
  obtain ⟨T1, X1, e1, st1⟩ := getF X0 hx hZ hown (host := "") (Or.inl (hw _ (List.mem_of_getElem? (i := 20) rfl))) Via.refl e0 F_1 (g := (mkF m 1 #[.val (.ref a1)] [(.ref a1)])) rfl rfl (hb hby d3_1)
  obtain ⟨fs, hr, hrun, hended, hW, hsame⟩ := X1.leave (v := some (.int w1)) (fun h => by rw [Bd.returns] at h; cases h)
  refine ⟨_, _, pre0 _ ?_, hrun, hended, _, _, rfl, ?_, ⟨_, rfl⟩, hW, hsame.mono (by decide) (by decide)⟩
  · show Steps p.tables e below (s₁.setTop (mkF m 0 #[.val (.ref a1)] [])) _
    refine XS.aloadN X0.here hx rfl (hb hby d3_0) rfl rfl ?_
    show Steps p.tables e below (s₁.setTop (mkF m 1 #[.val (.ref a1)] [(.ref a1)])) _
    refine st1 _ ?_
    show Steps p.tables e below (T1.setTop (mkF m 4 #[.val (.ref a1)] [(.int w1)])) _
    exact retI X1 hx Bd.returns (hb hby d3_4) hr
  · show Q3 Z a1 w1 h0 n0 _ T1.heap _
    rw [e1]
    exact ⟨rfl, N0, rfl⟩
theorem d2_0 : decode prog_27_method_5_code 0 = .ok (.aload_n 0, 1) := by decide +kernel
theorem d2_1 : decode prog_27_method_5_code 1 = .ok (.invokevirtual 85, 3) := by decide +kernel
theorem d2_4 : decode prog_27_method_5_code 4 = .ok (.getstatic 25, 3) := by decide +kernel
theorem d2_7 : decode prog_27_method_5_code 7 = .ok (.invokevirtual 85, 3) := by decide +kernel
theorem d2_10 : decode prog_27_method_5_code 10 = .ok (.if_icmp .gt 7, 3) := by decide +kernel
theorem d2_13 : decode prog_27_method_5_code 13 = .ok (.iconst 1, 1) := by decide +kernel
theorem d2_14 : decode prog_27_method_5_code 14 = .ok (.goto 4, 3) := by decide +kernel
theorem d2_17 : decode prog_27_method_5_code 17 = .ok (.iconst 0, 1) := by decide +kernel
theorem d2_18 : decode prog_27_method_5_code 18 = .ok (.ireturn, 1) := by decide +kernel
theorem pn_2 : plainName "com/example/moult/moult/schema/Schema$Type" = true := by first | (simp [plainName, overriddenIn]; done) | decide +kernel
theorem ef_2 (m : MethodId) (a1 : Addr) : entryFrame m #[(.ref a1)] 1 = mkF m 0 #[.val (.ref a1)] [] := by first | (simp [entryFrame, mkF, argsToLocals, Value.category]; done) | rfl
theorem pd_2 : parseMethodDescriptor "()I" = some ⟨[], some .int⟩ := by decide +kernel
def Q2 (Z : State) (a1 : Addr) (w1 : Int32) (a_STRING : Addr) (h0 : Heap) (n0 : Nat) (v : Option Value) (h : Heap) (L : List Loc) : Prop := v = some (.int (if (7 : Int32) < w1 then (0 : Int32) else (1 : Int32))) ∧ Fr n0 L ∧ h = h0
set_option maxRecDepth 65536 in
set_option maxHeartbeats 40000000 in
theorem rm2 (l : Launch) (Z : State) (a0 : Array Value) (hw : ∀ d ∈ tables_1, d.before a0 Z = true) (ws : List Jvm.Cond) (a1 : Addr) (w1 : Int32) (a_STRING : Addr) (h0 : Heap) (n0 : Nat) (Z0 : n0 ≤ h0.size) (E_1 : Exa Z h0 a1 "com/example/moult/moult/schema/Schema$Type") (F_1 : Fld Z h0 a1 "java/lang/Enum" "ordinal" "I" (.int w1)) (S_STRING : Sta Z h0 "com/example/moult/moult/schema/Schema$Type" "STRING" "Lcom/example/moult/moult/schema/Schema$Type;" (.ref a_STRING)) (E_2 : Exa Z h0 a_STRING "com/example/moult/moult/schema/Schema$Type") (F_2 : Fld Z h0 a_STRING "java/lang/Enum" "ordinal" "I" (.int (7 : Int32))) :
    MetFree l (⟨"com/example/moult/moult/schema/Schema$Type", "isPrimitive", "()Z"⟩ : MethodName) (head1 (Jvm.Cond.code (⟨"com/example/moult/moult/schema/Schema$Type", "isPrimitive", "()Z"⟩ : MethodName) prog_27_method_5_code 1 (some .boolean) :: ws) ({ frames := 1, cells := 0, slots := 0, locals := 13 } : Room)) (fun a U => a = #[(.ref a1)] ∧ Z.Warmed39 U.vm ∧ U.heap = h0) (fun _ _ _ _ _ => True) (fun _ U o U' => ∃ v L, o = .returned v ∧ Q2 Z a1 w1 a_STRING h0 n0 v U'.heap L ∧ FrameEnd U o U' L ({ frames := 1, cells := 0, slots := 0, locals := 13 } : Room).cells ({ frames := 1, cells := 0, slots := 0, locals := 13 } : Room).slots) := by
  refine MetFree.of_bodySF (plainFor_of_name pn_2) hisR ?_
  intro p e s m args below meth c s₁ Bd hml0 hP hK
  obtain ⟨rfl, hZ, hh⟩ := hP
  have hx := Bd.exec
  have hby := Bd.bytes
  have hml : c.maxLocals = 1 := hml0
  have hown : s.vm.findClass "com/example/moult/moult/schema/Schema$Type" = some m.cls := findClass_of_methodNamed Bd.named
  have hnm := (name_of_methodNamed Bd.named Bd.method).1
  have X0 : Stand p l e ({ frames := 1, cells := 0, slots := 0, locals := 13 } : Room) s m #[(.ref a1)] below meth c s₁ [] 0 0 := Stand.of_body Bd
  have e0 : s₁.heap = h0 := by rw [← hh, Bd.state]; rfl
  have N0 := Fr.nil n0
  have pre0 : ∀ t, Steps p.tables e below (s₁.setTop (mkF m 0 #[.val (.ref a1)] [])) t → Steps p.tables e below (s₁.setTop (entryFrame m #[(.ref a1)] 1)) t := fun t k => castTop (ef_2 m a1) k
  have K0 : Keep h0 h0 [] := Keep.refl h0 []
  obtain ⟨cq1, kq1, q1a, q1b, q1c⟩ := isOf hZ e0 E_1
  obtain ⟨_, _, ⟨T1, L1, k1, n1⟩, -, X1, ⟨Lc1, hQ1, l1, y1, z1⟩, st1⟩ := X0.virtualBackUp hx (x := (⟨"com/example/moult/moult/schema/Schema$Type", "ordinal", "()I"⟩ : MethodName)) (y := (⟨"java/lang/Enum", "ordinal", "()I"⟩ : MethodName)) (owner := "java/lang/Enum") hown (mvT hZ (hw _ (List.mem_of_getElem? (i := 13) rfl))) (mvT hZ (hw _ (List.mem_of_getElem? (i := 14) rfl))) (mvT hZ (hw _ (List.mem_of_getElem? (i := 15) rfl))) (by decide) (mvT hZ (hw _ (List.mem_of_getElem? (i := 17) rfl))) (mvT hZ (hw _ (List.mem_of_getElem? (i := 16) rfl))) (backOf (W := 0) (rm3 l Z a0 hw [] a1 w1 h0 n0 Z0 F_1) hZ (hw _ (List.mem_of_getElem? (i := 19) rfl)) (hw _ (List.mem_of_getElem? (i := 18) rfl)) (by decide) (by decide)) q1a q1c (g := (mkF m 1 #[.val (.ref a1)] [(.ref a1)])) rfl (by rw [hml]; rfl) (Steps.refl _) (argsL := []) (rest := []) (lenOf pd_2 rfl) rfl (by show 2 * 0 + _ ≤ _; exact Nat.le_of_eq rfl) (hb hby d2_1) (fun _ _ => ⟨rfl, e0, (by decide : 0 + 0 ≤ _), (by decide : 0 + 0 ≤ _)⟩)
  dsimp only [Pt.U, Pt.locs, Pt.cells, Pt.slots] at X1 l1 y1 z1 st1 hQ1
  subst l1 y1 z1
  obtain ⟨rfl, N1q, r1_0⟩ := hQ1
  have N1 := Fr.app N0 N1q
  obtain ⟨T2, X2, e2, st2⟩ := getS2 X1 hx hZ hown (host := "") (Or.inl (hw _ (List.mem_of_getElem? (i := 22) rfl))) Via.refl r1_0 S_STRING (g := (mkF m 4 #[.val (.ref a1)] [(.int w1)])) rfl (hb hby d2_4)
  obtain ⟨cq3, kq3, q3a, q3b, q3c⟩ := isOf hZ e2 E_2
  obtain ⟨_, _, ⟨T3, L3, k3, n3⟩, -, X3, ⟨Lc3, hQ3, l3, y3, z3⟩, st3⟩ := X2.virtualBackUp hx (x := (⟨"com/example/moult/moult/schema/Schema$Type", "ordinal", "()I"⟩ : MethodName)) (y := (⟨"java/lang/Enum", "ordinal", "()I"⟩ : MethodName)) (owner := "java/lang/Enum") hown (mvT hZ (hw _ (List.mem_of_getElem? (i := 13) rfl))) (mvT hZ (hw _ (List.mem_of_getElem? (i := 14) rfl))) (mvT hZ (hw _ (List.mem_of_getElem? (i := 15) rfl))) (by decide) (mvT hZ (hw _ (List.mem_of_getElem? (i := 17) rfl))) (mvT hZ (hw _ (List.mem_of_getElem? (i := 16) rfl))) (backOf (W := 1) (rm3 l Z a0 hw [] a_STRING (7 : Int32) h0 n0 Z0 F_2) hZ (hw _ (List.mem_of_getElem? (i := 19) rfl)) (hw _ (List.mem_of_getElem? (i := 18) rfl)) (by decide) (by decide)) q3a q3c (g := (mkF m 7 #[.val (.ref a1)] [(.ref a_STRING), (.int w1)])) rfl (by rw [hml]; rfl) (Steps.refl _) (argsL := []) (rest := [(.int w1)]) (lenOf pd_2 rfl) rfl (by show 2 * 0 + _ ≤ _; exact Nat.le_of_eq rfl) (hb hby d2_7) (fun _ _ => ⟨rfl, e2, (by decide : 0 + 0 ≤ _), (by decide : 0 + 0 ≤ _)⟩)
  dsimp only [Pt.U, Pt.locs, Pt.cells, Pt.slots] at X3 l3 y3 z3 st3 hQ3
  subst l3 y3 z3
  obtain ⟨rfl, N3q, r3_0⟩ := hQ3
  have N3 := Fr.app N1 N3q
  have c4 : Goes p e below s₁ (entryFrame m #[(.ref a1)] 1) T3 (mkF m 10 #[.val (.ref a1)] [(.int (7 : Int32)), (.int w1)]) := fun t kt => pre0 t (by
    show Steps p.tables e below (s₁.setTop (mkF m 0 #[.val (.ref a1)] [])) _
    refine XS.aloadN X0.here hx rfl (hb hby d2_0) rfl rfl ?_
    show Steps p.tables e below (s₁.setTop (mkF m 1 #[.val (.ref a1)] [(.ref a1)])) _
    refine st1.trans ?_
    show Steps p.tables e below (T1.setTop (mkF m 4 #[.val (.ref a1)] [(.int w1)])) _
    refine st2 _ ?_
    show Steps p.tables e below (T2.setTop (mkF m 7 #[.val (.ref a1)] [(.ref a_STRING), (.int w1)])) _
    refine st3.trans ?_
    show Steps p.tables e below (T3.setTop (mkF m 10 #[.val (.ref a1)] [(.int (7 : Int32)), (.int w1)])) _
    exact kt)
  by_cases hc5 : (7 : Int32) < w1
  · have hv : (0 : Int32) = (if (7 : Int32) < w1 then (0 : Int32) else (1 : Int32)) := by simp [hc5]
    obtain ⟨fs, hr, hrun, hended, hW, hsame⟩ := X3.leave (v := some (.int (0 : Int32))) (fun h => by rw [Bd.returns] at h; cases h)
    refine ⟨_, _, c4 _ ?_, hrun, hended, _, _, rfl, ?_, ⟨_, rfl⟩, hW, hsame.mono (by decide) (by decide)⟩
    · show Steps p.tables e below (T3.setTop (mkF m 10 #[.val (.ref a1)] [(.int (7 : Int32)), (.int w1)])) _
      refine XS.icmpYes X3.here hx rfl (pc0 := 10) (pc' := 17) rfl (hb hby d2_10) rfl (tlt hc5).2.2.1 (by decide) (by decide) ?_
      show Steps p.tables e below (T3.setTop (mkF m 17 #[.val (.ref a1)] [])) _
      refine XS.iconst X3.here hx rfl (hb hby d2_17) ?_
      show Steps p.tables e below (T3.setTop (mkF m 18 #[.val (.ref a1)] [(.int (0 : Int32))])) _
      exact retN X3 hx (t := .boolean) Bd.returns (by simp) (hb hby d2_18) hr
    · show Q2 Z a1 w1 a_STRING h0 n0 _ T3.heap _
      rw [r3_0]
      exact ⟨congrArg (fun z => some (Value.int z)) hv, N3, rfl⟩
  · have hv : (1 : Int32) = (if (7 : Int32) < w1 then (0 : Int32) else (1 : Int32)) := by simp [hc5]
    obtain ⟨fs, hr, hrun, hended, hW, hsame⟩ := X3.leave (v := some (.int (1 : Int32))) (fun h => by rw [Bd.returns] at h; cases h)
    refine ⟨_, _, c4 _ ?_, hrun, hended, _, _, rfl, ?_, ⟨_, rfl⟩, hW, hsame.mono (by decide) (by decide)⟩
    · show Steps p.tables e below (T3.setTop (mkF m 10 #[.val (.ref a1)] [(.int (7 : Int32)), (.int w1)])) _
      refine XS.icmpNo X3.here hx rfl (hb hby d2_10) rfl (flt hc5).2.2.1 ?_
      show Steps p.tables e below (T3.setTop (mkF m 13 #[.val (.ref a1)] [])) _
      refine XS.iconst X3.here hx rfl (hb hby d2_13) ?_
      show Steps p.tables e below (T3.setTop (mkF m 14 #[.val (.ref a1)] [(.int (1 : Int32))])) _
      refine XS.goto X3.here hx rfl (pc0 := 14) (pc' := 18) rfl (hb hby d2_14) (by decide) (by decide) ?_
      show Steps p.tables e below (T3.setTop (mkF m 18 #[.val (.ref a1)] [(.int (1 : Int32))])) _
      exact retN X3 hx (t := .boolean) Bd.returns (by simp) (hb hby d2_18) hr
    · show Q2 Z a1 w1 a_STRING h0 n0 _ T3.heap _
      rw [r3_0]
      exact ⟨congrArg (fun z => some (Value.int z)) hv, N3, rfl⟩
theorem d4_0 : decode method_3_code 0 = .ok (.aload_n 0, 1) := by decide +kernel
theorem d4_1 : decode method_3_code 1 = .ok (.getstatic 7, 3) := by decide +kernel
theorem d4_4 : decode method_3_code 4 = .ok (.if_acmp .eq 52, 3) := by decide +kernel
theorem d4_7 : decode method_3_code 7 = .ok (.aload_n 0, 1) := by decide +kernel
theorem d4_8 : decode method_3_code 8 = .ok (.getstatic 13, 3) := by decide +kernel
theorem d4_11 : decode method_3_code 11 = .ok (.if_acmp .eq 45, 3) := by decide +kernel
theorem d4_14 : decode method_3_code 14 = .ok (.aload_n 0, 1) := by decide +kernel
theorem d4_15 : decode method_3_code 15 = .ok (.getstatic 16, 3) := by decide +kernel
theorem d4_18 : decode method_3_code 18 = .ok (.if_acmp .eq 38, 3) := by decide +kernel
theorem d4_21 : decode method_3_code 21 = .ok (.aload_n 0, 1) := by decide +kernel
theorem d4_22 : decode method_3_code 22 = .ok (.getstatic 19, 3) := by decide +kernel
theorem d4_25 : decode method_3_code 25 = .ok (.if_acmp .eq 31, 3) := by decide +kernel
theorem d4_28 : decode method_3_code 28 = .ok (.aload_n 0, 1) := by decide +kernel
theorem d4_29 : decode method_3_code 29 = .ok (.getstatic 22, 3) := by decide +kernel
theorem d4_32 : decode method_3_code 32 = .ok (.if_acmp .eq 24, 3) := by decide +kernel
theorem d4_35 : decode method_3_code 35 = .ok (.aload_n 0, 1) := by decide +kernel
theorem d4_36 : decode method_3_code 36 = .ok (.getstatic 25, 3) := by decide +kernel
theorem d4_39 : decode method_3_code 39 = .ok (.if_acmp .eq 17, 3) := by decide +kernel
theorem d4_42 : decode method_3_code 42 = .ok (.aload_n 0, 1) := by decide +kernel
theorem d4_43 : decode method_3_code 43 = .ok (.getstatic 28, 3) := by decide +kernel
theorem d4_46 : decode method_3_code 46 = .ok (.if_acmp .eq 10, 3) := by decide +kernel
theorem d4_49 : decode method_3_code 49 = .ok (.aload_n 0, 1) := by decide +kernel
theorem d4_50 : decode method_3_code 50 = .ok (.getstatic 31, 3) := by decide +kernel
theorem d4_53 : decode method_3_code 53 = .ok (.if_acmp .ne 7, 3) := by decide +kernel
theorem d4_56 : decode method_3_code 56 = .ok (.iconst 1, 1) := by decide +kernel
theorem d4_57 : decode method_3_code 57 = .ok (.goto 4, 3) := by decide +kernel
theorem d4_60 : decode method_3_code 60 = .ok (.iconst 0, 1) := by decide +kernel
theorem d4_61 : decode method_3_code 61 = .ok (.ireturn, 1) := by decide +kernel
theorem pn_4 : plainName "com/example/moult/moult/schema/TypeIsPrimitivePinLaw" = true := by first | (simp [plainName, overriddenIn]; done) | decide +kernel
theorem ef_4 (m : MethodId) (a1 : Addr) : entryFrame m #[(.ref a1)] 1 = mkF m 0 #[.val (.ref a1)] [] := by first | (simp [entryFrame, mkF, argsToLocals, Value.category]; done) | rfl
def Q4 (Z : State) (a1 : Addr) (a_NULL : Addr) (a_BOOLEAN : Addr) (a_INT : Addr) (a_LONG : Addr) (a_FLOAT : Addr) (a_DOUBLE : Addr) (a_BYTES : Addr) (a_STRING : Addr) (h0 : Heap) (n0 : Nat) (v : Option Value) (h : Heap) (L : List Loc) : Prop := v = some (.int (own_exp a1 a_NULL a_BOOLEAN a_INT a_LONG a_FLOAT a_DOUBLE a_BYTES a_STRING)) ∧ Fr n0 L ∧ h = h0
set_option maxRecDepth 65536 in
set_option maxHeartbeats 40000000 in
theorem rm4 (l : Launch) (Z : State) (a0 : Array Value) (hw : ∀ d ∈ tables_1, d.before a0 Z = true) (ws : List Jvm.Cond) (a1 : Addr) (a_NULL : Addr) (a_BOOLEAN : Addr) (a_INT : Addr) (a_LONG : Addr) (a_FLOAT : Addr) (a_DOUBLE : Addr) (a_BYTES : Addr) (a_STRING : Addr) (h0 : Heap) (n0 : Nat) (Z0 : n0 ≤ h0.size) (S_NULL : Sta Z h0 "com/example/moult/moult/schema/Schema$Type" "NULL" "Lcom/example/moult/moult/schema/Schema$Type;" (.ref a_NULL)) (S_BOOLEAN : Sta Z h0 "com/example/moult/moult/schema/Schema$Type" "BOOLEAN" "Lcom/example/moult/moult/schema/Schema$Type;" (.ref a_BOOLEAN)) (S_INT : Sta Z h0 "com/example/moult/moult/schema/Schema$Type" "INT" "Lcom/example/moult/moult/schema/Schema$Type;" (.ref a_INT)) (S_LONG : Sta Z h0 "com/example/moult/moult/schema/Schema$Type" "LONG" "Lcom/example/moult/moult/schema/Schema$Type;" (.ref a_LONG)) (S_FLOAT : Sta Z h0 "com/example/moult/moult/schema/Schema$Type" "FLOAT" "Lcom/example/moult/moult/schema/Schema$Type;" (.ref a_FLOAT)) (S_DOUBLE : Sta Z h0 "com/example/moult/moult/schema/Schema$Type" "DOUBLE" "Lcom/example/moult/moult/schema/Schema$Type;" (.ref a_DOUBLE)) (S_BYTES : Sta Z h0 "com/example/moult/moult/schema/Schema$Type" "BYTES" "Lcom/example/moult/moult/schema/Schema$Type;" (.ref a_BYTES)) (S_STRING : Sta Z h0 "com/example/moult/moult/schema/Schema$Type" "STRING" "Lcom/example/moult/moult/schema/Schema$Type;" (.ref a_STRING)) :
    MetFree l (⟨"com/example/moult/moult/schema/TypeIsPrimitivePinLaw", "expected", "(Lcom/example/moult/moult/schema/Schema$Type;)Z"⟩ : MethodName) (head1 (Jvm.Cond.code (⟨"com/example/moult/moult/schema/TypeIsPrimitivePinLaw", "expected", "(Lcom/example/moult/moult/schema/Schema$Type;)Z"⟩ : MethodName) method_3_code 1 (some .boolean) :: ws) ({ frames := 0, cells := 0, slots := 0, locals := 0 } : Room)) (fun a U => a = #[(.ref a1)] ∧ Z.Warmed39 U.vm ∧ U.heap = h0) (fun _ _ _ _ _ => True) (fun _ U o U' => ∃ v L, o = .returned v ∧ Q4 Z a1 a_NULL a_BOOLEAN a_INT a_LONG a_FLOAT a_DOUBLE a_BYTES a_STRING h0 n0 v U'.heap L ∧ FrameEnd U o U' L ({ frames := 0, cells := 0, slots := 0, locals := 0 } : Room).cells ({ frames := 0, cells := 0, slots := 0, locals := 0 } : Room).slots) := by
  refine MetFree.of_bodySF (plainFor_of_name pn_4) hisR ?_
  intro p e s m args below meth c s₁ Bd hml0 hP hK
  obtain ⟨rfl, hZ, hh⟩ := hP
  have hx := Bd.exec
  have hby := Bd.bytes
  have hml : c.maxLocals = 1 := hml0
  have hown : s.vm.findClass "com/example/moult/moult/schema/TypeIsPrimitivePinLaw" = some m.cls := findClass_of_methodNamed Bd.named
  have hnm := (name_of_methodNamed Bd.named Bd.method).1
  have X0 : Stand p l e ({ frames := 0, cells := 0, slots := 0, locals := 0 } : Room) s m #[(.ref a1)] below meth c s₁ [] 0 0 := Stand.of_body Bd
  have e0 : s₁.heap = h0 := by rw [← hh, Bd.state]; rfl
  have N0 := Fr.nil n0
  have pre0 : ∀ t, Steps p.tables e below (s₁.setTop (mkF m 0 #[.val (.ref a1)] [])) t → Steps p.tables e below (s₁.setTop (entryFrame m #[(.ref a1)] 1)) t := fun t k => castTop (ef_4 m a1) k
  have K0 : Keep h0 h0 [] := Keep.refl h0 []
  obtain ⟨T1, X1, e1, st1⟩ := getS2 X0 hx hZ hown (host := "") (Or.inl (hw _ (List.mem_of_getElem? (i := 5) rfl))) Via.refl e0 S_NULL (g := (mkF m 1 #[.val (.ref a1)] [(.ref a1)])) rfl (hb hby d4_1)
  have c2 : Goes p e below s₁ (entryFrame m #[(.ref a1)] 1) T1 (mkF m 4 #[.val (.ref a1)] [(.ref a_NULL), (.ref a1)]) := fun t kt => pre0 t (by
    show Steps p.tables e below (s₁.setTop (mkF m 0 #[.val (.ref a1)] [])) _
    refine XS.aloadN X0.here hx rfl (hb hby d4_0) rfl rfl ?_
    show Steps p.tables e below (s₁.setTop (mkF m 1 #[.val (.ref a1)] [(.ref a1)])) _
    refine st1 _ ?_
    show Steps p.tables e below (T1.setTop (mkF m 4 #[.val (.ref a1)] [(.ref a_NULL), (.ref a1)])) _
    exact kt)
  by_cases hc3 : a1 = a_NULL
  · have hv : (1 : Int32) = own_exp a1 a_NULL a_BOOLEAN a_INT a_LONG a_FLOAT a_DOUBLE a_BYTES a_STRING := by simp [own_exp, hc3]
    obtain ⟨fs, hr, hrun, hended, hW, hsame⟩ := X1.leave (v := some (.int (1 : Int32))) (fun h => by rw [Bd.returns] at h; cases h)
    refine ⟨_, _, c2 _ ?_, hrun, hended, _, _, rfl, ?_, ⟨_, rfl⟩, hW, hsame.mono (by decide) (by decide)⟩
    · show Steps p.tables e below (T1.setTop (mkF m 4 #[.val (.ref a1)] [(.ref a_NULL), (.ref a1)])) _
      refine Jvm.RoadKit.acmp (g := (mkF m 4 #[.val (.ref a1)] [(.ref a_NULL), (.ref a1)])) X1 hx rfl rfl rfl (pc0 := 4) (pc' := 56) (same := true) rfl (hb hby d4_4) rfl (decide_eq_true (congrArg Value.ref hc3)) (by decide) (by decide) ?_
      show Steps p.tables e below (T1.setTop (mkF m 56 #[.val (.ref a1)] [])) _
      refine XS.iconst X1.here hx rfl (hb hby d4_56) ?_
      show Steps p.tables e below (T1.setTop (mkF m 57 #[.val (.ref a1)] [(.int (1 : Int32))])) _
      refine XS.goto X1.here hx rfl (pc0 := 57) (pc' := 61) rfl (hb hby d4_57) (by decide) (by decide) ?_
      show Steps p.tables e below (T1.setTop (mkF m 61 #[.val (.ref a1)] [(.int (1 : Int32))])) _
      exact retN X1 hx (t := .boolean) Bd.returns (by simp) (hb hby d4_61) hr
    · show Q4 Z a1 a_NULL a_BOOLEAN a_INT a_LONG a_FLOAT a_DOUBLE a_BYTES a_STRING h0 n0 _ T1.heap _
      rw [e1]
      exact ⟨congrArg (fun z => some (Value.int z)) hv, N0, rfl⟩
  · obtain ⟨T4, X4, e4, st4⟩ := getS2 X1 hx hZ hown (host := "") (Or.inl (hw _ (List.mem_of_getElem? (i := 29) rfl))) Via.refl e1 S_BOOLEAN (g := (mkF m 8 #[.val (.ref a1)] [(.ref a1)])) rfl (hb hby d4_8)
    have c5 : Goes p e below s₁ (entryFrame m #[(.ref a1)] 1) T4 (mkF m 11 #[.val (.ref a1)] [(.ref a_BOOLEAN), (.ref a1)]) := fun t kt => c2 t (by
      show Steps p.tables e below (T1.setTop (mkF m 4 #[.val (.ref a1)] [(.ref a_NULL), (.ref a1)])) _
      refine Jvm.RoadKit.acmp (g := (mkF m 4 #[.val (.ref a1)] [(.ref a_NULL), (.ref a1)])) X1 hx rfl rfl rfl (pc0 := 4) (pc' := 7) (same := false) rfl (hb hby d4_4) rfl (decide_eq_false fun q => hc3 (Value.ref.inj q)) (by decide) (by decide) ?_
      show Steps p.tables e below (T1.setTop (mkF m 7 #[.val (.ref a1)] [])) _
      refine XS.aloadN X1.here hx rfl (hb hby d4_7) rfl rfl ?_
      show Steps p.tables e below (T1.setTop (mkF m 8 #[.val (.ref a1)] [(.ref a1)])) _
      refine st4 _ ?_
      show Steps p.tables e below (T4.setTop (mkF m 11 #[.val (.ref a1)] [(.ref a_BOOLEAN), (.ref a1)])) _
      exact kt)
    by_cases hc6 : a1 = a_BOOLEAN
    · have hv : (1 : Int32) = own_exp a1 a_NULL a_BOOLEAN a_INT a_LONG a_FLOAT a_DOUBLE a_BYTES a_STRING := by simp [own_exp, hc3, hc6]
      obtain ⟨fs, hr, hrun, hended, hW, hsame⟩ := X4.leave (v := some (.int (1 : Int32))) (fun h => by rw [Bd.returns] at h; cases h)
      refine ⟨_, _, c5 _ ?_, hrun, hended, _, _, rfl, ?_, ⟨_, rfl⟩, hW, hsame.mono (by decide) (by decide)⟩
      · show Steps p.tables e below (T4.setTop (mkF m 11 #[.val (.ref a1)] [(.ref a_BOOLEAN), (.ref a1)])) _
        refine Jvm.RoadKit.acmp (g := (mkF m 11 #[.val (.ref a1)] [(.ref a_BOOLEAN), (.ref a1)])) X4 hx rfl rfl rfl (pc0 := 11) (pc' := 56) (same := true) rfl (hb hby d4_11) rfl (decide_eq_true (congrArg Value.ref hc6)) (by decide) (by decide) ?_
        show Steps p.tables e below (T4.setTop (mkF m 56 #[.val (.ref a1)] [])) _
        refine XS.iconst X4.here hx rfl (hb hby d4_56) ?_
        show Steps p.tables e below (T4.setTop (mkF m 57 #[.val (.ref a1)] [(.int (1 : Int32))])) _
        refine XS.goto X4.here hx rfl (pc0 := 57) (pc' := 61) rfl (hb hby d4_57) (by decide) (by decide) ?_
        show Steps p.tables e below (T4.setTop (mkF m 61 #[.val (.ref a1)] [(.int (1 : Int32))])) _
        exact retN X4 hx (t := .boolean) Bd.returns (by simp) (hb hby d4_61) hr
      · show Q4 Z a1 a_NULL a_BOOLEAN a_INT a_LONG a_FLOAT a_DOUBLE a_BYTES a_STRING h0 n0 _ T4.heap _
        rw [e4]
        exact ⟨congrArg (fun z => some (Value.int z)) hv, N0, rfl⟩
    · obtain ⟨T7, X7, e7, st7⟩ := getS2 X4 hx hZ hown (host := "") (Or.inl (hw _ (List.mem_of_getElem? (i := 31) rfl))) Via.refl e4 S_INT (g := (mkF m 15 #[.val (.ref a1)] [(.ref a1)])) rfl (hb hby d4_15)
      have c8 : Goes p e below s₁ (entryFrame m #[(.ref a1)] 1) T7 (mkF m 18 #[.val (.ref a1)] [(.ref a_INT), (.ref a1)]) := fun t kt => c5 t (by
        show Steps p.tables e below (T4.setTop (mkF m 11 #[.val (.ref a1)] [(.ref a_BOOLEAN), (.ref a1)])) _
        refine Jvm.RoadKit.acmp (g := (mkF m 11 #[.val (.ref a1)] [(.ref a_BOOLEAN), (.ref a1)])) X4 hx rfl rfl rfl (pc0 := 11) (pc' := 14) (same := false) rfl (hb hby d4_11) rfl (decide_eq_false fun q => hc6 (Value.ref.inj q)) (by decide) (by decide) ?_
        show Steps p.tables e below (T4.setTop (mkF m 14 #[.val (.ref a1)] [])) _
        refine XS.aloadN X4.here hx rfl (hb hby d4_14) rfl rfl ?_
        show Steps p.tables e below (T4.setTop (mkF m 15 #[.val (.ref a1)] [(.ref a1)])) _
        refine st7 _ ?_
        show Steps p.tables e below (T7.setTop (mkF m 18 #[.val (.ref a1)] [(.ref a_INT), (.ref a1)])) _
        exact kt)
      by_cases hc9 : a1 = a_INT
      · have hv : (1 : Int32) = own_exp a1 a_NULL a_BOOLEAN a_INT a_LONG a_FLOAT a_DOUBLE a_BYTES a_STRING := by simp [own_exp, hc3, hc6, hc9]
        obtain ⟨fs, hr, hrun, hended, hW, hsame⟩ := X7.leave (v := some (.int (1 : Int32))) (fun h => by rw [Bd.returns] at h; cases h)
        refine ⟨_, _, c8 _ ?_, hrun, hended, _, _, rfl, ?_, ⟨_, rfl⟩, hW, hsame.mono (by decide) (by decide)⟩
        · show Steps p.tables e below (T7.setTop (mkF m 18 #[.val (.ref a1)] [(.ref a_INT), (.ref a1)])) _
          refine Jvm.RoadKit.acmp (g := (mkF m 18 #[.val (.ref a1)] [(.ref a_INT), (.ref a1)])) X7 hx rfl rfl rfl (pc0 := 18) (pc' := 56) (same := true) rfl (hb hby d4_18) rfl (decide_eq_true (congrArg Value.ref hc9)) (by decide) (by decide) ?_
          show Steps p.tables e below (T7.setTop (mkF m 56 #[.val (.ref a1)] [])) _
          refine XS.iconst X7.here hx rfl (hb hby d4_56) ?_
          show Steps p.tables e below (T7.setTop (mkF m 57 #[.val (.ref a1)] [(.int (1 : Int32))])) _
          refine XS.goto X7.here hx rfl (pc0 := 57) (pc' := 61) rfl (hb hby d4_57) (by decide) (by decide) ?_
          show Steps p.tables e below (T7.setTop (mkF m 61 #[.val (.ref a1)] [(.int (1 : Int32))])) _
          exact retN X7 hx (t := .boolean) Bd.returns (by simp) (hb hby d4_61) hr
        · show Q4 Z a1 a_NULL a_BOOLEAN a_INT a_LONG a_FLOAT a_DOUBLE a_BYTES a_STRING h0 n0 _ T7.heap _
          rw [e7]
          exact ⟨congrArg (fun z => some (Value.int z)) hv, N0, rfl⟩
      · obtain ⟨T10, X10, e10, st10⟩ := getS2 X7 hx hZ hown (host := "") (Or.inl (hw _ (List.mem_of_getElem? (i := 27) rfl))) Via.refl e7 S_LONG (g := (mkF m 22 #[.val (.ref a1)] [(.ref a1)])) rfl (hb hby d4_22)
        have c11 : Goes p e below s₁ (entryFrame m #[(.ref a1)] 1) T10 (mkF m 25 #[.val (.ref a1)] [(.ref a_LONG), (.ref a1)]) := fun t kt => c8 t (by
          show Steps p.tables e below (T7.setTop (mkF m 18 #[.val (.ref a1)] [(.ref a_INT), (.ref a1)])) _
          refine Jvm.RoadKit.acmp (g := (mkF m 18 #[.val (.ref a1)] [(.ref a_INT), (.ref a1)])) X7 hx rfl rfl rfl (pc0 := 18) (pc' := 21) (same := false) rfl (hb hby d4_18) rfl (decide_eq_false fun q => hc9 (Value.ref.inj q)) (by decide) (by decide) ?_
          show Steps p.tables e below (T7.setTop (mkF m 21 #[.val (.ref a1)] [])) _
          refine XS.aloadN X7.here hx rfl (hb hby d4_21) rfl rfl ?_
          show Steps p.tables e below (T7.setTop (mkF m 22 #[.val (.ref a1)] [(.ref a1)])) _
          refine st10 _ ?_
          show Steps p.tables e below (T10.setTop (mkF m 25 #[.val (.ref a1)] [(.ref a_LONG), (.ref a1)])) _
          exact kt)
        by_cases hc12 : a1 = a_LONG
        · have hv : (1 : Int32) = own_exp a1 a_NULL a_BOOLEAN a_INT a_LONG a_FLOAT a_DOUBLE a_BYTES a_STRING := by simp [own_exp, hc3, hc6, hc9, hc12]
          obtain ⟨fs, hr, hrun, hended, hW, hsame⟩ := X10.leave (v := some (.int (1 : Int32))) (fun h => by rw [Bd.returns] at h; cases h)
          refine ⟨_, _, c11 _ ?_, hrun, hended, _, _, rfl, ?_, ⟨_, rfl⟩, hW, hsame.mono (by decide) (by decide)⟩
          · show Steps p.tables e below (T10.setTop (mkF m 25 #[.val (.ref a1)] [(.ref a_LONG), (.ref a1)])) _
            refine Jvm.RoadKit.acmp (g := (mkF m 25 #[.val (.ref a1)] [(.ref a_LONG), (.ref a1)])) X10 hx rfl rfl rfl (pc0 := 25) (pc' := 56) (same := true) rfl (hb hby d4_25) rfl (decide_eq_true (congrArg Value.ref hc12)) (by decide) (by decide) ?_
            show Steps p.tables e below (T10.setTop (mkF m 56 #[.val (.ref a1)] [])) _
            refine XS.iconst X10.here hx rfl (hb hby d4_56) ?_
            show Steps p.tables e below (T10.setTop (mkF m 57 #[.val (.ref a1)] [(.int (1 : Int32))])) _
            refine XS.goto X10.here hx rfl (pc0 := 57) (pc' := 61) rfl (hb hby d4_57) (by decide) (by decide) ?_
            show Steps p.tables e below (T10.setTop (mkF m 61 #[.val (.ref a1)] [(.int (1 : Int32))])) _
            exact retN X10 hx (t := .boolean) Bd.returns (by simp) (hb hby d4_61) hr
          · show Q4 Z a1 a_NULL a_BOOLEAN a_INT a_LONG a_FLOAT a_DOUBLE a_BYTES a_STRING h0 n0 _ T10.heap _
            rw [e10]
            exact ⟨congrArg (fun z => some (Value.int z)) hv, N0, rfl⟩
        · obtain ⟨T13, X13, e13, st13⟩ := getS2 X10 hx hZ hown (host := "") (Or.inl (hw _ (List.mem_of_getElem? (i := 35) rfl))) Via.refl e10 S_FLOAT (g := (mkF m 29 #[.val (.ref a1)] [(.ref a1)])) rfl (hb hby d4_29)
          have c14 : Goes p e below s₁ (entryFrame m #[(.ref a1)] 1) T13 (mkF m 32 #[.val (.ref a1)] [(.ref a_FLOAT), (.ref a1)]) := fun t kt => c11 t (by
            show Steps p.tables e below (T10.setTop (mkF m 25 #[.val (.ref a1)] [(.ref a_LONG), (.ref a1)])) _
            refine Jvm.RoadKit.acmp (g := (mkF m 25 #[.val (.ref a1)] [(.ref a_LONG), (.ref a1)])) X10 hx rfl rfl rfl (pc0 := 25) (pc' := 28) (same := false) rfl (hb hby d4_25) rfl (decide_eq_false fun q => hc12 (Value.ref.inj q)) (by decide) (by decide) ?_
            show Steps p.tables e below (T10.setTop (mkF m 28 #[.val (.ref a1)] [])) _
            refine XS.aloadN X10.here hx rfl (hb hby d4_28) rfl rfl ?_
            show Steps p.tables e below (T10.setTop (mkF m 29 #[.val (.ref a1)] [(.ref a1)])) _
            refine st13 _ ?_
            show Steps p.tables e below (T13.setTop (mkF m 32 #[.val (.ref a1)] [(.ref a_FLOAT), (.ref a1)])) _
            exact kt)
          by_cases hc15 : a1 = a_FLOAT
          · have hv : (1 : Int32) = own_exp a1 a_NULL a_BOOLEAN a_INT a_LONG a_FLOAT a_DOUBLE a_BYTES a_STRING := by simp [own_exp, hc3, hc6, hc9, hc12, hc15]
            obtain ⟨fs, hr, hrun, hended, hW, hsame⟩ := X13.leave (v := some (.int (1 : Int32))) (fun h => by rw [Bd.returns] at h; cases h)
            refine ⟨_, _, c14 _ ?_, hrun, hended, _, _, rfl, ?_, ⟨_, rfl⟩, hW, hsame.mono (by decide) (by decide)⟩
            · show Steps p.tables e below (T13.setTop (mkF m 32 #[.val (.ref a1)] [(.ref a_FLOAT), (.ref a1)])) _
              refine Jvm.RoadKit.acmp (g := (mkF m 32 #[.val (.ref a1)] [(.ref a_FLOAT), (.ref a1)])) X13 hx rfl rfl rfl (pc0 := 32) (pc' := 56) (same := true) rfl (hb hby d4_32) rfl (decide_eq_true (congrArg Value.ref hc15)) (by decide) (by decide) ?_
              show Steps p.tables e below (T13.setTop (mkF m 56 #[.val (.ref a1)] [])) _
              refine XS.iconst X13.here hx rfl (hb hby d4_56) ?_
              show Steps p.tables e below (T13.setTop (mkF m 57 #[.val (.ref a1)] [(.int (1 : Int32))])) _
              refine XS.goto X13.here hx rfl (pc0 := 57) (pc' := 61) rfl (hb hby d4_57) (by decide) (by decide) ?_
              show Steps p.tables e below (T13.setTop (mkF m 61 #[.val (.ref a1)] [(.int (1 : Int32))])) _
              exact retN X13 hx (t := .boolean) Bd.returns (by simp) (hb hby d4_61) hr
            · show Q4 Z a1 a_NULL a_BOOLEAN a_INT a_LONG a_FLOAT a_DOUBLE a_BYTES a_STRING h0 n0 _ T13.heap _
              rw [e13]
              exact ⟨congrArg (fun z => some (Value.int z)) hv, N0, rfl⟩
          · obtain ⟨T16, X16, e16, st16⟩ := getS2 X13 hx hZ hown (host := "") (Or.inl (hw _ (List.mem_of_getElem? (i := 37) rfl))) Via.refl e13 S_DOUBLE (g := (mkF m 36 #[.val (.ref a1)] [(.ref a1)])) rfl (hb hby d4_36)
            have c17 : Goes p e below s₁ (entryFrame m #[(.ref a1)] 1) T16 (mkF m 39 #[.val (.ref a1)] [(.ref a_DOUBLE), (.ref a1)]) := fun t kt => c14 t (by
              show Steps p.tables e below (T13.setTop (mkF m 32 #[.val (.ref a1)] [(.ref a_FLOAT), (.ref a1)])) _
              refine Jvm.RoadKit.acmp (g := (mkF m 32 #[.val (.ref a1)] [(.ref a_FLOAT), (.ref a1)])) X13 hx rfl rfl rfl (pc0 := 32) (pc' := 35) (same := false) rfl (hb hby d4_32) rfl (decide_eq_false fun q => hc15 (Value.ref.inj q)) (by decide) (by decide) ?_
              show Steps p.tables e below (T13.setTop (mkF m 35 #[.val (.ref a1)] [])) _
              refine XS.aloadN X13.here hx rfl (hb hby d4_35) rfl rfl ?_
              show Steps p.tables e below (T13.setTop (mkF m 36 #[.val (.ref a1)] [(.ref a1)])) _
              refine st16 _ ?_
              show Steps p.tables e below (T16.setTop (mkF m 39 #[.val (.ref a1)] [(.ref a_DOUBLE), (.ref a1)])) _
              exact kt)
            by_cases hc18 : a1 = a_DOUBLE
            · have hv : (1 : Int32) = own_exp a1 a_NULL a_BOOLEAN a_INT a_LONG a_FLOAT a_DOUBLE a_BYTES a_STRING := by simp [own_exp, hc3, hc6, hc9, hc12, hc15, hc18]
              obtain ⟨fs, hr, hrun, hended, hW, hsame⟩ := X16.leave (v := some (.int (1 : Int32))) (fun h => by rw [Bd.returns] at h; cases h)
              refine ⟨_, _, c17 _ ?_, hrun, hended, _, _, rfl, ?_, ⟨_, rfl⟩, hW, hsame.mono (by decide) (by decide)⟩
              · show Steps p.tables e below (T16.setTop (mkF m 39 #[.val (.ref a1)] [(.ref a_DOUBLE), (.ref a1)])) _
                refine Jvm.RoadKit.acmp (g := (mkF m 39 #[.val (.ref a1)] [(.ref a_DOUBLE), (.ref a1)])) X16 hx rfl rfl rfl (pc0 := 39) (pc' := 56) (same := true) rfl (hb hby d4_39) rfl (decide_eq_true (congrArg Value.ref hc18)) (by decide) (by decide) ?_
                show Steps p.tables e below (T16.setTop (mkF m 56 #[.val (.ref a1)] [])) _
                refine XS.iconst X16.here hx rfl (hb hby d4_56) ?_
                show Steps p.tables e below (T16.setTop (mkF m 57 #[.val (.ref a1)] [(.int (1 : Int32))])) _
                refine XS.goto X16.here hx rfl (pc0 := 57) (pc' := 61) rfl (hb hby d4_57) (by decide) (by decide) ?_
                show Steps p.tables e below (T16.setTop (mkF m 61 #[.val (.ref a1)] [(.int (1 : Int32))])) _
                exact retN X16 hx (t := .boolean) Bd.returns (by simp) (hb hby d4_61) hr
              · show Q4 Z a1 a_NULL a_BOOLEAN a_INT a_LONG a_FLOAT a_DOUBLE a_BYTES a_STRING h0 n0 _ T16.heap _
                rw [e16]
                exact ⟨congrArg (fun z => some (Value.int z)) hv, N0, rfl⟩
            · obtain ⟨T19, X19, e19, st19⟩ := getS2 X16 hx hZ hown (host := "") (Or.inl (hw _ (List.mem_of_getElem? (i := 39) rfl))) Via.refl e16 S_BYTES (g := (mkF m 43 #[.val (.ref a1)] [(.ref a1)])) rfl (hb hby d4_43)
              have c20 : Goes p e below s₁ (entryFrame m #[(.ref a1)] 1) T19 (mkF m 46 #[.val (.ref a1)] [(.ref a_BYTES), (.ref a1)]) := fun t kt => c17 t (by
                show Steps p.tables e below (T16.setTop (mkF m 39 #[.val (.ref a1)] [(.ref a_DOUBLE), (.ref a1)])) _
                refine Jvm.RoadKit.acmp (g := (mkF m 39 #[.val (.ref a1)] [(.ref a_DOUBLE), (.ref a1)])) X16 hx rfl rfl rfl (pc0 := 39) (pc' := 42) (same := false) rfl (hb hby d4_39) rfl (decide_eq_false fun q => hc18 (Value.ref.inj q)) (by decide) (by decide) ?_
                show Steps p.tables e below (T16.setTop (mkF m 42 #[.val (.ref a1)] [])) _
                refine XS.aloadN X16.here hx rfl (hb hby d4_42) rfl rfl ?_
                show Steps p.tables e below (T16.setTop (mkF m 43 #[.val (.ref a1)] [(.ref a1)])) _
                refine st19 _ ?_
                show Steps p.tables e below (T19.setTop (mkF m 46 #[.val (.ref a1)] [(.ref a_BYTES), (.ref a1)])) _
                exact kt)
              by_cases hc21 : a1 = a_BYTES
              · have hv : (1 : Int32) = own_exp a1 a_NULL a_BOOLEAN a_INT a_LONG a_FLOAT a_DOUBLE a_BYTES a_STRING := by simp [own_exp, hc3, hc6, hc9, hc12, hc15, hc18, hc21]
                obtain ⟨fs, hr, hrun, hended, hW, hsame⟩ := X19.leave (v := some (.int (1 : Int32))) (fun h => by rw [Bd.returns] at h; cases h)
                refine ⟨_, _, c20 _ ?_, hrun, hended, _, _, rfl, ?_, ⟨_, rfl⟩, hW, hsame.mono (by decide) (by decide)⟩
                · show Steps p.tables e below (T19.setTop (mkF m 46 #[.val (.ref a1)] [(.ref a_BYTES), (.ref a1)])) _
                  refine Jvm.RoadKit.acmp (g := (mkF m 46 #[.val (.ref a1)] [(.ref a_BYTES), (.ref a1)])) X19 hx rfl rfl rfl (pc0 := 46) (pc' := 56) (same := true) rfl (hb hby d4_46) rfl (decide_eq_true (congrArg Value.ref hc21)) (by decide) (by decide) ?_
                  show Steps p.tables e below (T19.setTop (mkF m 56 #[.val (.ref a1)] [])) _
                  refine XS.iconst X19.here hx rfl (hb hby d4_56) ?_
                  show Steps p.tables e below (T19.setTop (mkF m 57 #[.val (.ref a1)] [(.int (1 : Int32))])) _
                  refine XS.goto X19.here hx rfl (pc0 := 57) (pc' := 61) rfl (hb hby d4_57) (by decide) (by decide) ?_
                  show Steps p.tables e below (T19.setTop (mkF m 61 #[.val (.ref a1)] [(.int (1 : Int32))])) _
                  exact retN X19 hx (t := .boolean) Bd.returns (by simp) (hb hby d4_61) hr
                · show Q4 Z a1 a_NULL a_BOOLEAN a_INT a_LONG a_FLOAT a_DOUBLE a_BYTES a_STRING h0 n0 _ T19.heap _
                  rw [e19]
                  exact ⟨congrArg (fun z => some (Value.int z)) hv, N0, rfl⟩
              · obtain ⟨T22, X22, e22, st22⟩ := getS2 X19 hx hZ hown (host := "") (Or.inl (hw _ (List.mem_of_getElem? (i := 41) rfl))) Via.refl e19 S_STRING (g := (mkF m 50 #[.val (.ref a1)] [(.ref a1)])) rfl (hb hby d4_50)
                have c23 : Goes p e below s₁ (entryFrame m #[(.ref a1)] 1) T22 (mkF m 53 #[.val (.ref a1)] [(.ref a_STRING), (.ref a1)]) := fun t kt => c20 t (by
                  show Steps p.tables e below (T19.setTop (mkF m 46 #[.val (.ref a1)] [(.ref a_BYTES), (.ref a1)])) _
                  refine Jvm.RoadKit.acmp (g := (mkF m 46 #[.val (.ref a1)] [(.ref a_BYTES), (.ref a1)])) X19 hx rfl rfl rfl (pc0 := 46) (pc' := 49) (same := false) rfl (hb hby d4_46) rfl (decide_eq_false fun q => hc21 (Value.ref.inj q)) (by decide) (by decide) ?_
                  show Steps p.tables e below (T19.setTop (mkF m 49 #[.val (.ref a1)] [])) _
                  refine XS.aloadN X19.here hx rfl (hb hby d4_49) rfl rfl ?_
                  show Steps p.tables e below (T19.setTop (mkF m 50 #[.val (.ref a1)] [(.ref a1)])) _
                  refine st22 _ ?_
                  show Steps p.tables e below (T22.setTop (mkF m 53 #[.val (.ref a1)] [(.ref a_STRING), (.ref a1)])) _
                  exact kt)
                by_cases hc24 : a1 = a_STRING
                · have hv : (1 : Int32) = own_exp a1 a_NULL a_BOOLEAN a_INT a_LONG a_FLOAT a_DOUBLE a_BYTES a_STRING := by simp [own_exp, hc3, hc6, hc9, hc12, hc15, hc18, hc21, hc24]
                  obtain ⟨fs, hr, hrun, hended, hW, hsame⟩ := X22.leave (v := some (.int (1 : Int32))) (fun h => by rw [Bd.returns] at h; cases h)
                  refine ⟨_, _, c23 _ ?_, hrun, hended, _, _, rfl, ?_, ⟨_, rfl⟩, hW, hsame.mono (by decide) (by decide)⟩
                  · show Steps p.tables e below (T22.setTop (mkF m 53 #[.val (.ref a1)] [(.ref a_STRING), (.ref a1)])) _
                    refine Jvm.RoadKit.acmp (g := (mkF m 53 #[.val (.ref a1)] [(.ref a_STRING), (.ref a1)])) X22 hx rfl rfl rfl (pc0 := 53) (pc' := 56) (same := true) rfl (hb hby d4_53) rfl (decide_eq_true (congrArg Value.ref hc24)) (by decide) (by decide) ?_
                    show Steps p.tables e below (T22.setTop (mkF m 56 #[.val (.ref a1)] [])) _
                    refine XS.iconst X22.here hx rfl (hb hby d4_56) ?_
                    show Steps p.tables e below (T22.setTop (mkF m 57 #[.val (.ref a1)] [(.int (1 : Int32))])) _
                    refine XS.goto X22.here hx rfl (pc0 := 57) (pc' := 61) rfl (hb hby d4_57) (by decide) (by decide) ?_
                    show Steps p.tables e below (T22.setTop (mkF m 61 #[.val (.ref a1)] [(.int (1 : Int32))])) _
                    exact retN X22 hx (t := .boolean) Bd.returns (by simp) (hb hby d4_61) hr
                  · show Q4 Z a1 a_NULL a_BOOLEAN a_INT a_LONG a_FLOAT a_DOUBLE a_BYTES a_STRING h0 n0 _ T22.heap _
                    rw [e22]
                    exact ⟨congrArg (fun z => some (Value.int z)) hv, N0, rfl⟩
                · have hv : (0 : Int32) = own_exp a1 a_NULL a_BOOLEAN a_INT a_LONG a_FLOAT a_DOUBLE a_BYTES a_STRING := by simp [own_exp, hc3, hc6, hc9, hc12, hc15, hc18, hc21, hc24]
                  obtain ⟨fs, hr, hrun, hended, hW, hsame⟩ := X22.leave (v := some (.int (0 : Int32))) (fun h => by rw [Bd.returns] at h; cases h)
                  refine ⟨_, _, c23 _ ?_, hrun, hended, _, _, rfl, ?_, ⟨_, rfl⟩, hW, hsame.mono (by decide) (by decide)⟩
                  · show Steps p.tables e below (T22.setTop (mkF m 53 #[.val (.ref a1)] [(.ref a_STRING), (.ref a1)])) _
                    refine Jvm.RoadKit.acmp (g := (mkF m 53 #[.val (.ref a1)] [(.ref a_STRING), (.ref a1)])) X22 hx rfl rfl rfl (pc0 := 53) (pc' := 60) (same := false) rfl (hb hby d4_53) rfl (decide_eq_false fun q => hc24 (Value.ref.inj q)) (by decide) (by decide) ?_
                    show Steps p.tables e below (T22.setTop (mkF m 60 #[.val (.ref a1)] [])) _
                    refine XS.iconst X22.here hx rfl (hb hby d4_60) ?_
                    show Steps p.tables e below (T22.setTop (mkF m 61 #[.val (.ref a1)] [(.int (0 : Int32))])) _
                    exact retN X22 hx (t := .boolean) Bd.returns (by simp) (hb hby d4_61) hr
                  · show Q4 Z a1 a_NULL a_BOOLEAN a_INT a_LONG a_FLOAT a_DOUBLE a_BYTES a_STRING h0 n0 _ T22.heap _
                    rw [e22]
                    exact ⟨congrArg (fun z => some (Value.int z)) hv, N0, rfl⟩
theorem pn_0 : plainName "com/example/moult/moult/schema/TypeIsPrimitivePinLaw" = true := by first | (simp [plainName, overriddenIn]; done) | decide +kernel
theorem ef_0 (m : MethodId) (p1 : Int32) : entryFrame m #[(.int p1)] maxLocals = mkF m 0 #[.val (.int p1), .unset, .unset] [] := by first | (simp [entryFrame, mkF, argsToLocals, Value.category, maxLocals]; done) | rfl
theorem pd_0 : parseMethodDescriptor "(I)Lcom/example/moult/moult/schema/Schema$Type;" = some ⟨[.int], some (.object "com/example/moult/moult/schema/Schema$Type")⟩ := by decide +kernel
theorem pd_1 : parseMethodDescriptor "()Z" = some ⟨[], some .boolean⟩ := by decide +kernel
theorem pd_3 : parseMethodDescriptor "(Lcom/example/moult/moult/schema/Schema$Type;)Z" = some ⟨[(.object "com/example/moult/moult/schema/Schema$Type")], some .boolean⟩ := by decide +kernel
def Q0 (Z : State) (p1 : Int32) (a_NULL : Addr) (a_BOOLEAN : Addr) (a_INT : Addr) (a_LONG : Addr) (a_FLOAT : Addr) (a_DOUBLE : Addr) (a_BYTES : Addr) (a_STRING : Addr) (a_RECORD : Addr) (a_ENUM : Addr) (a_ARRAY : Addr) (a_MAP : Addr) (a_UNION : Addr) (a_FIXED : Addr) (tt : Addr) (oo : Int32) (h0 : Heap) (n0 : Nat) (v : Option Value) (h : Heap) (L : List Loc) : Prop := v = some (.int (1 : Int32)) ∧ Fr n0 L
set_option maxRecDepth 65536 in
set_option maxHeartbeats 40000000 in
theorem rm0 (l : Launch) (Z : State) (a0 : Array Value) (hw : ∀ d ∈ tables_1, d.before a0 Z = true) (ws : List Jvm.Cond) (p1 : Int32) (a_NULL : Addr) (a_BOOLEAN : Addr) (a_INT : Addr) (a_LONG : Addr) (a_FLOAT : Addr) (a_DOUBLE : Addr) (a_BYTES : Addr) (a_STRING : Addr) (a_RECORD : Addr) (a_ENUM : Addr) (a_ARRAY : Addr) (a_MAP : Addr) (a_UNION : Addr) (a_FIXED : Addr) (tt : Addr) (oo : Int32) (h0 : Heap) (n0 : Nat) (Z0 : n0 ≤ h0.size) (S_NULL : Sta Z h0 "com/example/moult/moult/schema/Schema$Type" "NULL" "Lcom/example/moult/moult/schema/Schema$Type;" (.ref a_NULL)) (S_BOOLEAN : Sta Z h0 "com/example/moult/moult/schema/Schema$Type" "BOOLEAN" "Lcom/example/moult/moult/schema/Schema$Type;" (.ref a_BOOLEAN)) (S_INT : Sta Z h0 "com/example/moult/moult/schema/Schema$Type" "INT" "Lcom/example/moult/moult/schema/Schema$Type;" (.ref a_INT)) (S_LONG : Sta Z h0 "com/example/moult/moult/schema/Schema$Type" "LONG" "Lcom/example/moult/moult/schema/Schema$Type;" (.ref a_LONG)) (S_FLOAT : Sta Z h0 "com/example/moult/moult/schema/Schema$Type" "FLOAT" "Lcom/example/moult/moult/schema/Schema$Type;" (.ref a_FLOAT)) (S_DOUBLE : Sta Z h0 "com/example/moult/moult/schema/Schema$Type" "DOUBLE" "Lcom/example/moult/moult/schema/Schema$Type;" (.ref a_DOUBLE)) (S_BYTES : Sta Z h0 "com/example/moult/moult/schema/Schema$Type" "BYTES" "Lcom/example/moult/moult/schema/Schema$Type;" (.ref a_BYTES)) (S_STRING : Sta Z h0 "com/example/moult/moult/schema/Schema$Type" "STRING" "Lcom/example/moult/moult/schema/Schema$Type;" (.ref a_STRING)) (S_RECORD : Sta Z h0 "com/example/moult/moult/schema/Schema$Type" "RECORD" "Lcom/example/moult/moult/schema/Schema$Type;" (.ref a_RECORD)) (S_ENUM : Sta Z h0 "com/example/moult/moult/schema/Schema$Type" "ENUM" "Lcom/example/moult/moult/schema/Schema$Type;" (.ref a_ENUM)) (S_ARRAY : Sta Z h0 "com/example/moult/moult/schema/Schema$Type" "ARRAY" "Lcom/example/moult/moult/schema/Schema$Type;" (.ref a_ARRAY)) (S_MAP : Sta Z h0 "com/example/moult/moult/schema/Schema$Type" "MAP" "Lcom/example/moult/moult/schema/Schema$Type;" (.ref a_MAP)) (S_UNION : Sta Z h0 "com/example/moult/moult/schema/Schema$Type" "UNION" "Lcom/example/moult/moult/schema/Schema$Type;" (.ref a_UNION)) (S_FIXED : Sta Z h0 "com/example/moult/moult/schema/Schema$Type" "FIXED" "Lcom/example/moult/moult/schema/Schema$Type;" (.ref a_FIXED)) (E_STRING : Exa Z h0 a_STRING "com/example/moult/moult/schema/Schema$Type") (F_STRING : Fld Z h0 a_STRING "java/lang/Enum" "ordinal" "I" (.int (7 : Int32))) (hpk : own_pick ((p1 &&& (2147483647 : Int32)) % (14 : Int32)) a_NULL a_BOOLEAN a_INT a_LONG a_FLOAT a_DOUBLE a_BYTES a_STRING a_RECORD a_ENUM a_ARRAY a_MAP a_UNION a_FIXED = tt) (E_t : Exa Z h0 tt "com/example/moult/moult/schema/Schema$Type") (F_t : Fld Z h0 tt "java/lang/Enum" "ordinal" "I" (.int oo)) (hE : (if (7 : Int32) < oo then (0 : Int32) else (1 : Int32)) = (own_exp tt a_NULL a_BOOLEAN a_INT a_LONG a_FLOAT a_DOUBLE a_BYTES a_STRING)) :
    MetFree l x (head1 (Jvm.Cond.code x code maxLocals ret :: ws) room_1) (fun a U => a = #[(.int p1)] ∧ Z.Warmed39 U.vm ∧ U.heap = h0) (fun _ _ _ _ _ => True) (fun _ U o U' => ∃ v L, o = .returned v ∧ Q0 Z p1 a_NULL a_BOOLEAN a_INT a_LONG a_FLOAT a_DOUBLE a_BYTES a_STRING a_RECORD a_ENUM a_ARRAY a_MAP a_UNION a_FIXED tt oo h0 n0 v U'.heap L ∧ FrameEnd U o U' L room_1.cells room_1.slots) := by
  refine MetFree.of_bodySF (plainFor_of_name pn_0) hisR ?_
  intro p e s m args below meth c s₁ Bd hml0 hP hK
  obtain ⟨rfl, hZ, hh⟩ := hP
  have hx := Bd.exec
  have hby := Bd.bytes
  have hml : c.maxLocals = 3 := hml0
  have hown : s.vm.findClass "com/example/moult/moult/schema/TypeIsPrimitivePinLaw" = some m.cls := findClass_of_methodNamed Bd.named
  have hnm := (name_of_methodNamed Bd.named Bd.method).1
  have X0 : Stand p l e room_1 s m #[(.int p1)] below meth c s₁ [] 0 0 := Stand.of_body Bd
  have e0 : s₁.heap = h0 := by rw [← hh, Bd.state]; rfl
  have N0 := Fr.nil n0
  have pre0 : ∀ t, Steps p.tables e below (s₁.setTop (mkF m 0 #[.val (.int p1), .unset, .unset] [])) t → Steps p.tables e below (s₁.setTop (entryFrame m #[(.int p1)] maxLocals)) t := fun t k => castTop (ef_0 m p1) k
  have K0 : Keep h0 h0 [] := Keep.refl h0 []
  obtain ⟨_, _, ⟨T1, L1, k1, n1⟩, -, X1, ⟨Lc1, hQ1, l1, y1, z1⟩, st1⟩ := Jvm.LawKit.callS X0 hx (y := (⟨"com/example/moult/moult/schema/TypeIsPrimitivePinLaw", "pick", "(I)Lcom/example/moult/moult/schema/Schema$Type;"⟩ : MethodName)) hown (mvT hZ (hw _ (List.mem_of_getElem? (i := 1) rfl))) (mvT hZ (hw _ (List.mem_of_getElem? (i := 2) rfl))) (mvT hZ (hw _ (List.mem_of_getElem? (i := 3) rfl))) (mvT hZ (hw _ (List.mem_of_getElem? (i := 4) rfl))) (by decide) (backOf (W := 0) (rm1 l Z a0 hw [] ((p1 &&& (2147483647 : Int32)) % (14 : Int32)) a_NULL a_BOOLEAN a_INT a_LONG a_FLOAT a_DOUBLE a_BYTES a_STRING a_RECORD a_ENUM a_ARRAY a_MAP a_UNION a_FIXED h0 n0 Z0 S_NULL S_BOOLEAN S_INT S_LONG S_FLOAT S_DOUBLE S_BYTES S_STRING S_RECORD S_ENUM S_ARRAY S_MAP S_UNION S_FIXED) hZ (hw _ (List.mem_of_getElem? (i := 4) rfl)) (hw _ (List.mem_of_getElem? (i := 3) rfl)) (by decide) (by decide)) (g := (mkF m 9 #[.val (.int p1), .val (.int ((p1 &&& (2147483647 : Int32)) % (14 : Int32))), .unset] [(.int ((p1 &&& (2147483647 : Int32)) % (14 : Int32)))])) rfl (by rw [hml]; rfl) (argsL := [(.int ((p1 &&& (2147483647 : Int32)) % (14 : Int32)))]) (rest := []) (lenOf pd_0 rfl) rfl (by show 2 * 0 + _ ≤ _; exact Nat.le_of_eq rfl) (hb hby at_9) (fun _ _ => ⟨rfl, e0, (by decide : 0 + 0 ≤ _), (by decide : 0 + 0 ≤ _)⟩)
  dsimp only [Pt.U, Pt.locs, Pt.cells, Pt.slots] at X1 l1 y1 z1 st1 hQ1
  subst l1 y1 z1
  obtain ⟨rfl, N1q, r1_0⟩ := hQ1
  have N1 := Fr.app N0 N1q
  obtain ⟨cq2, kq2, q2a, q2b, q2c⟩ := isOf hZ r1_0 E_t
  obtain ⟨_, _, ⟨T2, L2, k2, n2⟩, -, X2, ⟨Lc2, hQ2, l2, y2, z2⟩, st2⟩ := X1.virtualBack hx (y := (⟨"com/example/moult/moult/schema/Schema$Type", "isPrimitive", "()Z"⟩ : MethodName)) (z := (⟨"com/example/moult/moult/schema/Schema$Type", "isPrimitive", "()Z"⟩ : MethodName)) hown (mvT hZ (hw _ (List.mem_of_getElem? (i := 8) rfl))) (mvT hZ (hw _ (List.mem_of_getElem? (i := 9) rfl))) (notFace_of_selects (args := #[]) (mvT hZ (hw _ (List.mem_of_getElem? (i := 11) rfl)))) (mvT hZ (hw _ (List.mem_of_getElem? (i := 11) rfl))) (mvT hZ (hw _ (List.mem_of_getElem? (i := 10) rfl))) (by decide) (backOf (W := 0) (rm2 l Z a0 hw [] tt oo a_STRING h0 n0 Z0 E_t F_t S_STRING E_STRING F_STRING) hZ (hw _ (List.mem_of_getElem? (i := 12) rfl)) (hw _ (List.mem_of_getElem? (i := 6) rfl)) (by decide) (by decide)) q2a q2c (g := (mkF m 14 #[.val (.int p1), .val (.int ((p1 &&& (2147483647 : Int32)) % (14 : Int32))), .val (.ref tt)] [(.ref tt)])) rfl (by rw [hml]; rfl) (Steps.refl _) (argsL := []) (rest := []) (lenOf pd_1 rfl) rfl (by show 2 * 0 + _ ≤ _; exact Nat.le_of_eq rfl) (hb hby at_14) (fun _ _ => ⟨rfl, r1_0, (by decide : 0 + 0 ≤ _), (by decide : 0 + 0 ≤ _)⟩)
  dsimp only [Pt.U, Pt.locs, Pt.cells, Pt.slots] at X2 l2 y2 z2 st2 hQ2
  subst l2 y2 z2
  obtain ⟨rfl, N2q, r2_0⟩ := hQ2
  have N2 := Fr.app N1 N2q
  obtain ⟨_, _, ⟨T3, L3, k3, n3⟩, -, X3, ⟨Lc3, hQ3, l3, y3, z3⟩, st3⟩ := Jvm.LawKit.callS X2 hx (y := (⟨"com/example/moult/moult/schema/TypeIsPrimitivePinLaw", "expected", "(Lcom/example/moult/moult/schema/Schema$Type;)Z"⟩ : MethodName)) hown (mvT hZ (hw _ (List.mem_of_getElem? (i := 24) rfl))) (mvT hZ (hw _ (List.mem_of_getElem? (i := 25) rfl))) (mvT hZ (hw _ (List.mem_of_getElem? (i := 3) rfl))) (mvT hZ (hw _ (List.mem_of_getElem? (i := 26) rfl))) (by decide) (backOf (W := 1) (rm4 l Z a0 hw [] tt a_NULL a_BOOLEAN a_INT a_LONG a_FLOAT a_DOUBLE a_BYTES a_STRING h0 n0 Z0 S_NULL S_BOOLEAN S_INT S_LONG S_FLOAT S_DOUBLE S_BYTES S_STRING) hZ (hw _ (List.mem_of_getElem? (i := 26) rfl)) (hw _ (List.mem_of_getElem? (i := 3) rfl)) (by decide) (by decide)) (g := (mkF m 18 #[.val (.int p1), .val (.int ((p1 &&& (2147483647 : Int32)) % (14 : Int32))), .val (.ref tt)] [(.ref tt), (.int (if (7 : Int32) < oo then (0 : Int32) else (1 : Int32)))])) rfl (by rw [hml]; rfl) (argsL := [(.ref tt)]) (rest := [(.int (if (7 : Int32) < oo then (0 : Int32) else (1 : Int32)))]) (lenOf pd_3 rfl) rfl (by show 2 * 0 + _ ≤ _; exact Nat.le_of_eq rfl) (hb hby at_18) (fun _ _ => ⟨rfl, r2_0, (by decide : 0 + 0 ≤ _), (by decide : 0 + 0 ≤ _)⟩)
  dsimp only [Pt.U, Pt.locs, Pt.cells, Pt.slots] at X3 l3 y3 z3 st3 hQ3
  subst l3 y3 z3
  obtain ⟨rfl, N3q, r3_0⟩ := hQ3
  have N3 := Fr.app N2 N3q
  obtain ⟨fs, hr, hrun, hended, hW, hsame⟩ := X3.leave (v := some (.int (1 : Int32))) (fun h => by rw [Bd.returns] at h; cases h)
  refine ⟨_, _, pre0 _ ?_, hrun, hended, _, _, rfl, ?_, ⟨_, rfl⟩, hW, hsame.mono (by decide) (by decide)⟩
  · show Steps p.tables e below (s₁.setTop (mkF m 0 #[.val (.int p1), .unset, .unset] [])) _
    refine XS.iloadN X0.here hx rfl (hb hby at_0) rfl ?_
    show Steps p.tables e below (s₁.setTop (mkF m 1 #[.val (.int p1), .unset, .unset] [(.int p1)])) _
    refine X0.ldcInt hx hown (mvT hZ (hw _ (List.mem_of_getElem? (i := 0) rfl))) (g := (mkF m 1 #[.val (.int p1), .unset, .unset] [(.int p1)])) rfl (hb hby at_1) _ ?_
    show Steps p.tables e below (s₁.setTop (mkF m 3 #[.val (.int p1), .unset, .unset] [(.int (2147483647 : Int32)), (.int p1)])) _
    refine XS.iand X0.here hx rfl (hb hby at_3) rfl ?_
    show Steps p.tables e below (s₁.setTop (mkF m 4 #[.val (.int p1), .unset, .unset] [(.int (p1 &&& (2147483647 : Int32)))])) _
    refine XS.bipush X0.here hx rfl (hb hby at_4) ?_
    show Steps p.tables e below (s₁.setTop (mkF m 6 #[.val (.int p1), .unset, .unset] [(.int (14 : Int32)), (.int (p1 &&& (2147483647 : Int32)))])) _
    refine iremM X0 hx rfl (hb hby at_6) rfl (by decide) ?_
    show Steps p.tables e below (s₁.setTop (mkF m 7 #[.val (.int p1), .unset, .unset] [(.int ((p1 &&& (2147483647 : Int32)) % (14 : Int32)))])) _
    refine XS.istoreN X0.here hx rfl (hb hby at_7) rfl (l' := #[.val (.int p1), .val (.int ((p1 &&& (2147483647 : Int32)) % (14 : Int32))), .unset]) rfl ?_
    show Steps p.tables e below (s₁.setTop (mkF m 8 #[.val (.int p1), .val (.int ((p1 &&& (2147483647 : Int32)) % (14 : Int32))), .unset] [])) _
    refine XS.iloadN X0.here hx rfl (hb hby at_8) rfl ?_
    show Steps p.tables e below (s₁.setTop (mkF m 9 #[.val (.int p1), .val (.int ((p1 &&& (2147483647 : Int32)) % (14 : Int32))), .unset] [(.int ((p1 &&& (2147483647 : Int32)) % (14 : Int32)))])) _
    refine st1 _ ?_
    show Steps p.tables e below (T1.setTop (mkF m 12 #[.val (.int p1), .val (.int ((p1 &&& (2147483647 : Int32)) % (14 : Int32))), .unset] [(.ref (own_pick ((p1 &&& (2147483647 : Int32)) % (14 : Int32)) a_NULL a_BOOLEAN a_INT a_LONG a_FLOAT a_DOUBLE a_BYTES a_STRING a_RECORD a_ENUM a_ARRAY a_MAP a_UNION a_FIXED))])) _
    rw [hpk]
    show Steps p.tables e below (T1.setTop (mkF m 12 #[.val (.int p1), .val (.int ((p1 &&& (2147483647 : Int32)) % (14 : Int32))), .unset] [(.ref tt)])) _
    refine XS.astoreN X1.here hx rfl (hb hby at_12) rfl rfl (l' := #[.val (.int p1), .val (.int ((p1 &&& (2147483647 : Int32)) % (14 : Int32))), .val (.ref tt)]) rfl ?_
    show Steps p.tables e below (T1.setTop (mkF m 13 #[.val (.int p1), .val (.int ((p1 &&& (2147483647 : Int32)) % (14 : Int32))), .val (.ref tt)] [])) _
    refine XS.aloadN X1.here hx rfl (hb hby at_13) rfl rfl ?_
    show Steps p.tables e below (T1.setTop (mkF m 14 #[.val (.int p1), .val (.int ((p1 &&& (2147483647 : Int32)) % (14 : Int32))), .val (.ref tt)] [(.ref tt)])) _
    refine st2.trans ?_
    show Steps p.tables e below (T2.setTop (mkF m 17 #[.val (.int p1), .val (.int ((p1 &&& (2147483647 : Int32)) % (14 : Int32))), .val (.ref tt)] [(.int (if (7 : Int32) < oo then (0 : Int32) else (1 : Int32)))])) _
    refine XS.aloadN X2.here hx rfl (hb hby at_17) rfl rfl ?_
    show Steps p.tables e below (T2.setTop (mkF m 18 #[.val (.int p1), .val (.int ((p1 &&& (2147483647 : Int32)) % (14 : Int32))), .val (.ref tt)] [(.ref tt), (.int (if (7 : Int32) < oo then (0 : Int32) else (1 : Int32)))])) _
    refine st3 _ ?_
    show Steps p.tables e below (T3.setTop (mkF m 21 #[.val (.int p1), .val (.int ((p1 &&& (2147483647 : Int32)) % (14 : Int32))), .val (.ref tt)] [(.int (own_exp tt a_NULL a_BOOLEAN a_INT a_LONG a_FLOAT a_DOUBLE a_BYTES a_STRING)), (.int (if (7 : Int32) < oo then (0 : Int32) else (1 : Int32)))])) _
    refine XS.icmpNo X3.here hx rfl (hb hby at_21) rfl (teq (hE : ((if (7 : Int32) < oo then (0 : Int32) else (1 : Int32)) = (own_exp tt a_NULL a_BOOLEAN a_INT a_LONG a_FLOAT a_DOUBLE a_BYTES a_STRING)))).2 ?_
    show Steps p.tables e below (T3.setTop (mkF m 24 #[.val (.int p1), .val (.int ((p1 &&& (2147483647 : Int32)) % (14 : Int32))), .val (.ref tt)] [])) _
    refine XS.iconst X3.here hx rfl (hb hby at_24) ?_
    show Steps p.tables e below (T3.setTop (mkF m 25 #[.val (.int p1), .val (.int ((p1 &&& (2147483647 : Int32)) % (14 : Int32))), .val (.ref tt)] [(.int (1 : Int32))])) _
    refine XS.goto X3.here hx rfl (pc0 := 25) (pc' := 29) rfl (hb hby at_25) (by decide) (by decide) ?_
    show Steps p.tables e below (T3.setTop (mkF m 29 #[.val (.int p1), .val (.int ((p1 &&& (2147483647 : Int32)) % (14 : Int32))), .val (.ref tt)] [(.int (1 : Int32))])) _
    exact retN X3 hx (t := .boolean) Bd.returns (by simp) (hb hby at_29) hr
  · show Q0 Z p1 a_NULL a_BOOLEAN a_INT a_LONG a_FLOAT a_DOUBLE a_BYTES a_STRING a_RECORD a_ENUM a_ARRAY a_MAP a_UNION a_FIXED tt oo h0 n0 _ T3.heap _
    rw [r3_0]
    exact ⟨rfl, N3⟩
set_option maxRecDepth 65536 in
set_option maxHeartbeats 40000000 in
theorem comes_1 {Post : Tables → Env → Array Value → State → Outcome → State → Prop} (hpost : ∀ tb e args s v u, (limb_1_1.after args s (.returned v) u = true ∧ limb_1_2.after args s (.returned v) u = true ∧ True) → FrameEnd s (.returned v) u (Jvm.fieldLocs frame_1_writes args s ++ Jvm.arrayLocs frame_1_arrays args s ++ Jvm.staticLocs frame_1_statics s) 0 0 → Post tb e args s (.returned v) u) :
    ArmFor flags0 classFile x code maxLocals ret World_1 tables_1 room_1 Calls_1 rest_1 Pre_1 Post := by
  intro l hfl _ _ p e ha hc hk s m args below hf hA hF happ hP
  obtain ⟨hcalls, hrest, hpre⟩ := hP
  obtain ⟨-, -, -, hnamed, -, -, -, hat⟩ := (Spec.applies_iff hf).mp happ
  obtain ⟨hg, hn⟩ := and_e (Cond.before_iff.mp (show (Jvm.Cond.and given_1 narrow_1).before args s = true from hpre))
  obtain ⟨g1, g2⟩ := and_e hg
  obtain ⟨w0, rfl⟩ : ∃ w0 : Value, args = #[w0] := by
    have hs : args.size = 1 := by simpa [Cond.value, given_1] using g1
    obtain ⟨L⟩ := args
    match L, hs with
    | [w0], _ => exact ⟨w0, rfl⟩
  have hw := fun d (hd : d ∈ tables_1) => atoms_spec (ws := Jvm.Cond.code x code maxLocals ret :: tables_1) hat d (List.mem_cons_of_mem _ hd)
  have hfit : Fit s := fun {y c} hc i hi => by
    obtain ⟨ha, rfl⟩ := Array.getElem?_eq_some_iff.mp hc
    have q := List.all_eq_true.mp ((Array.all_eq_true_iff_forall_mem.mp hF) _ (Array.getElem_mem ha)) i (List.mem_range.mpr hi)
    simpa [Array.getElem?_eq_getElem hi] using q
  obtain ⟨i0, ei0⟩ := is_v g2
  obtain rfl : w0 = (.int i0) := Option.some.inj ei0
  obtain ⟨n1, n2⟩ := and_e hn
  obtain ⟨n3, n4⟩ := and_e n2
  obtain ⟨n5, n6⟩ := and_e n4
  obtain ⟨n7, n8⟩ := and_e n6
  obtain ⟨n9, n10⟩ := and_e n8
  obtain ⟨n11, n12⟩ := and_e n10
  obtain ⟨n13, n14⟩ := and_e n12
  obtain ⟨n15, n16⟩ := and_e n14
  obtain ⟨n17, n18⟩ := and_e n16
  obtain ⟨n19, n20⟩ := and_e n18
  obtain ⟨n21, n22⟩ := and_e n20
  obtain ⟨n23, n24⟩ := and_e n22
  obtain ⟨n25, n26⟩ := and_e n24
  obtain ⟨n27, n28⟩ := and_e n26
  obtain ⟨n29, n30⟩ := and_e n28
  obtain ⟨n31, n32⟩ := and_e n30
  obtain ⟨n33, n34⟩ := and_e n32
  obtain ⟨n35, n36⟩ := and_e n34
  obtain ⟨n37, n38⟩ := and_e n36
  obtain ⟨n39, n40⟩ := and_e n38
  obtain ⟨n41, n42⟩ := and_e n40
  obtain ⟨n43, n44⟩ := and_e n42
  obtain ⟨n45, n46⟩ := and_e n44
  obtain ⟨n47, n48⟩ := and_e n46
  obtain ⟨n49, n50⟩ := and_e n48
  obtain ⟨n51, n52⟩ := and_e n50
  obtain ⟨n53, n54⟩ := and_e n52
  obtain ⟨a_NULL, ev_NULL⟩ := exa_v n1
  have E_NULL := Exa.start ev_NULL n1
  have S_NULL := Sta.start ev_NULL (Or.inr ⟨(hw _ (List.mem_of_getElem? (i := 6) rfl)), (hw _ (List.mem_of_getElem? (i := 7) rfl))⟩)
  have F_NULL := own_fldk ev_NULL n3
  obtain ⟨a_STRING, ev_STRING⟩ := exa_v n5
  have E_STRING := Exa.start ev_STRING n5
  have S_STRING := Sta.start ev_STRING (Or.inr ⟨(hw _ (List.mem_of_getElem? (i := 6) rfl)), (hw _ (List.mem_of_getElem? (i := 23) rfl))⟩)
  have F_STRING := own_fldk ev_STRING n7
  obtain ⟨a_LONG, ev_LONG⟩ := exa_v n9
  have E_LONG := Exa.start ev_LONG n9
  have S_LONG := Sta.start ev_LONG (Or.inr ⟨(hw _ (List.mem_of_getElem? (i := 6) rfl)), (hw _ (List.mem_of_getElem? (i := 28) rfl))⟩)
  have F_LONG := own_fldk ev_LONG n11
  obtain ⟨a_BOOLEAN, ev_BOOLEAN⟩ := exa_v n13
  have E_BOOLEAN := Exa.start ev_BOOLEAN n13
  have S_BOOLEAN := Sta.start ev_BOOLEAN (Or.inr ⟨(hw _ (List.mem_of_getElem? (i := 6) rfl)), (hw _ (List.mem_of_getElem? (i := 30) rfl))⟩)
  have F_BOOLEAN := own_fldk ev_BOOLEAN n15
  obtain ⟨a_INT, ev_INT⟩ := exa_v n17
  have E_INT := Exa.start ev_INT n17
  have S_INT := Sta.start ev_INT (Or.inr ⟨(hw _ (List.mem_of_getElem? (i := 6) rfl)), (hw _ (List.mem_of_getElem? (i := 32) rfl))⟩)
  have F_INT := own_fldk ev_INT n19
  obtain ⟨a_UNION, ev_UNION⟩ := exa_v n21
  have E_UNION := Exa.start ev_UNION n21
  have S_UNION := Sta.start ev_UNION (Or.inr ⟨(hw _ (List.mem_of_getElem? (i := 6) rfl)), (hw _ (List.mem_of_getElem? (i := 34) rfl))⟩)
  have F_UNION := own_fldk ev_UNION n23
  obtain ⟨a_FLOAT, ev_FLOAT⟩ := exa_v n25
  have E_FLOAT := Exa.start ev_FLOAT n25
  have S_FLOAT := Sta.start ev_FLOAT (Or.inr ⟨(hw _ (List.mem_of_getElem? (i := 6) rfl)), (hw _ (List.mem_of_getElem? (i := 36) rfl))⟩)
  have F_FLOAT := own_fldk ev_FLOAT n27
  obtain ⟨a_DOUBLE, ev_DOUBLE⟩ := exa_v n29
  have E_DOUBLE := Exa.start ev_DOUBLE n29
  have S_DOUBLE := Sta.start ev_DOUBLE (Or.inr ⟨(hw _ (List.mem_of_getElem? (i := 6) rfl)), (hw _ (List.mem_of_getElem? (i := 38) rfl))⟩)
  have F_DOUBLE := own_fldk ev_DOUBLE n31
  obtain ⟨a_BYTES, ev_BYTES⟩ := exa_v n33
  have E_BYTES := Exa.start ev_BYTES n33
  have S_BYTES := Sta.start ev_BYTES (Or.inr ⟨(hw _ (List.mem_of_getElem? (i := 6) rfl)), (hw _ (List.mem_of_getElem? (i := 40) rfl))⟩)
  have F_BYTES := own_fldk ev_BYTES n35
  obtain ⟨a_FIXED, ev_FIXED⟩ := exa_v n37
  have E_FIXED := Exa.start ev_FIXED n37
  have S_FIXED := Sta.start ev_FIXED (Or.inr ⟨(hw _ (List.mem_of_getElem? (i := 6) rfl)), (hw _ (List.mem_of_getElem? (i := 43) rfl))⟩)
  have F_FIXED := own_fldk ev_FIXED n39
  obtain ⟨a_MAP, ev_MAP⟩ := exa_v n41
  have E_MAP := Exa.start ev_MAP n41
  have S_MAP := Sta.start ev_MAP (Or.inr ⟨(hw _ (List.mem_of_getElem? (i := 6) rfl)), (hw _ (List.mem_of_getElem? (i := 45) rfl))⟩)
  have F_MAP := own_fldk ev_MAP n43
  obtain ⟨a_ARRAY, ev_ARRAY⟩ := exa_v n45
  have E_ARRAY := Exa.start ev_ARRAY n45
  have S_ARRAY := Sta.start ev_ARRAY (Or.inr ⟨(hw _ (List.mem_of_getElem? (i := 6) rfl)), (hw _ (List.mem_of_getElem? (i := 47) rfl))⟩)
  have F_ARRAY := own_fldk ev_ARRAY n47
  obtain ⟨a_RECORD, ev_RECORD⟩ := exa_v n49
  have E_RECORD := Exa.start ev_RECORD n49
  have S_RECORD := Sta.start ev_RECORD (Or.inr ⟨(hw _ (List.mem_of_getElem? (i := 6) rfl)), (hw _ (List.mem_of_getElem? (i := 49) rfl))⟩)
  have F_RECORD := own_fldk ev_RECORD n51
  obtain ⟨a_ENUM, ev_ENUM⟩ := exa_v n53
  have E_ENUM := Exa.start ev_ENUM n53
  have S_ENUM := Sta.start ev_ENUM (Or.inr ⟨(hw _ (List.mem_of_getElem? (i := 6) rfl)), (hw _ (List.mem_of_getElem? (i := 51) rfl))⟩)
  have F_ENUM := own_fldk ev_ENUM n54
  have ne_BOOLEAN_NULL := Fld.ne F_BOOLEAN F_NULL (fun q => absurd (Value.int.inj q) (by decide))
  have ne_INT_NULL := Fld.ne F_INT F_NULL (fun q => absurd (Value.int.inj q) (by decide))
  have ne_INT_BOOLEAN := Fld.ne F_INT F_BOOLEAN (fun q => absurd (Value.int.inj q) (by decide))
  have ne_LONG_NULL := Fld.ne F_LONG F_NULL (fun q => absurd (Value.int.inj q) (by decide))
  have ne_LONG_BOOLEAN := Fld.ne F_LONG F_BOOLEAN (fun q => absurd (Value.int.inj q) (by decide))
  have ne_LONG_INT := Fld.ne F_LONG F_INT (fun q => absurd (Value.int.inj q) (by decide))
  have ne_FLOAT_NULL := Fld.ne F_FLOAT F_NULL (fun q => absurd (Value.int.inj q) (by decide))
  have ne_FLOAT_BOOLEAN := Fld.ne F_FLOAT F_BOOLEAN (fun q => absurd (Value.int.inj q) (by decide))
  have ne_FLOAT_INT := Fld.ne F_FLOAT F_INT (fun q => absurd (Value.int.inj q) (by decide))
  have ne_FLOAT_LONG := Fld.ne F_FLOAT F_LONG (fun q => absurd (Value.int.inj q) (by decide))
  have ne_DOUBLE_NULL := Fld.ne F_DOUBLE F_NULL (fun q => absurd (Value.int.inj q) (by decide))
  have ne_DOUBLE_BOOLEAN := Fld.ne F_DOUBLE F_BOOLEAN (fun q => absurd (Value.int.inj q) (by decide))
  have ne_DOUBLE_INT := Fld.ne F_DOUBLE F_INT (fun q => absurd (Value.int.inj q) (by decide))
  have ne_DOUBLE_LONG := Fld.ne F_DOUBLE F_LONG (fun q => absurd (Value.int.inj q) (by decide))
  have ne_DOUBLE_FLOAT := Fld.ne F_DOUBLE F_FLOAT (fun q => absurd (Value.int.inj q) (by decide))
  have ne_BYTES_NULL := Fld.ne F_BYTES F_NULL (fun q => absurd (Value.int.inj q) (by decide))
  have ne_BYTES_BOOLEAN := Fld.ne F_BYTES F_BOOLEAN (fun q => absurd (Value.int.inj q) (by decide))
  have ne_BYTES_INT := Fld.ne F_BYTES F_INT (fun q => absurd (Value.int.inj q) (by decide))
  have ne_BYTES_LONG := Fld.ne F_BYTES F_LONG (fun q => absurd (Value.int.inj q) (by decide))
  have ne_BYTES_FLOAT := Fld.ne F_BYTES F_FLOAT (fun q => absurd (Value.int.inj q) (by decide))
  have ne_BYTES_DOUBLE := Fld.ne F_BYTES F_DOUBLE (fun q => absurd (Value.int.inj q) (by decide))
  have ne_STRING_NULL := Fld.ne F_STRING F_NULL (fun q => absurd (Value.int.inj q) (by decide))
  have ne_STRING_BOOLEAN := Fld.ne F_STRING F_BOOLEAN (fun q => absurd (Value.int.inj q) (by decide))
  have ne_STRING_INT := Fld.ne F_STRING F_INT (fun q => absurd (Value.int.inj q) (by decide))
  have ne_STRING_LONG := Fld.ne F_STRING F_LONG (fun q => absurd (Value.int.inj q) (by decide))
  have ne_STRING_FLOAT := Fld.ne F_STRING F_FLOAT (fun q => absurd (Value.int.inj q) (by decide))
  have ne_STRING_DOUBLE := Fld.ne F_STRING F_DOUBLE (fun q => absurd (Value.int.inj q) (by decide))
  have ne_STRING_BYTES := Fld.ne F_STRING F_BYTES (fun q => absurd (Value.int.inj q) (by decide))
  have ne_RECORD_NULL := Fld.ne F_RECORD F_NULL (fun q => absurd (Value.int.inj q) (by decide))
  have ne_RECORD_BOOLEAN := Fld.ne F_RECORD F_BOOLEAN (fun q => absurd (Value.int.inj q) (by decide))
  have ne_RECORD_INT := Fld.ne F_RECORD F_INT (fun q => absurd (Value.int.inj q) (by decide))
  have ne_RECORD_LONG := Fld.ne F_RECORD F_LONG (fun q => absurd (Value.int.inj q) (by decide))
  have ne_RECORD_FLOAT := Fld.ne F_RECORD F_FLOAT (fun q => absurd (Value.int.inj q) (by decide))
  have ne_RECORD_DOUBLE := Fld.ne F_RECORD F_DOUBLE (fun q => absurd (Value.int.inj q) (by decide))
  have ne_RECORD_BYTES := Fld.ne F_RECORD F_BYTES (fun q => absurd (Value.int.inj q) (by decide))
  have ne_RECORD_STRING := Fld.ne F_RECORD F_STRING (fun q => absurd (Value.int.inj q) (by decide))
  have ne_ENUM_NULL := Fld.ne F_ENUM F_NULL (fun q => absurd (Value.int.inj q) (by decide))
  have ne_ENUM_BOOLEAN := Fld.ne F_ENUM F_BOOLEAN (fun q => absurd (Value.int.inj q) (by decide))
  have ne_ENUM_INT := Fld.ne F_ENUM F_INT (fun q => absurd (Value.int.inj q) (by decide))
  have ne_ENUM_LONG := Fld.ne F_ENUM F_LONG (fun q => absurd (Value.int.inj q) (by decide))
  have ne_ENUM_FLOAT := Fld.ne F_ENUM F_FLOAT (fun q => absurd (Value.int.inj q) (by decide))
  have ne_ENUM_DOUBLE := Fld.ne F_ENUM F_DOUBLE (fun q => absurd (Value.int.inj q) (by decide))
  have ne_ENUM_BYTES := Fld.ne F_ENUM F_BYTES (fun q => absurd (Value.int.inj q) (by decide))
  have ne_ENUM_STRING := Fld.ne F_ENUM F_STRING (fun q => absurd (Value.int.inj q) (by decide))
  have ne_ARRAY_NULL := Fld.ne F_ARRAY F_NULL (fun q => absurd (Value.int.inj q) (by decide))
  have ne_ARRAY_BOOLEAN := Fld.ne F_ARRAY F_BOOLEAN (fun q => absurd (Value.int.inj q) (by decide))
  have ne_ARRAY_INT := Fld.ne F_ARRAY F_INT (fun q => absurd (Value.int.inj q) (by decide))
  have ne_ARRAY_LONG := Fld.ne F_ARRAY F_LONG (fun q => absurd (Value.int.inj q) (by decide))
  have ne_ARRAY_FLOAT := Fld.ne F_ARRAY F_FLOAT (fun q => absurd (Value.int.inj q) (by decide))
  have ne_ARRAY_DOUBLE := Fld.ne F_ARRAY F_DOUBLE (fun q => absurd (Value.int.inj q) (by decide))
  have ne_ARRAY_BYTES := Fld.ne F_ARRAY F_BYTES (fun q => absurd (Value.int.inj q) (by decide))
  have ne_ARRAY_STRING := Fld.ne F_ARRAY F_STRING (fun q => absurd (Value.int.inj q) (by decide))
  have ne_MAP_NULL := Fld.ne F_MAP F_NULL (fun q => absurd (Value.int.inj q) (by decide))
  have ne_MAP_BOOLEAN := Fld.ne F_MAP F_BOOLEAN (fun q => absurd (Value.int.inj q) (by decide))
  have ne_MAP_INT := Fld.ne F_MAP F_INT (fun q => absurd (Value.int.inj q) (by decide))
  have ne_MAP_LONG := Fld.ne F_MAP F_LONG (fun q => absurd (Value.int.inj q) (by decide))
  have ne_MAP_FLOAT := Fld.ne F_MAP F_FLOAT (fun q => absurd (Value.int.inj q) (by decide))
  have ne_MAP_DOUBLE := Fld.ne F_MAP F_DOUBLE (fun q => absurd (Value.int.inj q) (by decide))
  have ne_MAP_BYTES := Fld.ne F_MAP F_BYTES (fun q => absurd (Value.int.inj q) (by decide))
  have ne_MAP_STRING := Fld.ne F_MAP F_STRING (fun q => absurd (Value.int.inj q) (by decide))
  have ne_UNION_NULL := Fld.ne F_UNION F_NULL (fun q => absurd (Value.int.inj q) (by decide))
  have ne_UNION_BOOLEAN := Fld.ne F_UNION F_BOOLEAN (fun q => absurd (Value.int.inj q) (by decide))
  have ne_UNION_INT := Fld.ne F_UNION F_INT (fun q => absurd (Value.int.inj q) (by decide))
  have ne_UNION_LONG := Fld.ne F_UNION F_LONG (fun q => absurd (Value.int.inj q) (by decide))
  have ne_UNION_FLOAT := Fld.ne F_UNION F_FLOAT (fun q => absurd (Value.int.inj q) (by decide))
  have ne_UNION_DOUBLE := Fld.ne F_UNION F_DOUBLE (fun q => absurd (Value.int.inj q) (by decide))
  have ne_UNION_BYTES := Fld.ne F_UNION F_BYTES (fun q => absurd (Value.int.inj q) (by decide))
  have ne_UNION_STRING := Fld.ne F_UNION F_STRING (fun q => absurd (Value.int.inj q) (by decide))
  have ne_FIXED_NULL := Fld.ne F_FIXED F_NULL (fun q => absurd (Value.int.inj q) (by decide))
  have ne_FIXED_BOOLEAN := Fld.ne F_FIXED F_BOOLEAN (fun q => absurd (Value.int.inj q) (by decide))
  have ne_FIXED_INT := Fld.ne F_FIXED F_INT (fun q => absurd (Value.int.inj q) (by decide))
  have ne_FIXED_LONG := Fld.ne F_FIXED F_LONG (fun q => absurd (Value.int.inj q) (by decide))
  have ne_FIXED_FLOAT := Fld.ne F_FIXED F_FLOAT (fun q => absurd (Value.int.inj q) (by decide))
  have ne_FIXED_DOUBLE := Fld.ne F_FIXED F_DOUBLE (fun q => absurd (Value.int.inj q) (by decide))
  have ne_FIXED_BYTES := Fld.ne F_FIXED F_BYTES (fun q => absurd (Value.int.inj q) (by decide))
  have ne_FIXED_STRING := Fld.ne F_FIXED F_STRING (fun q => absurd (Value.int.inj q) (by decide))
  obtain ⟨tt, oo, hpk, E_t, F_t, hE⟩ : ∃ (t : Addr) (o : Int32), own_pick ((i0 &&& (2147483647 : Int32)) % (14 : Int32)) a_NULL a_BOOLEAN a_INT a_LONG a_FLOAT a_DOUBLE a_BYTES a_STRING a_RECORD a_ENUM a_ARRAY a_MAP a_UNION a_FIXED = t ∧ Exa s s.heap t "com/example/moult/moult/schema/Schema$Type" ∧ Fld s s.heap t "java/lang/Enum" "ordinal" "I" (.int o) ∧ (if (7 : Int32) < o then (0 : Int32) else (1 : Int32)) = (own_exp t a_NULL a_BOOLEAN a_INT a_LONG a_FLOAT a_DOUBLE a_BYTES a_STRING) := by
    rcases own_cases _ (own_k i0) with hk1 | hk1 | hk1 | hk1 | hk1 | hk1 | hk1 | hk1 | hk1 | hk1 | hk1 | hk1 | hk1 | hk1
    · exact ⟨a_NULL, 0, by rw [hk1]; rfl, E_NULL, F_NULL, by simp [own_exp]⟩
    · exact ⟨a_BOOLEAN, 1, by rw [hk1]; rfl, E_BOOLEAN, F_BOOLEAN, by simp [own_exp, ne_BOOLEAN_NULL]⟩
    · exact ⟨a_INT, 2, by rw [hk1]; rfl, E_INT, F_INT, by simp [own_exp, ne_INT_NULL, ne_INT_BOOLEAN]⟩
    · exact ⟨a_LONG, 3, by rw [hk1]; rfl, E_LONG, F_LONG, by simp [own_exp, ne_LONG_NULL, ne_LONG_BOOLEAN, ne_LONG_INT]⟩
    · exact ⟨a_FLOAT, 4, by rw [hk1]; rfl, E_FLOAT, F_FLOAT, by simp [own_exp, ne_FLOAT_NULL, ne_FLOAT_BOOLEAN, ne_FLOAT_INT, ne_FLOAT_LONG]⟩
    · exact ⟨a_DOUBLE, 5, by rw [hk1]; rfl, E_DOUBLE, F_DOUBLE, by simp [own_exp, ne_DOUBLE_NULL, ne_DOUBLE_BOOLEAN, ne_DOUBLE_INT, ne_DOUBLE_LONG, ne_DOUBLE_FLOAT]⟩
    · exact ⟨a_BYTES, 6, by rw [hk1]; rfl, E_BYTES, F_BYTES, by simp [own_exp, ne_BYTES_NULL, ne_BYTES_BOOLEAN, ne_BYTES_INT, ne_BYTES_LONG, ne_BYTES_FLOAT, ne_BYTES_DOUBLE]⟩
    · exact ⟨a_STRING, 7, by rw [hk1]; rfl, E_STRING, F_STRING, by simp [own_exp, ne_STRING_NULL, ne_STRING_BOOLEAN, ne_STRING_INT, ne_STRING_LONG, ne_STRING_FLOAT, ne_STRING_DOUBLE, ne_STRING_BYTES]⟩
    · exact ⟨a_RECORD, 8, by rw [hk1]; rfl, E_RECORD, F_RECORD, by simp [own_exp, ne_RECORD_NULL, ne_RECORD_BOOLEAN, ne_RECORD_INT, ne_RECORD_LONG, ne_RECORD_FLOAT, ne_RECORD_DOUBLE, ne_RECORD_BYTES, ne_RECORD_STRING]⟩
    · exact ⟨a_ENUM, 9, by rw [hk1]; rfl, E_ENUM, F_ENUM, by simp [own_exp, ne_ENUM_NULL, ne_ENUM_BOOLEAN, ne_ENUM_INT, ne_ENUM_LONG, ne_ENUM_FLOAT, ne_ENUM_DOUBLE, ne_ENUM_BYTES, ne_ENUM_STRING]⟩
    · exact ⟨a_ARRAY, 10, by rw [hk1]; rfl, E_ARRAY, F_ARRAY, by simp [own_exp, ne_ARRAY_NULL, ne_ARRAY_BOOLEAN, ne_ARRAY_INT, ne_ARRAY_LONG, ne_ARRAY_FLOAT, ne_ARRAY_DOUBLE, ne_ARRAY_BYTES, ne_ARRAY_STRING]⟩
    · exact ⟨a_MAP, 11, by rw [hk1]; rfl, E_MAP, F_MAP, by simp [own_exp, ne_MAP_NULL, ne_MAP_BOOLEAN, ne_MAP_INT, ne_MAP_LONG, ne_MAP_FLOAT, ne_MAP_DOUBLE, ne_MAP_BYTES, ne_MAP_STRING]⟩
    · exact ⟨a_UNION, 12, by rw [hk1]; rfl, E_UNION, F_UNION, by simp [own_exp, ne_UNION_NULL, ne_UNION_BOOLEAN, ne_UNION_INT, ne_UNION_LONG, ne_UNION_FLOAT, ne_UNION_DOUBLE, ne_UNION_BYTES, ne_UNION_STRING]⟩
    · exact ⟨a_FIXED, 13, by rw [hk1]; rfl, E_FIXED, F_FIXED, by simp [own_exp, ne_FIXED_NULL, ne_FIXED_BOOLEAN, ne_FIXED_INT, ne_FIXED_LONG, ne_FIXED_FLOAT, ne_FIXED_DOUBLE, ne_FIXED_BYTES, ne_FIXED_STRING]⟩
  obtain ⟨n, o, h1, h2, h3, _, L, rfl, ⟨rfl, N⟩, hq⟩ := rm0 l s _ hw tables_1 i0 a_NULL a_BOOLEAN a_INT a_LONG a_FLOAT a_DOUBLE a_BYTES a_STRING a_RECORD a_ENUM a_ARRAY a_MAP a_UNION a_FIXED tt oo s.heap s.heap.size (Nat.le_refl _) S_NULL S_BOOLEAN S_INT S_LONG S_FLOAT S_DOUBLE S_BYTES S_STRING S_RECORD S_ENUM S_ARRAY S_MAP S_UNION S_FIXED E_STRING F_STRING hpk E_t F_t hE p e ha hc hk s m _ below hf ((Spec.applies_iff_loose hf).mp happ).1 ⟨rfl, State.Warmed39.refl s, rfl⟩ trivial
  refine ⟨n, _, h1, h2, h3, hpost _ _ _ _ _ _ ⟨Cond.after_iff.mpr rfl, Cond.after_iff.mpr (eq_i res_at (Term.int_eval (1)) rfl), trivial⟩ ⟨hq.1, hq.2.1, (hq.2.2.sift fun y hy => Or.inr (N y hy)).mono (by decide) (by decide)⟩⟩
theorem main_1_1 : Claimed_1_1 := comes_1 fun _ _ _ _ _ _ h hF => ⟨h.1, hF⟩
theorem main_1_2 : Claimed_1_2 := comes_1 fun _ _ _ _ _ _ h hF => ⟨h.2.1, hF⟩
end Jvm.Pilot.@@N@@
namespace Jvm.Pilot.@@N@@
open Jvm Jvm.ClassFile Sem Op Lib Jvm.Free Jvm.Stand Jvm.Pilot.@@N@@.Jvm.D
/-! MADE BY PROGRAM (witnessworld.py) out of the Statement's table words and the real class files: 12 classes; the members and pool entries that the words name. The judged class is class 1, her method 3. -/
namespace start1
open Jvm.ClassFile
def u (s : String) : CpInfo := .utf8 (stringToUtf16 s)
/-- a pool by its gaps: so many unusable entries, then the entry; so many at the end -/
def gap : Nat → List CpInfo → List CpInfo
  | 0, r => r
  | n + 1, r => .unusable :: gap n r
def poolList (es : List (Nat × CpInfo)) (last : Nat) : List CpInfo := es.foldr (fun e r => gap e.1 (e.2 :: r)) (gap last [])
def pool (es : List (Nat × CpInfo)) (last : Nat) : Array CpInfo := ⟨poolList es last⟩
def fileOf (pool : Array CpInfo) (this : Nat) (attrs : Array Attribute := #[]) (ms : Array MethodInfo := #[]) (fl : Nat := 33) (sup : Nat := 0) (ifs : Array Nat := #[]) (fds : Array FieldInfo := #[]) : ClassFile where
  minorVersion := 0
  majorVersion := 65
  constantPool := pool
  accessFlags := fl
  thisClass := this
  superClass := sup
  interfaces := ifs
  fields := fds
  methods := ms
  attributes := attrs
def plain (name : String) (sup : Option ClassId) : Class where
  name := name
  kind := .ordinary
  loader := none
  accessFlags := 33
  super := sup
  interfaces := #[]
  cf := none
  fields := #[]
  methods := #[]
  instanceTypes := #[]
  staticTypes := #[]
  resolved := #[]
  callSites := []
  init := .initialized
  statics := none
  mirror := none

def pool0 : Array CpInfo := pool [(5, u "<init>"), (0, u "()V"), (1, .class_ 10), (1, u "java/lang/Object")] 113

def k0m0 : Method := { name := "<init>", desc := "()V", sig := { parameters := [], returnType := none }, accessFlags := 1, code := none }
/-- java/lang/Object -/
def k0 : Class := { plain "java/lang/Object" none with
  accessFlags := 33
  interfaces := #[]
  cf := some (fileOf pool0 8 #[] #[{ accessFlags := 1, nameIndex := 5, descriptorIndex := 6, attributes := #[] }] 33 0 #[] #[])
  fields := #[]
  methods := #[k0m0]
  instanceTypes := #[]
  staticTypes := #[]
  resolved := Array.replicate 124 none
  statics := none }

def pool1 : Array CpInfo := pool [(2, .class_ 4), (1, u "java/lang/Object"), (0, u "<init>"), (0, u "()V"), (0, .fieldref 8 9), (0, .class_ 10), (0, .nameAndType 11 12), (0, u "com/example/moult/moult/schema/Schema$Type"), (0, u "NULL"), (0, u "Lcom/example/moult/moult/schema/Schema$Type;"), (0, .fieldref 8 14), (0, .nameAndType 15 12), (0, u "BOOLEAN"), (0, .fieldref 8 17), (0, .nameAndType 18 12), (0, u "INT"), (0, .fieldref 8 20), (0, .nameAndType 21 12), (0, u "LONG"), (0, .fieldref 8 23), (0, .nameAndType 24 12), (0, u "FLOAT"), (0, .fieldref 8 26), (0, .nameAndType 27 12), (0, u "DOUBLE"), (0, .fieldref 8 29), (0, .nameAndType 30 12), (0, u "BYTES"), (0, .fieldref 8 32), (0, .nameAndType 33 12), (0, u "STRING"), (0, .fieldref 8 35), (0, .nameAndType 36 12), (0, u "RECORD"), (0, .fieldref 8 38), (0, .nameAndType 39 12), (0, u "ENUM"), (0, .fieldref 8 41), (0, .nameAndType 42 12), (0, u "ARRAY"), (0, .fieldref 8 44), (0, .nameAndType 45 12), (0, u "MAP"), (0, .fieldref 8 47), (0, .nameAndType 48 12), (0, u "UNION"), (0, .fieldref 8 50), (0, .nameAndType 51 12), (0, u "FIXED"), (0, .integer 2147483647), (0, .methodref 54 55), (0, .class_ 56), (0, .nameAndType 57 58), (0, u "com/example/moult/moult/schema/TypeIsPrimitivePinLaw"), (0, u "pick"), (0, u "(I)Lcom/example/moult/moult/schema/Schema$Type;"), (0, .methodref 8 60), (0, .nameAndType 61 62), (0, u "isPrimitive"), (0, u "()Z"), (0, .methodref 54 64), (0, .nameAndType 65 66), (0, u "expected"), (0, u "(Lcom/example/moult/moult/schema/Schema$Type;)Z"), (3, u "law"), (0, u "(I)Z")] 6

def k1m0 : Method := { name := "<init>", desc := "()V", sig := { parameters := [], returnType := none }, accessFlags := 1, code := none }
def k1c1 : Code := { maxStack := 2, maxLocals := 1, code := method_2_code, exceptionTable := #[], attributes := #[] }
def k1m1 : Method := { name := "pick", desc := "(I)Lcom/example/moult/moult/schema/Schema$Type;", sig := { parameters := [.int], returnType := some (.object "com/example/moult/moult/schema/Schema$Type") }, accessFlags := 10, code := some k1c1 }
def k1c2 : Code := { maxStack := 2, maxLocals := 1, code := method_3_code, exceptionTable := #[], attributes := #[] }
def k1m2 : Method := { name := "expected", desc := "(Lcom/example/moult/moult/schema/Schema$Type;)Z", sig := { parameters := [(.object "com/example/moult/moult/schema/Schema$Type")], returnType := some .boolean }, accessFlags := 10, code := some k1c2 }
def k1c3 : Code := { maxStack := 2, maxLocals := 3, code := code, exceptionTable := #[], attributes := #[] }
def k1m3 : Method := { name := "law", desc := "(I)Z", sig := { parameters := [.int], returnType := some .boolean }, accessFlags := 9, code := some k1c3 }
/-- com/example/moult/moult/schema/TypeIsPrimitivePinLaw -/
def k1 : Class := { plain "com/example/moult/moult/schema/TypeIsPrimitivePinLaw" (some 0) with
  accessFlags := 49
  interfaces := #[]
  cf := some (fileOf pool1 54 #[] #[{ accessFlags := 1, nameIndex := 5, descriptorIndex := 6, attributes := #[] }, { accessFlags := 10, nameIndex := 57, descriptorIndex := 58, attributes := #[] }, { accessFlags := 10, nameIndex := 65, descriptorIndex := 66, attributes := #[] }, { accessFlags := 9, nameIndex := 70, descriptorIndex := 71, attributes := #[] }] 49 2 #[] #[])
  fields := #[]
  methods := #[k1m0, k1m1, k1m2, k1m3]
  instanceTypes := #[]
  staticTypes := #[]
  resolved := Array.replicate 78 none
  statics := none }

def pool2 : Array CpInfo := pool [(1, .class_ 2), (0, u "java/lang/constant/Constable"), (0, .class_ 4), (0, u "java/lang/Object")] 6

/-- java/lang/constant/Constable -/
def k2 : Class := { plain "java/lang/constant/Constable" (some 0) with
  accessFlags := 1537
  interfaces := #[]
  cf := some (fileOf pool2 1 #[] #[] 1537 3 #[] #[])
  fields := #[]
  methods := #[]
  instanceTypes := #[]
  staticTypes := #[]
  resolved := Array.replicate 11 none
  statics := none }

def pool3 : Array CpInfo := pool [(1, .class_ 2), (0, u "java/lang/Comparable"), (0, .class_ 4), (0, u "java/lang/Object")] 7

/-- java/lang/Comparable -/
def k3 : Class := { plain "java/lang/Comparable" (some 0) with
  accessFlags := 1537
  interfaces := #[]
  cf := some (fileOf pool3 1 #[] #[] 1537 3 #[] #[])
  fields := #[]
  methods := #[]
  instanceTypes := #[]
  staticTypes := #[]
  resolved := Array.replicate 12 none
  statics := none }

def pool4 : Array CpInfo := pool [(1, .class_ 2), (0, u "java/io/Serializable"), (0, .class_ 4), (0, u "java/lang/Object")] 2

/-- java/io/Serializable -/
def k4 : Class := { plain "java/io/Serializable" (some 0) with
  accessFlags := 1537
  interfaces := #[]
  cf := some (fileOf pool4 1 #[] #[] 1537 3 #[] #[])
  fields := #[]
  methods := #[]
  instanceTypes := #[]
  staticTypes := #[]
  resolved := Array.replicate 7 none
  statics := none }

def pool5 : Array CpInfo := pool [(2, .class_ 4), (1, u "java/lang/Enum"), (0, u "name"), (0, u "Ljava/lang/String;"), (0, .fieldref 2 8), (0, .nameAndType 9 10), (0, u "ordinal"), (0, u "I"), (1, .class_ 14), (1, u "java/lang/Object"), (4, u "hash"), (86, .class_ 108), (1, u "java/lang/Enum$EnumDesc"), (2, .class_ 112), (0, u "java/lang/constant/Constable"), (0, .class_ 114), (0, u "java/lang/Comparable"), (0, .class_ 116), (0, u "java/io/Serializable"), (9, u "()I")] 77

def k5c0 : Code := { maxStack := 1, maxLocals := 1, code := jdk_37_method_2_code, exceptionTable := #[], attributes := #[] }
def k5m0 : Method := { name := "ordinal", desc := "()I", sig := { parameters := [], returnType := some .int }, accessFlags := 17, code := some k5c0 }
/-- java/lang/Enum -/
def k5 : Class := { plain "java/lang/Enum" (some 0) with
  accessFlags := 1057
  interfaces := #[2, 3, 4]
  cf := some (fileOf pool5 2 #[.nestMembers #[106]] #[{ accessFlags := 17, nameIndex := 9, descriptorIndex := 126, attributes := #[] }] 1057 12 #[111, 113, 115] #[{ accessFlags := 18, nameIndex := 5, descriptorIndex := 6, attributes := #[] }, { accessFlags := 18, nameIndex := 9, descriptorIndex := 10, attributes := #[] }, { accessFlags := 2, nameIndex := 19, descriptorIndex := 10, attributes := #[] }])
  fields := #[{ name := "name", type := (.object "java/lang/String"), accessFlags := 18, slot := 0, constantValue := 0 }, { name := "ordinal", type := .int, accessFlags := 18, slot := 1, constantValue := 0 }, { name := "hash", type := .int, accessFlags := 2, slot := 2, constantValue := 0 }]
  methods := #[k5m0]
  instanceTypes := #[(.object "java/lang/String"), .int, .int]
  staticTypes := #[]
  resolved := Array.replicate 204 none
  statics := none }

def pool6 : Array CpInfo := pool [(1, .class_ 2), (0, u "com/example/moult/moult/schema/Schema$Type"), (2, u "NULL"), (0, u "Lcom/example/moult/moult/schema/Schema$Type;"), (2, u "BOOLEAN"), (2, u "INT"), (2, u "LONG"), (2, u "FLOAT"), (2, u "DOUBLE"), (2, u "BYTES"), (0, .fieldref 1 26), (0, .nameAndType 27 6), (0, u "STRING"), (2, u "RECORD"), (2, u "ENUM"), (2, u "ARRAY"), (2, u "MAP"), (2, u "UNION"), (2, u "FIXED"), (2, u "$VALUES"), (0, u "[Lcom/example/moult/moult/schema/Schema$Type;"), (6, .class_ 58), (1, u "java/lang/Enum"), (24, u "typeName"), (0, u "Ljava/lang/String;"), (0, .methodref 1 86), (0, .nameAndType 87 88), (0, u "ordinal"), (0, u "()I"), (26, u "isPrimitive"), (0, u "()Z"), (6, .class_ 124), (0, u "com/example/moult/moult/schema/Schema")] 2

def k6c0 : Code := { maxStack := 2, maxLocals := 1, code := prog_27_method_5_code, exceptionTable := #[], attributes := #[] }
def k6m0 : Method := { name := "isPrimitive", desc := "()Z", sig := { parameters := [], returnType := some .boolean }, accessFlags := 1, code := some k6c0 }
/-- com/example/moult/moult/schema/Schema$Type -/
def k6 : Class := { plain "com/example/moult/moult/schema/Schema$Type" (some 5) with
  accessFlags := 16433
  interfaces := #[]
  cf := some (fileOf pool6 1 #[.nestHost 123] #[{ accessFlags := 1, nameIndex := 115, descriptorIndex := 116, attributes := #[] }] 16433 56 #[] #[{ accessFlags := 16409, nameIndex := 5, descriptorIndex := 6, attributes := #[] }, { accessFlags := 16409, nameIndex := 9, descriptorIndex := 6, attributes := #[] }, { accessFlags := 16409, nameIndex := 12, descriptorIndex := 6, attributes := #[] }, { accessFlags := 16409, nameIndex := 15, descriptorIndex := 6, attributes := #[] }, { accessFlags := 16409, nameIndex := 18, descriptorIndex := 6, attributes := #[] }, { accessFlags := 16409, nameIndex := 21, descriptorIndex := 6, attributes := #[] }, { accessFlags := 16409, nameIndex := 24, descriptorIndex := 6, attributes := #[] }, { accessFlags := 16409, nameIndex := 27, descriptorIndex := 6, attributes := #[] }, { accessFlags := 16409, nameIndex := 30, descriptorIndex := 6, attributes := #[] }, { accessFlags := 16409, nameIndex := 33, descriptorIndex := 6, attributes := #[] }, { accessFlags := 16409, nameIndex := 36, descriptorIndex := 6, attributes := #[] }, { accessFlags := 16409, nameIndex := 39, descriptorIndex := 6, attributes := #[] }, { accessFlags := 16409, nameIndex := 42, descriptorIndex := 6, attributes := #[] }, { accessFlags := 16409, nameIndex := 45, descriptorIndex := 6, attributes := #[] }, { accessFlags := 18, nameIndex := 83, descriptorIndex := 84, attributes := #[] }, { accessFlags := 4122, nameIndex := 48, descriptorIndex := 49, attributes := #[] }])
  fields := #[{ name := "NULL", type := (.object "com/example/moult/moult/schema/Schema$Type"), accessFlags := 16409, slot := 0, constantValue := 0 }, { name := "BOOLEAN", type := (.object "com/example/moult/moult/schema/Schema$Type"), accessFlags := 16409, slot := 1, constantValue := 0 }, { name := "INT", type := (.object "com/example/moult/moult/schema/Schema$Type"), accessFlags := 16409, slot := 2, constantValue := 0 }, { name := "LONG", type := (.object "com/example/moult/moult/schema/Schema$Type"), accessFlags := 16409, slot := 3, constantValue := 0 }, { name := "FLOAT", type := (.object "com/example/moult/moult/schema/Schema$Type"), accessFlags := 16409, slot := 4, constantValue := 0 }, { name := "DOUBLE", type := (.object "com/example/moult/moult/schema/Schema$Type"), accessFlags := 16409, slot := 5, constantValue := 0 }, { name := "BYTES", type := (.object "com/example/moult/moult/schema/Schema$Type"), accessFlags := 16409, slot := 6, constantValue := 0 }, { name := "STRING", type := (.object "com/example/moult/moult/schema/Schema$Type"), accessFlags := 16409, slot := 7, constantValue := 0 }, { name := "RECORD", type := (.object "com/example/moult/moult/schema/Schema$Type"), accessFlags := 16409, slot := 8, constantValue := 0 }, { name := "ENUM", type := (.object "com/example/moult/moult/schema/Schema$Type"), accessFlags := 16409, slot := 9, constantValue := 0 }, { name := "ARRAY", type := (.object "com/example/moult/moult/schema/Schema$Type"), accessFlags := 16409, slot := 10, constantValue := 0 }, { name := "MAP", type := (.object "com/example/moult/moult/schema/Schema$Type"), accessFlags := 16409, slot := 11, constantValue := 0 }, { name := "UNION", type := (.object "com/example/moult/moult/schema/Schema$Type"), accessFlags := 16409, slot := 12, constantValue := 0 }, { name := "FIXED", type := (.object "com/example/moult/moult/schema/Schema$Type"), accessFlags := 16409, slot := 13, constantValue := 0 }, { name := "typeName", type := (.object "java/lang/String"), accessFlags := 18, slot := 3, constantValue := 0 }, { name := "$VALUES", type := (.array (.object "com/example/moult/moult/schema/Schema$Type")), accessFlags := 4122, slot := 14, constantValue := 0 }]
  methods := #[k6m0]
  instanceTypes := #[(.object "java/lang/String"), .int, .int, (.object "java/lang/String")]
  staticTypes := #[(.object "com/example/moult/moult/schema/Schema$Type"), (.object "com/example/moult/moult/schema/Schema$Type"), (.object "com/example/moult/moult/schema/Schema$Type"), (.object "com/example/moult/moult/schema/Schema$Type"), (.object "com/example/moult/moult/schema/Schema$Type"), (.object "com/example/moult/moult/schema/Schema$Type"), (.object "com/example/moult/moult/schema/Schema$Type"), (.object "com/example/moult/moult/schema/Schema$Type"), (.object "com/example/moult/moult/schema/Schema$Type"), (.object "com/example/moult/moult/schema/Schema$Type"), (.object "com/example/moult/moult/schema/Schema$Type"), (.object "com/example/moult/moult/schema/Schema$Type"), (.object "com/example/moult/moult/schema/Schema$Type"), (.object "com/example/moult/moult/schema/Schema$Type"), (.array (.object "com/example/moult/moult/schema/Schema$Type"))]
  resolved := Array.replicate 127 none
  statics := some 0 }

def pool7 : Array CpInfo := pool [(1, u "java/lang/Cloneable"), (0, .class_ 1), (0, u "java/lang/Object"), (0, .class_ 3)] 3

/-- java/lang/Cloneable -/
def k7 : Class := { plain "java/lang/Cloneable" (some 0) with
  accessFlags := 1537
  interfaces := #[]
  cf := some (fileOf pool7 2 #[] #[] 1537 4 #[] #[])
  fields := #[]
  methods := #[]
  instanceTypes := #[]
  staticTypes := #[]
  resolved := Array.replicate 8 none
  statics := none }

/-- the primitive byte -/
def k8 : Class := { plain "byte" none with kind := .primitive 'B', accessFlags := 0x411 }
/-- [B -/
def k9 : Class := { plain "[B" (some 0) with kind := .array 8 .byte, interfaces := #[7, 4], accessFlags := 1041 }

/-- the primitive int -/
def k10 : Class := { plain "int" none with kind := .primitive 'I', accessFlags := 0x411 }
/-- [I -/
def k11 : Class := { plain "[I" (some 0) with kind := .array 10 .int, interfaces := #[7, 4], accessFlags := 1041 }

def heap : Heap := #[{ cls := 6, slots := #[.ref 1, .ref 2, .ref 3, .ref 4, .ref 5, .ref 6, .ref 7, .ref 8, .ref 9, .ref 10, .ref 11, .ref 12, .ref 13, .ref 14, .null], vm := .statics 6 },
  { cls := 6, slots := #[.null, .int 0, .int 0, .null], vm := .none },
  { cls := 6, slots := #[.null, .int 1, .int 0, .null], vm := .none },
  { cls := 6, slots := #[.null, .int 2, .int 0, .null], vm := .none },
  { cls := 6, slots := #[.null, .int 3, .int 0, .null], vm := .none },
  { cls := 6, slots := #[.null, .int 4, .int 0, .null], vm := .none },
  { cls := 6, slots := #[.null, .int 5, .int 0, .null], vm := .none },
  { cls := 6, slots := #[.null, .int 6, .int 0, .null], vm := .none },
  { cls := 6, slots := #[.null, .int 7, .int 0, .null], vm := .none },
  { cls := 6, slots := #[.null, .int 8, .int 0, .null], vm := .none },
  { cls := 6, slots := #[.null, .int 9, .int 0, .null], vm := .none },
  { cls := 6, slots := #[.null, .int 10, .int 0, .null], vm := .none },
  { cls := 6, slots := #[.null, .int 11, .int 0, .null], vm := .none },
  { cls := 6, slots := #[.null, .int 12, .int 0, .null], vm := .none },
  { cls := 6, slots := #[.null, .int 13, .int 0, .null], vm := .none }]
def classes : Array Class := #[k0, k1, k2, k3, k4, k5, k6, k7, k8, k9, k10, k11]
def interned : List (Array UInt16 × Addr) := []
def slotsUsed : Nat := 71
def theMethod : MethodId := ⟨1, 3⟩
def args0 : Array Value := #[.int 5]
def aboutOver (below : List Frame) : State where
  vm := { classes := classes, interned := interned.toArray }
  heap := heap
  slotsUsed := slotsUsed
  threads := #[{ frames := .invoking theMethod args0 :: below }]
def below0 : List Frame := [.native { method := ⟨0, 0⟩, args := #[] }]
def about1 : State := aboutOver below0
def p0 : Program := .bare "" "" ""
def e0 : Env := launch0.env 0 0 0
theorem w_frames : about1.frames = Frame.invoking theMethod args0 :: below0 := rfl
set_option maxRecDepth 65536 in
theorem w_args : argsFit about1.vm theMethod args0 = true := by decide +kernel
set_option maxRecDepth 65536 in
theorem w_heap : heapFits about1 = true := by decide +kernel
set_option maxRecDepth 65536 in
theorem w_runnable : about1.curStatus? = some .runnable := by decide +kernel
set_option maxRecDepth 65536 in
theorem w_alone : about1.alone = true := by decide +kernel
set_option maxRecDepth 65536 in
theorem w_named : about1.methodNamed? x = some theMethod := by decide +kernel
set_option maxRecDepth 65536 in
theorem w_hears : about1.hears theMethod below0 = true := by decide +kernel
set_option maxRecDepth 65536 in
theorem w_ripe : about1.ripe theMethod args0 below0 = true := by decide +kernel
theorem w_running : about1.status = .running := rfl
set_option maxRecDepth 65536 in
theorem w_room : about1.hasRoom e0.platform room_1 = true :=
  launch0.hasRoom_least _ room_1 (by decide +kernel) (by decide +kernel) (by decide +kernel) (by decide +kernel) (by decide +kernel) (by decide +kernel)
theorem allAtoms_all (ts : List Jvm.Cond) (a : Array Jvm.Value) (st : Jvm.State) : (allAtoms ts).before a st = ts.all (fun c => c.before a st) := by
  induction ts with
  | nil => rfl
  | cons c t ih =>
    show (Jvm.Cond.and c (allAtoms t)).before a st = _
    rw [Jvm.Cond.before_and, ih, List.all_cons]
def words1 : List Jvm.Cond := Jvm.Cond.code x code maxLocals ret :: tables_1
/-- a 'code' word, met by the world's own term for the bytes: nothing is compared byte by byte -/
theorem code_word {y : MethodName} {bytes : ByteArray} {mx : Nat} {rt : Option FieldType} {a : Array Value} {s : State} {m : MethodId} {meth : Method} {c : Code} (h1 : s.methodNamed? y = some m) (h2 : s.vm.method? m = some meth) (h3 : meth.code = some c) (h4 : c.code = bytes)
    (h5 : (c.maxLocals == mx && c.exceptionTable.isEmpty && decide (c.maxStack ≤ mostOperands) && decide (meth.sig.returnType = rt) && !meth.locks && decide (parseMethodDescriptor y.desc = some meth.sig)) = true) : (Jvm.Cond.code y bytes mx rt).before a s = true := by
  simp only [Bool.and_eq_true, beq_iff_eq, Bool.not_eq_true', decide_eq_true_eq] at h5
  obtain ⟨⟨⟨⟨⟨g1, g2⟩, g3⟩, g4⟩, g5⟩, g6⟩ := h5
  simp [Cond.before, Cond.holds, Cond.value, h1, h2, h3, h4, g1, g2, g3, g4, g5, g6]
def isCode : Jvm.Cond → Bool
  | .code _ _ _ _ => true
  | _ => false
theorem all_split {L : List Jvm.Cond} {P : Jvm.Cond → Bool} (h1 : L.all (fun c => isCode c || P c) = true) (h2 : ∀ c ∈ L.filter isCode, P c = true) : L.all P = true := by
  refine List.all_eq_true.mpr fun c hc => ?_
  have h := List.all_eq_true.mp h1 c hc
  rcases Bool.eq_false_or_eq_true (isCode c) with hi | hi
  · exact h2 c (List.mem_filter.mpr ⟨hc, hi⟩)
  · simpa [hi] using h
set_option maxRecDepth 65536 in
theorem w_c0 : (Jvm.Cond.code x code maxLocals ret).before args0 about1 = true := code_word (m := ⟨1, 3⟩) (meth := k1m3) (c := k1c3) (by decide +kernel) rfl rfl rfl (by decide +kernel)
set_option maxRecDepth 65536 in
theorem w_c1 : (Jvm.Cond.code ({ cls := "com/example/moult/moult/schema/TypeIsPrimitivePinLaw", name := "pick", desc := "(I)Lcom/example/moult/moult/schema/Schema$Type;" } : Jvm.MethodName) method_2_code (1 : Nat) (Option.some (Jvm.ClassFile.FieldType.object "com/example/moult/moult/schema/Schema$Type"))).before args0 about1 = true := code_word (m := ⟨1, 1⟩) (meth := k1m1) (c := k1c1) (by decide +kernel) rfl rfl rfl (by decide +kernel)
set_option maxRecDepth 65536 in
theorem w_c2 : (Jvm.Cond.code ({ cls := "com/example/moult/moult/schema/Schema$Type", name := "isPrimitive", desc := "()Z" } : Jvm.MethodName) prog_27_method_5_code (1 : Nat) (Option.some Jvm.ClassFile.FieldType.boolean)).before args0 about1 = true := code_word (m := ⟨6, 0⟩) (meth := k6m0) (c := k6c0) (by decide +kernel) rfl rfl rfl (by decide +kernel)
set_option maxRecDepth 65536 in
theorem w_c3 : (Jvm.Cond.code ({ cls := "java/lang/Enum", name := "ordinal", desc := "()I" } : Jvm.MethodName) jdk_37_method_2_code (1 : Nat) (Option.some Jvm.ClassFile.FieldType.int)).before args0 about1 = true := code_word (m := ⟨5, 0⟩) (meth := k5m0) (c := k5c0) (by decide +kernel) rfl rfl rfl (by decide +kernel)
set_option maxRecDepth 65536 in
theorem w_c4 : (Jvm.Cond.code ({ cls := "com/example/moult/moult/schema/TypeIsPrimitivePinLaw", name := "expected", desc := "(Lcom/example/moult/moult/schema/Schema$Type;)Z" } : Jvm.MethodName) method_3_code (1 : Nat) (Option.some Jvm.ClassFile.FieldType.boolean)).before args0 about1 = true := code_word (m := ⟨1, 2⟩) (meth := k1m2) (c := k1c2) (by decide +kernel) rfl rfl rfl (by decide +kernel)
def codes1 : List Jvm.Cond := [Jvm.Cond.code x code maxLocals ret, Jvm.Cond.code ({ cls := "com/example/moult/moult/schema/TypeIsPrimitivePinLaw", name := "pick", desc := "(I)Lcom/example/moult/moult/schema/Schema$Type;" } : Jvm.MethodName) method_2_code (1 : Nat) (Option.some (Jvm.ClassFile.FieldType.object "com/example/moult/moult/schema/Schema$Type")), Jvm.Cond.code ({ cls := "com/example/moult/moult/schema/Schema$Type", name := "isPrimitive", desc := "()Z" } : Jvm.MethodName) prog_27_method_5_code (1 : Nat) (Option.some Jvm.ClassFile.FieldType.boolean), Jvm.Cond.code ({ cls := "java/lang/Enum", name := "ordinal", desc := "()I" } : Jvm.MethodName) jdk_37_method_2_code (1 : Nat) (Option.some Jvm.ClassFile.FieldType.int), Jvm.Cond.code ({ cls := "com/example/moult/moult/schema/TypeIsPrimitivePinLaw", name := "expected", desc := "(Lcom/example/moult/moult/schema/Schema$Type;)Z" } : Jvm.MethodName) method_3_code (1 : Nat) (Option.some Jvm.ClassFile.FieldType.boolean)]
set_option maxRecDepth 65536 in
theorem codes_eq : words1.filter isCode = codes1 := rfl
theorem w_codes : ∀ c ∈ words1.filter isCode, c.before args0 about1 = true := by
  rw [codes_eq]
  intro c hc
  simp only [codes1, List.mem_cons, List.not_mem_nil, or_false] at hc
  rcases hc with rfl | rfl | rfl | rfl | rfl
  · exact w_c0
  · exact w_c1
  · exact w_c2
  · exact w_c3
  · exact w_c4
set_option maxRecDepth 65536 in
theorem w_t1 : (words1.take 24).all (fun c => isCode c || c.before args0 about1) = true := by decide +kernel
set_option maxRecDepth 65536 in
theorem w_t2 : ((words1.drop 24).take 24).all (fun c => isCode c || c.before args0 about1) = true := by decide +kernel
set_option maxRecDepth 65536 in
theorem w_t3 : ((words1.drop 24).drop 24).all (fun c => isCode c || c.before args0 about1) = true := by decide +kernel
theorem w_tables : (allAtoms (Jvm.Cond.code x code maxLocals ret :: tables_1)).before args0 about1 = true := by
  rw [allAtoms_all]
  show words1.all (fun c => c.before args0 about1) = true
  refine all_split ?_ w_codes
  rw [← List.take_append_drop 24 words1, List.all_append, w_t1, ← List.take_append_drop 24 (words1.drop 24), List.all_append, w_t2, w_t3]
  rfl
set_option maxRecDepth 65536 in
theorem w_case : (Jvm.Cond.and given_1 narrow_1).before args0 about1 = true := by decide +kernel
theorem w_applies : (headSpec (Jvm.Cond.code x code maxLocals ret :: tables_1) room_1).applies x e0.platform about1 = true :=
  (Spec.applies_iff w_frames).mpr ⟨w_running, w_runnable, w_alone, w_named, w_hears, w_ripe, w_room, w_tables⟩
theorem atStart : AtStart classFile x code maxLocals ret World_1 tables_1 room_1 Calls_1 rest_1 Pre_1 launch0 p0 e0 about1 theMethod args0 below0 :=
  ⟨lists_1, trivial, launch0.admits_env _ _ _, launch0.least_env, fairChoices_fair.cas, fairChoices_fair.clock, w_frames, w_args, w_heap, w_applies, trivial, trivial, w_case⟩
end start1
theorem witness_1 : WitnessClaimed_1 := ⟨start1.p0, start1.e0, start1.about1, start1.theMethod, start1.args0, start1.below0, start1.atStart⟩
end Jvm.Pilot.@@N@@
