import JvmDerived
import JvmDerived.Pilot.@@N@@Statement
import JvmDerived.Pilot.@@N@@Code
set_option linter.unusedVariables false
set_option linter.unusedSimpArgs false
namespace Jvm.RoadKit
open Sem ClassFile Op Lib Jvm.Stand Jvm.Free Jvm.LawKit
section New
variable {p : Program} {l : Launch} {e : Env} {R : Room} {s : State} {m : MethodId} {args : Array Value} {below : List Frame} {meth : Method} {c : Code} {T : State} {locs : List Loc} {cells slots : Nat}
theorem retI (X : Stand p l e R s m args below meth c T locs cells slots) (hx : p.tables.exec = Jvm.exec) {pc : Nat} {Ls : Array Slot} {z : Int32} {rest : List Value} (hret : meth.sig.returnType = some .int) (hd : decode c.code pc = .ok (.ireturn, 1)) {fs : List Frame}
    (hl : ∀ (f : JFrame) (acts : List Action), f.method = m → f.locked = none → f.entered = [] → (doReturn e (T.setTop f) acts (some (.int z))).1 = T.setFrames fs) : Steps p.tables e below (T.setTop (mkF m pc Ls (.int z :: rest))) (T.setFrames fs) := by
  have hm' : T.vm.method? m = some meth := X.method'
  have hn : narrow .int (.int z) = .int z := rfl
  show Steps p.tables e below (T.setTop { method := m, pc := pc, locals := Ls, stack := _ :: rest, locked := none }) _
  jvm_step X.here [X.here.top, hx, hd, hm', hret, hn]
  first | (intro acts; rw [hl _ acts rfl rfl rfl]) | rw [hl _ _ rfl rfl rfl]
  exact Steps.refl _
end New
end Jvm.RoadKit
namespace Jvm.Pilot.@@N@@
open Jvm Jvm.ClassFile Sem Op Lib Jvm.Free Jvm.Stand Jvm.LawKit Jvm.RoadKit Bundle Jvm.Pilot.@@N@@.Jvm.D
def own_v4 (f : Nat → Int32) : List Value := [.int (f 0), .int (f 1), .int (f 2), .int (f 3)]
def own_i (x : Int32) : Nat := min x.toNatClampNeg 3
def own_f {α : Type} (a b c d : α) : Nat → α := fun j => match j with | 0 => a | 1 => b | 2 => c | _ => d
theorem own_get (f : Nat → Int32) (x : Int32) (d : Value) (h : x.toNatClampNeg < 4) : (own_v4 f).getD x.toNatClampNeg d = .int (f (own_i x)) := by
  unfold own_i
  generalize x.toNatClampNeg = k at *
  match k, h with
  | 0, _ => rfl
  | 1, _ => rfl
  | 2, _ => rfl
  | 3, _ => rfl
def own_sym {α : Type} (f : Nat → α) (m : Int32) (c : α) (i : Int32) : α := if i < m then f (own_i i) else c
def own_e1 {α : Type} [DecidableEq α] (f : Nat → α) (m : Int32) (c : α) : Int32 := (if f 0 = own_sym f m c ((m + (1 : Int32)) - (1 : Int32)) then (1 : Int32) else (0 : Int32))
def own_e2 {α : Type} [DecidableEq α] (f : Nat → α) (m : Int32) (c : α) : Int32 := (if f 0 = own_sym f m c ((m + (1 : Int32)) - (2 : Int32)) then (if f 1 = own_sym f m c (((m + (1 : Int32)) - (2 : Int32)) + (1 : Int32)) then (1 : Int32) else (0 : Int32)) else (0 : Int32))
def own_e3 {α : Type} [DecidableEq α] (f : Nat → α) (m : Int32) (c : α) : Int32 := (if f 0 = own_sym f m c ((m + (1 : Int32)) - (3 : Int32)) then (if f 1 = own_sym f m c (((m + (1 : Int32)) - (3 : Int32)) + (1 : Int32)) then (if f 2 = own_sym f m c (((m + (1 : Int32)) - (3 : Int32)) + (2 : Int32)) then (1 : Int32) else (0 : Int32)) else (0 : Int32)) else (0 : Int32))
def own_e4 {α : Type} [DecidableEq α] (f : Nat → α) (m : Int32) (c : α) : Int32 := (if f 0 = own_sym f m c ((m + (1 : Int32)) - (4 : Int32)) then (if f 1 = own_sym f m c (((m + (1 : Int32)) - (4 : Int32)) + (1 : Int32)) then (if f 2 = own_sym f m c (((m + (1 : Int32)) - (4 : Int32)) + (2 : Int32)) then (if f 3 = own_sym f m c (((m + (1 : Int32)) - (4 : Int32)) + (3 : Int32)) then (1 : Int32) else (0 : Int32)) else (0 : Int32)) else (0 : Int32)) else (0 : Int32))
def own_b0 {α : Type} [DecidableEq α] (f : Nat → α) (m : Int32) (c : α) (K : Int32) : Int32 := (0 : Int32)
def own_b1 {α : Type} [DecidableEq α] (f : Nat → α) (m : Int32) (c : α) (K : Int32) : Int32 := if K < (1 : Int32) then own_b0 f m c K else if own_e1 f m c = (0 : Int32) then own_b0 f m c K else (1 : Int32)
def own_b2 {α : Type} [DecidableEq α] (f : Nat → α) (m : Int32) (c : α) (K : Int32) : Int32 := if K < (2 : Int32) then own_b1 f m c K else if own_e2 f m c = (0 : Int32) then own_b1 f m c K else (2 : Int32)
def own_b3 {α : Type} [DecidableEq α] (f : Nat → α) (m : Int32) (c : α) (K : Int32) : Int32 := if K < (3 : Int32) then own_b2 f m c K else if own_e3 f m c = (0 : Int32) then own_b2 f m c K else (3 : Int32)
def own_b4 {α : Type} [DecidableEq α] (f : Nat → α) (m : Int32) (c : α) (K : Int32) : Int32 := if K < (4 : Int32) then own_b3 f m c K else if own_e4 f m c = (0 : Int32) then own_b3 f m c K else (4 : Int32)
def own_min (a b : Int32) : Int32 := if b < a then b else a
def own_x0 (g : Nat → Int32) (z m : Int32) : Int32 := if m = z then (if (0 : Int32) < z then g (own_i (m - (1 : Int32))) else m) else m
def own_lp {α : Type} [DecidableEq α] (f : Nat → α) (g : Nat → Int32) (c : α) : Nat → Int32 → Int32
  | 0, x => x
  | k + 1, x => if (0 : Int32) < x then (if f (own_i x) = c then x else own_lp f g c k (g (own_i (x - (1 : Int32))))) else x
def own_fi {α : Type} [DecidableEq α] (f : Nat → α) (z : Int32) (c : α) (y : Int32) : Int32 := if y < z then (if f (own_i y) = c then y + (1 : Int32) else y) else y
def own_adv {α : Type} [DecidableEq α] (f : Nat → α) (g : Nat → Int32) (z m : Int32) (c : α) : Int32 := own_fi f z c (own_lp f g c 4 (own_x0 g z m))
def own_ok (m z i : Int32) : Prop := i < m → (¬ i < (0 : Int32) ∧ i < z) ∧ i.toNatClampNeg < 4
def own_B (m z : Int32) : Prop := 0 ≤ m.toInt ∧ m.toInt ≤ z.toInt ∧ z.toInt ≤ 4
theorem own_z0 : (0 : Int32).toInt = 0 := by decide
theorem own_z1 : (1 : Int32).toInt = 1 := by decide
theorem own_clamp (x : Int32) (h : 0 ≤ x.toInt ∧ x.toInt < 4) : x.toNatClampNeg < 4 := by
  have q := nat_of (j := x) (by rw [Int32.lt_iff_toInt_lt, own_z0]; omega)
  omega
theorem own_ii (x : Int32) (h : 0 ≤ x.toInt ∧ x.toInt < 4) : (own_i x : Int) = x.toInt := by
  have q := nat_of (j := x) (by rw [Int32.lt_iff_toInt_lt, own_z0]; omega)
  unfold own_i
  omega
theorem own_okz (m z k : Int32) (hB : own_B m z) (hk : 1 ≤ k.toInt ∧ k.toInt ≤ 4 ∧ k.toInt ≤ m.toInt + 1) : own_ok m z ((m + (1 : Int32)) - k) := by
  intro h
  obtain ⟨b1, b2, b3⟩ := hB
  have h1 := c_iadd m (1 : Int32)
  have h2 := c_isub (m + (1 : Int32)) k
  have r1 := rng32 (m + (1 : Int32)); have r2 := rng32 ((m + (1 : Int32)) - k)
  rw [own_z1] at h1
  rw [Int32.lt_iff_toInt_lt] at h
  have h0 : 0 ≤ ((m + (1 : Int32)) - k).toInt := by omega
  refine ⟨⟨by rw [Int32.lt_iff_toInt_lt, own_z0]; omega, by rw [Int32.lt_iff_toInt_lt]; omega⟩, own_clamp _ (by omega)⟩
theorem own_okj (m z k j : Int32) (hB : own_B m z) (hk : 1 ≤ k.toInt ∧ k.toInt ≤ 4 ∧ k.toInt ≤ m.toInt + 1) (hj : 0 ≤ j.toInt ∧ j.toInt < 4) : own_ok m z (((m + (1 : Int32)) - k) + j) := by
  intro h
  obtain ⟨b1, b2, b3⟩ := hB
  have h1 := c_iadd m (1 : Int32)
  have h2 := c_isub (m + (1 : Int32)) k
  have h3 := c_iadd ((m + (1 : Int32)) - k) j
  have r1 := rng32 (m + (1 : Int32)); have r2 := rng32 ((m + (1 : Int32)) - k); have r3 := rng32 (((m + (1 : Int32)) - k) + j)
  rw [own_z1] at h1
  rw [Int32.lt_iff_toInt_lt] at h
  have h0 : 0 ≤ (((m + (1 : Int32)) - k) + j).toInt := by omega
  refine ⟨⟨by rw [Int32.lt_iff_toInt_lt, own_z0]; omega, by rw [Int32.lt_iff_toInt_lt]; omega⟩, own_clamp _ (by omega)⟩
theorem own_kk (K k z m : Int32) (hK : K.toInt ≤ z.toInt ∧ K.toInt ≤ m.toInt + 1) (h : ¬ K < k) : k.toInt ≤ z.toInt ∧ k.toInt ≤ m.toInt + 1 := by
  rw [Int32.lt_iff_toInt_lt] at h; omega
theorem own_hz {z : Int32} {k : Int} (h : k ≤ z.toInt) : ∀ j : Int32, 0 ≤ j.toInt → j.toInt < k → j < z := fun j _ hj => by rw [Int32.lt_iff_toInt_lt]; omega
theorem d5_0 : decode method_3_code 0 = .ok (.iload_n 3, 1) := by decide +kernel
theorem d5_1 : decode method_3_code 1 = .ok (.iload_n 1, 1) := by decide +kernel
theorem d5_2 : decode method_3_code 2 = .ok (.if_icmp .ge 9, 3) := by decide +kernel
theorem d5_5 : decode method_3_code 5 = .ok (.aload_n 0, 1) := by decide +kernel
theorem d5_6 : decode method_3_code 6 = .ok (.iload_n 3, 1) := by decide +kernel
theorem d5_7 : decode method_3_code 7 = .ok (.iaload, 1) := by decide +kernel
theorem d5_8 : decode method_3_code 8 = .ok (.goto 4, 3) := by decide +kernel
theorem d5_11 : decode method_3_code 11 = .ok (.iload_n 2, 1) := by decide +kernel
theorem d5_12 : decode method_3_code 12 = .ok (.ireturn, 1) := by decide +kernel
theorem pn_5 : plainName "com/example/humble_match/humblematch/PartialMatchTableAdvancePinLaw" = true := by first | (simp [plainName, overriddenIn]; done) | decide +kernel
theorem ef_5 (m : MethodId) (a1 : Addr) (p2 : Int32) (p3 : Int32) (p4 : Int32) : entryFrame m #[(.ref a1), (.int p2), (.int p3), (.int p4)] 4 = mkF m 0 #[.val (.ref a1), .val (.int p2), .val (.int p3), .val (.int p4)] [] := by first | (simp [entryFrame, mkF, argsToLocals, Value.category]; done) | rfl
def Q5 (Z : State) (a1 : Addr) (p2 : Int32) (p3 : Int32) (p4 : Int32) (k1 : ClassId) (z : Int32) (f : Nat → Int32) (h0 : Heap) (n0 : Nat) (v : Option Value) (h : Heap) (L : List Loc) : Prop := v = some (.int (own_sym f p2 p3 p4)) ∧ Fr n0 L ∧ h = h0
set_option maxRecDepth 65536 in
set_option maxHeartbeats 40000000 in
theorem rm5 (l : Launch) (Z : State) (a0 : Array Value) (hw : ∀ d ∈ tables_1, d.before a0 Z = true) (ws : List Jvm.Cond) (a1 : Addr) (p2 : Int32) (p3 : Int32) (p4 : Int32) (k1 : ClassId) (z : Int32) (f : Nat → Int32) (h0 : Heap) (n0 : Nat) (Z0 : n0 ≤ h0.size) (V_1 : Arv Z h0 a1 k1 .int z (own_v4 f) (.int (0 : Int32))) (hok : own_ok p2 z p4) :
    MetFree l (⟨"com/example/humble_match/humblematch/PartialMatchTableAdvancePinLaw", "sym", "([IIII)I"⟩ : MethodName) (head1 (Jvm.Cond.code (⟨"com/example/humble_match/humblematch/PartialMatchTableAdvancePinLaw", "sym", "([IIII)I"⟩ : MethodName) method_3_code 4 (some .int) :: ws) ({ frames := 0, cells := 0, slots := 0, locals := 0 } : Room)) (fun a U => a = #[(.ref a1), (.int p2), (.int p3), (.int p4)] ∧ Z.Warmed39 U.vm ∧ U.heap = h0) (fun _ _ _ _ _ => True) (fun _ U o U' => ∃ v L, o = .returned v ∧ Q5 Z a1 p2 p3 p4 k1 z f h0 n0 v U'.heap L ∧ FrameEnd U o U' L ({ frames := 0, cells := 0, slots := 0, locals := 0 } : Room).cells ({ frames := 0, cells := 0, slots := 0, locals := 0 } : Room).slots) := by
  refine MetFree.of_bodySF (plainFor_of_name pn_5) hisR ?_
  intro p e s m args below meth c s₁ Bd hml0 hP hK
  obtain ⟨rfl, hZ, hh⟩ := hP
  have hx := Bd.exec
  have hby := Bd.bytes
  have hml : c.maxLocals = 4 := hml0
  have hown : s.vm.findClass "com/example/humble_match/humblematch/PartialMatchTableAdvancePinLaw" = some m.cls := findClass_of_methodNamed Bd.named
  have hnm := (name_of_methodNamed Bd.named Bd.method).1
  have X0 : Stand p l e ({ frames := 0, cells := 0, slots := 0, locals := 0 } : Room) s m #[(.ref a1), (.int p2), (.int p3), (.int p4)] below meth c s₁ [] 0 0 := Stand.of_body Bd
  have e0 : s₁.heap = h0 := by rw [← hh, Bd.state]; rfl
  have N0 := Fr.nil n0
  have pre0 : ∀ t, Steps p.tables e below (s₁.setTop (mkF m 0 #[.val (.ref a1), .val (.int p2), .val (.int p3), .val (.int p4)] [])) t → Steps p.tables e below (s₁.setTop (entryFrame m #[(.ref a1), (.int p2), (.int p3), (.int p4)] 4)) t := fun t k => castTop (ef_5 m a1 p2 p3 p4) k
  have K0 : Keep h0 h0 [] := Keep.refl h0 []
  have ch1 : Goes p e below s₁ (entryFrame m #[(.ref a1), (.int p2), (.int p3), (.int p4)] 4) s₁ (mkF m 2 #[.val (.ref a1), .val (.int p2), .val (.int p3), .val (.int p4)] [(.int p2), (.int p4)]) := fun t kt => pre0 t (by
    show Steps p.tables e below (s₁.setTop (mkF m 0 #[.val (.ref a1), .val (.int p2), .val (.int p3), .val (.int p4)] [])) _
    refine XS.iloadN X0.here hx rfl (hb hby d5_0) rfl ?_
    show Steps p.tables e below (s₁.setTop (mkF m 1 #[.val (.ref a1), .val (.int p2), .val (.int p3), .val (.int p4)] [(.int p4)])) _
    refine XS.iloadN X0.here hx rfl (hb hby d5_1) rfl ?_
    show Steps p.tables e below (s₁.setTop (mkF m 2 #[.val (.ref a1), .val (.int p2), .val (.int p3), .val (.int p4)] [(.int p2), (.int p4)])) _
    exact kt)
  by_cases hc2 : p4 < p2
  · obtain ⟨cl3, Ar3, -, S3, M3, H3, G3⟩ := id V_1
    have hin3 : ¬ (p4 < 0 ∨ cl3.slots.size ≤ (p4).toNatClampNeg) := inb_of S3 (hok hc2).1
    have hat3 : cl3.slots[(p4).toNatClampNeg]? = some (.int (f (own_i p4))) := Has.at H3 hin3 (own_get f p4 _ (hok hc2).2)
    have hv : (f (own_i p4)) = own_sym f p2 p3 p4 := by simp [own_sym, hc2]
    obtain ⟨fs, hr, hrun, hended, hW, hsame⟩ := X0.leave (v := some (.int (f (own_i p4)))) (fun h => by rw [Bd.returns] at h; cases h)
    refine ⟨_, _, ch1 _ ?_, hrun, hended, _, _, rfl, ?_, ⟨_, rfl⟩, hW, hsame.mono (by decide) (by decide)⟩
    · show Steps p.tables e below (s₁.setTop (mkF m 2 #[.val (.ref a1), .val (.int p2), .val (.int p3), .val (.int p4)] [(.int p2), (.int p4)])) _
      refine XS.icmpNo X0.here hx rfl (hb hby d5_2) rfl (tlt hc2).2.1 ?_
      show Steps p.tables e below (s₁.setTop (mkF m 5 #[.val (.ref a1), .val (.int p2), .val (.int p3), .val (.int p4)] [])) _
      refine XS.aloadN X0.here hx rfl (hb hby d5_5) rfl rfl ?_
      show Steps p.tables e below (s₁.setTop (mkF m 6 #[.val (.ref a1), .val (.int p2), .val (.int p3), .val (.int p4)] [(.ref a1)])) _
      refine XS.iloadN X0.here hx rfl (hb hby d5_6) rfl ?_
      show Steps p.tables e below (s₁.setTop (mkF m 7 #[.val (.ref a1), .val (.int p2), .val (.int p3), .val (.int p4)] [(.int p4), (.ref a1)])) _
      refine X0.iaload hx (j := p4) (v := (.int (f (own_i p4)))) (by rw [e0]; exact Ar3.1) (State.isArrayOf_alike hZ.alike Ar3.2.1) Ar3.2.2 hin3 hat3 (g := (mkF m 7 #[.val (.ref a1), .val (.int p2), .val (.int p3), .val (.int p4)] [(.int p4), (.ref a1)])) rfl rfl (hb hby d5_7) _ ?_
      show Steps p.tables e below (s₁.setTop (mkF m 8 #[.val (.ref a1), .val (.int p2), .val (.int p3), .val (.int p4)] [(.int (f (own_i p4)))])) _
      refine XS.goto X0.here hx rfl (pc0 := 8) (pc' := 12) rfl (hb hby d5_8) (by decide) (by decide) ?_
      show Steps p.tables e below (s₁.setTop (mkF m 12 #[.val (.ref a1), .val (.int p2), .val (.int p3), .val (.int p4)] [(.int (f (own_i p4)))])) _
      exact retI X0 hx Bd.returns (hb hby d5_12) hr
    · show Q5 Z a1 p2 p3 p4 k1 z f h0 n0 _ s₁.heap _
      rw [e0]
      exact ⟨congrArg (fun z => some (Value.int z)) hv, N0, rfl⟩
  · have hv : p3 = own_sym f p2 p3 p4 := by simp [own_sym, hc2]
    obtain ⟨fs, hr, hrun, hended, hW, hsame⟩ := X0.leave (v := some (.int p3)) (fun h => by rw [Bd.returns] at h; cases h)
    refine ⟨_, _, ch1 _ ?_, hrun, hended, _, _, rfl, ?_, ⟨_, rfl⟩, hW, hsame.mono (by decide) (by decide)⟩
    · show Steps p.tables e below (s₁.setTop (mkF m 2 #[.val (.ref a1), .val (.int p2), .val (.int p3), .val (.int p4)] [(.int p2), (.int p4)])) _
      refine XS.icmpYes X0.here hx rfl (pc0 := 2) (pc' := 11) rfl (hb hby d5_2) rfl (flt hc2).2.1 (by decide) (by decide) ?_
      show Steps p.tables e below (s₁.setTop (mkF m 11 #[.val (.ref a1), .val (.int p2), .val (.int p3), .val (.int p4)] [])) _
      refine XS.iloadN X0.here hx rfl (hb hby d5_11) rfl ?_
      show Steps p.tables e below (s₁.setTop (mkF m 12 #[.val (.ref a1), .val (.int p2), .val (.int p3), .val (.int p4)] [(.int p3)])) _
      exact retI X0 hx Bd.returns (hb hby d5_12) hr
    · show Q5 Z a1 p2 p3 p4 k1 z f h0 n0 _ s₁.heap _
      rw [e0]
      exact ⟨congrArg (fun z => some (Value.int z)) hv, N0, rfl⟩
theorem d4_0 : decode method_4_code 0 = .ok (.iload_n 1, 1) := by decide +kernel
theorem d4_1 : decode method_4_code 1 = .ok (.iconst 1, 1) := by decide +kernel
theorem d4_2 : decode method_4_code 2 = .ok (.iadd, 1) := by decide +kernel
theorem d4_3 : decode method_4_code 3 = .ok (.iload_n 3, 1) := by decide +kernel
theorem d4_4 : decode method_4_code 4 = .ok (.isub, 1) := by decide +kernel
theorem d4_5 : decode method_4_code 5 = .ok (.istore 4, 2) := by decide +kernel
theorem d4_7 : decode method_4_code 7 = .ok (.iconst 1, 1) := by decide +kernel
theorem d4_8 : decode method_4_code 8 = .ok (.istore 5, 2) := by decide +kernel
theorem d4_10 : decode method_4_code 10 = .ok (.iload_n 3, 1) := by decide +kernel
theorem d4_11 : decode method_4_code 11 = .ok (.ifCond .le 29, 3) := by decide +kernel
theorem d4_14 : decode method_4_code 14 = .ok (.iload 5, 2) := by decide +kernel
theorem d4_16 : decode method_4_code 16 = .ok (.ifCond .eq 21, 3) := by decide +kernel
theorem d4_19 : decode method_4_code 19 = .ok (.aload_n 0, 1) := by decide +kernel
theorem d4_20 : decode method_4_code 20 = .ok (.iconst 0, 1) := by decide +kernel
theorem d4_21 : decode method_4_code 21 = .ok (.iaload, 1) := by decide +kernel
theorem d4_22 : decode method_4_code 22 = .ok (.aload_n 0, 1) := by decide +kernel
theorem d4_23 : decode method_4_code 23 = .ok (.iload_n 1, 1) := by decide +kernel
theorem d4_24 : decode method_4_code 24 = .ok (.iload_n 2, 1) := by decide +kernel
theorem d4_25 : decode method_4_code 25 = .ok (.iload 4, 2) := by decide +kernel
theorem d4_27 : decode method_4_code 27 = .ok (.invokestatic 26, 3) := by decide +kernel
theorem d4_30 : decode method_4_code 30 = .ok (.if_icmp .ne 7, 3) := by decide +kernel
theorem d4_33 : decode method_4_code 33 = .ok (.iconst 1, 1) := by decide +kernel
theorem d4_34 : decode method_4_code 34 = .ok (.goto 4, 3) := by decide +kernel
theorem d4_37 : decode method_4_code 37 = .ok (.iconst 0, 1) := by decide +kernel
theorem d4_38 : decode method_4_code 38 = .ok (.istore 5, 2) := by decide +kernel
theorem d4_40 : decode method_4_code 40 = .ok (.iload_n 3, 1) := by decide +kernel
theorem d4_41 : decode method_4_code 41 = .ok (.iconst 1, 1) := by decide +kernel
theorem d4_42 : decode method_4_code 42 = .ok (.if_icmp .le 31, 3) := by decide +kernel
theorem d4_45 : decode method_4_code 45 = .ok (.iload 5, 2) := by decide +kernel
theorem d4_47 : decode method_4_code 47 = .ok (.ifCond .eq 23, 3) := by decide +kernel
theorem d4_50 : decode method_4_code 50 = .ok (.aload_n 0, 1) := by decide +kernel
theorem d4_51 : decode method_4_code 51 = .ok (.iconst 1, 1) := by decide +kernel
theorem d4_52 : decode method_4_code 52 = .ok (.iaload, 1) := by decide +kernel
theorem d4_53 : decode method_4_code 53 = .ok (.aload_n 0, 1) := by decide +kernel
theorem d4_54 : decode method_4_code 54 = .ok (.iload_n 1, 1) := by decide +kernel
theorem d4_55 : decode method_4_code 55 = .ok (.iload_n 2, 1) := by decide +kernel
theorem d4_56 : decode method_4_code 56 = .ok (.iload 4, 2) := by decide +kernel
theorem d4_58 : decode method_4_code 58 = .ok (.iconst 1, 1) := by decide +kernel
theorem d4_59 : decode method_4_code 59 = .ok (.iadd, 1) := by decide +kernel
theorem d4_60 : decode method_4_code 60 = .ok (.invokestatic 26, 3) := by decide +kernel
theorem d4_63 : decode method_4_code 63 = .ok (.if_icmp .ne 7, 3) := by decide +kernel
theorem d4_66 : decode method_4_code 66 = .ok (.iconst 1, 1) := by decide +kernel
theorem d4_67 : decode method_4_code 67 = .ok (.goto 4, 3) := by decide +kernel
theorem d4_70 : decode method_4_code 70 = .ok (.iconst 0, 1) := by decide +kernel
theorem d4_71 : decode method_4_code 71 = .ok (.istore 5, 2) := by decide +kernel
theorem d4_73 : decode method_4_code 73 = .ok (.iload_n 3, 1) := by decide +kernel
theorem d4_74 : decode method_4_code 74 = .ok (.iconst 2, 1) := by decide +kernel
theorem d4_75 : decode method_4_code 75 = .ok (.if_icmp .le 31, 3) := by decide +kernel
theorem d4_78 : decode method_4_code 78 = .ok (.iload 5, 2) := by decide +kernel
theorem d4_80 : decode method_4_code 80 = .ok (.ifCond .eq 23, 3) := by decide +kernel
theorem d4_83 : decode method_4_code 83 = .ok (.aload_n 0, 1) := by decide +kernel
theorem d4_84 : decode method_4_code 84 = .ok (.iconst 2, 1) := by decide +kernel
theorem d4_85 : decode method_4_code 85 = .ok (.iaload, 1) := by decide +kernel
theorem d4_86 : decode method_4_code 86 = .ok (.aload_n 0, 1) := by decide +kernel
theorem d4_87 : decode method_4_code 87 = .ok (.iload_n 1, 1) := by decide +kernel
theorem d4_88 : decode method_4_code 88 = .ok (.iload_n 2, 1) := by decide +kernel
theorem d4_89 : decode method_4_code 89 = .ok (.iload 4, 2) := by decide +kernel
theorem d4_91 : decode method_4_code 91 = .ok (.iconst 2, 1) := by decide +kernel
theorem d4_92 : decode method_4_code 92 = .ok (.iadd, 1) := by decide +kernel
theorem d4_93 : decode method_4_code 93 = .ok (.invokestatic 26, 3) := by decide +kernel
theorem d4_96 : decode method_4_code 96 = .ok (.if_icmp .ne 7, 3) := by decide +kernel
theorem d4_99 : decode method_4_code 99 = .ok (.iconst 1, 1) := by decide +kernel
theorem d4_100 : decode method_4_code 100 = .ok (.goto 4, 3) := by decide +kernel
theorem d4_103 : decode method_4_code 103 = .ok (.iconst 0, 1) := by decide +kernel
theorem d4_104 : decode method_4_code 104 = .ok (.istore 5, 2) := by decide +kernel
theorem d4_106 : decode method_4_code 106 = .ok (.iload_n 3, 1) := by decide +kernel
theorem d4_107 : decode method_4_code 107 = .ok (.iconst 3, 1) := by decide +kernel
theorem d4_108 : decode method_4_code 108 = .ok (.if_icmp .le 31, 3) := by decide +kernel
theorem d4_111 : decode method_4_code 111 = .ok (.iload 5, 2) := by decide +kernel
theorem d4_113 : decode method_4_code 113 = .ok (.ifCond .eq 23, 3) := by decide +kernel
theorem d4_116 : decode method_4_code 116 = .ok (.aload_n 0, 1) := by decide +kernel
theorem d4_117 : decode method_4_code 117 = .ok (.iconst 3, 1) := by decide +kernel
theorem d4_118 : decode method_4_code 118 = .ok (.iaload, 1) := by decide +kernel
theorem d4_119 : decode method_4_code 119 = .ok (.aload_n 0, 1) := by decide +kernel
theorem d4_120 : decode method_4_code 120 = .ok (.iload_n 1, 1) := by decide +kernel
theorem d4_121 : decode method_4_code 121 = .ok (.iload_n 2, 1) := by decide +kernel
theorem d4_122 : decode method_4_code 122 = .ok (.iload 4, 2) := by decide +kernel
theorem d4_124 : decode method_4_code 124 = .ok (.iconst 3, 1) := by decide +kernel
theorem d4_125 : decode method_4_code 125 = .ok (.iadd, 1) := by decide +kernel
theorem d4_126 : decode method_4_code 126 = .ok (.invokestatic 26, 3) := by decide +kernel
theorem d4_129 : decode method_4_code 129 = .ok (.if_icmp .ne 7, 3) := by decide +kernel
theorem d4_132 : decode method_4_code 132 = .ok (.iconst 1, 1) := by decide +kernel
theorem d4_133 : decode method_4_code 133 = .ok (.goto 4, 3) := by decide +kernel
theorem d4_136 : decode method_4_code 136 = .ok (.iconst 0, 1) := by decide +kernel
theorem d4_137 : decode method_4_code 137 = .ok (.istore 5, 2) := by decide +kernel
theorem d4_139 : decode method_4_code 139 = .ok (.iload 5, 2) := by decide +kernel
theorem d4_141 : decode method_4_code 141 = .ok (.ireturn, 1) := by decide +kernel
theorem pn_4 : plainName "com/example/humble_match/humblematch/PartialMatchTableAdvancePinLaw" = true := by first | (simp [plainName, overriddenIn]; done) | decide +kernel
theorem ef_E1 (m : MethodId) (a1 : Addr) (p2 : Int32) (p3 : Int32) : entryFrame m #[(.ref a1), (.int p2), (.int p3), (.int (1 : Int32))] 6 = mkF m 0 #[.val (.ref a1), .val (.int p2), .val (.int p3), .val (.int (1 : Int32)), .unset, .unset] [] := by first | (simp [entryFrame, mkF, argsToLocals, Value.category]; done) | rfl
theorem pd_1 : parseMethodDescriptor "([IIII)I" = some ⟨[(.array .int), .int, .int, .int], some .int⟩ := by decide +kernel
def QE1 (Z : State) (a1 : Addr) (p2 : Int32) (p3 : Int32) (k1 : ClassId) (z : Int32) (f : Nat → Int32) (h0 : Heap) (n0 : Nat) (v : Option Value) (h : Heap) (L : List Loc) : Prop := v = some (.int (own_e1 f p2 p3)) ∧ Fr n0 L ∧ h = h0
set_option maxRecDepth 65536 in
set_option maxHeartbeats 40000000 in
theorem rmE1 (l : Launch) (Z : State) (a0 : Array Value) (hw : ∀ d ∈ tables_1, d.before a0 Z = true) (ws : List Jvm.Cond) (a1 : Addr) (p2 : Int32) (p3 : Int32) (k1 : ClassId) (z : Int32) (f : Nat → Int32) (h0 : Heap) (n0 : Nat) (Z0 : n0 ≤ h0.size) (V_1 : Arv Z h0 a1 k1 .int z (own_v4 f) (.int (0 : Int32))) (hz : ∀ j : Int32, 0 ≤ j.toInt → j.toInt < 1 → j < z) (o0 : own_ok p2 z ((p2 + (1 : Int32)) - (1 : Int32))) :
    MetFree l (⟨"com/example/humble_match/humblematch/PartialMatchTableAdvancePinLaw", "ends", "([IIII)Z"⟩ : MethodName) (head1 (Jvm.Cond.code (⟨"com/example/humble_match/humblematch/PartialMatchTableAdvancePinLaw", "ends", "([IIII)Z"⟩ : MethodName) method_4_code 6 (some .boolean) :: ws) ({ frames := 1, cells := 0, slots := 0, locals := 16 } : Room)) (fun a U => a = #[(.ref a1), (.int p2), (.int p3), (.int (1 : Int32))] ∧ Z.Warmed39 U.vm ∧ U.heap = h0) (fun _ _ _ _ _ => True) (fun _ U o U' => ∃ v L, o = .returned v ∧ QE1 Z a1 p2 p3 k1 z f h0 n0 v U'.heap L ∧ FrameEnd U o U' L ({ frames := 1, cells := 0, slots := 0, locals := 16 } : Room).cells ({ frames := 1, cells := 0, slots := 0, locals := 16 } : Room).slots) := by
  refine MetFree.of_bodySF (plainFor_of_name pn_4) hisR ?_
  intro p e s m args below meth c s₁ Bd hml0 hP hK
  obtain ⟨rfl, hZ, hh⟩ := hP
  have hx := Bd.exec
  have hby := Bd.bytes
  have hml : c.maxLocals = 6 := hml0
  have hown : s.vm.findClass "com/example/humble_match/humblematch/PartialMatchTableAdvancePinLaw" = some m.cls := findClass_of_methodNamed Bd.named
  have hnm := (name_of_methodNamed Bd.named Bd.method).1
  have X0 : Stand p l e ({ frames := 1, cells := 0, slots := 0, locals := 16 } : Room) s m #[(.ref a1), (.int p2), (.int p3), (.int (1 : Int32))] below meth c s₁ [] 0 0 := Stand.of_body Bd
  have e0 : s₁.heap = h0 := by rw [← hh, Bd.state]; rfl
  have N0 := Fr.nil n0
  have pre0 : ∀ t, Steps p.tables e below (s₁.setTop (mkF m 0 #[.val (.ref a1), .val (.int p2), .val (.int p3), .val (.int (1 : Int32)), .unset, .unset] [])) t → Steps p.tables e below (s₁.setTop (entryFrame m #[(.ref a1), (.int p2), (.int p3), (.int (1 : Int32))] 6)) t := fun t k => castTop (ef_E1 m a1 p2 p3) k
  have K0 : Keep h0 h0 [] := Keep.refl h0 []
  obtain ⟨cl1, Ar1, -, S1, M1, H1, G1⟩ := id V_1
  have hin1 : ¬ ((0 : Int32) < 0 ∨ cl1.slots.size ≤ ((0 : Int32)).toNatClampNeg) := inb_of S1 ⟨by decide, hz _ (by decide) (by decide)⟩
  have hat1 : cl1.slots[((0 : Int32)).toNatClampNeg]? = some (.int (f 0)) := Has.at H1 hin1 rfl
  obtain ⟨_, _, ⟨T2, L2, k2, n2⟩, -, X2, ⟨Lc2, hQ2, l2, y2, z2⟩, st2⟩ := Jvm.LawKit.callS X0 hx (y := (⟨"com/example/humble_match/humblematch/PartialMatchTableAdvancePinLaw", "sym", "([IIII)I"⟩ : MethodName)) hown (mvT hZ (hw _ (List.mem_of_getElem? (i := 17) rfl))) (mvT hZ (hw _ (List.mem_of_getElem? (i := 18) rfl))) (mvT hZ (hw _ (List.mem_of_getElem? (i := 8) rfl))) (mvT hZ (hw _ (List.mem_of_getElem? (i := 19) rfl))) (by decide) (backOf (W := 1) (rm5 l Z a0 hw [] a1 p2 p3 ((p2 + (1 : Int32)) - (1 : Int32)) k1 z f h0 n0 Z0 V_1 o0) hZ (hw _ (List.mem_of_getElem? (i := 19) rfl)) (hw _ (List.mem_of_getElem? (i := 8) rfl)) (by decide) (by decide)) (g := (mkF m 27 #[.val (.ref a1), .val (.int p2), .val (.int p3), .val (.int (1 : Int32)), .val (.int ((p2 + (1 : Int32)) - (1 : Int32))), .val (.int (1 : Int32))] [(.int ((p2 + (1 : Int32)) - (1 : Int32))), (.int p3), (.int p2), (.ref a1), (.int (f 0))])) rfl (by rw [hml]; rfl) (argsL := [(.ref a1), (.int p2), (.int p3), (.int ((p2 + (1 : Int32)) - (1 : Int32)))]) (rest := [(.int (f 0))]) (lenOf pd_1 rfl) rfl (by show 2 * 0 + _ ≤ _; exact Nat.le_of_eq rfl) (hb hby d4_27) (fun _ _ => ⟨rfl, e0, (by decide : 0 + 0 ≤ _), (by decide : 0 + 0 ≤ _)⟩)
  dsimp only [Pt.U, Pt.locs, Pt.cells, Pt.slots] at X2 l2 y2 z2 st2 hQ2
  subst l2 y2 z2
  obtain ⟨rfl, N2q, r2_0⟩ := hQ2
  have N2 := Fr.app N0 N2q
  have ch3 : Goes p e below s₁ (entryFrame m #[(.ref a1), (.int p2), (.int p3), (.int (1 : Int32))] 6) T2 (mkF m 30 #[.val (.ref a1), .val (.int p2), .val (.int p3), .val (.int (1 : Int32)), .val (.int ((p2 + (1 : Int32)) - (1 : Int32))), .val (.int (1 : Int32))] [(.int (own_sym f p2 p3 ((p2 + (1 : Int32)) - (1 : Int32)))), (.int (f 0))]) := fun t kt => pre0 t (by
    show Steps p.tables e below (s₁.setTop (mkF m 0 #[.val (.ref a1), .val (.int p2), .val (.int p3), .val (.int (1 : Int32)), .unset, .unset] [])) _
    refine XS.iloadN X0.here hx rfl (hb hby d4_0) rfl ?_
    show Steps p.tables e below (s₁.setTop (mkF m 1 #[.val (.ref a1), .val (.int p2), .val (.int p3), .val (.int (1 : Int32)), .unset, .unset] [(.int p2)])) _
    refine XS.iconst X0.here hx rfl (hb hby d4_1) ?_
    show Steps p.tables e below (s₁.setTop (mkF m 2 #[.val (.ref a1), .val (.int p2), .val (.int p3), .val (.int (1 : Int32)), .unset, .unset] [(.int (1 : Int32)), (.int p2)])) _
    refine XS.iadd X0.here hx rfl (hb hby d4_2) rfl ?_
    show Steps p.tables e below (s₁.setTop (mkF m 3 #[.val (.ref a1), .val (.int p2), .val (.int p3), .val (.int (1 : Int32)), .unset, .unset] [(.int (p2 + (1 : Int32)))])) _
    refine XS.iloadN X0.here hx rfl (hb hby d4_3) rfl ?_
    show Steps p.tables e below (s₁.setTop (mkF m 4 #[.val (.ref a1), .val (.int p2), .val (.int p3), .val (.int (1 : Int32)), .unset, .unset] [(.int (1 : Int32)), (.int (p2 + (1 : Int32)))])) _
    refine XS.isub X0.here hx rfl (hb hby d4_4) rfl ?_
    show Steps p.tables e below (s₁.setTop (mkF m 5 #[.val (.ref a1), .val (.int p2), .val (.int p3), .val (.int (1 : Int32)), .unset, .unset] [(.int ((p2 + (1 : Int32)) - (1 : Int32)))])) _
    refine XS.istore X0.here hx rfl (hb hby d4_5) rfl (l' := #[.val (.ref a1), .val (.int p2), .val (.int p3), .val (.int (1 : Int32)), .val (.int ((p2 + (1 : Int32)) - (1 : Int32))), .unset]) rfl ?_
    show Steps p.tables e below (s₁.setTop (mkF m 7 #[.val (.ref a1), .val (.int p2), .val (.int p3), .val (.int (1 : Int32)), .val (.int ((p2 + (1 : Int32)) - (1 : Int32))), .unset] [])) _
    refine XS.iconst X0.here hx rfl (hb hby d4_7) ?_
    show Steps p.tables e below (s₁.setTop (mkF m 8 #[.val (.ref a1), .val (.int p2), .val (.int p3), .val (.int (1 : Int32)), .val (.int ((p2 + (1 : Int32)) - (1 : Int32))), .unset] [(.int (1 : Int32))])) _
    refine XS.istore X0.here hx rfl (hb hby d4_8) rfl (l' := #[.val (.ref a1), .val (.int p2), .val (.int p3), .val (.int (1 : Int32)), .val (.int ((p2 + (1 : Int32)) - (1 : Int32))), .val (.int (1 : Int32))]) rfl ?_
    show Steps p.tables e below (s₁.setTop (mkF m 10 #[.val (.ref a1), .val (.int p2), .val (.int p3), .val (.int (1 : Int32)), .val (.int ((p2 + (1 : Int32)) - (1 : Int32))), .val (.int (1 : Int32))] [])) _
    refine XS.iloadN X0.here hx rfl (hb hby d4_10) rfl ?_
    show Steps p.tables e below (s₁.setTop (mkF m 11 #[.val (.ref a1), .val (.int p2), .val (.int p3), .val (.int (1 : Int32)), .val (.int ((p2 + (1 : Int32)) - (1 : Int32))), .val (.int (1 : Int32))] [(.int (1 : Int32))])) _
    refine XS.ifNo X0.here hx rfl (hb hby d4_11) rfl ((if0 _ _).trans (tlt (by decide : ((0 : Int32) < (1 : Int32)))).2.2.2) ?_
    show Steps p.tables e below (s₁.setTop (mkF m 14 #[.val (.ref a1), .val (.int p2), .val (.int p3), .val (.int (1 : Int32)), .val (.int ((p2 + (1 : Int32)) - (1 : Int32))), .val (.int (1 : Int32))] [])) _
    refine XS.iload X0.here hx rfl (hb hby d4_14) rfl ?_
    show Steps p.tables e below (s₁.setTop (mkF m 16 #[.val (.ref a1), .val (.int p2), .val (.int p3), .val (.int (1 : Int32)), .val (.int ((p2 + (1 : Int32)) - (1 : Int32))), .val (.int (1 : Int32))] [(.int (1 : Int32))])) _
    refine XS.ifNo X0.here hx rfl (hb hby d4_16) rfl ((if0 _ _).trans (feq (by decide : ¬ ((1 : Int32) = (0 : Int32)))).1) ?_
    show Steps p.tables e below (s₁.setTop (mkF m 19 #[.val (.ref a1), .val (.int p2), .val (.int p3), .val (.int (1 : Int32)), .val (.int ((p2 + (1 : Int32)) - (1 : Int32))), .val (.int (1 : Int32))] [])) _
    refine XS.aloadN X0.here hx rfl (hb hby d4_19) rfl rfl ?_
    show Steps p.tables e below (s₁.setTop (mkF m 20 #[.val (.ref a1), .val (.int p2), .val (.int p3), .val (.int (1 : Int32)), .val (.int ((p2 + (1 : Int32)) - (1 : Int32))), .val (.int (1 : Int32))] [(.ref a1)])) _
    refine XS.iconst X0.here hx rfl (hb hby d4_20) ?_
    show Steps p.tables e below (s₁.setTop (mkF m 21 #[.val (.ref a1), .val (.int p2), .val (.int p3), .val (.int (1 : Int32)), .val (.int ((p2 + (1 : Int32)) - (1 : Int32))), .val (.int (1 : Int32))] [(.int (0 : Int32)), (.ref a1)])) _
    refine X0.iaload hx (j := (0 : Int32)) (v := (.int (f 0))) (by rw [e0]; exact Ar1.1) (State.isArrayOf_alike hZ.alike Ar1.2.1) Ar1.2.2 hin1 hat1 (g := (mkF m 21 #[.val (.ref a1), .val (.int p2), .val (.int p3), .val (.int (1 : Int32)), .val (.int ((p2 + (1 : Int32)) - (1 : Int32))), .val (.int (1 : Int32))] [(.int (0 : Int32)), (.ref a1)])) rfl rfl (hb hby d4_21) _ ?_
    show Steps p.tables e below (s₁.setTop (mkF m 22 #[.val (.ref a1), .val (.int p2), .val (.int p3), .val (.int (1 : Int32)), .val (.int ((p2 + (1 : Int32)) - (1 : Int32))), .val (.int (1 : Int32))] [(.int (f 0))])) _
    refine XS.aloadN X0.here hx rfl (hb hby d4_22) rfl rfl ?_
    show Steps p.tables e below (s₁.setTop (mkF m 23 #[.val (.ref a1), .val (.int p2), .val (.int p3), .val (.int (1 : Int32)), .val (.int ((p2 + (1 : Int32)) - (1 : Int32))), .val (.int (1 : Int32))] [(.ref a1), (.int (f 0))])) _
    refine XS.iloadN X0.here hx rfl (hb hby d4_23) rfl ?_
    show Steps p.tables e below (s₁.setTop (mkF m 24 #[.val (.ref a1), .val (.int p2), .val (.int p3), .val (.int (1 : Int32)), .val (.int ((p2 + (1 : Int32)) - (1 : Int32))), .val (.int (1 : Int32))] [(.int p2), (.ref a1), (.int (f 0))])) _
    refine XS.iloadN X0.here hx rfl (hb hby d4_24) rfl ?_
    show Steps p.tables e below (s₁.setTop (mkF m 25 #[.val (.ref a1), .val (.int p2), .val (.int p3), .val (.int (1 : Int32)), .val (.int ((p2 + (1 : Int32)) - (1 : Int32))), .val (.int (1 : Int32))] [(.int p3), (.int p2), (.ref a1), (.int (f 0))])) _
    refine XS.iload X0.here hx rfl (hb hby d4_25) rfl ?_
    show Steps p.tables e below (s₁.setTop (mkF m 27 #[.val (.ref a1), .val (.int p2), .val (.int p3), .val (.int (1 : Int32)), .val (.int ((p2 + (1 : Int32)) - (1 : Int32))), .val (.int (1 : Int32))] [(.int ((p2 + (1 : Int32)) - (1 : Int32))), (.int p3), (.int p2), (.ref a1), (.int (f 0))])) _
    refine st2 _ ?_
    show Steps p.tables e below (T2.setTop (mkF m 30 #[.val (.ref a1), .val (.int p2), .val (.int p3), .val (.int (1 : Int32)), .val (.int ((p2 + (1 : Int32)) - (1 : Int32))), .val (.int (1 : Int32))] [(.int (own_sym f p2 p3 ((p2 + (1 : Int32)) - (1 : Int32)))), (.int (f 0))])) _
    exact kt)
  by_cases hc4 : (f 0) = (own_sym f p2 p3 ((p2 + (1 : Int32)) - (1 : Int32)))
  · have hv : (1 : Int32) = own_e1 f p2 p3 := by simp only [own_e1, if_pos hc4]
    obtain ⟨fs, hr, hrun, hended, hW, hsame⟩ := X2.leave (v := some (.int (1 : Int32))) (fun h => by rw [Bd.returns] at h; cases h)
    refine ⟨_, _, ch3 _ ?_, hrun, hended, _, _, rfl, ?_, ⟨_, rfl⟩, hW, hsame.mono (by decide) (by decide)⟩
    · show Steps p.tables e below (T2.setTop (mkF m 30 #[.val (.ref a1), .val (.int p2), .val (.int p3), .val (.int (1 : Int32)), .val (.int ((p2 + (1 : Int32)) - (1 : Int32))), .val (.int (1 : Int32))] [(.int (own_sym f p2 p3 ((p2 + (1 : Int32)) - (1 : Int32)))), (.int (f 0))])) _
      refine XS.icmpNo X2.here hx rfl (hb hby d4_30) rfl (teq hc4).2 ?_
      show Steps p.tables e below (T2.setTop (mkF m 33 #[.val (.ref a1), .val (.int p2), .val (.int p3), .val (.int (1 : Int32)), .val (.int ((p2 + (1 : Int32)) - (1 : Int32))), .val (.int (1 : Int32))] [])) _
      refine XS.iconst X2.here hx rfl (hb hby d4_33) ?_
      show Steps p.tables e below (T2.setTop (mkF m 34 #[.val (.ref a1), .val (.int p2), .val (.int p3), .val (.int (1 : Int32)), .val (.int ((p2 + (1 : Int32)) - (1 : Int32))), .val (.int (1 : Int32))] [(.int (1 : Int32))])) _
      refine XS.goto X2.here hx rfl (pc0 := 34) (pc' := 38) rfl (hb hby d4_34) (by decide) (by decide) ?_
      show Steps p.tables e below (T2.setTop (mkF m 38 #[.val (.ref a1), .val (.int p2), .val (.int p3), .val (.int (1 : Int32)), .val (.int ((p2 + (1 : Int32)) - (1 : Int32))), .val (.int (1 : Int32))] [(.int (1 : Int32))])) _
      refine XS.istore X2.here hx rfl (hb hby d4_38) rfl (l' := #[.val (.ref a1), .val (.int p2), .val (.int p3), .val (.int (1 : Int32)), .val (.int ((p2 + (1 : Int32)) - (1 : Int32))), .val (.int (1 : Int32))]) rfl ?_
      show Steps p.tables e below (T2.setTop (mkF m 40 #[.val (.ref a1), .val (.int p2), .val (.int p3), .val (.int (1 : Int32)), .val (.int ((p2 + (1 : Int32)) - (1 : Int32))), .val (.int (1 : Int32))] [])) _
      refine XS.iloadN X2.here hx rfl (hb hby d4_40) rfl ?_
      show Steps p.tables e below (T2.setTop (mkF m 41 #[.val (.ref a1), .val (.int p2), .val (.int p3), .val (.int (1 : Int32)), .val (.int ((p2 + (1 : Int32)) - (1 : Int32))), .val (.int (1 : Int32))] [(.int (1 : Int32))])) _
      refine XS.iconst X2.here hx rfl (hb hby d4_41) ?_
      show Steps p.tables e below (T2.setTop (mkF m 42 #[.val (.ref a1), .val (.int p2), .val (.int p3), .val (.int (1 : Int32)), .val (.int ((p2 + (1 : Int32)) - (1 : Int32))), .val (.int (1 : Int32))] [(.int (1 : Int32)), (.int (1 : Int32))])) _
      refine XS.icmpYes X2.here hx rfl (pc0 := 42) (pc' := 73) rfl (hb hby d4_42) rfl (flt (by decide : ¬ ((1 : Int32) < (1 : Int32)))).2.2.2 (by decide) (by decide) ?_
      show Steps p.tables e below (T2.setTop (mkF m 73 #[.val (.ref a1), .val (.int p2), .val (.int p3), .val (.int (1 : Int32)), .val (.int ((p2 + (1 : Int32)) - (1 : Int32))), .val (.int (1 : Int32))] [])) _
      refine XS.iloadN X2.here hx rfl (hb hby d4_73) rfl ?_
      show Steps p.tables e below (T2.setTop (mkF m 74 #[.val (.ref a1), .val (.int p2), .val (.int p3), .val (.int (1 : Int32)), .val (.int ((p2 + (1 : Int32)) - (1 : Int32))), .val (.int (1 : Int32))] [(.int (1 : Int32))])) _
      refine XS.iconst X2.here hx rfl (hb hby d4_74) ?_
      show Steps p.tables e below (T2.setTop (mkF m 75 #[.val (.ref a1), .val (.int p2), .val (.int p3), .val (.int (1 : Int32)), .val (.int ((p2 + (1 : Int32)) - (1 : Int32))), .val (.int (1 : Int32))] [(.int (2 : Int32)), (.int (1 : Int32))])) _
      refine XS.icmpYes X2.here hx rfl (pc0 := 75) (pc' := 106) rfl (hb hby d4_75) rfl (flt (by decide : ¬ ((2 : Int32) < (1 : Int32)))).2.2.2 (by decide) (by decide) ?_
      show Steps p.tables e below (T2.setTop (mkF m 106 #[.val (.ref a1), .val (.int p2), .val (.int p3), .val (.int (1 : Int32)), .val (.int ((p2 + (1 : Int32)) - (1 : Int32))), .val (.int (1 : Int32))] [])) _
      refine XS.iloadN X2.here hx rfl (hb hby d4_106) rfl ?_
      show Steps p.tables e below (T2.setTop (mkF m 107 #[.val (.ref a1), .val (.int p2), .val (.int p3), .val (.int (1 : Int32)), .val (.int ((p2 + (1 : Int32)) - (1 : Int32))), .val (.int (1 : Int32))] [(.int (1 : Int32))])) _
      refine XS.iconst X2.here hx rfl (hb hby d4_107) ?_
      show Steps p.tables e below (T2.setTop (mkF m 108 #[.val (.ref a1), .val (.int p2), .val (.int p3), .val (.int (1 : Int32)), .val (.int ((p2 + (1 : Int32)) - (1 : Int32))), .val (.int (1 : Int32))] [(.int (3 : Int32)), (.int (1 : Int32))])) _
      refine XS.icmpYes X2.here hx rfl (pc0 := 108) (pc' := 139) rfl (hb hby d4_108) rfl (flt (by decide : ¬ ((3 : Int32) < (1 : Int32)))).2.2.2 (by decide) (by decide) ?_
      show Steps p.tables e below (T2.setTop (mkF m 139 #[.val (.ref a1), .val (.int p2), .val (.int p3), .val (.int (1 : Int32)), .val (.int ((p2 + (1 : Int32)) - (1 : Int32))), .val (.int (1 : Int32))] [])) _
      refine XS.iload X2.here hx rfl (hb hby d4_139) rfl ?_
      show Steps p.tables e below (T2.setTop (mkF m 141 #[.val (.ref a1), .val (.int p2), .val (.int p3), .val (.int (1 : Int32)), .val (.int ((p2 + (1 : Int32)) - (1 : Int32))), .val (.int (1 : Int32))] [(.int (1 : Int32))])) _
      exact retN X2 hx (t := .boolean) Bd.returns (by simp) (hb hby d4_141) hr
    · show QE1 Z a1 p2 p3 k1 z f h0 n0 _ T2.heap _
      rw [r2_0]
      exact ⟨congrArg (fun z => some (Value.int z)) hv, N2, rfl⟩
  · have hv : (0 : Int32) = own_e1 f p2 p3 := by simp only [own_e1, if_neg hc4]
    obtain ⟨fs, hr, hrun, hended, hW, hsame⟩ := X2.leave (v := some (.int (0 : Int32))) (fun h => by rw [Bd.returns] at h; cases h)
    refine ⟨_, _, ch3 _ ?_, hrun, hended, _, _, rfl, ?_, ⟨_, rfl⟩, hW, hsame.mono (by decide) (by decide)⟩
    · show Steps p.tables e below (T2.setTop (mkF m 30 #[.val (.ref a1), .val (.int p2), .val (.int p3), .val (.int (1 : Int32)), .val (.int ((p2 + (1 : Int32)) - (1 : Int32))), .val (.int (1 : Int32))] [(.int (own_sym f p2 p3 ((p2 + (1 : Int32)) - (1 : Int32)))), (.int (f 0))])) _
      refine XS.icmpYes X2.here hx rfl (pc0 := 30) (pc' := 37) rfl (hb hby d4_30) rfl (feq hc4).2 (by decide) (by decide) ?_
      show Steps p.tables e below (T2.setTop (mkF m 37 #[.val (.ref a1), .val (.int p2), .val (.int p3), .val (.int (1 : Int32)), .val (.int ((p2 + (1 : Int32)) - (1 : Int32))), .val (.int (1 : Int32))] [])) _
      refine XS.iconst X2.here hx rfl (hb hby d4_37) ?_
      show Steps p.tables e below (T2.setTop (mkF m 38 #[.val (.ref a1), .val (.int p2), .val (.int p3), .val (.int (1 : Int32)), .val (.int ((p2 + (1 : Int32)) - (1 : Int32))), .val (.int (1 : Int32))] [(.int (0 : Int32))])) _
      refine XS.istore X2.here hx rfl (hb hby d4_38) rfl (l' := #[.val (.ref a1), .val (.int p2), .val (.int p3), .val (.int (1 : Int32)), .val (.int ((p2 + (1 : Int32)) - (1 : Int32))), .val (.int (0 : Int32))]) rfl ?_
      show Steps p.tables e below (T2.setTop (mkF m 40 #[.val (.ref a1), .val (.int p2), .val (.int p3), .val (.int (1 : Int32)), .val (.int ((p2 + (1 : Int32)) - (1 : Int32))), .val (.int (0 : Int32))] [])) _
      refine XS.iloadN X2.here hx rfl (hb hby d4_40) rfl ?_
      show Steps p.tables e below (T2.setTop (mkF m 41 #[.val (.ref a1), .val (.int p2), .val (.int p3), .val (.int (1 : Int32)), .val (.int ((p2 + (1 : Int32)) - (1 : Int32))), .val (.int (0 : Int32))] [(.int (1 : Int32))])) _
      refine XS.iconst X2.here hx rfl (hb hby d4_41) ?_
      show Steps p.tables e below (T2.setTop (mkF m 42 #[.val (.ref a1), .val (.int p2), .val (.int p3), .val (.int (1 : Int32)), .val (.int ((p2 + (1 : Int32)) - (1 : Int32))), .val (.int (0 : Int32))] [(.int (1 : Int32)), (.int (1 : Int32))])) _
      refine XS.icmpYes X2.here hx rfl (pc0 := 42) (pc' := 73) rfl (hb hby d4_42) rfl (flt (by decide : ¬ ((1 : Int32) < (1 : Int32)))).2.2.2 (by decide) (by decide) ?_
      show Steps p.tables e below (T2.setTop (mkF m 73 #[.val (.ref a1), .val (.int p2), .val (.int p3), .val (.int (1 : Int32)), .val (.int ((p2 + (1 : Int32)) - (1 : Int32))), .val (.int (0 : Int32))] [])) _
      refine XS.iloadN X2.here hx rfl (hb hby d4_73) rfl ?_
      show Steps p.tables e below (T2.setTop (mkF m 74 #[.val (.ref a1), .val (.int p2), .val (.int p3), .val (.int (1 : Int32)), .val (.int ((p2 + (1 : Int32)) - (1 : Int32))), .val (.int (0 : Int32))] [(.int (1 : Int32))])) _
      refine XS.iconst X2.here hx rfl (hb hby d4_74) ?_
      show Steps p.tables e below (T2.setTop (mkF m 75 #[.val (.ref a1), .val (.int p2), .val (.int p3), .val (.int (1 : Int32)), .val (.int ((p2 + (1 : Int32)) - (1 : Int32))), .val (.int (0 : Int32))] [(.int (2 : Int32)), (.int (1 : Int32))])) _
      refine XS.icmpYes X2.here hx rfl (pc0 := 75) (pc' := 106) rfl (hb hby d4_75) rfl (flt (by decide : ¬ ((2 : Int32) < (1 : Int32)))).2.2.2 (by decide) (by decide) ?_
      show Steps p.tables e below (T2.setTop (mkF m 106 #[.val (.ref a1), .val (.int p2), .val (.int p3), .val (.int (1 : Int32)), .val (.int ((p2 + (1 : Int32)) - (1 : Int32))), .val (.int (0 : Int32))] [])) _
      refine XS.iloadN X2.here hx rfl (hb hby d4_106) rfl ?_
      show Steps p.tables e below (T2.setTop (mkF m 107 #[.val (.ref a1), .val (.int p2), .val (.int p3), .val (.int (1 : Int32)), .val (.int ((p2 + (1 : Int32)) - (1 : Int32))), .val (.int (0 : Int32))] [(.int (1 : Int32))])) _
      refine XS.iconst X2.here hx rfl (hb hby d4_107) ?_
      show Steps p.tables e below (T2.setTop (mkF m 108 #[.val (.ref a1), .val (.int p2), .val (.int p3), .val (.int (1 : Int32)), .val (.int ((p2 + (1 : Int32)) - (1 : Int32))), .val (.int (0 : Int32))] [(.int (3 : Int32)), (.int (1 : Int32))])) _
      refine XS.icmpYes X2.here hx rfl (pc0 := 108) (pc' := 139) rfl (hb hby d4_108) rfl (flt (by decide : ¬ ((3 : Int32) < (1 : Int32)))).2.2.2 (by decide) (by decide) ?_
      show Steps p.tables e below (T2.setTop (mkF m 139 #[.val (.ref a1), .val (.int p2), .val (.int p3), .val (.int (1 : Int32)), .val (.int ((p2 + (1 : Int32)) - (1 : Int32))), .val (.int (0 : Int32))] [])) _
      refine XS.iload X2.here hx rfl (hb hby d4_139) rfl ?_
      show Steps p.tables e below (T2.setTop (mkF m 141 #[.val (.ref a1), .val (.int p2), .val (.int p3), .val (.int (1 : Int32)), .val (.int ((p2 + (1 : Int32)) - (1 : Int32))), .val (.int (0 : Int32))] [(.int (0 : Int32))])) _
      exact retN X2 hx (t := .boolean) Bd.returns (by simp) (hb hby d4_141) hr
    · show QE1 Z a1 p2 p3 k1 z f h0 n0 _ T2.heap _
      rw [r2_0]
      exact ⟨congrArg (fun z => some (Value.int z)) hv, N2, rfl⟩
theorem ef_E2 (m : MethodId) (a1 : Addr) (p2 : Int32) (p3 : Int32) : entryFrame m #[(.ref a1), (.int p2), (.int p3), (.int (2 : Int32))] 6 = mkF m 0 #[.val (.ref a1), .val (.int p2), .val (.int p3), .val (.int (2 : Int32)), .unset, .unset] [] := by first | (simp [entryFrame, mkF, argsToLocals, Value.category]; done) | rfl
def QE2 (Z : State) (a1 : Addr) (p2 : Int32) (p3 : Int32) (k1 : ClassId) (z : Int32) (f : Nat → Int32) (h0 : Heap) (n0 : Nat) (v : Option Value) (h : Heap) (L : List Loc) : Prop := v = some (.int (own_e2 f p2 p3)) ∧ Fr n0 L ∧ h = h0
set_option maxRecDepth 65536 in
set_option maxHeartbeats 40000000 in
theorem rmE2 (l : Launch) (Z : State) (a0 : Array Value) (hw : ∀ d ∈ tables_1, d.before a0 Z = true) (ws : List Jvm.Cond) (a1 : Addr) (p2 : Int32) (p3 : Int32) (k1 : ClassId) (z : Int32) (f : Nat → Int32) (h0 : Heap) (n0 : Nat) (Z0 : n0 ≤ h0.size) (V_1 : Arv Z h0 a1 k1 .int z (own_v4 f) (.int (0 : Int32))) (hz : ∀ j : Int32, 0 ≤ j.toInt → j.toInt < 2 → j < z) (o0 : own_ok p2 z ((p2 + (1 : Int32)) - (2 : Int32))) (o1 : own_ok p2 z (((p2 + (1 : Int32)) - (2 : Int32)) + (1 : Int32))) :
    MetFree l (⟨"com/example/humble_match/humblematch/PartialMatchTableAdvancePinLaw", "ends", "([IIII)Z"⟩ : MethodName) (head1 (Jvm.Cond.code (⟨"com/example/humble_match/humblematch/PartialMatchTableAdvancePinLaw", "ends", "([IIII)Z"⟩ : MethodName) method_4_code 6 (some .boolean) :: ws) ({ frames := 1, cells := 0, slots := 0, locals := 16 } : Room)) (fun a U => a = #[(.ref a1), (.int p2), (.int p3), (.int (2 : Int32))] ∧ Z.Warmed39 U.vm ∧ U.heap = h0) (fun _ _ _ _ _ => True) (fun _ U o U' => ∃ v L, o = .returned v ∧ QE2 Z a1 p2 p3 k1 z f h0 n0 v U'.heap L ∧ FrameEnd U o U' L ({ frames := 1, cells := 0, slots := 0, locals := 16 } : Room).cells ({ frames := 1, cells := 0, slots := 0, locals := 16 } : Room).slots) := by
  refine MetFree.of_bodySF (plainFor_of_name pn_4) hisR ?_
  intro p e s m args below meth c s₁ Bd hml0 hP hK
  obtain ⟨rfl, hZ, hh⟩ := hP
  have hx := Bd.exec
  have hby := Bd.bytes
  have hml : c.maxLocals = 6 := hml0
  have hown : s.vm.findClass "com/example/humble_match/humblematch/PartialMatchTableAdvancePinLaw" = some m.cls := findClass_of_methodNamed Bd.named
  have hnm := (name_of_methodNamed Bd.named Bd.method).1
  have X0 : Stand p l e ({ frames := 1, cells := 0, slots := 0, locals := 16 } : Room) s m #[(.ref a1), (.int p2), (.int p3), (.int (2 : Int32))] below meth c s₁ [] 0 0 := Stand.of_body Bd
  have e0 : s₁.heap = h0 := by rw [← hh, Bd.state]; rfl
  have N0 := Fr.nil n0
  have pre0 : ∀ t, Steps p.tables e below (s₁.setTop (mkF m 0 #[.val (.ref a1), .val (.int p2), .val (.int p3), .val (.int (2 : Int32)), .unset, .unset] [])) t → Steps p.tables e below (s₁.setTop (entryFrame m #[(.ref a1), (.int p2), (.int p3), (.int (2 : Int32))] 6)) t := fun t k => castTop (ef_E2 m a1 p2 p3) k
  have K0 : Keep h0 h0 [] := Keep.refl h0 []
  obtain ⟨cl1, Ar1, -, S1, M1, H1, G1⟩ := id V_1
  have hin1 : ¬ ((0 : Int32) < 0 ∨ cl1.slots.size ≤ ((0 : Int32)).toNatClampNeg) := inb_of S1 ⟨by decide, hz _ (by decide) (by decide)⟩
  have hat1 : cl1.slots[((0 : Int32)).toNatClampNeg]? = some (.int (f 0)) := Has.at H1 hin1 rfl
  obtain ⟨_, _, ⟨T2, L2, k2, n2⟩, -, X2, ⟨Lc2, hQ2, l2, y2, z2⟩, st2⟩ := Jvm.LawKit.callS X0 hx (y := (⟨"com/example/humble_match/humblematch/PartialMatchTableAdvancePinLaw", "sym", "([IIII)I"⟩ : MethodName)) hown (mvT hZ (hw _ (List.mem_of_getElem? (i := 17) rfl))) (mvT hZ (hw _ (List.mem_of_getElem? (i := 18) rfl))) (mvT hZ (hw _ (List.mem_of_getElem? (i := 8) rfl))) (mvT hZ (hw _ (List.mem_of_getElem? (i := 19) rfl))) (by decide) (backOf (W := 1) (rm5 l Z a0 hw [] a1 p2 p3 ((p2 + (1 : Int32)) - (2 : Int32)) k1 z f h0 n0 Z0 V_1 o0) hZ (hw _ (List.mem_of_getElem? (i := 19) rfl)) (hw _ (List.mem_of_getElem? (i := 8) rfl)) (by decide) (by decide)) (g := (mkF m 27 #[.val (.ref a1), .val (.int p2), .val (.int p3), .val (.int (2 : Int32)), .val (.int ((p2 + (1 : Int32)) - (2 : Int32))), .val (.int (1 : Int32))] [(.int ((p2 + (1 : Int32)) - (2 : Int32))), (.int p3), (.int p2), (.ref a1), (.int (f 0))])) rfl (by rw [hml]; rfl) (argsL := [(.ref a1), (.int p2), (.int p3), (.int ((p2 + (1 : Int32)) - (2 : Int32)))]) (rest := [(.int (f 0))]) (lenOf pd_1 rfl) rfl (by show 2 * 0 + _ ≤ _; exact Nat.le_of_eq rfl) (hb hby d4_27) (fun _ _ => ⟨rfl, e0, (by decide : 0 + 0 ≤ _), (by decide : 0 + 0 ≤ _)⟩)
  dsimp only [Pt.U, Pt.locs, Pt.cells, Pt.slots] at X2 l2 y2 z2 st2 hQ2
  subst l2 y2 z2
  obtain ⟨rfl, N2q, r2_0⟩ := hQ2
  have N2 := Fr.app N0 N2q
  have ch3 : Goes p e below s₁ (entryFrame m #[(.ref a1), (.int p2), (.int p3), (.int (2 : Int32))] 6) T2 (mkF m 30 #[.val (.ref a1), .val (.int p2), .val (.int p3), .val (.int (2 : Int32)), .val (.int ((p2 + (1 : Int32)) - (2 : Int32))), .val (.int (1 : Int32))] [(.int (own_sym f p2 p3 ((p2 + (1 : Int32)) - (2 : Int32)))), (.int (f 0))]) := fun t kt => pre0 t (by
    show Steps p.tables e below (s₁.setTop (mkF m 0 #[.val (.ref a1), .val (.int p2), .val (.int p3), .val (.int (2 : Int32)), .unset, .unset] [])) _
    refine XS.iloadN X0.here hx rfl (hb hby d4_0) rfl ?_
    show Steps p.tables e below (s₁.setTop (mkF m 1 #[.val (.ref a1), .val (.int p2), .val (.int p3), .val (.int (2 : Int32)), .unset, .unset] [(.int p2)])) _
    refine XS.iconst X0.here hx rfl (hb hby d4_1) ?_
    show Steps p.tables e below (s₁.setTop (mkF m 2 #[.val (.ref a1), .val (.int p2), .val (.int p3), .val (.int (2 : Int32)), .unset, .unset] [(.int (1 : Int32)), (.int p2)])) _
    refine XS.iadd X0.here hx rfl (hb hby d4_2) rfl ?_
    show Steps p.tables e below (s₁.setTop (mkF m 3 #[.val (.ref a1), .val (.int p2), .val (.int p3), .val (.int (2 : Int32)), .unset, .unset] [(.int (p2 + (1 : Int32)))])) _
    refine XS.iloadN X0.here hx rfl (hb hby d4_3) rfl ?_
    show Steps p.tables e below (s₁.setTop (mkF m 4 #[.val (.ref a1), .val (.int p2), .val (.int p3), .val (.int (2 : Int32)), .unset, .unset] [(.int (2 : Int32)), (.int (p2 + (1 : Int32)))])) _
    refine XS.isub X0.here hx rfl (hb hby d4_4) rfl ?_
    show Steps p.tables e below (s₁.setTop (mkF m 5 #[.val (.ref a1), .val (.int p2), .val (.int p3), .val (.int (2 : Int32)), .unset, .unset] [(.int ((p2 + (1 : Int32)) - (2 : Int32)))])) _
    refine XS.istore X0.here hx rfl (hb hby d4_5) rfl (l' := #[.val (.ref a1), .val (.int p2), .val (.int p3), .val (.int (2 : Int32)), .val (.int ((p2 + (1 : Int32)) - (2 : Int32))), .unset]) rfl ?_
    show Steps p.tables e below (s₁.setTop (mkF m 7 #[.val (.ref a1), .val (.int p2), .val (.int p3), .val (.int (2 : Int32)), .val (.int ((p2 + (1 : Int32)) - (2 : Int32))), .unset] [])) _
    refine XS.iconst X0.here hx rfl (hb hby d4_7) ?_
    show Steps p.tables e below (s₁.setTop (mkF m 8 #[.val (.ref a1), .val (.int p2), .val (.int p3), .val (.int (2 : Int32)), .val (.int ((p2 + (1 : Int32)) - (2 : Int32))), .unset] [(.int (1 : Int32))])) _
    refine XS.istore X0.here hx rfl (hb hby d4_8) rfl (l' := #[.val (.ref a1), .val (.int p2), .val (.int p3), .val (.int (2 : Int32)), .val (.int ((p2 + (1 : Int32)) - (2 : Int32))), .val (.int (1 : Int32))]) rfl ?_
    show Steps p.tables e below (s₁.setTop (mkF m 10 #[.val (.ref a1), .val (.int p2), .val (.int p3), .val (.int (2 : Int32)), .val (.int ((p2 + (1 : Int32)) - (2 : Int32))), .val (.int (1 : Int32))] [])) _
    refine XS.iloadN X0.here hx rfl (hb hby d4_10) rfl ?_
    show Steps p.tables e below (s₁.setTop (mkF m 11 #[.val (.ref a1), .val (.int p2), .val (.int p3), .val (.int (2 : Int32)), .val (.int ((p2 + (1 : Int32)) - (2 : Int32))), .val (.int (1 : Int32))] [(.int (2 : Int32))])) _
    refine XS.ifNo X0.here hx rfl (hb hby d4_11) rfl ((if0 _ _).trans (tlt (by decide : ((0 : Int32) < (2 : Int32)))).2.2.2) ?_
    show Steps p.tables e below (s₁.setTop (mkF m 14 #[.val (.ref a1), .val (.int p2), .val (.int p3), .val (.int (2 : Int32)), .val (.int ((p2 + (1 : Int32)) - (2 : Int32))), .val (.int (1 : Int32))] [])) _
    refine XS.iload X0.here hx rfl (hb hby d4_14) rfl ?_
    show Steps p.tables e below (s₁.setTop (mkF m 16 #[.val (.ref a1), .val (.int p2), .val (.int p3), .val (.int (2 : Int32)), .val (.int ((p2 + (1 : Int32)) - (2 : Int32))), .val (.int (1 : Int32))] [(.int (1 : Int32))])) _
    refine XS.ifNo X0.here hx rfl (hb hby d4_16) rfl ((if0 _ _).trans (feq (by decide : ¬ ((1 : Int32) = (0 : Int32)))).1) ?_
    show Steps p.tables e below (s₁.setTop (mkF m 19 #[.val (.ref a1), .val (.int p2), .val (.int p3), .val (.int (2 : Int32)), .val (.int ((p2 + (1 : Int32)) - (2 : Int32))), .val (.int (1 : Int32))] [])) _
    refine XS.aloadN X0.here hx rfl (hb hby d4_19) rfl rfl ?_
    show Steps p.tables e below (s₁.setTop (mkF m 20 #[.val (.ref a1), .val (.int p2), .val (.int p3), .val (.int (2 : Int32)), .val (.int ((p2 + (1 : Int32)) - (2 : Int32))), .val (.int (1 : Int32))] [(.ref a1)])) _
    refine XS.iconst X0.here hx rfl (hb hby d4_20) ?_
    show Steps p.tables e below (s₁.setTop (mkF m 21 #[.val (.ref a1), .val (.int p2), .val (.int p3), .val (.int (2 : Int32)), .val (.int ((p2 + (1 : Int32)) - (2 : Int32))), .val (.int (1 : Int32))] [(.int (0 : Int32)), (.ref a1)])) _
    refine X0.iaload hx (j := (0 : Int32)) (v := (.int (f 0))) (by rw [e0]; exact Ar1.1) (State.isArrayOf_alike hZ.alike Ar1.2.1) Ar1.2.2 hin1 hat1 (g := (mkF m 21 #[.val (.ref a1), .val (.int p2), .val (.int p3), .val (.int (2 : Int32)), .val (.int ((p2 + (1 : Int32)) - (2 : Int32))), .val (.int (1 : Int32))] [(.int (0 : Int32)), (.ref a1)])) rfl rfl (hb hby d4_21) _ ?_
    show Steps p.tables e below (s₁.setTop (mkF m 22 #[.val (.ref a1), .val (.int p2), .val (.int p3), .val (.int (2 : Int32)), .val (.int ((p2 + (1 : Int32)) - (2 : Int32))), .val (.int (1 : Int32))] [(.int (f 0))])) _
    refine XS.aloadN X0.here hx rfl (hb hby d4_22) rfl rfl ?_
    show Steps p.tables e below (s₁.setTop (mkF m 23 #[.val (.ref a1), .val (.int p2), .val (.int p3), .val (.int (2 : Int32)), .val (.int ((p2 + (1 : Int32)) - (2 : Int32))), .val (.int (1 : Int32))] [(.ref a1), (.int (f 0))])) _
    refine XS.iloadN X0.here hx rfl (hb hby d4_23) rfl ?_
    show Steps p.tables e below (s₁.setTop (mkF m 24 #[.val (.ref a1), .val (.int p2), .val (.int p3), .val (.int (2 : Int32)), .val (.int ((p2 + (1 : Int32)) - (2 : Int32))), .val (.int (1 : Int32))] [(.int p2), (.ref a1), (.int (f 0))])) _
    refine XS.iloadN X0.here hx rfl (hb hby d4_24) rfl ?_
    show Steps p.tables e below (s₁.setTop (mkF m 25 #[.val (.ref a1), .val (.int p2), .val (.int p3), .val (.int (2 : Int32)), .val (.int ((p2 + (1 : Int32)) - (2 : Int32))), .val (.int (1 : Int32))] [(.int p3), (.int p2), (.ref a1), (.int (f 0))])) _
    refine XS.iload X0.here hx rfl (hb hby d4_25) rfl ?_
    show Steps p.tables e below (s₁.setTop (mkF m 27 #[.val (.ref a1), .val (.int p2), .val (.int p3), .val (.int (2 : Int32)), .val (.int ((p2 + (1 : Int32)) - (2 : Int32))), .val (.int (1 : Int32))] [(.int ((p2 + (1 : Int32)) - (2 : Int32))), (.int p3), (.int p2), (.ref a1), (.int (f 0))])) _
    refine st2 _ ?_
    show Steps p.tables e below (T2.setTop (mkF m 30 #[.val (.ref a1), .val (.int p2), .val (.int p3), .val (.int (2 : Int32)), .val (.int ((p2 + (1 : Int32)) - (2 : Int32))), .val (.int (1 : Int32))] [(.int (own_sym f p2 p3 ((p2 + (1 : Int32)) - (2 : Int32)))), (.int (f 0))])) _
    exact kt)
  by_cases hc4 : (f 0) = (own_sym f p2 p3 ((p2 + (1 : Int32)) - (2 : Int32)))
  · obtain ⟨cl5, Ar5, -, S5, M5, H5, G5⟩ := id V_1
    have hin5 : ¬ ((1 : Int32) < 0 ∨ cl5.slots.size ≤ ((1 : Int32)).toNatClampNeg) := inb_of S5 ⟨by decide, hz _ (by decide) (by decide)⟩
    have hat5 : cl5.slots[((1 : Int32)).toNatClampNeg]? = some (.int (f 1)) := Has.at H5 hin5 rfl
    obtain ⟨_, _, ⟨T6, L6, k6, n6⟩, -, X6, ⟨Lc6, hQ6, l6, y6, z6⟩, st6⟩ := Jvm.LawKit.callS X2 hx (y := (⟨"com/example/humble_match/humblematch/PartialMatchTableAdvancePinLaw", "sym", "([IIII)I"⟩ : MethodName)) hown (mvT hZ (hw _ (List.mem_of_getElem? (i := 17) rfl))) (mvT hZ (hw _ (List.mem_of_getElem? (i := 18) rfl))) (mvT hZ (hw _ (List.mem_of_getElem? (i := 8) rfl))) (mvT hZ (hw _ (List.mem_of_getElem? (i := 19) rfl))) (by decide) (backOf (W := 1) (rm5 l Z a0 hw [] a1 p2 p3 (((p2 + (1 : Int32)) - (2 : Int32)) + (1 : Int32)) k1 z f h0 n0 Z0 V_1 o1) hZ (hw _ (List.mem_of_getElem? (i := 19) rfl)) (hw _ (List.mem_of_getElem? (i := 8) rfl)) (by decide) (by decide)) (g := (mkF m 60 #[.val (.ref a1), .val (.int p2), .val (.int p3), .val (.int (2 : Int32)), .val (.int ((p2 + (1 : Int32)) - (2 : Int32))), .val (.int (1 : Int32))] [(.int (((p2 + (1 : Int32)) - (2 : Int32)) + (1 : Int32))), (.int p3), (.int p2), (.ref a1), (.int (f 1))])) rfl (by rw [hml]; rfl) (argsL := [(.ref a1), (.int p2), (.int p3), (.int (((p2 + (1 : Int32)) - (2 : Int32)) + (1 : Int32)))]) (rest := [(.int (f 1))]) (lenOf pd_1 rfl) rfl (by show 2 * 0 + _ ≤ _; exact Nat.le_of_eq rfl) (hb hby d4_60) (fun _ _ => ⟨rfl, r2_0, (by decide : 0 + 0 ≤ _), (by decide : 0 + 0 ≤ _)⟩)
    dsimp only [Pt.U, Pt.locs, Pt.cells, Pt.slots] at X6 l6 y6 z6 st6 hQ6
    subst l6 y6 z6
    obtain ⟨rfl, N6q, r6_0⟩ := hQ6
    have N6 := Fr.app N2 N6q
    have ch7 : Goes p e below s₁ (entryFrame m #[(.ref a1), (.int p2), (.int p3), (.int (2 : Int32))] 6) T6 (mkF m 63 #[.val (.ref a1), .val (.int p2), .val (.int p3), .val (.int (2 : Int32)), .val (.int ((p2 + (1 : Int32)) - (2 : Int32))), .val (.int (1 : Int32))] [(.int (own_sym f p2 p3 (((p2 + (1 : Int32)) - (2 : Int32)) + (1 : Int32)))), (.int (f 1))]) := fun t kt => ch3 t (by
      show Steps p.tables e below (T2.setTop (mkF m 30 #[.val (.ref a1), .val (.int p2), .val (.int p3), .val (.int (2 : Int32)), .val (.int ((p2 + (1 : Int32)) - (2 : Int32))), .val (.int (1 : Int32))] [(.int (own_sym f p2 p3 ((p2 + (1 : Int32)) - (2 : Int32)))), (.int (f 0))])) _
      refine XS.icmpNo X2.here hx rfl (hb hby d4_30) rfl (teq hc4).2 ?_
      show Steps p.tables e below (T2.setTop (mkF m 33 #[.val (.ref a1), .val (.int p2), .val (.int p3), .val (.int (2 : Int32)), .val (.int ((p2 + (1 : Int32)) - (2 : Int32))), .val (.int (1 : Int32))] [])) _
      refine XS.iconst X2.here hx rfl (hb hby d4_33) ?_
      show Steps p.tables e below (T2.setTop (mkF m 34 #[.val (.ref a1), .val (.int p2), .val (.int p3), .val (.int (2 : Int32)), .val (.int ((p2 + (1 : Int32)) - (2 : Int32))), .val (.int (1 : Int32))] [(.int (1 : Int32))])) _
      refine XS.goto X2.here hx rfl (pc0 := 34) (pc' := 38) rfl (hb hby d4_34) (by decide) (by decide) ?_
      show Steps p.tables e below (T2.setTop (mkF m 38 #[.val (.ref a1), .val (.int p2), .val (.int p3), .val (.int (2 : Int32)), .val (.int ((p2 + (1 : Int32)) - (2 : Int32))), .val (.int (1 : Int32))] [(.int (1 : Int32))])) _
      refine XS.istore X2.here hx rfl (hb hby d4_38) rfl (l' := #[.val (.ref a1), .val (.int p2), .val (.int p3), .val (.int (2 : Int32)), .val (.int ((p2 + (1 : Int32)) - (2 : Int32))), .val (.int (1 : Int32))]) rfl ?_
      show Steps p.tables e below (T2.setTop (mkF m 40 #[.val (.ref a1), .val (.int p2), .val (.int p3), .val (.int (2 : Int32)), .val (.int ((p2 + (1 : Int32)) - (2 : Int32))), .val (.int (1 : Int32))] [])) _
      refine XS.iloadN X2.here hx rfl (hb hby d4_40) rfl ?_
      show Steps p.tables e below (T2.setTop (mkF m 41 #[.val (.ref a1), .val (.int p2), .val (.int p3), .val (.int (2 : Int32)), .val (.int ((p2 + (1 : Int32)) - (2 : Int32))), .val (.int (1 : Int32))] [(.int (2 : Int32))])) _
      refine XS.iconst X2.here hx rfl (hb hby d4_41) ?_
      show Steps p.tables e below (T2.setTop (mkF m 42 #[.val (.ref a1), .val (.int p2), .val (.int p3), .val (.int (2 : Int32)), .val (.int ((p2 + (1 : Int32)) - (2 : Int32))), .val (.int (1 : Int32))] [(.int (1 : Int32)), (.int (2 : Int32))])) _
      refine XS.icmpNo X2.here hx rfl (hb hby d4_42) rfl (tlt (by decide : ((1 : Int32) < (2 : Int32)))).2.2.2 ?_
      show Steps p.tables e below (T2.setTop (mkF m 45 #[.val (.ref a1), .val (.int p2), .val (.int p3), .val (.int (2 : Int32)), .val (.int ((p2 + (1 : Int32)) - (2 : Int32))), .val (.int (1 : Int32))] [])) _
      refine XS.iload X2.here hx rfl (hb hby d4_45) rfl ?_
      show Steps p.tables e below (T2.setTop (mkF m 47 #[.val (.ref a1), .val (.int p2), .val (.int p3), .val (.int (2 : Int32)), .val (.int ((p2 + (1 : Int32)) - (2 : Int32))), .val (.int (1 : Int32))] [(.int (1 : Int32))])) _
      refine XS.ifNo X2.here hx rfl (hb hby d4_47) rfl ((if0 _ _).trans (feq (by decide : ¬ ((1 : Int32) = (0 : Int32)))).1) ?_
      show Steps p.tables e below (T2.setTop (mkF m 50 #[.val (.ref a1), .val (.int p2), .val (.int p3), .val (.int (2 : Int32)), .val (.int ((p2 + (1 : Int32)) - (2 : Int32))), .val (.int (1 : Int32))] [])) _
      refine XS.aloadN X2.here hx rfl (hb hby d4_50) rfl rfl ?_
      show Steps p.tables e below (T2.setTop (mkF m 51 #[.val (.ref a1), .val (.int p2), .val (.int p3), .val (.int (2 : Int32)), .val (.int ((p2 + (1 : Int32)) - (2 : Int32))), .val (.int (1 : Int32))] [(.ref a1)])) _
      refine XS.iconst X2.here hx rfl (hb hby d4_51) ?_
      show Steps p.tables e below (T2.setTop (mkF m 52 #[.val (.ref a1), .val (.int p2), .val (.int p3), .val (.int (2 : Int32)), .val (.int ((p2 + (1 : Int32)) - (2 : Int32))), .val (.int (1 : Int32))] [(.int (1 : Int32)), (.ref a1)])) _
      refine X2.iaload hx (j := (1 : Int32)) (v := (.int (f 1))) (by rw [r2_0]; exact Ar5.1) (State.isArrayOf_alike hZ.alike Ar5.2.1) Ar5.2.2 hin5 hat5 (g := (mkF m 52 #[.val (.ref a1), .val (.int p2), .val (.int p3), .val (.int (2 : Int32)), .val (.int ((p2 + (1 : Int32)) - (2 : Int32))), .val (.int (1 : Int32))] [(.int (1 : Int32)), (.ref a1)])) rfl rfl (hb hby d4_52) _ ?_
      show Steps p.tables e below (T2.setTop (mkF m 53 #[.val (.ref a1), .val (.int p2), .val (.int p3), .val (.int (2 : Int32)), .val (.int ((p2 + (1 : Int32)) - (2 : Int32))), .val (.int (1 : Int32))] [(.int (f 1))])) _
      refine XS.aloadN X2.here hx rfl (hb hby d4_53) rfl rfl ?_
      show Steps p.tables e below (T2.setTop (mkF m 54 #[.val (.ref a1), .val (.int p2), .val (.int p3), .val (.int (2 : Int32)), .val (.int ((p2 + (1 : Int32)) - (2 : Int32))), .val (.int (1 : Int32))] [(.ref a1), (.int (f 1))])) _
      refine XS.iloadN X2.here hx rfl (hb hby d4_54) rfl ?_
      show Steps p.tables e below (T2.setTop (mkF m 55 #[.val (.ref a1), .val (.int p2), .val (.int p3), .val (.int (2 : Int32)), .val (.int ((p2 + (1 : Int32)) - (2 : Int32))), .val (.int (1 : Int32))] [(.int p2), (.ref a1), (.int (f 1))])) _
      refine XS.iloadN X2.here hx rfl (hb hby d4_55) rfl ?_
      show Steps p.tables e below (T2.setTop (mkF m 56 #[.val (.ref a1), .val (.int p2), .val (.int p3), .val (.int (2 : Int32)), .val (.int ((p2 + (1 : Int32)) - (2 : Int32))), .val (.int (1 : Int32))] [(.int p3), (.int p2), (.ref a1), (.int (f 1))])) _
      refine XS.iload X2.here hx rfl (hb hby d4_56) rfl ?_
      show Steps p.tables e below (T2.setTop (mkF m 58 #[.val (.ref a1), .val (.int p2), .val (.int p3), .val (.int (2 : Int32)), .val (.int ((p2 + (1 : Int32)) - (2 : Int32))), .val (.int (1 : Int32))] [(.int ((p2 + (1 : Int32)) - (2 : Int32))), (.int p3), (.int p2), (.ref a1), (.int (f 1))])) _
      refine XS.iconst X2.here hx rfl (hb hby d4_58) ?_
      show Steps p.tables e below (T2.setTop (mkF m 59 #[.val (.ref a1), .val (.int p2), .val (.int p3), .val (.int (2 : Int32)), .val (.int ((p2 + (1 : Int32)) - (2 : Int32))), .val (.int (1 : Int32))] [(.int (1 : Int32)), (.int ((p2 + (1 : Int32)) - (2 : Int32))), (.int p3), (.int p2), (.ref a1), (.int (f 1))])) _
      refine XS.iadd X2.here hx rfl (hb hby d4_59) rfl ?_
      show Steps p.tables e below (T2.setTop (mkF m 60 #[.val (.ref a1), .val (.int p2), .val (.int p3), .val (.int (2 : Int32)), .val (.int ((p2 + (1 : Int32)) - (2 : Int32))), .val (.int (1 : Int32))] [(.int (((p2 + (1 : Int32)) - (2 : Int32)) + (1 : Int32))), (.int p3), (.int p2), (.ref a1), (.int (f 1))])) _
      refine st6 _ ?_
      show Steps p.tables e below (T6.setTop (mkF m 63 #[.val (.ref a1), .val (.int p2), .val (.int p3), .val (.int (2 : Int32)), .val (.int ((p2 + (1 : Int32)) - (2 : Int32))), .val (.int (1 : Int32))] [(.int (own_sym f p2 p3 (((p2 + (1 : Int32)) - (2 : Int32)) + (1 : Int32)))), (.int (f 1))])) _
      exact kt)
    by_cases hc8 : (f 1) = (own_sym f p2 p3 (((p2 + (1 : Int32)) - (2 : Int32)) + (1 : Int32)))
    · have hv : (1 : Int32) = own_e2 f p2 p3 := by simp only [own_e2, if_pos hc4, if_pos hc8]
      obtain ⟨fs, hr, hrun, hended, hW, hsame⟩ := X6.leave (v := some (.int (1 : Int32))) (fun h => by rw [Bd.returns] at h; cases h)
      refine ⟨_, _, ch7 _ ?_, hrun, hended, _, _, rfl, ?_, ⟨_, rfl⟩, hW, hsame.mono (by decide) (by decide)⟩
      · show Steps p.tables e below (T6.setTop (mkF m 63 #[.val (.ref a1), .val (.int p2), .val (.int p3), .val (.int (2 : Int32)), .val (.int ((p2 + (1 : Int32)) - (2 : Int32))), .val (.int (1 : Int32))] [(.int (own_sym f p2 p3 (((p2 + (1 : Int32)) - (2 : Int32)) + (1 : Int32)))), (.int (f 1))])) _
        refine XS.icmpNo X6.here hx rfl (hb hby d4_63) rfl (teq hc8).2 ?_
        show Steps p.tables e below (T6.setTop (mkF m 66 #[.val (.ref a1), .val (.int p2), .val (.int p3), .val (.int (2 : Int32)), .val (.int ((p2 + (1 : Int32)) - (2 : Int32))), .val (.int (1 : Int32))] [])) _
        refine XS.iconst X6.here hx rfl (hb hby d4_66) ?_
        show Steps p.tables e below (T6.setTop (mkF m 67 #[.val (.ref a1), .val (.int p2), .val (.int p3), .val (.int (2 : Int32)), .val (.int ((p2 + (1 : Int32)) - (2 : Int32))), .val (.int (1 : Int32))] [(.int (1 : Int32))])) _
        refine XS.goto X6.here hx rfl (pc0 := 67) (pc' := 71) rfl (hb hby d4_67) (by decide) (by decide) ?_
        show Steps p.tables e below (T6.setTop (mkF m 71 #[.val (.ref a1), .val (.int p2), .val (.int p3), .val (.int (2 : Int32)), .val (.int ((p2 + (1 : Int32)) - (2 : Int32))), .val (.int (1 : Int32))] [(.int (1 : Int32))])) _
        refine XS.istore X6.here hx rfl (hb hby d4_71) rfl (l' := #[.val (.ref a1), .val (.int p2), .val (.int p3), .val (.int (2 : Int32)), .val (.int ((p2 + (1 : Int32)) - (2 : Int32))), .val (.int (1 : Int32))]) rfl ?_
        show Steps p.tables e below (T6.setTop (mkF m 73 #[.val (.ref a1), .val (.int p2), .val (.int p3), .val (.int (2 : Int32)), .val (.int ((p2 + (1 : Int32)) - (2 : Int32))), .val (.int (1 : Int32))] [])) _
        refine XS.iloadN X6.here hx rfl (hb hby d4_73) rfl ?_
        show Steps p.tables e below (T6.setTop (mkF m 74 #[.val (.ref a1), .val (.int p2), .val (.int p3), .val (.int (2 : Int32)), .val (.int ((p2 + (1 : Int32)) - (2 : Int32))), .val (.int (1 : Int32))] [(.int (2 : Int32))])) _
        refine XS.iconst X6.here hx rfl (hb hby d4_74) ?_
        show Steps p.tables e below (T6.setTop (mkF m 75 #[.val (.ref a1), .val (.int p2), .val (.int p3), .val (.int (2 : Int32)), .val (.int ((p2 + (1 : Int32)) - (2 : Int32))), .val (.int (1 : Int32))] [(.int (2 : Int32)), (.int (2 : Int32))])) _
        refine XS.icmpYes X6.here hx rfl (pc0 := 75) (pc' := 106) rfl (hb hby d4_75) rfl (flt (by decide : ¬ ((2 : Int32) < (2 : Int32)))).2.2.2 (by decide) (by decide) ?_
        show Steps p.tables e below (T6.setTop (mkF m 106 #[.val (.ref a1), .val (.int p2), .val (.int p3), .val (.int (2 : Int32)), .val (.int ((p2 + (1 : Int32)) - (2 : Int32))), .val (.int (1 : Int32))] [])) _
        refine XS.iloadN X6.here hx rfl (hb hby d4_106) rfl ?_
        show Steps p.tables e below (T6.setTop (mkF m 107 #[.val (.ref a1), .val (.int p2), .val (.int p3), .val (.int (2 : Int32)), .val (.int ((p2 + (1 : Int32)) - (2 : Int32))), .val (.int (1 : Int32))] [(.int (2 : Int32))])) _
        refine XS.iconst X6.here hx rfl (hb hby d4_107) ?_
        show Steps p.tables e below (T6.setTop (mkF m 108 #[.val (.ref a1), .val (.int p2), .val (.int p3), .val (.int (2 : Int32)), .val (.int ((p2 + (1 : Int32)) - (2 : Int32))), .val (.int (1 : Int32))] [(.int (3 : Int32)), (.int (2 : Int32))])) _
        refine XS.icmpYes X6.here hx rfl (pc0 := 108) (pc' := 139) rfl (hb hby d4_108) rfl (flt (by decide : ¬ ((3 : Int32) < (2 : Int32)))).2.2.2 (by decide) (by decide) ?_
        show Steps p.tables e below (T6.setTop (mkF m 139 #[.val (.ref a1), .val (.int p2), .val (.int p3), .val (.int (2 : Int32)), .val (.int ((p2 + (1 : Int32)) - (2 : Int32))), .val (.int (1 : Int32))] [])) _
        refine XS.iload X6.here hx rfl (hb hby d4_139) rfl ?_
        show Steps p.tables e below (T6.setTop (mkF m 141 #[.val (.ref a1), .val (.int p2), .val (.int p3), .val (.int (2 : Int32)), .val (.int ((p2 + (1 : Int32)) - (2 : Int32))), .val (.int (1 : Int32))] [(.int (1 : Int32))])) _
        exact retN X6 hx (t := .boolean) Bd.returns (by simp) (hb hby d4_141) hr
      · show QE2 Z a1 p2 p3 k1 z f h0 n0 _ T6.heap _
        rw [r6_0]
        exact ⟨congrArg (fun z => some (Value.int z)) hv, N6, rfl⟩
    · have hv : (0 : Int32) = own_e2 f p2 p3 := by simp only [own_e2, if_pos hc4, if_neg hc8]
      obtain ⟨fs, hr, hrun, hended, hW, hsame⟩ := X6.leave (v := some (.int (0 : Int32))) (fun h => by rw [Bd.returns] at h; cases h)
      refine ⟨_, _, ch7 _ ?_, hrun, hended, _, _, rfl, ?_, ⟨_, rfl⟩, hW, hsame.mono (by decide) (by decide)⟩
      · show Steps p.tables e below (T6.setTop (mkF m 63 #[.val (.ref a1), .val (.int p2), .val (.int p3), .val (.int (2 : Int32)), .val (.int ((p2 + (1 : Int32)) - (2 : Int32))), .val (.int (1 : Int32))] [(.int (own_sym f p2 p3 (((p2 + (1 : Int32)) - (2 : Int32)) + (1 : Int32)))), (.int (f 1))])) _
        refine XS.icmpYes X6.here hx rfl (pc0 := 63) (pc' := 70) rfl (hb hby d4_63) rfl (feq hc8).2 (by decide) (by decide) ?_
        show Steps p.tables e below (T6.setTop (mkF m 70 #[.val (.ref a1), .val (.int p2), .val (.int p3), .val (.int (2 : Int32)), .val (.int ((p2 + (1 : Int32)) - (2 : Int32))), .val (.int (1 : Int32))] [])) _
        refine XS.iconst X6.here hx rfl (hb hby d4_70) ?_
        show Steps p.tables e below (T6.setTop (mkF m 71 #[.val (.ref a1), .val (.int p2), .val (.int p3), .val (.int (2 : Int32)), .val (.int ((p2 + (1 : Int32)) - (2 : Int32))), .val (.int (1 : Int32))] [(.int (0 : Int32))])) _
        refine XS.istore X6.here hx rfl (hb hby d4_71) rfl (l' := #[.val (.ref a1), .val (.int p2), .val (.int p3), .val (.int (2 : Int32)), .val (.int ((p2 + (1 : Int32)) - (2 : Int32))), .val (.int (0 : Int32))]) rfl ?_
        show Steps p.tables e below (T6.setTop (mkF m 73 #[.val (.ref a1), .val (.int p2), .val (.int p3), .val (.int (2 : Int32)), .val (.int ((p2 + (1 : Int32)) - (2 : Int32))), .val (.int (0 : Int32))] [])) _
        refine XS.iloadN X6.here hx rfl (hb hby d4_73) rfl ?_
        show Steps p.tables e below (T6.setTop (mkF m 74 #[.val (.ref a1), .val (.int p2), .val (.int p3), .val (.int (2 : Int32)), .val (.int ((p2 + (1 : Int32)) - (2 : Int32))), .val (.int (0 : Int32))] [(.int (2 : Int32))])) _
        refine XS.iconst X6.here hx rfl (hb hby d4_74) ?_
        show Steps p.tables e below (T6.setTop (mkF m 75 #[.val (.ref a1), .val (.int p2), .val (.int p3), .val (.int (2 : Int32)), .val (.int ((p2 + (1 : Int32)) - (2 : Int32))), .val (.int (0 : Int32))] [(.int (2 : Int32)), (.int (2 : Int32))])) _
        refine XS.icmpYes X6.here hx rfl (pc0 := 75) (pc' := 106) rfl (hb hby d4_75) rfl (flt (by decide : ¬ ((2 : Int32) < (2 : Int32)))).2.2.2 (by decide) (by decide) ?_
        show Steps p.tables e below (T6.setTop (mkF m 106 #[.val (.ref a1), .val (.int p2), .val (.int p3), .val (.int (2 : Int32)), .val (.int ((p2 + (1 : Int32)) - (2 : Int32))), .val (.int (0 : Int32))] [])) _
        refine XS.iloadN X6.here hx rfl (hb hby d4_106) rfl ?_
        show Steps p.tables e below (T6.setTop (mkF m 107 #[.val (.ref a1), .val (.int p2), .val (.int p3), .val (.int (2 : Int32)), .val (.int ((p2 + (1 : Int32)) - (2 : Int32))), .val (.int (0 : Int32))] [(.int (2 : Int32))])) _
        refine XS.iconst X6.here hx rfl (hb hby d4_107) ?_
        show Steps p.tables e below (T6.setTop (mkF m 108 #[.val (.ref a1), .val (.int p2), .val (.int p3), .val (.int (2 : Int32)), .val (.int ((p2 + (1 : Int32)) - (2 : Int32))), .val (.int (0 : Int32))] [(.int (3 : Int32)), (.int (2 : Int32))])) _
        refine XS.icmpYes X6.here hx rfl (pc0 := 108) (pc' := 139) rfl (hb hby d4_108) rfl (flt (by decide : ¬ ((3 : Int32) < (2 : Int32)))).2.2.2 (by decide) (by decide) ?_
        show Steps p.tables e below (T6.setTop (mkF m 139 #[.val (.ref a1), .val (.int p2), .val (.int p3), .val (.int (2 : Int32)), .val (.int ((p2 + (1 : Int32)) - (2 : Int32))), .val (.int (0 : Int32))] [])) _
        refine XS.iload X6.here hx rfl (hb hby d4_139) rfl ?_
        show Steps p.tables e below (T6.setTop (mkF m 141 #[.val (.ref a1), .val (.int p2), .val (.int p3), .val (.int (2 : Int32)), .val (.int ((p2 + (1 : Int32)) - (2 : Int32))), .val (.int (0 : Int32))] [(.int (0 : Int32))])) _
        exact retN X6 hx (t := .boolean) Bd.returns (by simp) (hb hby d4_141) hr
      · show QE2 Z a1 p2 p3 k1 z f h0 n0 _ T6.heap _
        rw [r6_0]
        exact ⟨congrArg (fun z => some (Value.int z)) hv, N6, rfl⟩
  · have hv : (0 : Int32) = own_e2 f p2 p3 := by simp only [own_e2, if_neg hc4]
    obtain ⟨fs, hr, hrun, hended, hW, hsame⟩ := X2.leave (v := some (.int (0 : Int32))) (fun h => by rw [Bd.returns] at h; cases h)
    refine ⟨_, _, ch3 _ ?_, hrun, hended, _, _, rfl, ?_, ⟨_, rfl⟩, hW, hsame.mono (by decide) (by decide)⟩
    · show Steps p.tables e below (T2.setTop (mkF m 30 #[.val (.ref a1), .val (.int p2), .val (.int p3), .val (.int (2 : Int32)), .val (.int ((p2 + (1 : Int32)) - (2 : Int32))), .val (.int (1 : Int32))] [(.int (own_sym f p2 p3 ((p2 + (1 : Int32)) - (2 : Int32)))), (.int (f 0))])) _
      refine XS.icmpYes X2.here hx rfl (pc0 := 30) (pc' := 37) rfl (hb hby d4_30) rfl (feq hc4).2 (by decide) (by decide) ?_
      show Steps p.tables e below (T2.setTop (mkF m 37 #[.val (.ref a1), .val (.int p2), .val (.int p3), .val (.int (2 : Int32)), .val (.int ((p2 + (1 : Int32)) - (2 : Int32))), .val (.int (1 : Int32))] [])) _
      refine XS.iconst X2.here hx rfl (hb hby d4_37) ?_
      show Steps p.tables e below (T2.setTop (mkF m 38 #[.val (.ref a1), .val (.int p2), .val (.int p3), .val (.int (2 : Int32)), .val (.int ((p2 + (1 : Int32)) - (2 : Int32))), .val (.int (1 : Int32))] [(.int (0 : Int32))])) _
      refine XS.istore X2.here hx rfl (hb hby d4_38) rfl (l' := #[.val (.ref a1), .val (.int p2), .val (.int p3), .val (.int (2 : Int32)), .val (.int ((p2 + (1 : Int32)) - (2 : Int32))), .val (.int (0 : Int32))]) rfl ?_
      show Steps p.tables e below (T2.setTop (mkF m 40 #[.val (.ref a1), .val (.int p2), .val (.int p3), .val (.int (2 : Int32)), .val (.int ((p2 + (1 : Int32)) - (2 : Int32))), .val (.int (0 : Int32))] [])) _
      refine XS.iloadN X2.here hx rfl (hb hby d4_40) rfl ?_
      show Steps p.tables e below (T2.setTop (mkF m 41 #[.val (.ref a1), .val (.int p2), .val (.int p3), .val (.int (2 : Int32)), .val (.int ((p2 + (1 : Int32)) - (2 : Int32))), .val (.int (0 : Int32))] [(.int (2 : Int32))])) _
      refine XS.iconst X2.here hx rfl (hb hby d4_41) ?_
      show Steps p.tables e below (T2.setTop (mkF m 42 #[.val (.ref a1), .val (.int p2), .val (.int p3), .val (.int (2 : Int32)), .val (.int ((p2 + (1 : Int32)) - (2 : Int32))), .val (.int (0 : Int32))] [(.int (1 : Int32)), (.int (2 : Int32))])) _
      refine XS.icmpNo X2.here hx rfl (hb hby d4_42) rfl (tlt (by decide : ((1 : Int32) < (2 : Int32)))).2.2.2 ?_
      show Steps p.tables e below (T2.setTop (mkF m 45 #[.val (.ref a1), .val (.int p2), .val (.int p3), .val (.int (2 : Int32)), .val (.int ((p2 + (1 : Int32)) - (2 : Int32))), .val (.int (0 : Int32))] [])) _
      refine XS.iload X2.here hx rfl (hb hby d4_45) rfl ?_
      show Steps p.tables e below (T2.setTop (mkF m 47 #[.val (.ref a1), .val (.int p2), .val (.int p3), .val (.int (2 : Int32)), .val (.int ((p2 + (1 : Int32)) - (2 : Int32))), .val (.int (0 : Int32))] [(.int (0 : Int32))])) _
      refine XS.ifYes X2.here hx rfl (pc0 := 47) (pc' := 70) rfl (hb hby d4_47) rfl ((if0 _ _).trans (teq (by decide : ((0 : Int32) = (0 : Int32)))).1) (by decide) (by decide) ?_
      show Steps p.tables e below (T2.setTop (mkF m 70 #[.val (.ref a1), .val (.int p2), .val (.int p3), .val (.int (2 : Int32)), .val (.int ((p2 + (1 : Int32)) - (2 : Int32))), .val (.int (0 : Int32))] [])) _
      refine XS.iconst X2.here hx rfl (hb hby d4_70) ?_
      show Steps p.tables e below (T2.setTop (mkF m 71 #[.val (.ref a1), .val (.int p2), .val (.int p3), .val (.int (2 : Int32)), .val (.int ((p2 + (1 : Int32)) - (2 : Int32))), .val (.int (0 : Int32))] [(.int (0 : Int32))])) _
      refine XS.istore X2.here hx rfl (hb hby d4_71) rfl (l' := #[.val (.ref a1), .val (.int p2), .val (.int p3), .val (.int (2 : Int32)), .val (.int ((p2 + (1 : Int32)) - (2 : Int32))), .val (.int (0 : Int32))]) rfl ?_
      show Steps p.tables e below (T2.setTop (mkF m 73 #[.val (.ref a1), .val (.int p2), .val (.int p3), .val (.int (2 : Int32)), .val (.int ((p2 + (1 : Int32)) - (2 : Int32))), .val (.int (0 : Int32))] [])) _
      refine XS.iloadN X2.here hx rfl (hb hby d4_73) rfl ?_
      show Steps p.tables e below (T2.setTop (mkF m 74 #[.val (.ref a1), .val (.int p2), .val (.int p3), .val (.int (2 : Int32)), .val (.int ((p2 + (1 : Int32)) - (2 : Int32))), .val (.int (0 : Int32))] [(.int (2 : Int32))])) _
      refine XS.iconst X2.here hx rfl (hb hby d4_74) ?_
      show Steps p.tables e below (T2.setTop (mkF m 75 #[.val (.ref a1), .val (.int p2), .val (.int p3), .val (.int (2 : Int32)), .val (.int ((p2 + (1 : Int32)) - (2 : Int32))), .val (.int (0 : Int32))] [(.int (2 : Int32)), (.int (2 : Int32))])) _
      refine XS.icmpYes X2.here hx rfl (pc0 := 75) (pc' := 106) rfl (hb hby d4_75) rfl (flt (by decide : ¬ ((2 : Int32) < (2 : Int32)))).2.2.2 (by decide) (by decide) ?_
      show Steps p.tables e below (T2.setTop (mkF m 106 #[.val (.ref a1), .val (.int p2), .val (.int p3), .val (.int (2 : Int32)), .val (.int ((p2 + (1 : Int32)) - (2 : Int32))), .val (.int (0 : Int32))] [])) _
      refine XS.iloadN X2.here hx rfl (hb hby d4_106) rfl ?_
      show Steps p.tables e below (T2.setTop (mkF m 107 #[.val (.ref a1), .val (.int p2), .val (.int p3), .val (.int (2 : Int32)), .val (.int ((p2 + (1 : Int32)) - (2 : Int32))), .val (.int (0 : Int32))] [(.int (2 : Int32))])) _
      refine XS.iconst X2.here hx rfl (hb hby d4_107) ?_
      show Steps p.tables e below (T2.setTop (mkF m 108 #[.val (.ref a1), .val (.int p2), .val (.int p3), .val (.int (2 : Int32)), .val (.int ((p2 + (1 : Int32)) - (2 : Int32))), .val (.int (0 : Int32))] [(.int (3 : Int32)), (.int (2 : Int32))])) _
      refine XS.icmpYes X2.here hx rfl (pc0 := 108) (pc' := 139) rfl (hb hby d4_108) rfl (flt (by decide : ¬ ((3 : Int32) < (2 : Int32)))).2.2.2 (by decide) (by decide) ?_
      show Steps p.tables e below (T2.setTop (mkF m 139 #[.val (.ref a1), .val (.int p2), .val (.int p3), .val (.int (2 : Int32)), .val (.int ((p2 + (1 : Int32)) - (2 : Int32))), .val (.int (0 : Int32))] [])) _
      refine XS.iload X2.here hx rfl (hb hby d4_139) rfl ?_
      show Steps p.tables e below (T2.setTop (mkF m 141 #[.val (.ref a1), .val (.int p2), .val (.int p3), .val (.int (2 : Int32)), .val (.int ((p2 + (1 : Int32)) - (2 : Int32))), .val (.int (0 : Int32))] [(.int (0 : Int32))])) _
      exact retN X2 hx (t := .boolean) Bd.returns (by simp) (hb hby d4_141) hr
    · show QE2 Z a1 p2 p3 k1 z f h0 n0 _ T2.heap _
      rw [r2_0]
      exact ⟨congrArg (fun z => some (Value.int z)) hv, N2, rfl⟩
theorem ef_E3 (m : MethodId) (a1 : Addr) (p2 : Int32) (p3 : Int32) : entryFrame m #[(.ref a1), (.int p2), (.int p3), (.int (3 : Int32))] 6 = mkF m 0 #[.val (.ref a1), .val (.int p2), .val (.int p3), .val (.int (3 : Int32)), .unset, .unset] [] := by first | (simp [entryFrame, mkF, argsToLocals, Value.category]; done) | rfl
def QE3 (Z : State) (a1 : Addr) (p2 : Int32) (p3 : Int32) (k1 : ClassId) (z : Int32) (f : Nat → Int32) (h0 : Heap) (n0 : Nat) (v : Option Value) (h : Heap) (L : List Loc) : Prop := v = some (.int (own_e3 f p2 p3)) ∧ Fr n0 L ∧ h = h0
set_option maxRecDepth 65536 in
set_option maxHeartbeats 40000000 in
theorem rmE3 (l : Launch) (Z : State) (a0 : Array Value) (hw : ∀ d ∈ tables_1, d.before a0 Z = true) (ws : List Jvm.Cond) (a1 : Addr) (p2 : Int32) (p3 : Int32) (k1 : ClassId) (z : Int32) (f : Nat → Int32) (h0 : Heap) (n0 : Nat) (Z0 : n0 ≤ h0.size) (V_1 : Arv Z h0 a1 k1 .int z (own_v4 f) (.int (0 : Int32))) (hz : ∀ j : Int32, 0 ≤ j.toInt → j.toInt < 3 → j < z) (o0 : own_ok p2 z ((p2 + (1 : Int32)) - (3 : Int32))) (o1 : own_ok p2 z (((p2 + (1 : Int32)) - (3 : Int32)) + (1 : Int32))) (o2 : own_ok p2 z (((p2 + (1 : Int32)) - (3 : Int32)) + (2 : Int32))) :
    MetFree l (⟨"com/example/humble_match/humblematch/PartialMatchTableAdvancePinLaw", "ends", "([IIII)Z"⟩ : MethodName) (head1 (Jvm.Cond.code (⟨"com/example/humble_match/humblematch/PartialMatchTableAdvancePinLaw", "ends", "([IIII)Z"⟩ : MethodName) method_4_code 6 (some .boolean) :: ws) ({ frames := 1, cells := 0, slots := 0, locals := 16 } : Room)) (fun a U => a = #[(.ref a1), (.int p2), (.int p3), (.int (3 : Int32))] ∧ Z.Warmed39 U.vm ∧ U.heap = h0) (fun _ _ _ _ _ => True) (fun _ U o U' => ∃ v L, o = .returned v ∧ QE3 Z a1 p2 p3 k1 z f h0 n0 v U'.heap L ∧ FrameEnd U o U' L ({ frames := 1, cells := 0, slots := 0, locals := 16 } : Room).cells ({ frames := 1, cells := 0, slots := 0, locals := 16 } : Room).slots) := by
  refine MetFree.of_bodySF (plainFor_of_name pn_4) hisR ?_
  intro p e s m args below meth c s₁ Bd hml0 hP hK
  obtain ⟨rfl, hZ, hh⟩ := hP
  have hx := Bd.exec
  have hby := Bd.bytes
  have hml : c.maxLocals = 6 := hml0
  have hown : s.vm.findClass "com/example/humble_match/humblematch/PartialMatchTableAdvancePinLaw" = some m.cls := findClass_of_methodNamed Bd.named
  have hnm := (name_of_methodNamed Bd.named Bd.method).1
  have X0 : Stand p l e ({ frames := 1, cells := 0, slots := 0, locals := 16 } : Room) s m #[(.ref a1), (.int p2), (.int p3), (.int (3 : Int32))] below meth c s₁ [] 0 0 := Stand.of_body Bd
  have e0 : s₁.heap = h0 := by rw [← hh, Bd.state]; rfl
  have N0 := Fr.nil n0
  have pre0 : ∀ t, Steps p.tables e below (s₁.setTop (mkF m 0 #[.val (.ref a1), .val (.int p2), .val (.int p3), .val (.int (3 : Int32)), .unset, .unset] [])) t → Steps p.tables e below (s₁.setTop (entryFrame m #[(.ref a1), (.int p2), (.int p3), (.int (3 : Int32))] 6)) t := fun t k => castTop (ef_E3 m a1 p2 p3) k
  have K0 : Keep h0 h0 [] := Keep.refl h0 []
  obtain ⟨cl1, Ar1, -, S1, M1, H1, G1⟩ := id V_1
  have hin1 : ¬ ((0 : Int32) < 0 ∨ cl1.slots.size ≤ ((0 : Int32)).toNatClampNeg) := inb_of S1 ⟨by decide, hz _ (by decide) (by decide)⟩
  have hat1 : cl1.slots[((0 : Int32)).toNatClampNeg]? = some (.int (f 0)) := Has.at H1 hin1 rfl
  obtain ⟨_, _, ⟨T2, L2, k2, n2⟩, -, X2, ⟨Lc2, hQ2, l2, y2, z2⟩, st2⟩ := Jvm.LawKit.callS X0 hx (y := (⟨"com/example/humble_match/humblematch/PartialMatchTableAdvancePinLaw", "sym", "([IIII)I"⟩ : MethodName)) hown (mvT hZ (hw _ (List.mem_of_getElem? (i := 17) rfl))) (mvT hZ (hw _ (List.mem_of_getElem? (i := 18) rfl))) (mvT hZ (hw _ (List.mem_of_getElem? (i := 8) rfl))) (mvT hZ (hw _ (List.mem_of_getElem? (i := 19) rfl))) (by decide) (backOf (W := 1) (rm5 l Z a0 hw [] a1 p2 p3 ((p2 + (1 : Int32)) - (3 : Int32)) k1 z f h0 n0 Z0 V_1 o0) hZ (hw _ (List.mem_of_getElem? (i := 19) rfl)) (hw _ (List.mem_of_getElem? (i := 8) rfl)) (by decide) (by decide)) (g := (mkF m 27 #[.val (.ref a1), .val (.int p2), .val (.int p3), .val (.int (3 : Int32)), .val (.int ((p2 + (1 : Int32)) - (3 : Int32))), .val (.int (1 : Int32))] [(.int ((p2 + (1 : Int32)) - (3 : Int32))), (.int p3), (.int p2), (.ref a1), (.int (f 0))])) rfl (by rw [hml]; rfl) (argsL := [(.ref a1), (.int p2), (.int p3), (.int ((p2 + (1 : Int32)) - (3 : Int32)))]) (rest := [(.int (f 0))]) (lenOf pd_1 rfl) rfl (by show 2 * 0 + _ ≤ _; exact Nat.le_of_eq rfl) (hb hby d4_27) (fun _ _ => ⟨rfl, e0, (by decide : 0 + 0 ≤ _), (by decide : 0 + 0 ≤ _)⟩)
  dsimp only [Pt.U, Pt.locs, Pt.cells, Pt.slots] at X2 l2 y2 z2 st2 hQ2
  subst l2 y2 z2
  obtain ⟨rfl, N2q, r2_0⟩ := hQ2
  have N2 := Fr.app N0 N2q
  have ch3 : Goes p e below s₁ (entryFrame m #[(.ref a1), (.int p2), (.int p3), (.int (3 : Int32))] 6) T2 (mkF m 30 #[.val (.ref a1), .val (.int p2), .val (.int p3), .val (.int (3 : Int32)), .val (.int ((p2 + (1 : Int32)) - (3 : Int32))), .val (.int (1 : Int32))] [(.int (own_sym f p2 p3 ((p2 + (1 : Int32)) - (3 : Int32)))), (.int (f 0))]) := fun t kt => pre0 t (by
    show Steps p.tables e below (s₁.setTop (mkF m 0 #[.val (.ref a1), .val (.int p2), .val (.int p3), .val (.int (3 : Int32)), .unset, .unset] [])) _
    refine XS.iloadN X0.here hx rfl (hb hby d4_0) rfl ?_
    show Steps p.tables e below (s₁.setTop (mkF m 1 #[.val (.ref a1), .val (.int p2), .val (.int p3), .val (.int (3 : Int32)), .unset, .unset] [(.int p2)])) _
    refine XS.iconst X0.here hx rfl (hb hby d4_1) ?_
    show Steps p.tables e below (s₁.setTop (mkF m 2 #[.val (.ref a1), .val (.int p2), .val (.int p3), .val (.int (3 : Int32)), .unset, .unset] [(.int (1 : Int32)), (.int p2)])) _
    refine XS.iadd X0.here hx rfl (hb hby d4_2) rfl ?_
    show Steps p.tables e below (s₁.setTop (mkF m 3 #[.val (.ref a1), .val (.int p2), .val (.int p3), .val (.int (3 : Int32)), .unset, .unset] [(.int (p2 + (1 : Int32)))])) _
    refine XS.iloadN X0.here hx rfl (hb hby d4_3) rfl ?_
    show Steps p.tables e below (s₁.setTop (mkF m 4 #[.val (.ref a1), .val (.int p2), .val (.int p3), .val (.int (3 : Int32)), .unset, .unset] [(.int (3 : Int32)), (.int (p2 + (1 : Int32)))])) _
    refine XS.isub X0.here hx rfl (hb hby d4_4) rfl ?_
    show Steps p.tables e below (s₁.setTop (mkF m 5 #[.val (.ref a1), .val (.int p2), .val (.int p3), .val (.int (3 : Int32)), .unset, .unset] [(.int ((p2 + (1 : Int32)) - (3 : Int32)))])) _
    refine XS.istore X0.here hx rfl (hb hby d4_5) rfl (l' := #[.val (.ref a1), .val (.int p2), .val (.int p3), .val (.int (3 : Int32)), .val (.int ((p2 + (1 : Int32)) - (3 : Int32))), .unset]) rfl ?_
    show Steps p.tables e below (s₁.setTop (mkF m 7 #[.val (.ref a1), .val (.int p2), .val (.int p3), .val (.int (3 : Int32)), .val (.int ((p2 + (1 : Int32)) - (3 : Int32))), .unset] [])) _
    refine XS.iconst X0.here hx rfl (hb hby d4_7) ?_
    show Steps p.tables e below (s₁.setTop (mkF m 8 #[.val (.ref a1), .val (.int p2), .val (.int p3), .val (.int (3 : Int32)), .val (.int ((p2 + (1 : Int32)) - (3 : Int32))), .unset] [(.int (1 : Int32))])) _
    refine XS.istore X0.here hx rfl (hb hby d4_8) rfl (l' := #[.val (.ref a1), .val (.int p2), .val (.int p3), .val (.int (3 : Int32)), .val (.int ((p2 + (1 : Int32)) - (3 : Int32))), .val (.int (1 : Int32))]) rfl ?_
    show Steps p.tables e below (s₁.setTop (mkF m 10 #[.val (.ref a1), .val (.int p2), .val (.int p3), .val (.int (3 : Int32)), .val (.int ((p2 + (1 : Int32)) - (3 : Int32))), .val (.int (1 : Int32))] [])) _
    refine XS.iloadN X0.here hx rfl (hb hby d4_10) rfl ?_
    show Steps p.tables e below (s₁.setTop (mkF m 11 #[.val (.ref a1), .val (.int p2), .val (.int p3), .val (.int (3 : Int32)), .val (.int ((p2 + (1 : Int32)) - (3 : Int32))), .val (.int (1 : Int32))] [(.int (3 : Int32))])) _
    refine XS.ifNo X0.here hx rfl (hb hby d4_11) rfl ((if0 _ _).trans (tlt (by decide : ((0 : Int32) < (3 : Int32)))).2.2.2) ?_
    show Steps p.tables e below (s₁.setTop (mkF m 14 #[.val (.ref a1), .val (.int p2), .val (.int p3), .val (.int (3 : Int32)), .val (.int ((p2 + (1 : Int32)) - (3 : Int32))), .val (.int (1 : Int32))] [])) _
    refine XS.iload X0.here hx rfl (hb hby d4_14) rfl ?_
    show Steps p.tables e below (s₁.setTop (mkF m 16 #[.val (.ref a1), .val (.int p2), .val (.int p3), .val (.int (3 : Int32)), .val (.int ((p2 + (1 : Int32)) - (3 : Int32))), .val (.int (1 : Int32))] [(.int (1 : Int32))])) _
    refine XS.ifNo X0.here hx rfl (hb hby d4_16) rfl ((if0 _ _).trans (feq (by decide : ¬ ((1 : Int32) = (0 : Int32)))).1) ?_
    show Steps p.tables e below (s₁.setTop (mkF m 19 #[.val (.ref a1), .val (.int p2), .val (.int p3), .val (.int (3 : Int32)), .val (.int ((p2 + (1 : Int32)) - (3 : Int32))), .val (.int (1 : Int32))] [])) _
    refine XS.aloadN X0.here hx rfl (hb hby d4_19) rfl rfl ?_
    show Steps p.tables e below (s₁.setTop (mkF m 20 #[.val (.ref a1), .val (.int p2), .val (.int p3), .val (.int (3 : Int32)), .val (.int ((p2 + (1 : Int32)) - (3 : Int32))), .val (.int (1 : Int32))] [(.ref a1)])) _
    refine XS.iconst X0.here hx rfl (hb hby d4_20) ?_
    show Steps p.tables e below (s₁.setTop (mkF m 21 #[.val (.ref a1), .val (.int p2), .val (.int p3), .val (.int (3 : Int32)), .val (.int ((p2 + (1 : Int32)) - (3 : Int32))), .val (.int (1 : Int32))] [(.int (0 : Int32)), (.ref a1)])) _
    refine X0.iaload hx (j := (0 : Int32)) (v := (.int (f 0))) (by rw [e0]; exact Ar1.1) (State.isArrayOf_alike hZ.alike Ar1.2.1) Ar1.2.2 hin1 hat1 (g := (mkF m 21 #[.val (.ref a1), .val (.int p2), .val (.int p3), .val (.int (3 : Int32)), .val (.int ((p2 + (1 : Int32)) - (3 : Int32))), .val (.int (1 : Int32))] [(.int (0 : Int32)), (.ref a1)])) rfl rfl (hb hby d4_21) _ ?_
    show Steps p.tables e below (s₁.setTop (mkF m 22 #[.val (.ref a1), .val (.int p2), .val (.int p3), .val (.int (3 : Int32)), .val (.int ((p2 + (1 : Int32)) - (3 : Int32))), .val (.int (1 : Int32))] [(.int (f 0))])) _
    refine XS.aloadN X0.here hx rfl (hb hby d4_22) rfl rfl ?_
    show Steps p.tables e below (s₁.setTop (mkF m 23 #[.val (.ref a1), .val (.int p2), .val (.int p3), .val (.int (3 : Int32)), .val (.int ((p2 + (1 : Int32)) - (3 : Int32))), .val (.int (1 : Int32))] [(.ref a1), (.int (f 0))])) _
    refine XS.iloadN X0.here hx rfl (hb hby d4_23) rfl ?_
    show Steps p.tables e below (s₁.setTop (mkF m 24 #[.val (.ref a1), .val (.int p2), .val (.int p3), .val (.int (3 : Int32)), .val (.int ((p2 + (1 : Int32)) - (3 : Int32))), .val (.int (1 : Int32))] [(.int p2), (.ref a1), (.int (f 0))])) _
    refine XS.iloadN X0.here hx rfl (hb hby d4_24) rfl ?_
    show Steps p.tables e below (s₁.setTop (mkF m 25 #[.val (.ref a1), .val (.int p2), .val (.int p3), .val (.int (3 : Int32)), .val (.int ((p2 + (1 : Int32)) - (3 : Int32))), .val (.int (1 : Int32))] [(.int p3), (.int p2), (.ref a1), (.int (f 0))])) _
    refine XS.iload X0.here hx rfl (hb hby d4_25) rfl ?_
    show Steps p.tables e below (s₁.setTop (mkF m 27 #[.val (.ref a1), .val (.int p2), .val (.int p3), .val (.int (3 : Int32)), .val (.int ((p2 + (1 : Int32)) - (3 : Int32))), .val (.int (1 : Int32))] [(.int ((p2 + (1 : Int32)) - (3 : Int32))), (.int p3), (.int p2), (.ref a1), (.int (f 0))])) _
    refine st2 _ ?_
    show Steps p.tables e below (T2.setTop (mkF m 30 #[.val (.ref a1), .val (.int p2), .val (.int p3), .val (.int (3 : Int32)), .val (.int ((p2 + (1 : Int32)) - (3 : Int32))), .val (.int (1 : Int32))] [(.int (own_sym f p2 p3 ((p2 + (1 : Int32)) - (3 : Int32)))), (.int (f 0))])) _
    exact kt)
  by_cases hc4 : (f 0) = (own_sym f p2 p3 ((p2 + (1 : Int32)) - (3 : Int32)))
  · obtain ⟨cl5, Ar5, -, S5, M5, H5, G5⟩ := id V_1
    have hin5 : ¬ ((1 : Int32) < 0 ∨ cl5.slots.size ≤ ((1 : Int32)).toNatClampNeg) := inb_of S5 ⟨by decide, hz _ (by decide) (by decide)⟩
    have hat5 : cl5.slots[((1 : Int32)).toNatClampNeg]? = some (.int (f 1)) := Has.at H5 hin5 rfl
    obtain ⟨_, _, ⟨T6, L6, k6, n6⟩, -, X6, ⟨Lc6, hQ6, l6, y6, z6⟩, st6⟩ := Jvm.LawKit.callS X2 hx (y := (⟨"com/example/humble_match/humblematch/PartialMatchTableAdvancePinLaw", "sym", "([IIII)I"⟩ : MethodName)) hown (mvT hZ (hw _ (List.mem_of_getElem? (i := 17) rfl))) (mvT hZ (hw _ (List.mem_of_getElem? (i := 18) rfl))) (mvT hZ (hw _ (List.mem_of_getElem? (i := 8) rfl))) (mvT hZ (hw _ (List.mem_of_getElem? (i := 19) rfl))) (by decide) (backOf (W := 1) (rm5 l Z a0 hw [] a1 p2 p3 (((p2 + (1 : Int32)) - (3 : Int32)) + (1 : Int32)) k1 z f h0 n0 Z0 V_1 o1) hZ (hw _ (List.mem_of_getElem? (i := 19) rfl)) (hw _ (List.mem_of_getElem? (i := 8) rfl)) (by decide) (by decide)) (g := (mkF m 60 #[.val (.ref a1), .val (.int p2), .val (.int p3), .val (.int (3 : Int32)), .val (.int ((p2 + (1 : Int32)) - (3 : Int32))), .val (.int (1 : Int32))] [(.int (((p2 + (1 : Int32)) - (3 : Int32)) + (1 : Int32))), (.int p3), (.int p2), (.ref a1), (.int (f 1))])) rfl (by rw [hml]; rfl) (argsL := [(.ref a1), (.int p2), (.int p3), (.int (((p2 + (1 : Int32)) - (3 : Int32)) + (1 : Int32)))]) (rest := [(.int (f 1))]) (lenOf pd_1 rfl) rfl (by show 2 * 0 + _ ≤ _; exact Nat.le_of_eq rfl) (hb hby d4_60) (fun _ _ => ⟨rfl, r2_0, (by decide : 0 + 0 ≤ _), (by decide : 0 + 0 ≤ _)⟩)
    dsimp only [Pt.U, Pt.locs, Pt.cells, Pt.slots] at X6 l6 y6 z6 st6 hQ6
    subst l6 y6 z6
    obtain ⟨rfl, N6q, r6_0⟩ := hQ6
    have N6 := Fr.app N2 N6q
    have ch7 : Goes p e below s₁ (entryFrame m #[(.ref a1), (.int p2), (.int p3), (.int (3 : Int32))] 6) T6 (mkF m 63 #[.val (.ref a1), .val (.int p2), .val (.int p3), .val (.int (3 : Int32)), .val (.int ((p2 + (1 : Int32)) - (3 : Int32))), .val (.int (1 : Int32))] [(.int (own_sym f p2 p3 (((p2 + (1 : Int32)) - (3 : Int32)) + (1 : Int32)))), (.int (f 1))]) := fun t kt => ch3 t (by
      show Steps p.tables e below (T2.setTop (mkF m 30 #[.val (.ref a1), .val (.int p2), .val (.int p3), .val (.int (3 : Int32)), .val (.int ((p2 + (1 : Int32)) - (3 : Int32))), .val (.int (1 : Int32))] [(.int (own_sym f p2 p3 ((p2 + (1 : Int32)) - (3 : Int32)))), (.int (f 0))])) _
      refine XS.icmpNo X2.here hx rfl (hb hby d4_30) rfl (teq hc4).2 ?_
      show Steps p.tables e below (T2.setTop (mkF m 33 #[.val (.ref a1), .val (.int p2), .val (.int p3), .val (.int (3 : Int32)), .val (.int ((p2 + (1 : Int32)) - (3 : Int32))), .val (.int (1 : Int32))] [])) _
      refine XS.iconst X2.here hx rfl (hb hby d4_33) ?_
      show Steps p.tables e below (T2.setTop (mkF m 34 #[.val (.ref a1), .val (.int p2), .val (.int p3), .val (.int (3 : Int32)), .val (.int ((p2 + (1 : Int32)) - (3 : Int32))), .val (.int (1 : Int32))] [(.int (1 : Int32))])) _
      refine XS.goto X2.here hx rfl (pc0 := 34) (pc' := 38) rfl (hb hby d4_34) (by decide) (by decide) ?_
      show Steps p.tables e below (T2.setTop (mkF m 38 #[.val (.ref a1), .val (.int p2), .val (.int p3), .val (.int (3 : Int32)), .val (.int ((p2 + (1 : Int32)) - (3 : Int32))), .val (.int (1 : Int32))] [(.int (1 : Int32))])) _
      refine XS.istore X2.here hx rfl (hb hby d4_38) rfl (l' := #[.val (.ref a1), .val (.int p2), .val (.int p3), .val (.int (3 : Int32)), .val (.int ((p2 + (1 : Int32)) - (3 : Int32))), .val (.int (1 : Int32))]) rfl ?_
      show Steps p.tables e below (T2.setTop (mkF m 40 #[.val (.ref a1), .val (.int p2), .val (.int p3), .val (.int (3 : Int32)), .val (.int ((p2 + (1 : Int32)) - (3 : Int32))), .val (.int (1 : Int32))] [])) _
      refine XS.iloadN X2.here hx rfl (hb hby d4_40) rfl ?_
      show Steps p.tables e below (T2.setTop (mkF m 41 #[.val (.ref a1), .val (.int p2), .val (.int p3), .val (.int (3 : Int32)), .val (.int ((p2 + (1 : Int32)) - (3 : Int32))), .val (.int (1 : Int32))] [(.int (3 : Int32))])) _
      refine XS.iconst X2.here hx rfl (hb hby d4_41) ?_
      show Steps p.tables e below (T2.setTop (mkF m 42 #[.val (.ref a1), .val (.int p2), .val (.int p3), .val (.int (3 : Int32)), .val (.int ((p2 + (1 : Int32)) - (3 : Int32))), .val (.int (1 : Int32))] [(.int (1 : Int32)), (.int (3 : Int32))])) _
      refine XS.icmpNo X2.here hx rfl (hb hby d4_42) rfl (tlt (by decide : ((1 : Int32) < (3 : Int32)))).2.2.2 ?_
      show Steps p.tables e below (T2.setTop (mkF m 45 #[.val (.ref a1), .val (.int p2), .val (.int p3), .val (.int (3 : Int32)), .val (.int ((p2 + (1 : Int32)) - (3 : Int32))), .val (.int (1 : Int32))] [])) _
      refine XS.iload X2.here hx rfl (hb hby d4_45) rfl ?_
      show Steps p.tables e below (T2.setTop (mkF m 47 #[.val (.ref a1), .val (.int p2), .val (.int p3), .val (.int (3 : Int32)), .val (.int ((p2 + (1 : Int32)) - (3 : Int32))), .val (.int (1 : Int32))] [(.int (1 : Int32))])) _
      refine XS.ifNo X2.here hx rfl (hb hby d4_47) rfl ((if0 _ _).trans (feq (by decide : ¬ ((1 : Int32) = (0 : Int32)))).1) ?_
      show Steps p.tables e below (T2.setTop (mkF m 50 #[.val (.ref a1), .val (.int p2), .val (.int p3), .val (.int (3 : Int32)), .val (.int ((p2 + (1 : Int32)) - (3 : Int32))), .val (.int (1 : Int32))] [])) _
      refine XS.aloadN X2.here hx rfl (hb hby d4_50) rfl rfl ?_
      show Steps p.tables e below (T2.setTop (mkF m 51 #[.val (.ref a1), .val (.int p2), .val (.int p3), .val (.int (3 : Int32)), .val (.int ((p2 + (1 : Int32)) - (3 : Int32))), .val (.int (1 : Int32))] [(.ref a1)])) _
      refine XS.iconst X2.here hx rfl (hb hby d4_51) ?_
      show Steps p.tables e below (T2.setTop (mkF m 52 #[.val (.ref a1), .val (.int p2), .val (.int p3), .val (.int (3 : Int32)), .val (.int ((p2 + (1 : Int32)) - (3 : Int32))), .val (.int (1 : Int32))] [(.int (1 : Int32)), (.ref a1)])) _
      refine X2.iaload hx (j := (1 : Int32)) (v := (.int (f 1))) (by rw [r2_0]; exact Ar5.1) (State.isArrayOf_alike hZ.alike Ar5.2.1) Ar5.2.2 hin5 hat5 (g := (mkF m 52 #[.val (.ref a1), .val (.int p2), .val (.int p3), .val (.int (3 : Int32)), .val (.int ((p2 + (1 : Int32)) - (3 : Int32))), .val (.int (1 : Int32))] [(.int (1 : Int32)), (.ref a1)])) rfl rfl (hb hby d4_52) _ ?_
      show Steps p.tables e below (T2.setTop (mkF m 53 #[.val (.ref a1), .val (.int p2), .val (.int p3), .val (.int (3 : Int32)), .val (.int ((p2 + (1 : Int32)) - (3 : Int32))), .val (.int (1 : Int32))] [(.int (f 1))])) _
      refine XS.aloadN X2.here hx rfl (hb hby d4_53) rfl rfl ?_
      show Steps p.tables e below (T2.setTop (mkF m 54 #[.val (.ref a1), .val (.int p2), .val (.int p3), .val (.int (3 : Int32)), .val (.int ((p2 + (1 : Int32)) - (3 : Int32))), .val (.int (1 : Int32))] [(.ref a1), (.int (f 1))])) _
      refine XS.iloadN X2.here hx rfl (hb hby d4_54) rfl ?_
      show Steps p.tables e below (T2.setTop (mkF m 55 #[.val (.ref a1), .val (.int p2), .val (.int p3), .val (.int (3 : Int32)), .val (.int ((p2 + (1 : Int32)) - (3 : Int32))), .val (.int (1 : Int32))] [(.int p2), (.ref a1), (.int (f 1))])) _
      refine XS.iloadN X2.here hx rfl (hb hby d4_55) rfl ?_
      show Steps p.tables e below (T2.setTop (mkF m 56 #[.val (.ref a1), .val (.int p2), .val (.int p3), .val (.int (3 : Int32)), .val (.int ((p2 + (1 : Int32)) - (3 : Int32))), .val (.int (1 : Int32))] [(.int p3), (.int p2), (.ref a1), (.int (f 1))])) _
      refine XS.iload X2.here hx rfl (hb hby d4_56) rfl ?_
      show Steps p.tables e below (T2.setTop (mkF m 58 #[.val (.ref a1), .val (.int p2), .val (.int p3), .val (.int (3 : Int32)), .val (.int ((p2 + (1 : Int32)) - (3 : Int32))), .val (.int (1 : Int32))] [(.int ((p2 + (1 : Int32)) - (3 : Int32))), (.int p3), (.int p2), (.ref a1), (.int (f 1))])) _
      refine XS.iconst X2.here hx rfl (hb hby d4_58) ?_
      show Steps p.tables e below (T2.setTop (mkF m 59 #[.val (.ref a1), .val (.int p2), .val (.int p3), .val (.int (3 : Int32)), .val (.int ((p2 + (1 : Int32)) - (3 : Int32))), .val (.int (1 : Int32))] [(.int (1 : Int32)), (.int ((p2 + (1 : Int32)) - (3 : Int32))), (.int p3), (.int p2), (.ref a1), (.int (f 1))])) _
      refine XS.iadd X2.here hx rfl (hb hby d4_59) rfl ?_
      show Steps p.tables e below (T2.setTop (mkF m 60 #[.val (.ref a1), .val (.int p2), .val (.int p3), .val (.int (3 : Int32)), .val (.int ((p2 + (1 : Int32)) - (3 : Int32))), .val (.int (1 : Int32))] [(.int (((p2 + (1 : Int32)) - (3 : Int32)) + (1 : Int32))), (.int p3), (.int p2), (.ref a1), (.int (f 1))])) _
      refine st6 _ ?_
      show Steps p.tables e below (T6.setTop (mkF m 63 #[.val (.ref a1), .val (.int p2), .val (.int p3), .val (.int (3 : Int32)), .val (.int ((p2 + (1 : Int32)) - (3 : Int32))), .val (.int (1 : Int32))] [(.int (own_sym f p2 p3 (((p2 + (1 : Int32)) - (3 : Int32)) + (1 : Int32)))), (.int (f 1))])) _
      exact kt)
    by_cases hc8 : (f 1) = (own_sym f p2 p3 (((p2 + (1 : Int32)) - (3 : Int32)) + (1 : Int32)))
    · obtain ⟨cl9, Ar9, -, S9, M9, H9, G9⟩ := id V_1
      have hin9 : ¬ ((2 : Int32) < 0 ∨ cl9.slots.size ≤ ((2 : Int32)).toNatClampNeg) := inb_of S9 ⟨by decide, hz _ (by decide) (by decide)⟩
      have hat9 : cl9.slots[((2 : Int32)).toNatClampNeg]? = some (.int (f 2)) := Has.at H9 hin9 rfl
      obtain ⟨_, _, ⟨T10, L10, k10, n10⟩, -, X10, ⟨Lc10, hQ10, l10, y10, z10⟩, st10⟩ := Jvm.LawKit.callS X6 hx (y := (⟨"com/example/humble_match/humblematch/PartialMatchTableAdvancePinLaw", "sym", "([IIII)I"⟩ : MethodName)) hown (mvT hZ (hw _ (List.mem_of_getElem? (i := 17) rfl))) (mvT hZ (hw _ (List.mem_of_getElem? (i := 18) rfl))) (mvT hZ (hw _ (List.mem_of_getElem? (i := 8) rfl))) (mvT hZ (hw _ (List.mem_of_getElem? (i := 19) rfl))) (by decide) (backOf (W := 1) (rm5 l Z a0 hw [] a1 p2 p3 (((p2 + (1 : Int32)) - (3 : Int32)) + (2 : Int32)) k1 z f h0 n0 Z0 V_1 o2) hZ (hw _ (List.mem_of_getElem? (i := 19) rfl)) (hw _ (List.mem_of_getElem? (i := 8) rfl)) (by decide) (by decide)) (g := (mkF m 93 #[.val (.ref a1), .val (.int p2), .val (.int p3), .val (.int (3 : Int32)), .val (.int ((p2 + (1 : Int32)) - (3 : Int32))), .val (.int (1 : Int32))] [(.int (((p2 + (1 : Int32)) - (3 : Int32)) + (2 : Int32))), (.int p3), (.int p2), (.ref a1), (.int (f 2))])) rfl (by rw [hml]; rfl) (argsL := [(.ref a1), (.int p2), (.int p3), (.int (((p2 + (1 : Int32)) - (3 : Int32)) + (2 : Int32)))]) (rest := [(.int (f 2))]) (lenOf pd_1 rfl) rfl (by show 2 * 0 + _ ≤ _; exact Nat.le_of_eq rfl) (hb hby d4_93) (fun _ _ => ⟨rfl, r6_0, (by decide : 0 + 0 ≤ _), (by decide : 0 + 0 ≤ _)⟩)
      dsimp only [Pt.U, Pt.locs, Pt.cells, Pt.slots] at X10 l10 y10 z10 st10 hQ10
      subst l10 y10 z10
      obtain ⟨rfl, N10q, r10_0⟩ := hQ10
      have N10 := Fr.app N6 N10q
      have ch11 : Goes p e below s₁ (entryFrame m #[(.ref a1), (.int p2), (.int p3), (.int (3 : Int32))] 6) T10 (mkF m 96 #[.val (.ref a1), .val (.int p2), .val (.int p3), .val (.int (3 : Int32)), .val (.int ((p2 + (1 : Int32)) - (3 : Int32))), .val (.int (1 : Int32))] [(.int (own_sym f p2 p3 (((p2 + (1 : Int32)) - (3 : Int32)) + (2 : Int32)))), (.int (f 2))]) := fun t kt => ch7 t (by
        show Steps p.tables e below (T6.setTop (mkF m 63 #[.val (.ref a1), .val (.int p2), .val (.int p3), .val (.int (3 : Int32)), .val (.int ((p2 + (1 : Int32)) - (3 : Int32))), .val (.int (1 : Int32))] [(.int (own_sym f p2 p3 (((p2 + (1 : Int32)) - (3 : Int32)) + (1 : Int32)))), (.int (f 1))])) _
        refine XS.icmpNo X6.here hx rfl (hb hby d4_63) rfl (teq hc8).2 ?_
        show Steps p.tables e below (T6.setTop (mkF m 66 #[.val (.ref a1), .val (.int p2), .val (.int p3), .val (.int (3 : Int32)), .val (.int ((p2 + (1 : Int32)) - (3 : Int32))), .val (.int (1 : Int32))] [])) _
        refine XS.iconst X6.here hx rfl (hb hby d4_66) ?_
        show Steps p.tables e below (T6.setTop (mkF m 67 #[.val (.ref a1), .val (.int p2), .val (.int p3), .val (.int (3 : Int32)), .val (.int ((p2 + (1 : Int32)) - (3 : Int32))), .val (.int (1 : Int32))] [(.int (1 : Int32))])) _
        refine XS.goto X6.here hx rfl (pc0 := 67) (pc' := 71) rfl (hb hby d4_67) (by decide) (by decide) ?_
        show Steps p.tables e below (T6.setTop (mkF m 71 #[.val (.ref a1), .val (.int p2), .val (.int p3), .val (.int (3 : Int32)), .val (.int ((p2 + (1 : Int32)) - (3 : Int32))), .val (.int (1 : Int32))] [(.int (1 : Int32))])) _
        refine XS.istore X6.here hx rfl (hb hby d4_71) rfl (l' := #[.val (.ref a1), .val (.int p2), .val (.int p3), .val (.int (3 : Int32)), .val (.int ((p2 + (1 : Int32)) - (3 : Int32))), .val (.int (1 : Int32))]) rfl ?_
        show Steps p.tables e below (T6.setTop (mkF m 73 #[.val (.ref a1), .val (.int p2), .val (.int p3), .val (.int (3 : Int32)), .val (.int ((p2 + (1 : Int32)) - (3 : Int32))), .val (.int (1 : Int32))] [])) _
        refine XS.iloadN X6.here hx rfl (hb hby d4_73) rfl ?_
        show Steps p.tables e below (T6.setTop (mkF m 74 #[.val (.ref a1), .val (.int p2), .val (.int p3), .val (.int (3 : Int32)), .val (.int ((p2 + (1 : Int32)) - (3 : Int32))), .val (.int (1 : Int32))] [(.int (3 : Int32))])) _
        refine XS.iconst X6.here hx rfl (hb hby d4_74) ?_
        show Steps p.tables e below (T6.setTop (mkF m 75 #[.val (.ref a1), .val (.int p2), .val (.int p3), .val (.int (3 : Int32)), .val (.int ((p2 + (1 : Int32)) - (3 : Int32))), .val (.int (1 : Int32))] [(.int (2 : Int32)), (.int (3 : Int32))])) _
        refine XS.icmpNo X6.here hx rfl (hb hby d4_75) rfl (tlt (by decide : ((2 : Int32) < (3 : Int32)))).2.2.2 ?_
        show Steps p.tables e below (T6.setTop (mkF m 78 #[.val (.ref a1), .val (.int p2), .val (.int p3), .val (.int (3 : Int32)), .val (.int ((p2 + (1 : Int32)) - (3 : Int32))), .val (.int (1 : Int32))] [])) _
        refine XS.iload X6.here hx rfl (hb hby d4_78) rfl ?_
        show Steps p.tables e below (T6.setTop (mkF m 80 #[.val (.ref a1), .val (.int p2), .val (.int p3), .val (.int (3 : Int32)), .val (.int ((p2 + (1 : Int32)) - (3 : Int32))), .val (.int (1 : Int32))] [(.int (1 : Int32))])) _
        refine XS.ifNo X6.here hx rfl (hb hby d4_80) rfl ((if0 _ _).trans (feq (by decide : ¬ ((1 : Int32) = (0 : Int32)))).1) ?_
        show Steps p.tables e below (T6.setTop (mkF m 83 #[.val (.ref a1), .val (.int p2), .val (.int p3), .val (.int (3 : Int32)), .val (.int ((p2 + (1 : Int32)) - (3 : Int32))), .val (.int (1 : Int32))] [])) _
        refine XS.aloadN X6.here hx rfl (hb hby d4_83) rfl rfl ?_
        show Steps p.tables e below (T6.setTop (mkF m 84 #[.val (.ref a1), .val (.int p2), .val (.int p3), .val (.int (3 : Int32)), .val (.int ((p2 + (1 : Int32)) - (3 : Int32))), .val (.int (1 : Int32))] [(.ref a1)])) _
        refine XS.iconst X6.here hx rfl (hb hby d4_84) ?_
        show Steps p.tables e below (T6.setTop (mkF m 85 #[.val (.ref a1), .val (.int p2), .val (.int p3), .val (.int (3 : Int32)), .val (.int ((p2 + (1 : Int32)) - (3 : Int32))), .val (.int (1 : Int32))] [(.int (2 : Int32)), (.ref a1)])) _
        refine X6.iaload hx (j := (2 : Int32)) (v := (.int (f 2))) (by rw [r6_0]; exact Ar9.1) (State.isArrayOf_alike hZ.alike Ar9.2.1) Ar9.2.2 hin9 hat9 (g := (mkF m 85 #[.val (.ref a1), .val (.int p2), .val (.int p3), .val (.int (3 : Int32)), .val (.int ((p2 + (1 : Int32)) - (3 : Int32))), .val (.int (1 : Int32))] [(.int (2 : Int32)), (.ref a1)])) rfl rfl (hb hby d4_85) _ ?_
        show Steps p.tables e below (T6.setTop (mkF m 86 #[.val (.ref a1), .val (.int p2), .val (.int p3), .val (.int (3 : Int32)), .val (.int ((p2 + (1 : Int32)) - (3 : Int32))), .val (.int (1 : Int32))] [(.int (f 2))])) _
        refine XS.aloadN X6.here hx rfl (hb hby d4_86) rfl rfl ?_
        show Steps p.tables e below (T6.setTop (mkF m 87 #[.val (.ref a1), .val (.int p2), .val (.int p3), .val (.int (3 : Int32)), .val (.int ((p2 + (1 : Int32)) - (3 : Int32))), .val (.int (1 : Int32))] [(.ref a1), (.int (f 2))])) _
        refine XS.iloadN X6.here hx rfl (hb hby d4_87) rfl ?_
        show Steps p.tables e below (T6.setTop (mkF m 88 #[.val (.ref a1), .val (.int p2), .val (.int p3), .val (.int (3 : Int32)), .val (.int ((p2 + (1 : Int32)) - (3 : Int32))), .val (.int (1 : Int32))] [(.int p2), (.ref a1), (.int (f 2))])) _
        refine XS.iloadN X6.here hx rfl (hb hby d4_88) rfl ?_
        show Steps p.tables e below (T6.setTop (mkF m 89 #[.val (.ref a1), .val (.int p2), .val (.int p3), .val (.int (3 : Int32)), .val (.int ((p2 + (1 : Int32)) - (3 : Int32))), .val (.int (1 : Int32))] [(.int p3), (.int p2), (.ref a1), (.int (f 2))])) _
        refine XS.iload X6.here hx rfl (hb hby d4_89) rfl ?_
        show Steps p.tables e below (T6.setTop (mkF m 91 #[.val (.ref a1), .val (.int p2), .val (.int p3), .val (.int (3 : Int32)), .val (.int ((p2 + (1 : Int32)) - (3 : Int32))), .val (.int (1 : Int32))] [(.int ((p2 + (1 : Int32)) - (3 : Int32))), (.int p3), (.int p2), (.ref a1), (.int (f 2))])) _
        refine XS.iconst X6.here hx rfl (hb hby d4_91) ?_
        show Steps p.tables e below (T6.setTop (mkF m 92 #[.val (.ref a1), .val (.int p2), .val (.int p3), .val (.int (3 : Int32)), .val (.int ((p2 + (1 : Int32)) - (3 : Int32))), .val (.int (1 : Int32))] [(.int (2 : Int32)), (.int ((p2 + (1 : Int32)) - (3 : Int32))), (.int p3), (.int p2), (.ref a1), (.int (f 2))])) _
        refine XS.iadd X6.here hx rfl (hb hby d4_92) rfl ?_
        show Steps p.tables e below (T6.setTop (mkF m 93 #[.val (.ref a1), .val (.int p2), .val (.int p3), .val (.int (3 : Int32)), .val (.int ((p2 + (1 : Int32)) - (3 : Int32))), .val (.int (1 : Int32))] [(.int (((p2 + (1 : Int32)) - (3 : Int32)) + (2 : Int32))), (.int p3), (.int p2), (.ref a1), (.int (f 2))])) _
        refine st10 _ ?_
        show Steps p.tables e below (T10.setTop (mkF m 96 #[.val (.ref a1), .val (.int p2), .val (.int p3), .val (.int (3 : Int32)), .val (.int ((p2 + (1 : Int32)) - (3 : Int32))), .val (.int (1 : Int32))] [(.int (own_sym f p2 p3 (((p2 + (1 : Int32)) - (3 : Int32)) + (2 : Int32)))), (.int (f 2))])) _
        exact kt)
      by_cases hc12 : (f 2) = (own_sym f p2 p3 (((p2 + (1 : Int32)) - (3 : Int32)) + (2 : Int32)))
      · have hv : (1 : Int32) = own_e3 f p2 p3 := by simp only [own_e3, if_pos hc4, if_pos hc8, if_pos hc12]
        obtain ⟨fs, hr, hrun, hended, hW, hsame⟩ := X10.leave (v := some (.int (1 : Int32))) (fun h => by rw [Bd.returns] at h; cases h)
        refine ⟨_, _, ch11 _ ?_, hrun, hended, _, _, rfl, ?_, ⟨_, rfl⟩, hW, hsame.mono (by decide) (by decide)⟩
        · show Steps p.tables e below (T10.setTop (mkF m 96 #[.val (.ref a1), .val (.int p2), .val (.int p3), .val (.int (3 : Int32)), .val (.int ((p2 + (1 : Int32)) - (3 : Int32))), .val (.int (1 : Int32))] [(.int (own_sym f p2 p3 (((p2 + (1 : Int32)) - (3 : Int32)) + (2 : Int32)))), (.int (f 2))])) _
          refine XS.icmpNo X10.here hx rfl (hb hby d4_96) rfl (teq hc12).2 ?_
          show Steps p.tables e below (T10.setTop (mkF m 99 #[.val (.ref a1), .val (.int p2), .val (.int p3), .val (.int (3 : Int32)), .val (.int ((p2 + (1 : Int32)) - (3 : Int32))), .val (.int (1 : Int32))] [])) _
          refine XS.iconst X10.here hx rfl (hb hby d4_99) ?_
          show Steps p.tables e below (T10.setTop (mkF m 100 #[.val (.ref a1), .val (.int p2), .val (.int p3), .val (.int (3 : Int32)), .val (.int ((p2 + (1 : Int32)) - (3 : Int32))), .val (.int (1 : Int32))] [(.int (1 : Int32))])) _
          refine XS.goto X10.here hx rfl (pc0 := 100) (pc' := 104) rfl (hb hby d4_100) (by decide) (by decide) ?_
          show Steps p.tables e below (T10.setTop (mkF m 104 #[.val (.ref a1), .val (.int p2), .val (.int p3), .val (.int (3 : Int32)), .val (.int ((p2 + (1 : Int32)) - (3 : Int32))), .val (.int (1 : Int32))] [(.int (1 : Int32))])) _
          refine XS.istore X10.here hx rfl (hb hby d4_104) rfl (l' := #[.val (.ref a1), .val (.int p2), .val (.int p3), .val (.int (3 : Int32)), .val (.int ((p2 + (1 : Int32)) - (3 : Int32))), .val (.int (1 : Int32))]) rfl ?_
          show Steps p.tables e below (T10.setTop (mkF m 106 #[.val (.ref a1), .val (.int p2), .val (.int p3), .val (.int (3 : Int32)), .val (.int ((p2 + (1 : Int32)) - (3 : Int32))), .val (.int (1 : Int32))] [])) _
          refine XS.iloadN X10.here hx rfl (hb hby d4_106) rfl ?_
          show Steps p.tables e below (T10.setTop (mkF m 107 #[.val (.ref a1), .val (.int p2), .val (.int p3), .val (.int (3 : Int32)), .val (.int ((p2 + (1 : Int32)) - (3 : Int32))), .val (.int (1 : Int32))] [(.int (3 : Int32))])) _
          refine XS.iconst X10.here hx rfl (hb hby d4_107) ?_
          show Steps p.tables e below (T10.setTop (mkF m 108 #[.val (.ref a1), .val (.int p2), .val (.int p3), .val (.int (3 : Int32)), .val (.int ((p2 + (1 : Int32)) - (3 : Int32))), .val (.int (1 : Int32))] [(.int (3 : Int32)), (.int (3 : Int32))])) _
          refine XS.icmpYes X10.here hx rfl (pc0 := 108) (pc' := 139) rfl (hb hby d4_108) rfl (flt (by decide : ¬ ((3 : Int32) < (3 : Int32)))).2.2.2 (by decide) (by decide) ?_
          show Steps p.tables e below (T10.setTop (mkF m 139 #[.val (.ref a1), .val (.int p2), .val (.int p3), .val (.int (3 : Int32)), .val (.int ((p2 + (1 : Int32)) - (3 : Int32))), .val (.int (1 : Int32))] [])) _
          refine XS.iload X10.here hx rfl (hb hby d4_139) rfl ?_
          show Steps p.tables e below (T10.setTop (mkF m 141 #[.val (.ref a1), .val (.int p2), .val (.int p3), .val (.int (3 : Int32)), .val (.int ((p2 + (1 : Int32)) - (3 : Int32))), .val (.int (1 : Int32))] [(.int (1 : Int32))])) _
          exact retN X10 hx (t := .boolean) Bd.returns (by simp) (hb hby d4_141) hr
        · show QE3 Z a1 p2 p3 k1 z f h0 n0 _ T10.heap _
          rw [r10_0]
          exact ⟨congrArg (fun z => some (Value.int z)) hv, N10, rfl⟩
      · have hv : (0 : Int32) = own_e3 f p2 p3 := by simp only [own_e3, if_pos hc4, if_pos hc8, if_neg hc12]
        obtain ⟨fs, hr, hrun, hended, hW, hsame⟩ := X10.leave (v := some (.int (0 : Int32))) (fun h => by rw [Bd.returns] at h; cases h)
        refine ⟨_, _, ch11 _ ?_, hrun, hended, _, _, rfl, ?_, ⟨_, rfl⟩, hW, hsame.mono (by decide) (by decide)⟩
        · show Steps p.tables e below (T10.setTop (mkF m 96 #[.val (.ref a1), .val (.int p2), .val (.int p3), .val (.int (3 : Int32)), .val (.int ((p2 + (1 : Int32)) - (3 : Int32))), .val (.int (1 : Int32))] [(.int (own_sym f p2 p3 (((p2 + (1 : Int32)) - (3 : Int32)) + (2 : Int32)))), (.int (f 2))])) _
          refine XS.icmpYes X10.here hx rfl (pc0 := 96) (pc' := 103) rfl (hb hby d4_96) rfl (feq hc12).2 (by decide) (by decide) ?_
          show Steps p.tables e below (T10.setTop (mkF m 103 #[.val (.ref a1), .val (.int p2), .val (.int p3), .val (.int (3 : Int32)), .val (.int ((p2 + (1 : Int32)) - (3 : Int32))), .val (.int (1 : Int32))] [])) _
          refine XS.iconst X10.here hx rfl (hb hby d4_103) ?_
          show Steps p.tables e below (T10.setTop (mkF m 104 #[.val (.ref a1), .val (.int p2), .val (.int p3), .val (.int (3 : Int32)), .val (.int ((p2 + (1 : Int32)) - (3 : Int32))), .val (.int (1 : Int32))] [(.int (0 : Int32))])) _
          refine XS.istore X10.here hx rfl (hb hby d4_104) rfl (l' := #[.val (.ref a1), .val (.int p2), .val (.int p3), .val (.int (3 : Int32)), .val (.int ((p2 + (1 : Int32)) - (3 : Int32))), .val (.int (0 : Int32))]) rfl ?_
          show Steps p.tables e below (T10.setTop (mkF m 106 #[.val (.ref a1), .val (.int p2), .val (.int p3), .val (.int (3 : Int32)), .val (.int ((p2 + (1 : Int32)) - (3 : Int32))), .val (.int (0 : Int32))] [])) _
          refine XS.iloadN X10.here hx rfl (hb hby d4_106) rfl ?_
          show Steps p.tables e below (T10.setTop (mkF m 107 #[.val (.ref a1), .val (.int p2), .val (.int p3), .val (.int (3 : Int32)), .val (.int ((p2 + (1 : Int32)) - (3 : Int32))), .val (.int (0 : Int32))] [(.int (3 : Int32))])) _
          refine XS.iconst X10.here hx rfl (hb hby d4_107) ?_
          show Steps p.tables e below (T10.setTop (mkF m 108 #[.val (.ref a1), .val (.int p2), .val (.int p3), .val (.int (3 : Int32)), .val (.int ((p2 + (1 : Int32)) - (3 : Int32))), .val (.int (0 : Int32))] [(.int (3 : Int32)), (.int (3 : Int32))])) _
          refine XS.icmpYes X10.here hx rfl (pc0 := 108) (pc' := 139) rfl (hb hby d4_108) rfl (flt (by decide : ¬ ((3 : Int32) < (3 : Int32)))).2.2.2 (by decide) (by decide) ?_
          show Steps p.tables e below (T10.setTop (mkF m 139 #[.val (.ref a1), .val (.int p2), .val (.int p3), .val (.int (3 : Int32)), .val (.int ((p2 + (1 : Int32)) - (3 : Int32))), .val (.int (0 : Int32))] [])) _
          refine XS.iload X10.here hx rfl (hb hby d4_139) rfl ?_
          show Steps p.tables e below (T10.setTop (mkF m 141 #[.val (.ref a1), .val (.int p2), .val (.int p3), .val (.int (3 : Int32)), .val (.int ((p2 + (1 : Int32)) - (3 : Int32))), .val (.int (0 : Int32))] [(.int (0 : Int32))])) _
          exact retN X10 hx (t := .boolean) Bd.returns (by simp) (hb hby d4_141) hr
        · show QE3 Z a1 p2 p3 k1 z f h0 n0 _ T10.heap _
          rw [r10_0]
          exact ⟨congrArg (fun z => some (Value.int z)) hv, N10, rfl⟩
    · have hv : (0 : Int32) = own_e3 f p2 p3 := by simp only [own_e3, if_pos hc4, if_neg hc8]
      obtain ⟨fs, hr, hrun, hended, hW, hsame⟩ := X6.leave (v := some (.int (0 : Int32))) (fun h => by rw [Bd.returns] at h; cases h)
      refine ⟨_, _, ch7 _ ?_, hrun, hended, _, _, rfl, ?_, ⟨_, rfl⟩, hW, hsame.mono (by decide) (by decide)⟩
      · show Steps p.tables e below (T6.setTop (mkF m 63 #[.val (.ref a1), .val (.int p2), .val (.int p3), .val (.int (3 : Int32)), .val (.int ((p2 + (1 : Int32)) - (3 : Int32))), .val (.int (1 : Int32))] [(.int (own_sym f p2 p3 (((p2 + (1 : Int32)) - (3 : Int32)) + (1 : Int32)))), (.int (f 1))])) _
        refine XS.icmpYes X6.here hx rfl (pc0 := 63) (pc' := 70) rfl (hb hby d4_63) rfl (feq hc8).2 (by decide) (by decide) ?_
        show Steps p.tables e below (T6.setTop (mkF m 70 #[.val (.ref a1), .val (.int p2), .val (.int p3), .val (.int (3 : Int32)), .val (.int ((p2 + (1 : Int32)) - (3 : Int32))), .val (.int (1 : Int32))] [])) _
        refine XS.iconst X6.here hx rfl (hb hby d4_70) ?_
        show Steps p.tables e below (T6.setTop (mkF m 71 #[.val (.ref a1), .val (.int p2), .val (.int p3), .val (.int (3 : Int32)), .val (.int ((p2 + (1 : Int32)) - (3 : Int32))), .val (.int (1 : Int32))] [(.int (0 : Int32))])) _
        refine XS.istore X6.here hx rfl (hb hby d4_71) rfl (l' := #[.val (.ref a1), .val (.int p2), .val (.int p3), .val (.int (3 : Int32)), .val (.int ((p2 + (1 : Int32)) - (3 : Int32))), .val (.int (0 : Int32))]) rfl ?_
        show Steps p.tables e below (T6.setTop (mkF m 73 #[.val (.ref a1), .val (.int p2), .val (.int p3), .val (.int (3 : Int32)), .val (.int ((p2 + (1 : Int32)) - (3 : Int32))), .val (.int (0 : Int32))] [])) _
        refine XS.iloadN X6.here hx rfl (hb hby d4_73) rfl ?_
        show Steps p.tables e below (T6.setTop (mkF m 74 #[.val (.ref a1), .val (.int p2), .val (.int p3), .val (.int (3 : Int32)), .val (.int ((p2 + (1 : Int32)) - (3 : Int32))), .val (.int (0 : Int32))] [(.int (3 : Int32))])) _
        refine XS.iconst X6.here hx rfl (hb hby d4_74) ?_
        show Steps p.tables e below (T6.setTop (mkF m 75 #[.val (.ref a1), .val (.int p2), .val (.int p3), .val (.int (3 : Int32)), .val (.int ((p2 + (1 : Int32)) - (3 : Int32))), .val (.int (0 : Int32))] [(.int (2 : Int32)), (.int (3 : Int32))])) _
        refine XS.icmpNo X6.here hx rfl (hb hby d4_75) rfl (tlt (by decide : ((2 : Int32) < (3 : Int32)))).2.2.2 ?_
        show Steps p.tables e below (T6.setTop (mkF m 78 #[.val (.ref a1), .val (.int p2), .val (.int p3), .val (.int (3 : Int32)), .val (.int ((p2 + (1 : Int32)) - (3 : Int32))), .val (.int (0 : Int32))] [])) _
        refine XS.iload X6.here hx rfl (hb hby d4_78) rfl ?_
        show Steps p.tables e below (T6.setTop (mkF m 80 #[.val (.ref a1), .val (.int p2), .val (.int p3), .val (.int (3 : Int32)), .val (.int ((p2 + (1 : Int32)) - (3 : Int32))), .val (.int (0 : Int32))] [(.int (0 : Int32))])) _
        refine XS.ifYes X6.here hx rfl (pc0 := 80) (pc' := 103) rfl (hb hby d4_80) rfl ((if0 _ _).trans (teq (by decide : ((0 : Int32) = (0 : Int32)))).1) (by decide) (by decide) ?_
        show Steps p.tables e below (T6.setTop (mkF m 103 #[.val (.ref a1), .val (.int p2), .val (.int p3), .val (.int (3 : Int32)), .val (.int ((p2 + (1 : Int32)) - (3 : Int32))), .val (.int (0 : Int32))] [])) _
        refine XS.iconst X6.here hx rfl (hb hby d4_103) ?_
        show Steps p.tables e below (T6.setTop (mkF m 104 #[.val (.ref a1), .val (.int p2), .val (.int p3), .val (.int (3 : Int32)), .val (.int ((p2 + (1 : Int32)) - (3 : Int32))), .val (.int (0 : Int32))] [(.int (0 : Int32))])) _
        refine XS.istore X6.here hx rfl (hb hby d4_104) rfl (l' := #[.val (.ref a1), .val (.int p2), .val (.int p3), .val (.int (3 : Int32)), .val (.int ((p2 + (1 : Int32)) - (3 : Int32))), .val (.int (0 : Int32))]) rfl ?_
        show Steps p.tables e below (T6.setTop (mkF m 106 #[.val (.ref a1), .val (.int p2), .val (.int p3), .val (.int (3 : Int32)), .val (.int ((p2 + (1 : Int32)) - (3 : Int32))), .val (.int (0 : Int32))] [])) _
        refine XS.iloadN X6.here hx rfl (hb hby d4_106) rfl ?_
        show Steps p.tables e below (T6.setTop (mkF m 107 #[.val (.ref a1), .val (.int p2), .val (.int p3), .val (.int (3 : Int32)), .val (.int ((p2 + (1 : Int32)) - (3 : Int32))), .val (.int (0 : Int32))] [(.int (3 : Int32))])) _
        refine XS.iconst X6.here hx rfl (hb hby d4_107) ?_
        show Steps p.tables e below (T6.setTop (mkF m 108 #[.val (.ref a1), .val (.int p2), .val (.int p3), .val (.int (3 : Int32)), .val (.int ((p2 + (1 : Int32)) - (3 : Int32))), .val (.int (0 : Int32))] [(.int (3 : Int32)), (.int (3 : Int32))])) _
        refine XS.icmpYes X6.here hx rfl (pc0 := 108) (pc' := 139) rfl (hb hby d4_108) rfl (flt (by decide : ¬ ((3 : Int32) < (3 : Int32)))).2.2.2 (by decide) (by decide) ?_
        show Steps p.tables e below (T6.setTop (mkF m 139 #[.val (.ref a1), .val (.int p2), .val (.int p3), .val (.int (3 : Int32)), .val (.int ((p2 + (1 : Int32)) - (3 : Int32))), .val (.int (0 : Int32))] [])) _
        refine XS.iload X6.here hx rfl (hb hby d4_139) rfl ?_
        show Steps p.tables e below (T6.setTop (mkF m 141 #[.val (.ref a1), .val (.int p2), .val (.int p3), .val (.int (3 : Int32)), .val (.int ((p2 + (1 : Int32)) - (3 : Int32))), .val (.int (0 : Int32))] [(.int (0 : Int32))])) _
        exact retN X6 hx (t := .boolean) Bd.returns (by simp) (hb hby d4_141) hr
      · show QE3 Z a1 p2 p3 k1 z f h0 n0 _ T6.heap _
        rw [r6_0]
        exact ⟨congrArg (fun z => some (Value.int z)) hv, N6, rfl⟩
  · have hv : (0 : Int32) = own_e3 f p2 p3 := by simp only [own_e3, if_neg hc4]
    obtain ⟨fs, hr, hrun, hended, hW, hsame⟩ := X2.leave (v := some (.int (0 : Int32))) (fun h => by rw [Bd.returns] at h; cases h)
    refine ⟨_, _, ch3 _ ?_, hrun, hended, _, _, rfl, ?_, ⟨_, rfl⟩, hW, hsame.mono (by decide) (by decide)⟩
    · show Steps p.tables e below (T2.setTop (mkF m 30 #[.val (.ref a1), .val (.int p2), .val (.int p3), .val (.int (3 : Int32)), .val (.int ((p2 + (1 : Int32)) - (3 : Int32))), .val (.int (1 : Int32))] [(.int (own_sym f p2 p3 ((p2 + (1 : Int32)) - (3 : Int32)))), (.int (f 0))])) _
      refine XS.icmpYes X2.here hx rfl (pc0 := 30) (pc' := 37) rfl (hb hby d4_30) rfl (feq hc4).2 (by decide) (by decide) ?_
      show Steps p.tables e below (T2.setTop (mkF m 37 #[.val (.ref a1), .val (.int p2), .val (.int p3), .val (.int (3 : Int32)), .val (.int ((p2 + (1 : Int32)) - (3 : Int32))), .val (.int (1 : Int32))] [])) _
      refine XS.iconst X2.here hx rfl (hb hby d4_37) ?_
      show Steps p.tables e below (T2.setTop (mkF m 38 #[.val (.ref a1), .val (.int p2), .val (.int p3), .val (.int (3 : Int32)), .val (.int ((p2 + (1 : Int32)) - (3 : Int32))), .val (.int (1 : Int32))] [(.int (0 : Int32))])) _
      refine XS.istore X2.here hx rfl (hb hby d4_38) rfl (l' := #[.val (.ref a1), .val (.int p2), .val (.int p3), .val (.int (3 : Int32)), .val (.int ((p2 + (1 : Int32)) - (3 : Int32))), .val (.int (0 : Int32))]) rfl ?_
      show Steps p.tables e below (T2.setTop (mkF m 40 #[.val (.ref a1), .val (.int p2), .val (.int p3), .val (.int (3 : Int32)), .val (.int ((p2 + (1 : Int32)) - (3 : Int32))), .val (.int (0 : Int32))] [])) _
      refine XS.iloadN X2.here hx rfl (hb hby d4_40) rfl ?_
      show Steps p.tables e below (T2.setTop (mkF m 41 #[.val (.ref a1), .val (.int p2), .val (.int p3), .val (.int (3 : Int32)), .val (.int ((p2 + (1 : Int32)) - (3 : Int32))), .val (.int (0 : Int32))] [(.int (3 : Int32))])) _
      refine XS.iconst X2.here hx rfl (hb hby d4_41) ?_
      show Steps p.tables e below (T2.setTop (mkF m 42 #[.val (.ref a1), .val (.int p2), .val (.int p3), .val (.int (3 : Int32)), .val (.int ((p2 + (1 : Int32)) - (3 : Int32))), .val (.int (0 : Int32))] [(.int (1 : Int32)), (.int (3 : Int32))])) _
      refine XS.icmpNo X2.here hx rfl (hb hby d4_42) rfl (tlt (by decide : ((1 : Int32) < (3 : Int32)))).2.2.2 ?_
      show Steps p.tables e below (T2.setTop (mkF m 45 #[.val (.ref a1), .val (.int p2), .val (.int p3), .val (.int (3 : Int32)), .val (.int ((p2 + (1 : Int32)) - (3 : Int32))), .val (.int (0 : Int32))] [])) _
      refine XS.iload X2.here hx rfl (hb hby d4_45) rfl ?_
      show Steps p.tables e below (T2.setTop (mkF m 47 #[.val (.ref a1), .val (.int p2), .val (.int p3), .val (.int (3 : Int32)), .val (.int ((p2 + (1 : Int32)) - (3 : Int32))), .val (.int (0 : Int32))] [(.int (0 : Int32))])) _
      refine XS.ifYes X2.here hx rfl (pc0 := 47) (pc' := 70) rfl (hb hby d4_47) rfl ((if0 _ _).trans (teq (by decide : ((0 : Int32) = (0 : Int32)))).1) (by decide) (by decide) ?_
      show Steps p.tables e below (T2.setTop (mkF m 70 #[.val (.ref a1), .val (.int p2), .val (.int p3), .val (.int (3 : Int32)), .val (.int ((p2 + (1 : Int32)) - (3 : Int32))), .val (.int (0 : Int32))] [])) _
      refine XS.iconst X2.here hx rfl (hb hby d4_70) ?_
      show Steps p.tables e below (T2.setTop (mkF m 71 #[.val (.ref a1), .val (.int p2), .val (.int p3), .val (.int (3 : Int32)), .val (.int ((p2 + (1 : Int32)) - (3 : Int32))), .val (.int (0 : Int32))] [(.int (0 : Int32))])) _
      refine XS.istore X2.here hx rfl (hb hby d4_71) rfl (l' := #[.val (.ref a1), .val (.int p2), .val (.int p3), .val (.int (3 : Int32)), .val (.int ((p2 + (1 : Int32)) - (3 : Int32))), .val (.int (0 : Int32))]) rfl ?_
      show Steps p.tables e below (T2.setTop (mkF m 73 #[.val (.ref a1), .val (.int p2), .val (.int p3), .val (.int (3 : Int32)), .val (.int ((p2 + (1 : Int32)) - (3 : Int32))), .val (.int (0 : Int32))] [])) _
      refine XS.iloadN X2.here hx rfl (hb hby d4_73) rfl ?_
      show Steps p.tables e below (T2.setTop (mkF m 74 #[.val (.ref a1), .val (.int p2), .val (.int p3), .val (.int (3 : Int32)), .val (.int ((p2 + (1 : Int32)) - (3 : Int32))), .val (.int (0 : Int32))] [(.int (3 : Int32))])) _
      refine XS.iconst X2.here hx rfl (hb hby d4_74) ?_
      show Steps p.tables e below (T2.setTop (mkF m 75 #[.val (.ref a1), .val (.int p2), .val (.int p3), .val (.int (3 : Int32)), .val (.int ((p2 + (1 : Int32)) - (3 : Int32))), .val (.int (0 : Int32))] [(.int (2 : Int32)), (.int (3 : Int32))])) _
      refine XS.icmpNo X2.here hx rfl (hb hby d4_75) rfl (tlt (by decide : ((2 : Int32) < (3 : Int32)))).2.2.2 ?_
      show Steps p.tables e below (T2.setTop (mkF m 78 #[.val (.ref a1), .val (.int p2), .val (.int p3), .val (.int (3 : Int32)), .val (.int ((p2 + (1 : Int32)) - (3 : Int32))), .val (.int (0 : Int32))] [])) _
      refine XS.iload X2.here hx rfl (hb hby d4_78) rfl ?_
      show Steps p.tables e below (T2.setTop (mkF m 80 #[.val (.ref a1), .val (.int p2), .val (.int p3), .val (.int (3 : Int32)), .val (.int ((p2 + (1 : Int32)) - (3 : Int32))), .val (.int (0 : Int32))] [(.int (0 : Int32))])) _
      refine XS.ifYes X2.here hx rfl (pc0 := 80) (pc' := 103) rfl (hb hby d4_80) rfl ((if0 _ _).trans (teq (by decide : ((0 : Int32) = (0 : Int32)))).1) (by decide) (by decide) ?_
      show Steps p.tables e below (T2.setTop (mkF m 103 #[.val (.ref a1), .val (.int p2), .val (.int p3), .val (.int (3 : Int32)), .val (.int ((p2 + (1 : Int32)) - (3 : Int32))), .val (.int (0 : Int32))] [])) _
      refine XS.iconst X2.here hx rfl (hb hby d4_103) ?_
      show Steps p.tables e below (T2.setTop (mkF m 104 #[.val (.ref a1), .val (.int p2), .val (.int p3), .val (.int (3 : Int32)), .val (.int ((p2 + (1 : Int32)) - (3 : Int32))), .val (.int (0 : Int32))] [(.int (0 : Int32))])) _
      refine XS.istore X2.here hx rfl (hb hby d4_104) rfl (l' := #[.val (.ref a1), .val (.int p2), .val (.int p3), .val (.int (3 : Int32)), .val (.int ((p2 + (1 : Int32)) - (3 : Int32))), .val (.int (0 : Int32))]) rfl ?_
      show Steps p.tables e below (T2.setTop (mkF m 106 #[.val (.ref a1), .val (.int p2), .val (.int p3), .val (.int (3 : Int32)), .val (.int ((p2 + (1 : Int32)) - (3 : Int32))), .val (.int (0 : Int32))] [])) _
      refine XS.iloadN X2.here hx rfl (hb hby d4_106) rfl ?_
      show Steps p.tables e below (T2.setTop (mkF m 107 #[.val (.ref a1), .val (.int p2), .val (.int p3), .val (.int (3 : Int32)), .val (.int ((p2 + (1 : Int32)) - (3 : Int32))), .val (.int (0 : Int32))] [(.int (3 : Int32))])) _
      refine XS.iconst X2.here hx rfl (hb hby d4_107) ?_
      show Steps p.tables e below (T2.setTop (mkF m 108 #[.val (.ref a1), .val (.int p2), .val (.int p3), .val (.int (3 : Int32)), .val (.int ((p2 + (1 : Int32)) - (3 : Int32))), .val (.int (0 : Int32))] [(.int (3 : Int32)), (.int (3 : Int32))])) _
      refine XS.icmpYes X2.here hx rfl (pc0 := 108) (pc' := 139) rfl (hb hby d4_108) rfl (flt (by decide : ¬ ((3 : Int32) < (3 : Int32)))).2.2.2 (by decide) (by decide) ?_
      show Steps p.tables e below (T2.setTop (mkF m 139 #[.val (.ref a1), .val (.int p2), .val (.int p3), .val (.int (3 : Int32)), .val (.int ((p2 + (1 : Int32)) - (3 : Int32))), .val (.int (0 : Int32))] [])) _
      refine XS.iload X2.here hx rfl (hb hby d4_139) rfl ?_
      show Steps p.tables e below (T2.setTop (mkF m 141 #[.val (.ref a1), .val (.int p2), .val (.int p3), .val (.int (3 : Int32)), .val (.int ((p2 + (1 : Int32)) - (3 : Int32))), .val (.int (0 : Int32))] [(.int (0 : Int32))])) _
      exact retN X2 hx (t := .boolean) Bd.returns (by simp) (hb hby d4_141) hr
    · show QE3 Z a1 p2 p3 k1 z f h0 n0 _ T2.heap _
      rw [r2_0]
      exact ⟨congrArg (fun z => some (Value.int z)) hv, N2, rfl⟩
theorem ef_E4 (m : MethodId) (a1 : Addr) (p2 : Int32) (p3 : Int32) : entryFrame m #[(.ref a1), (.int p2), (.int p3), (.int (4 : Int32))] 6 = mkF m 0 #[.val (.ref a1), .val (.int p2), .val (.int p3), .val (.int (4 : Int32)), .unset, .unset] [] := by first | (simp [entryFrame, mkF, argsToLocals, Value.category]; done) | rfl
def QE4 (Z : State) (a1 : Addr) (p2 : Int32) (p3 : Int32) (k1 : ClassId) (z : Int32) (f : Nat → Int32) (h0 : Heap) (n0 : Nat) (v : Option Value) (h : Heap) (L : List Loc) : Prop := v = some (.int (own_e4 f p2 p3)) ∧ Fr n0 L ∧ h = h0
set_option maxRecDepth 65536 in
set_option maxHeartbeats 40000000 in
theorem rmE4 (l : Launch) (Z : State) (a0 : Array Value) (hw : ∀ d ∈ tables_1, d.before a0 Z = true) (ws : List Jvm.Cond) (a1 : Addr) (p2 : Int32) (p3 : Int32) (k1 : ClassId) (z : Int32) (f : Nat → Int32) (h0 : Heap) (n0 : Nat) (Z0 : n0 ≤ h0.size) (V_1 : Arv Z h0 a1 k1 .int z (own_v4 f) (.int (0 : Int32))) (hz : ∀ j : Int32, 0 ≤ j.toInt → j.toInt < 4 → j < z) (o0 : own_ok p2 z ((p2 + (1 : Int32)) - (4 : Int32))) (o1 : own_ok p2 z (((p2 + (1 : Int32)) - (4 : Int32)) + (1 : Int32))) (o2 : own_ok p2 z (((p2 + (1 : Int32)) - (4 : Int32)) + (2 : Int32))) (o3 : own_ok p2 z (((p2 + (1 : Int32)) - (4 : Int32)) + (3 : Int32))) :
    MetFree l (⟨"com/example/humble_match/humblematch/PartialMatchTableAdvancePinLaw", "ends", "([IIII)Z"⟩ : MethodName) (head1 (Jvm.Cond.code (⟨"com/example/humble_match/humblematch/PartialMatchTableAdvancePinLaw", "ends", "([IIII)Z"⟩ : MethodName) method_4_code 6 (some .boolean) :: ws) ({ frames := 1, cells := 0, slots := 0, locals := 16 } : Room)) (fun a U => a = #[(.ref a1), (.int p2), (.int p3), (.int (4 : Int32))] ∧ Z.Warmed39 U.vm ∧ U.heap = h0) (fun _ _ _ _ _ => True) (fun _ U o U' => ∃ v L, o = .returned v ∧ QE4 Z a1 p2 p3 k1 z f h0 n0 v U'.heap L ∧ FrameEnd U o U' L ({ frames := 1, cells := 0, slots := 0, locals := 16 } : Room).cells ({ frames := 1, cells := 0, slots := 0, locals := 16 } : Room).slots) := by
  refine MetFree.of_bodySF (plainFor_of_name pn_4) hisR ?_
  intro p e s m args below meth c s₁ Bd hml0 hP hK
  obtain ⟨rfl, hZ, hh⟩ := hP
  have hx := Bd.exec
  have hby := Bd.bytes
  have hml : c.maxLocals = 6 := hml0
  have hown : s.vm.findClass "com/example/humble_match/humblematch/PartialMatchTableAdvancePinLaw" = some m.cls := findClass_of_methodNamed Bd.named
  have hnm := (name_of_methodNamed Bd.named Bd.method).1
  have X0 : Stand p l e ({ frames := 1, cells := 0, slots := 0, locals := 16 } : Room) s m #[(.ref a1), (.int p2), (.int p3), (.int (4 : Int32))] below meth c s₁ [] 0 0 := Stand.of_body Bd
  have e0 : s₁.heap = h0 := by rw [← hh, Bd.state]; rfl
  have N0 := Fr.nil n0
  have pre0 : ∀ t, Steps p.tables e below (s₁.setTop (mkF m 0 #[.val (.ref a1), .val (.int p2), .val (.int p3), .val (.int (4 : Int32)), .unset, .unset] [])) t → Steps p.tables e below (s₁.setTop (entryFrame m #[(.ref a1), (.int p2), (.int p3), (.int (4 : Int32))] 6)) t := fun t k => castTop (ef_E4 m a1 p2 p3) k
  have K0 : Keep h0 h0 [] := Keep.refl h0 []
  obtain ⟨cl1, Ar1, -, S1, M1, H1, G1⟩ := id V_1
  have hin1 : ¬ ((0 : Int32) < 0 ∨ cl1.slots.size ≤ ((0 : Int32)).toNatClampNeg) := inb_of S1 ⟨by decide, hz _ (by decide) (by decide)⟩
  have hat1 : cl1.slots[((0 : Int32)).toNatClampNeg]? = some (.int (f 0)) := Has.at H1 hin1 rfl
  obtain ⟨_, _, ⟨T2, L2, k2, n2⟩, -, X2, ⟨Lc2, hQ2, l2, y2, z2⟩, st2⟩ := Jvm.LawKit.callS X0 hx (y := (⟨"com/example/humble_match/humblematch/PartialMatchTableAdvancePinLaw", "sym", "([IIII)I"⟩ : MethodName)) hown (mvT hZ (hw _ (List.mem_of_getElem? (i := 17) rfl))) (mvT hZ (hw _ (List.mem_of_getElem? (i := 18) rfl))) (mvT hZ (hw _ (List.mem_of_getElem? (i := 8) rfl))) (mvT hZ (hw _ (List.mem_of_getElem? (i := 19) rfl))) (by decide) (backOf (W := 1) (rm5 l Z a0 hw [] a1 p2 p3 ((p2 + (1 : Int32)) - (4 : Int32)) k1 z f h0 n0 Z0 V_1 o0) hZ (hw _ (List.mem_of_getElem? (i := 19) rfl)) (hw _ (List.mem_of_getElem? (i := 8) rfl)) (by decide) (by decide)) (g := (mkF m 27 #[.val (.ref a1), .val (.int p2), .val (.int p3), .val (.int (4 : Int32)), .val (.int ((p2 + (1 : Int32)) - (4 : Int32))), .val (.int (1 : Int32))] [(.int ((p2 + (1 : Int32)) - (4 : Int32))), (.int p3), (.int p2), (.ref a1), (.int (f 0))])) rfl (by rw [hml]; rfl) (argsL := [(.ref a1), (.int p2), (.int p3), (.int ((p2 + (1 : Int32)) - (4 : Int32)))]) (rest := [(.int (f 0))]) (lenOf pd_1 rfl) rfl (by show 2 * 0 + _ ≤ _; exact Nat.le_of_eq rfl) (hb hby d4_27) (fun _ _ => ⟨rfl, e0, (by decide : 0 + 0 ≤ _), (by decide : 0 + 0 ≤ _)⟩)
  dsimp only [Pt.U, Pt.locs, Pt.cells, Pt.slots] at X2 l2 y2 z2 st2 hQ2
  subst l2 y2 z2
  obtain ⟨rfl, N2q, r2_0⟩ := hQ2
  have N2 := Fr.app N0 N2q
  have ch3 : Goes p e below s₁ (entryFrame m #[(.ref a1), (.int p2), (.int p3), (.int (4 : Int32))] 6) T2 (mkF m 30 #[.val (.ref a1), .val (.int p2), .val (.int p3), .val (.int (4 : Int32)), .val (.int ((p2 + (1 : Int32)) - (4 : Int32))), .val (.int (1 : Int32))] [(.int (own_sym f p2 p3 ((p2 + (1 : Int32)) - (4 : Int32)))), (.int (f 0))]) := fun t kt => pre0 t (by
    show Steps p.tables e below (s₁.setTop (mkF m 0 #[.val (.ref a1), .val (.int p2), .val (.int p3), .val (.int (4 : Int32)), .unset, .unset] [])) _
    refine XS.iloadN X0.here hx rfl (hb hby d4_0) rfl ?_
    show Steps p.tables e below (s₁.setTop (mkF m 1 #[.val (.ref a1), .val (.int p2), .val (.int p3), .val (.int (4 : Int32)), .unset, .unset] [(.int p2)])) _
    refine XS.iconst X0.here hx rfl (hb hby d4_1) ?_
    show Steps p.tables e below (s₁.setTop (mkF m 2 #[.val (.ref a1), .val (.int p2), .val (.int p3), .val (.int (4 : Int32)), .unset, .unset] [(.int (1 : Int32)), (.int p2)])) _
    refine XS.iadd X0.here hx rfl (hb hby d4_2) rfl ?_
    show Steps p.tables e below (s₁.setTop (mkF m 3 #[.val (.ref a1), .val (.int p2), .val (.int p3), .val (.int (4 : Int32)), .unset, .unset] [(.int (p2 + (1 : Int32)))])) _
    refine XS.iloadN X0.here hx rfl (hb hby d4_3) rfl ?_
    show Steps p.tables e below (s₁.setTop (mkF m 4 #[.val (.ref a1), .val (.int p2), .val (.int p3), .val (.int (4 : Int32)), .unset, .unset] [(.int (4 : Int32)), (.int (p2 + (1 : Int32)))])) _
    refine XS.isub X0.here hx rfl (hb hby d4_4) rfl ?_
    show Steps p.tables e below (s₁.setTop (mkF m 5 #[.val (.ref a1), .val (.int p2), .val (.int p3), .val (.int (4 : Int32)), .unset, .unset] [(.int ((p2 + (1 : Int32)) - (4 : Int32)))])) _
    refine XS.istore X0.here hx rfl (hb hby d4_5) rfl (l' := #[.val (.ref a1), .val (.int p2), .val (.int p3), .val (.int (4 : Int32)), .val (.int ((p2 + (1 : Int32)) - (4 : Int32))), .unset]) rfl ?_
    show Steps p.tables e below (s₁.setTop (mkF m 7 #[.val (.ref a1), .val (.int p2), .val (.int p3), .val (.int (4 : Int32)), .val (.int ((p2 + (1 : Int32)) - (4 : Int32))), .unset] [])) _
    refine XS.iconst X0.here hx rfl (hb hby d4_7) ?_
    show Steps p.tables e below (s₁.setTop (mkF m 8 #[.val (.ref a1), .val (.int p2), .val (.int p3), .val (.int (4 : Int32)), .val (.int ((p2 + (1 : Int32)) - (4 : Int32))), .unset] [(.int (1 : Int32))])) _
    refine XS.istore X0.here hx rfl (hb hby d4_8) rfl (l' := #[.val (.ref a1), .val (.int p2), .val (.int p3), .val (.int (4 : Int32)), .val (.int ((p2 + (1 : Int32)) - (4 : Int32))), .val (.int (1 : Int32))]) rfl ?_
    show Steps p.tables e below (s₁.setTop (mkF m 10 #[.val (.ref a1), .val (.int p2), .val (.int p3), .val (.int (4 : Int32)), .val (.int ((p2 + (1 : Int32)) - (4 : Int32))), .val (.int (1 : Int32))] [])) _
    refine XS.iloadN X0.here hx rfl (hb hby d4_10) rfl ?_
    show Steps p.tables e below (s₁.setTop (mkF m 11 #[.val (.ref a1), .val (.int p2), .val (.int p3), .val (.int (4 : Int32)), .val (.int ((p2 + (1 : Int32)) - (4 : Int32))), .val (.int (1 : Int32))] [(.int (4 : Int32))])) _
    refine XS.ifNo X0.here hx rfl (hb hby d4_11) rfl ((if0 _ _).trans (tlt (by decide : ((0 : Int32) < (4 : Int32)))).2.2.2) ?_
    show Steps p.tables e below (s₁.setTop (mkF m 14 #[.val (.ref a1), .val (.int p2), .val (.int p3), .val (.int (4 : Int32)), .val (.int ((p2 + (1 : Int32)) - (4 : Int32))), .val (.int (1 : Int32))] [])) _
    refine XS.iload X0.here hx rfl (hb hby d4_14) rfl ?_
    show Steps p.tables e below (s₁.setTop (mkF m 16 #[.val (.ref a1), .val (.int p2), .val (.int p3), .val (.int (4 : Int32)), .val (.int ((p2 + (1 : Int32)) - (4 : Int32))), .val (.int (1 : Int32))] [(.int (1 : Int32))])) _
    refine XS.ifNo X0.here hx rfl (hb hby d4_16) rfl ((if0 _ _).trans (feq (by decide : ¬ ((1 : Int32) = (0 : Int32)))).1) ?_
    show Steps p.tables e below (s₁.setTop (mkF m 19 #[.val (.ref a1), .val (.int p2), .val (.int p3), .val (.int (4 : Int32)), .val (.int ((p2 + (1 : Int32)) - (4 : Int32))), .val (.int (1 : Int32))] [])) _
    refine XS.aloadN X0.here hx rfl (hb hby d4_19) rfl rfl ?_
    show Steps p.tables e below (s₁.setTop (mkF m 20 #[.val (.ref a1), .val (.int p2), .val (.int p3), .val (.int (4 : Int32)), .val (.int ((p2 + (1 : Int32)) - (4 : Int32))), .val (.int (1 : Int32))] [(.ref a1)])) _
    refine XS.iconst X0.here hx rfl (hb hby d4_20) ?_
    show Steps p.tables e below (s₁.setTop (mkF m 21 #[.val (.ref a1), .val (.int p2), .val (.int p3), .val (.int (4 : Int32)), .val (.int ((p2 + (1 : Int32)) - (4 : Int32))), .val (.int (1 : Int32))] [(.int (0 : Int32)), (.ref a1)])) _
    refine X0.iaload hx (j := (0 : Int32)) (v := (.int (f 0))) (by rw [e0]; exact Ar1.1) (State.isArrayOf_alike hZ.alike Ar1.2.1) Ar1.2.2 hin1 hat1 (g := (mkF m 21 #[.val (.ref a1), .val (.int p2), .val (.int p3), .val (.int (4 : Int32)), .val (.int ((p2 + (1 : Int32)) - (4 : Int32))), .val (.int (1 : Int32))] [(.int (0 : Int32)), (.ref a1)])) rfl rfl (hb hby d4_21) _ ?_
    show Steps p.tables e below (s₁.setTop (mkF m 22 #[.val (.ref a1), .val (.int p2), .val (.int p3), .val (.int (4 : Int32)), .val (.int ((p2 + (1 : Int32)) - (4 : Int32))), .val (.int (1 : Int32))] [(.int (f 0))])) _
    refine XS.aloadN X0.here hx rfl (hb hby d4_22) rfl rfl ?_
    show Steps p.tables e below (s₁.setTop (mkF m 23 #[.val (.ref a1), .val (.int p2), .val (.int p3), .val (.int (4 : Int32)), .val (.int ((p2 + (1 : Int32)) - (4 : Int32))), .val (.int (1 : Int32))] [(.ref a1), (.int (f 0))])) _
    refine XS.iloadN X0.here hx rfl (hb hby d4_23) rfl ?_
    show Steps p.tables e below (s₁.setTop (mkF m 24 #[.val (.ref a1), .val (.int p2), .val (.int p3), .val (.int (4 : Int32)), .val (.int ((p2 + (1 : Int32)) - (4 : Int32))), .val (.int (1 : Int32))] [(.int p2), (.ref a1), (.int (f 0))])) _
    refine XS.iloadN X0.here hx rfl (hb hby d4_24) rfl ?_
    show Steps p.tables e below (s₁.setTop (mkF m 25 #[.val (.ref a1), .val (.int p2), .val (.int p3), .val (.int (4 : Int32)), .val (.int ((p2 + (1 : Int32)) - (4 : Int32))), .val (.int (1 : Int32))] [(.int p3), (.int p2), (.ref a1), (.int (f 0))])) _
    refine XS.iload X0.here hx rfl (hb hby d4_25) rfl ?_
    show Steps p.tables e below (s₁.setTop (mkF m 27 #[.val (.ref a1), .val (.int p2), .val (.int p3), .val (.int (4 : Int32)), .val (.int ((p2 + (1 : Int32)) - (4 : Int32))), .val (.int (1 : Int32))] [(.int ((p2 + (1 : Int32)) - (4 : Int32))), (.int p3), (.int p2), (.ref a1), (.int (f 0))])) _
    refine st2 _ ?_
    show Steps p.tables e below (T2.setTop (mkF m 30 #[.val (.ref a1), .val (.int p2), .val (.int p3), .val (.int (4 : Int32)), .val (.int ((p2 + (1 : Int32)) - (4 : Int32))), .val (.int (1 : Int32))] [(.int (own_sym f p2 p3 ((p2 + (1 : Int32)) - (4 : Int32)))), (.int (f 0))])) _
    exact kt)
  by_cases hc4 : (f 0) = (own_sym f p2 p3 ((p2 + (1 : Int32)) - (4 : Int32)))
  · obtain ⟨cl5, Ar5, -, S5, M5, H5, G5⟩ := id V_1
    have hin5 : ¬ ((1 : Int32) < 0 ∨ cl5.slots.size ≤ ((1 : Int32)).toNatClampNeg) := inb_of S5 ⟨by decide, hz _ (by decide) (by decide)⟩
    have hat5 : cl5.slots[((1 : Int32)).toNatClampNeg]? = some (.int (f 1)) := Has.at H5 hin5 rfl
    obtain ⟨_, _, ⟨T6, L6, k6, n6⟩, -, X6, ⟨Lc6, hQ6, l6, y6, z6⟩, st6⟩ := Jvm.LawKit.callS X2 hx (y := (⟨"com/example/humble_match/humblematch/PartialMatchTableAdvancePinLaw", "sym", "([IIII)I"⟩ : MethodName)) hown (mvT hZ (hw _ (List.mem_of_getElem? (i := 17) rfl))) (mvT hZ (hw _ (List.mem_of_getElem? (i := 18) rfl))) (mvT hZ (hw _ (List.mem_of_getElem? (i := 8) rfl))) (mvT hZ (hw _ (List.mem_of_getElem? (i := 19) rfl))) (by decide) (backOf (W := 1) (rm5 l Z a0 hw [] a1 p2 p3 (((p2 + (1 : Int32)) - (4 : Int32)) + (1 : Int32)) k1 z f h0 n0 Z0 V_1 o1) hZ (hw _ (List.mem_of_getElem? (i := 19) rfl)) (hw _ (List.mem_of_getElem? (i := 8) rfl)) (by decide) (by decide)) (g := (mkF m 60 #[.val (.ref a1), .val (.int p2), .val (.int p3), .val (.int (4 : Int32)), .val (.int ((p2 + (1 : Int32)) - (4 : Int32))), .val (.int (1 : Int32))] [(.int (((p2 + (1 : Int32)) - (4 : Int32)) + (1 : Int32))), (.int p3), (.int p2), (.ref a1), (.int (f 1))])) rfl (by rw [hml]; rfl) (argsL := [(.ref a1), (.int p2), (.int p3), (.int (((p2 + (1 : Int32)) - (4 : Int32)) + (1 : Int32)))]) (rest := [(.int (f 1))]) (lenOf pd_1 rfl) rfl (by show 2 * 0 + _ ≤ _; exact Nat.le_of_eq rfl) (hb hby d4_60) (fun _ _ => ⟨rfl, r2_0, (by decide : 0 + 0 ≤ _), (by decide : 0 + 0 ≤ _)⟩)
    dsimp only [Pt.U, Pt.locs, Pt.cells, Pt.slots] at X6 l6 y6 z6 st6 hQ6
    subst l6 y6 z6
    obtain ⟨rfl, N6q, r6_0⟩ := hQ6
    have N6 := Fr.app N2 N6q
    have ch7 : Goes p e below s₁ (entryFrame m #[(.ref a1), (.int p2), (.int p3), (.int (4 : Int32))] 6) T6 (mkF m 63 #[.val (.ref a1), .val (.int p2), .val (.int p3), .val (.int (4 : Int32)), .val (.int ((p2 + (1 : Int32)) - (4 : Int32))), .val (.int (1 : Int32))] [(.int (own_sym f p2 p3 (((p2 + (1 : Int32)) - (4 : Int32)) + (1 : Int32)))), (.int (f 1))]) := fun t kt => ch3 t (by
      show Steps p.tables e below (T2.setTop (mkF m 30 #[.val (.ref a1), .val (.int p2), .val (.int p3), .val (.int (4 : Int32)), .val (.int ((p2 + (1 : Int32)) - (4 : Int32))), .val (.int (1 : Int32))] [(.int (own_sym f p2 p3 ((p2 + (1 : Int32)) - (4 : Int32)))), (.int (f 0))])) _
      refine XS.icmpNo X2.here hx rfl (hb hby d4_30) rfl (teq hc4).2 ?_
      show Steps p.tables e below (T2.setTop (mkF m 33 #[.val (.ref a1), .val (.int p2), .val (.int p3), .val (.int (4 : Int32)), .val (.int ((p2 + (1 : Int32)) - (4 : Int32))), .val (.int (1 : Int32))] [])) _
      refine XS.iconst X2.here hx rfl (hb hby d4_33) ?_
      show Steps p.tables e below (T2.setTop (mkF m 34 #[.val (.ref a1), .val (.int p2), .val (.int p3), .val (.int (4 : Int32)), .val (.int ((p2 + (1 : Int32)) - (4 : Int32))), .val (.int (1 : Int32))] [(.int (1 : Int32))])) _
      refine XS.goto X2.here hx rfl (pc0 := 34) (pc' := 38) rfl (hb hby d4_34) (by decide) (by decide) ?_
      show Steps p.tables e below (T2.setTop (mkF m 38 #[.val (.ref a1), .val (.int p2), .val (.int p3), .val (.int (4 : Int32)), .val (.int ((p2 + (1 : Int32)) - (4 : Int32))), .val (.int (1 : Int32))] [(.int (1 : Int32))])) _
      refine XS.istore X2.here hx rfl (hb hby d4_38) rfl (l' := #[.val (.ref a1), .val (.int p2), .val (.int p3), .val (.int (4 : Int32)), .val (.int ((p2 + (1 : Int32)) - (4 : Int32))), .val (.int (1 : Int32))]) rfl ?_
      show Steps p.tables e below (T2.setTop (mkF m 40 #[.val (.ref a1), .val (.int p2), .val (.int p3), .val (.int (4 : Int32)), .val (.int ((p2 + (1 : Int32)) - (4 : Int32))), .val (.int (1 : Int32))] [])) _
      refine XS.iloadN X2.here hx rfl (hb hby d4_40) rfl ?_
      show Steps p.tables e below (T2.setTop (mkF m 41 #[.val (.ref a1), .val (.int p2), .val (.int p3), .val (.int (4 : Int32)), .val (.int ((p2 + (1 : Int32)) - (4 : Int32))), .val (.int (1 : Int32))] [(.int (4 : Int32))])) _
      refine XS.iconst X2.here hx rfl (hb hby d4_41) ?_
      show Steps p.tables e below (T2.setTop (mkF m 42 #[.val (.ref a1), .val (.int p2), .val (.int p3), .val (.int (4 : Int32)), .val (.int ((p2 + (1 : Int32)) - (4 : Int32))), .val (.int (1 : Int32))] [(.int (1 : Int32)), (.int (4 : Int32))])) _
      refine XS.icmpNo X2.here hx rfl (hb hby d4_42) rfl (tlt (by decide : ((1 : Int32) < (4 : Int32)))).2.2.2 ?_
      show Steps p.tables e below (T2.setTop (mkF m 45 #[.val (.ref a1), .val (.int p2), .val (.int p3), .val (.int (4 : Int32)), .val (.int ((p2 + (1 : Int32)) - (4 : Int32))), .val (.int (1 : Int32))] [])) _
      refine XS.iload X2.here hx rfl (hb hby d4_45) rfl ?_
      show Steps p.tables e below (T2.setTop (mkF m 47 #[.val (.ref a1), .val (.int p2), .val (.int p3), .val (.int (4 : Int32)), .val (.int ((p2 + (1 : Int32)) - (4 : Int32))), .val (.int (1 : Int32))] [(.int (1 : Int32))])) _
      refine XS.ifNo X2.here hx rfl (hb hby d4_47) rfl ((if0 _ _).trans (feq (by decide : ¬ ((1 : Int32) = (0 : Int32)))).1) ?_
      show Steps p.tables e below (T2.setTop (mkF m 50 #[.val (.ref a1), .val (.int p2), .val (.int p3), .val (.int (4 : Int32)), .val (.int ((p2 + (1 : Int32)) - (4 : Int32))), .val (.int (1 : Int32))] [])) _
      refine XS.aloadN X2.here hx rfl (hb hby d4_50) rfl rfl ?_
      show Steps p.tables e below (T2.setTop (mkF m 51 #[.val (.ref a1), .val (.int p2), .val (.int p3), .val (.int (4 : Int32)), .val (.int ((p2 + (1 : Int32)) - (4 : Int32))), .val (.int (1 : Int32))] [(.ref a1)])) _
      refine XS.iconst X2.here hx rfl (hb hby d4_51) ?_
      show Steps p.tables e below (T2.setTop (mkF m 52 #[.val (.ref a1), .val (.int p2), .val (.int p3), .val (.int (4 : Int32)), .val (.int ((p2 + (1 : Int32)) - (4 : Int32))), .val (.int (1 : Int32))] [(.int (1 : Int32)), (.ref a1)])) _
      refine X2.iaload hx (j := (1 : Int32)) (v := (.int (f 1))) (by rw [r2_0]; exact Ar5.1) (State.isArrayOf_alike hZ.alike Ar5.2.1) Ar5.2.2 hin5 hat5 (g := (mkF m 52 #[.val (.ref a1), .val (.int p2), .val (.int p3), .val (.int (4 : Int32)), .val (.int ((p2 + (1 : Int32)) - (4 : Int32))), .val (.int (1 : Int32))] [(.int (1 : Int32)), (.ref a1)])) rfl rfl (hb hby d4_52) _ ?_
      show Steps p.tables e below (T2.setTop (mkF m 53 #[.val (.ref a1), .val (.int p2), .val (.int p3), .val (.int (4 : Int32)), .val (.int ((p2 + (1 : Int32)) - (4 : Int32))), .val (.int (1 : Int32))] [(.int (f 1))])) _
      refine XS.aloadN X2.here hx rfl (hb hby d4_53) rfl rfl ?_
      show Steps p.tables e below (T2.setTop (mkF m 54 #[.val (.ref a1), .val (.int p2), .val (.int p3), .val (.int (4 : Int32)), .val (.int ((p2 + (1 : Int32)) - (4 : Int32))), .val (.int (1 : Int32))] [(.ref a1), (.int (f 1))])) _
      refine XS.iloadN X2.here hx rfl (hb hby d4_54) rfl ?_
      show Steps p.tables e below (T2.setTop (mkF m 55 #[.val (.ref a1), .val (.int p2), .val (.int p3), .val (.int (4 : Int32)), .val (.int ((p2 + (1 : Int32)) - (4 : Int32))), .val (.int (1 : Int32))] [(.int p2), (.ref a1), (.int (f 1))])) _
      refine XS.iloadN X2.here hx rfl (hb hby d4_55) rfl ?_
      show Steps p.tables e below (T2.setTop (mkF m 56 #[.val (.ref a1), .val (.int p2), .val (.int p3), .val (.int (4 : Int32)), .val (.int ((p2 + (1 : Int32)) - (4 : Int32))), .val (.int (1 : Int32))] [(.int p3), (.int p2), (.ref a1), (.int (f 1))])) _
      refine XS.iload X2.here hx rfl (hb hby d4_56) rfl ?_
      show Steps p.tables e below (T2.setTop (mkF m 58 #[.val (.ref a1), .val (.int p2), .val (.int p3), .val (.int (4 : Int32)), .val (.int ((p2 + (1 : Int32)) - (4 : Int32))), .val (.int (1 : Int32))] [(.int ((p2 + (1 : Int32)) - (4 : Int32))), (.int p3), (.int p2), (.ref a1), (.int (f 1))])) _
      refine XS.iconst X2.here hx rfl (hb hby d4_58) ?_
      show Steps p.tables e below (T2.setTop (mkF m 59 #[.val (.ref a1), .val (.int p2), .val (.int p3), .val (.int (4 : Int32)), .val (.int ((p2 + (1 : Int32)) - (4 : Int32))), .val (.int (1 : Int32))] [(.int (1 : Int32)), (.int ((p2 + (1 : Int32)) - (4 : Int32))), (.int p3), (.int p2), (.ref a1), (.int (f 1))])) _
      refine XS.iadd X2.here hx rfl (hb hby d4_59) rfl ?_
      show Steps p.tables e below (T2.setTop (mkF m 60 #[.val (.ref a1), .val (.int p2), .val (.int p3), .val (.int (4 : Int32)), .val (.int ((p2 + (1 : Int32)) - (4 : Int32))), .val (.int (1 : Int32))] [(.int (((p2 + (1 : Int32)) - (4 : Int32)) + (1 : Int32))), (.int p3), (.int p2), (.ref a1), (.int (f 1))])) _
      refine st6 _ ?_
      show Steps p.tables e below (T6.setTop (mkF m 63 #[.val (.ref a1), .val (.int p2), .val (.int p3), .val (.int (4 : Int32)), .val (.int ((p2 + (1 : Int32)) - (4 : Int32))), .val (.int (1 : Int32))] [(.int (own_sym f p2 p3 (((p2 + (1 : Int32)) - (4 : Int32)) + (1 : Int32)))), (.int (f 1))])) _
      exact kt)
    by_cases hc8 : (f 1) = (own_sym f p2 p3 (((p2 + (1 : Int32)) - (4 : Int32)) + (1 : Int32)))
    · obtain ⟨cl9, Ar9, -, S9, M9, H9, G9⟩ := id V_1
      have hin9 : ¬ ((2 : Int32) < 0 ∨ cl9.slots.size ≤ ((2 : Int32)).toNatClampNeg) := inb_of S9 ⟨by decide, hz _ (by decide) (by decide)⟩
      have hat9 : cl9.slots[((2 : Int32)).toNatClampNeg]? = some (.int (f 2)) := Has.at H9 hin9 rfl
      obtain ⟨_, _, ⟨T10, L10, k10, n10⟩, -, X10, ⟨Lc10, hQ10, l10, y10, z10⟩, st10⟩ := Jvm.LawKit.callS X6 hx (y := (⟨"com/example/humble_match/humblematch/PartialMatchTableAdvancePinLaw", "sym", "([IIII)I"⟩ : MethodName)) hown (mvT hZ (hw _ (List.mem_of_getElem? (i := 17) rfl))) (mvT hZ (hw _ (List.mem_of_getElem? (i := 18) rfl))) (mvT hZ (hw _ (List.mem_of_getElem? (i := 8) rfl))) (mvT hZ (hw _ (List.mem_of_getElem? (i := 19) rfl))) (by decide) (backOf (W := 1) (rm5 l Z a0 hw [] a1 p2 p3 (((p2 + (1 : Int32)) - (4 : Int32)) + (2 : Int32)) k1 z f h0 n0 Z0 V_1 o2) hZ (hw _ (List.mem_of_getElem? (i := 19) rfl)) (hw _ (List.mem_of_getElem? (i := 8) rfl)) (by decide) (by decide)) (g := (mkF m 93 #[.val (.ref a1), .val (.int p2), .val (.int p3), .val (.int (4 : Int32)), .val (.int ((p2 + (1 : Int32)) - (4 : Int32))), .val (.int (1 : Int32))] [(.int (((p2 + (1 : Int32)) - (4 : Int32)) + (2 : Int32))), (.int p3), (.int p2), (.ref a1), (.int (f 2))])) rfl (by rw [hml]; rfl) (argsL := [(.ref a1), (.int p2), (.int p3), (.int (((p2 + (1 : Int32)) - (4 : Int32)) + (2 : Int32)))]) (rest := [(.int (f 2))]) (lenOf pd_1 rfl) rfl (by show 2 * 0 + _ ≤ _; exact Nat.le_of_eq rfl) (hb hby d4_93) (fun _ _ => ⟨rfl, r6_0, (by decide : 0 + 0 ≤ _), (by decide : 0 + 0 ≤ _)⟩)
      dsimp only [Pt.U, Pt.locs, Pt.cells, Pt.slots] at X10 l10 y10 z10 st10 hQ10
      subst l10 y10 z10
      obtain ⟨rfl, N10q, r10_0⟩ := hQ10
      have N10 := Fr.app N6 N10q
      have ch11 : Goes p e below s₁ (entryFrame m #[(.ref a1), (.int p2), (.int p3), (.int (4 : Int32))] 6) T10 (mkF m 96 #[.val (.ref a1), .val (.int p2), .val (.int p3), .val (.int (4 : Int32)), .val (.int ((p2 + (1 : Int32)) - (4 : Int32))), .val (.int (1 : Int32))] [(.int (own_sym f p2 p3 (((p2 + (1 : Int32)) - (4 : Int32)) + (2 : Int32)))), (.int (f 2))]) := fun t kt => ch7 t (by
        show Steps p.tables e below (T6.setTop (mkF m 63 #[.val (.ref a1), .val (.int p2), .val (.int p3), .val (.int (4 : Int32)), .val (.int ((p2 + (1 : Int32)) - (4 : Int32))), .val (.int (1 : Int32))] [(.int (own_sym f p2 p3 (((p2 + (1 : Int32)) - (4 : Int32)) + (1 : Int32)))), (.int (f 1))])) _
        refine XS.icmpNo X6.here hx rfl (hb hby d4_63) rfl (teq hc8).2 ?_
        show Steps p.tables e below (T6.setTop (mkF m 66 #[.val (.ref a1), .val (.int p2), .val (.int p3), .val (.int (4 : Int32)), .val (.int ((p2 + (1 : Int32)) - (4 : Int32))), .val (.int (1 : Int32))] [])) _
        refine XS.iconst X6.here hx rfl (hb hby d4_66) ?_
        show Steps p.tables e below (T6.setTop (mkF m 67 #[.val (.ref a1), .val (.int p2), .val (.int p3), .val (.int (4 : Int32)), .val (.int ((p2 + (1 : Int32)) - (4 : Int32))), .val (.int (1 : Int32))] [(.int (1 : Int32))])) _
        refine XS.goto X6.here hx rfl (pc0 := 67) (pc' := 71) rfl (hb hby d4_67) (by decide) (by decide) ?_
        show Steps p.tables e below (T6.setTop (mkF m 71 #[.val (.ref a1), .val (.int p2), .val (.int p3), .val (.int (4 : Int32)), .val (.int ((p2 + (1 : Int32)) - (4 : Int32))), .val (.int (1 : Int32))] [(.int (1 : Int32))])) _
        refine XS.istore X6.here hx rfl (hb hby d4_71) rfl (l' := #[.val (.ref a1), .val (.int p2), .val (.int p3), .val (.int (4 : Int32)), .val (.int ((p2 + (1 : Int32)) - (4 : Int32))), .val (.int (1 : Int32))]) rfl ?_
        show Steps p.tables e below (T6.setTop (mkF m 73 #[.val (.ref a1), .val (.int p2), .val (.int p3), .val (.int (4 : Int32)), .val (.int ((p2 + (1 : Int32)) - (4 : Int32))), .val (.int (1 : Int32))] [])) _
        refine XS.iloadN X6.here hx rfl (hb hby d4_73) rfl ?_
        show Steps p.tables e below (T6.setTop (mkF m 74 #[.val (.ref a1), .val (.int p2), .val (.int p3), .val (.int (4 : Int32)), .val (.int ((p2 + (1 : Int32)) - (4 : Int32))), .val (.int (1 : Int32))] [(.int (4 : Int32))])) _
        refine XS.iconst X6.here hx rfl (hb hby d4_74) ?_
        show Steps p.tables e below (T6.setTop (mkF m 75 #[.val (.ref a1), .val (.int p2), .val (.int p3), .val (.int (4 : Int32)), .val (.int ((p2 + (1 : Int32)) - (4 : Int32))), .val (.int (1 : Int32))] [(.int (2 : Int32)), (.int (4 : Int32))])) _
        refine XS.icmpNo X6.here hx rfl (hb hby d4_75) rfl (tlt (by decide : ((2 : Int32) < (4 : Int32)))).2.2.2 ?_
        show Steps p.tables e below (T6.setTop (mkF m 78 #[.val (.ref a1), .val (.int p2), .val (.int p3), .val (.int (4 : Int32)), .val (.int ((p2 + (1 : Int32)) - (4 : Int32))), .val (.int (1 : Int32))] [])) _
        refine XS.iload X6.here hx rfl (hb hby d4_78) rfl ?_
        show Steps p.tables e below (T6.setTop (mkF m 80 #[.val (.ref a1), .val (.int p2), .val (.int p3), .val (.int (4 : Int32)), .val (.int ((p2 + (1 : Int32)) - (4 : Int32))), .val (.int (1 : Int32))] [(.int (1 : Int32))])) _
        refine XS.ifNo X6.here hx rfl (hb hby d4_80) rfl ((if0 _ _).trans (feq (by decide : ¬ ((1 : Int32) = (0 : Int32)))).1) ?_
        show Steps p.tables e below (T6.setTop (mkF m 83 #[.val (.ref a1), .val (.int p2), .val (.int p3), .val (.int (4 : Int32)), .val (.int ((p2 + (1 : Int32)) - (4 : Int32))), .val (.int (1 : Int32))] [])) _
        refine XS.aloadN X6.here hx rfl (hb hby d4_83) rfl rfl ?_
        show Steps p.tables e below (T6.setTop (mkF m 84 #[.val (.ref a1), .val (.int p2), .val (.int p3), .val (.int (4 : Int32)), .val (.int ((p2 + (1 : Int32)) - (4 : Int32))), .val (.int (1 : Int32))] [(.ref a1)])) _
        refine XS.iconst X6.here hx rfl (hb hby d4_84) ?_
        show Steps p.tables e below (T6.setTop (mkF m 85 #[.val (.ref a1), .val (.int p2), .val (.int p3), .val (.int (4 : Int32)), .val (.int ((p2 + (1 : Int32)) - (4 : Int32))), .val (.int (1 : Int32))] [(.int (2 : Int32)), (.ref a1)])) _
        refine X6.iaload hx (j := (2 : Int32)) (v := (.int (f 2))) (by rw [r6_0]; exact Ar9.1) (State.isArrayOf_alike hZ.alike Ar9.2.1) Ar9.2.2 hin9 hat9 (g := (mkF m 85 #[.val (.ref a1), .val (.int p2), .val (.int p3), .val (.int (4 : Int32)), .val (.int ((p2 + (1 : Int32)) - (4 : Int32))), .val (.int (1 : Int32))] [(.int (2 : Int32)), (.ref a1)])) rfl rfl (hb hby d4_85) _ ?_
        show Steps p.tables e below (T6.setTop (mkF m 86 #[.val (.ref a1), .val (.int p2), .val (.int p3), .val (.int (4 : Int32)), .val (.int ((p2 + (1 : Int32)) - (4 : Int32))), .val (.int (1 : Int32))] [(.int (f 2))])) _
        refine XS.aloadN X6.here hx rfl (hb hby d4_86) rfl rfl ?_
        show Steps p.tables e below (T6.setTop (mkF m 87 #[.val (.ref a1), .val (.int p2), .val (.int p3), .val (.int (4 : Int32)), .val (.int ((p2 + (1 : Int32)) - (4 : Int32))), .val (.int (1 : Int32))] [(.ref a1), (.int (f 2))])) _
        refine XS.iloadN X6.here hx rfl (hb hby d4_87) rfl ?_
        show Steps p.tables e below (T6.setTop (mkF m 88 #[.val (.ref a1), .val (.int p2), .val (.int p3), .val (.int (4 : Int32)), .val (.int ((p2 + (1 : Int32)) - (4 : Int32))), .val (.int (1 : Int32))] [(.int p2), (.ref a1), (.int (f 2))])) _
        refine XS.iloadN X6.here hx rfl (hb hby d4_88) rfl ?_
        show Steps p.tables e below (T6.setTop (mkF m 89 #[.val (.ref a1), .val (.int p2), .val (.int p3), .val (.int (4 : Int32)), .val (.int ((p2 + (1 : Int32)) - (4 : Int32))), .val (.int (1 : Int32))] [(.int p3), (.int p2), (.ref a1), (.int (f 2))])) _
        refine XS.iload X6.here hx rfl (hb hby d4_89) rfl ?_
        show Steps p.tables e below (T6.setTop (mkF m 91 #[.val (.ref a1), .val (.int p2), .val (.int p3), .val (.int (4 : Int32)), .val (.int ((p2 + (1 : Int32)) - (4 : Int32))), .val (.int (1 : Int32))] [(.int ((p2 + (1 : Int32)) - (4 : Int32))), (.int p3), (.int p2), (.ref a1), (.int (f 2))])) _
        refine XS.iconst X6.here hx rfl (hb hby d4_91) ?_
        show Steps p.tables e below (T6.setTop (mkF m 92 #[.val (.ref a1), .val (.int p2), .val (.int p3), .val (.int (4 : Int32)), .val (.int ((p2 + (1 : Int32)) - (4 : Int32))), .val (.int (1 : Int32))] [(.int (2 : Int32)), (.int ((p2 + (1 : Int32)) - (4 : Int32))), (.int p3), (.int p2), (.ref a1), (.int (f 2))])) _
        refine XS.iadd X6.here hx rfl (hb hby d4_92) rfl ?_
        show Steps p.tables e below (T6.setTop (mkF m 93 #[.val (.ref a1), .val (.int p2), .val (.int p3), .val (.int (4 : Int32)), .val (.int ((p2 + (1 : Int32)) - (4 : Int32))), .val (.int (1 : Int32))] [(.int (((p2 + (1 : Int32)) - (4 : Int32)) + (2 : Int32))), (.int p3), (.int p2), (.ref a1), (.int (f 2))])) _
        refine st10 _ ?_
        show Steps p.tables e below (T10.setTop (mkF m 96 #[.val (.ref a1), .val (.int p2), .val (.int p3), .val (.int (4 : Int32)), .val (.int ((p2 + (1 : Int32)) - (4 : Int32))), .val (.int (1 : Int32))] [(.int (own_sym f p2 p3 (((p2 + (1 : Int32)) - (4 : Int32)) + (2 : Int32)))), (.int (f 2))])) _
        exact kt)
      by_cases hc12 : (f 2) = (own_sym f p2 p3 (((p2 + (1 : Int32)) - (4 : Int32)) + (2 : Int32)))
      · obtain ⟨cl13, Ar13, -, S13, M13, H13, G13⟩ := id V_1
        have hin13 : ¬ ((3 : Int32) < 0 ∨ cl13.slots.size ≤ ((3 : Int32)).toNatClampNeg) := inb_of S13 ⟨by decide, hz _ (by decide) (by decide)⟩
        have hat13 : cl13.slots[((3 : Int32)).toNatClampNeg]? = some (.int (f 3)) := Has.at H13 hin13 rfl
        obtain ⟨_, _, ⟨T14, L14, k14, n14⟩, -, X14, ⟨Lc14, hQ14, l14, y14, z14⟩, st14⟩ := Jvm.LawKit.callS X10 hx (y := (⟨"com/example/humble_match/humblematch/PartialMatchTableAdvancePinLaw", "sym", "([IIII)I"⟩ : MethodName)) hown (mvT hZ (hw _ (List.mem_of_getElem? (i := 17) rfl))) (mvT hZ (hw _ (List.mem_of_getElem? (i := 18) rfl))) (mvT hZ (hw _ (List.mem_of_getElem? (i := 8) rfl))) (mvT hZ (hw _ (List.mem_of_getElem? (i := 19) rfl))) (by decide) (backOf (W := 1) (rm5 l Z a0 hw [] a1 p2 p3 (((p2 + (1 : Int32)) - (4 : Int32)) + (3 : Int32)) k1 z f h0 n0 Z0 V_1 o3) hZ (hw _ (List.mem_of_getElem? (i := 19) rfl)) (hw _ (List.mem_of_getElem? (i := 8) rfl)) (by decide) (by decide)) (g := (mkF m 126 #[.val (.ref a1), .val (.int p2), .val (.int p3), .val (.int (4 : Int32)), .val (.int ((p2 + (1 : Int32)) - (4 : Int32))), .val (.int (1 : Int32))] [(.int (((p2 + (1 : Int32)) - (4 : Int32)) + (3 : Int32))), (.int p3), (.int p2), (.ref a1), (.int (f 3))])) rfl (by rw [hml]; rfl) (argsL := [(.ref a1), (.int p2), (.int p3), (.int (((p2 + (1 : Int32)) - (4 : Int32)) + (3 : Int32)))]) (rest := [(.int (f 3))]) (lenOf pd_1 rfl) rfl (by show 2 * 0 + _ ≤ _; exact Nat.le_of_eq rfl) (hb hby d4_126) (fun _ _ => ⟨rfl, r10_0, (by decide : 0 + 0 ≤ _), (by decide : 0 + 0 ≤ _)⟩)
        dsimp only [Pt.U, Pt.locs, Pt.cells, Pt.slots] at X14 l14 y14 z14 st14 hQ14
        subst l14 y14 z14
        obtain ⟨rfl, N14q, r14_0⟩ := hQ14
        have N14 := Fr.app N10 N14q
        have ch15 : Goes p e below s₁ (entryFrame m #[(.ref a1), (.int p2), (.int p3), (.int (4 : Int32))] 6) T14 (mkF m 129 #[.val (.ref a1), .val (.int p2), .val (.int p3), .val (.int (4 : Int32)), .val (.int ((p2 + (1 : Int32)) - (4 : Int32))), .val (.int (1 : Int32))] [(.int (own_sym f p2 p3 (((p2 + (1 : Int32)) - (4 : Int32)) + (3 : Int32)))), (.int (f 3))]) := fun t kt => ch11 t (by
          show Steps p.tables e below (T10.setTop (mkF m 96 #[.val (.ref a1), .val (.int p2), .val (.int p3), .val (.int (4 : Int32)), .val (.int ((p2 + (1 : Int32)) - (4 : Int32))), .val (.int (1 : Int32))] [(.int (own_sym f p2 p3 (((p2 + (1 : Int32)) - (4 : Int32)) + (2 : Int32)))), (.int (f 2))])) _
          refine XS.icmpNo X10.here hx rfl (hb hby d4_96) rfl (teq hc12).2 ?_
          show Steps p.tables e below (T10.setTop (mkF m 99 #[.val (.ref a1), .val (.int p2), .val (.int p3), .val (.int (4 : Int32)), .val (.int ((p2 + (1 : Int32)) - (4 : Int32))), .val (.int (1 : Int32))] [])) _
          refine XS.iconst X10.here hx rfl (hb hby d4_99) ?_
          show Steps p.tables e below (T10.setTop (mkF m 100 #[.val (.ref a1), .val (.int p2), .val (.int p3), .val (.int (4 : Int32)), .val (.int ((p2 + (1 : Int32)) - (4 : Int32))), .val (.int (1 : Int32))] [(.int (1 : Int32))])) _
          refine XS.goto X10.here hx rfl (pc0 := 100) (pc' := 104) rfl (hb hby d4_100) (by decide) (by decide) ?_
          show Steps p.tables e below (T10.setTop (mkF m 104 #[.val (.ref a1), .val (.int p2), .val (.int p3), .val (.int (4 : Int32)), .val (.int ((p2 + (1 : Int32)) - (4 : Int32))), .val (.int (1 : Int32))] [(.int (1 : Int32))])) _
          refine XS.istore X10.here hx rfl (hb hby d4_104) rfl (l' := #[.val (.ref a1), .val (.int p2), .val (.int p3), .val (.int (4 : Int32)), .val (.int ((p2 + (1 : Int32)) - (4 : Int32))), .val (.int (1 : Int32))]) rfl ?_
          show Steps p.tables e below (T10.setTop (mkF m 106 #[.val (.ref a1), .val (.int p2), .val (.int p3), .val (.int (4 : Int32)), .val (.int ((p2 + (1 : Int32)) - (4 : Int32))), .val (.int (1 : Int32))] [])) _
          refine XS.iloadN X10.here hx rfl (hb hby d4_106) rfl ?_
          show Steps p.tables e below (T10.setTop (mkF m 107 #[.val (.ref a1), .val (.int p2), .val (.int p3), .val (.int (4 : Int32)), .val (.int ((p2 + (1 : Int32)) - (4 : Int32))), .val (.int (1 : Int32))] [(.int (4 : Int32))])) _
          refine XS.iconst X10.here hx rfl (hb hby d4_107) ?_
          show Steps p.tables e below (T10.setTop (mkF m 108 #[.val (.ref a1), .val (.int p2), .val (.int p3), .val (.int (4 : Int32)), .val (.int ((p2 + (1 : Int32)) - (4 : Int32))), .val (.int (1 : Int32))] [(.int (3 : Int32)), (.int (4 : Int32))])) _
          refine XS.icmpNo X10.here hx rfl (hb hby d4_108) rfl (tlt (by decide : ((3 : Int32) < (4 : Int32)))).2.2.2 ?_
          show Steps p.tables e below (T10.setTop (mkF m 111 #[.val (.ref a1), .val (.int p2), .val (.int p3), .val (.int (4 : Int32)), .val (.int ((p2 + (1 : Int32)) - (4 : Int32))), .val (.int (1 : Int32))] [])) _
          refine XS.iload X10.here hx rfl (hb hby d4_111) rfl ?_
          show Steps p.tables e below (T10.setTop (mkF m 113 #[.val (.ref a1), .val (.int p2), .val (.int p3), .val (.int (4 : Int32)), .val (.int ((p2 + (1 : Int32)) - (4 : Int32))), .val (.int (1 : Int32))] [(.int (1 : Int32))])) _
          refine XS.ifNo X10.here hx rfl (hb hby d4_113) rfl ((if0 _ _).trans (feq (by decide : ¬ ((1 : Int32) = (0 : Int32)))).1) ?_
          show Steps p.tables e below (T10.setTop (mkF m 116 #[.val (.ref a1), .val (.int p2), .val (.int p3), .val (.int (4 : Int32)), .val (.int ((p2 + (1 : Int32)) - (4 : Int32))), .val (.int (1 : Int32))] [])) _
          refine XS.aloadN X10.here hx rfl (hb hby d4_116) rfl rfl ?_
          show Steps p.tables e below (T10.setTop (mkF m 117 #[.val (.ref a1), .val (.int p2), .val (.int p3), .val (.int (4 : Int32)), .val (.int ((p2 + (1 : Int32)) - (4 : Int32))), .val (.int (1 : Int32))] [(.ref a1)])) _
          refine XS.iconst X10.here hx rfl (hb hby d4_117) ?_
          show Steps p.tables e below (T10.setTop (mkF m 118 #[.val (.ref a1), .val (.int p2), .val (.int p3), .val (.int (4 : Int32)), .val (.int ((p2 + (1 : Int32)) - (4 : Int32))), .val (.int (1 : Int32))] [(.int (3 : Int32)), (.ref a1)])) _
          refine X10.iaload hx (j := (3 : Int32)) (v := (.int (f 3))) (by rw [r10_0]; exact Ar13.1) (State.isArrayOf_alike hZ.alike Ar13.2.1) Ar13.2.2 hin13 hat13 (g := (mkF m 118 #[.val (.ref a1), .val (.int p2), .val (.int p3), .val (.int (4 : Int32)), .val (.int ((p2 + (1 : Int32)) - (4 : Int32))), .val (.int (1 : Int32))] [(.int (3 : Int32)), (.ref a1)])) rfl rfl (hb hby d4_118) _ ?_
          show Steps p.tables e below (T10.setTop (mkF m 119 #[.val (.ref a1), .val (.int p2), .val (.int p3), .val (.int (4 : Int32)), .val (.int ((p2 + (1 : Int32)) - (4 : Int32))), .val (.int (1 : Int32))] [(.int (f 3))])) _
          refine XS.aloadN X10.here hx rfl (hb hby d4_119) rfl rfl ?_
          show Steps p.tables e below (T10.setTop (mkF m 120 #[.val (.ref a1), .val (.int p2), .val (.int p3), .val (.int (4 : Int32)), .val (.int ((p2 + (1 : Int32)) - (4 : Int32))), .val (.int (1 : Int32))] [(.ref a1), (.int (f 3))])) _
          refine XS.iloadN X10.here hx rfl (hb hby d4_120) rfl ?_
          show Steps p.tables e below (T10.setTop (mkF m 121 #[.val (.ref a1), .val (.int p2), .val (.int p3), .val (.int (4 : Int32)), .val (.int ((p2 + (1 : Int32)) - (4 : Int32))), .val (.int (1 : Int32))] [(.int p2), (.ref a1), (.int (f 3))])) _
          refine XS.iloadN X10.here hx rfl (hb hby d4_121) rfl ?_
          show Steps p.tables e below (T10.setTop (mkF m 122 #[.val (.ref a1), .val (.int p2), .val (.int p3), .val (.int (4 : Int32)), .val (.int ((p2 + (1 : Int32)) - (4 : Int32))), .val (.int (1 : Int32))] [(.int p3), (.int p2), (.ref a1), (.int (f 3))])) _
          refine XS.iload X10.here hx rfl (hb hby d4_122) rfl ?_
          show Steps p.tables e below (T10.setTop (mkF m 124 #[.val (.ref a1), .val (.int p2), .val (.int p3), .val (.int (4 : Int32)), .val (.int ((p2 + (1 : Int32)) - (4 : Int32))), .val (.int (1 : Int32))] [(.int ((p2 + (1 : Int32)) - (4 : Int32))), (.int p3), (.int p2), (.ref a1), (.int (f 3))])) _
          refine XS.iconst X10.here hx rfl (hb hby d4_124) ?_
          show Steps p.tables e below (T10.setTop (mkF m 125 #[.val (.ref a1), .val (.int p2), .val (.int p3), .val (.int (4 : Int32)), .val (.int ((p2 + (1 : Int32)) - (4 : Int32))), .val (.int (1 : Int32))] [(.int (3 : Int32)), (.int ((p2 + (1 : Int32)) - (4 : Int32))), (.int p3), (.int p2), (.ref a1), (.int (f 3))])) _
          refine XS.iadd X10.here hx rfl (hb hby d4_125) rfl ?_
          show Steps p.tables e below (T10.setTop (mkF m 126 #[.val (.ref a1), .val (.int p2), .val (.int p3), .val (.int (4 : Int32)), .val (.int ((p2 + (1 : Int32)) - (4 : Int32))), .val (.int (1 : Int32))] [(.int (((p2 + (1 : Int32)) - (4 : Int32)) + (3 : Int32))), (.int p3), (.int p2), (.ref a1), (.int (f 3))])) _
          refine st14 _ ?_
          show Steps p.tables e below (T14.setTop (mkF m 129 #[.val (.ref a1), .val (.int p2), .val (.int p3), .val (.int (4 : Int32)), .val (.int ((p2 + (1 : Int32)) - (4 : Int32))), .val (.int (1 : Int32))] [(.int (own_sym f p2 p3 (((p2 + (1 : Int32)) - (4 : Int32)) + (3 : Int32)))), (.int (f 3))])) _
          exact kt)
        by_cases hc16 : (f 3) = (own_sym f p2 p3 (((p2 + (1 : Int32)) - (4 : Int32)) + (3 : Int32)))
        · have hv : (1 : Int32) = own_e4 f p2 p3 := by simp only [own_e4, if_pos hc4, if_pos hc8, if_pos hc12, if_pos hc16]
          obtain ⟨fs, hr, hrun, hended, hW, hsame⟩ := X14.leave (v := some (.int (1 : Int32))) (fun h => by rw [Bd.returns] at h; cases h)
          refine ⟨_, _, ch15 _ ?_, hrun, hended, _, _, rfl, ?_, ⟨_, rfl⟩, hW, hsame.mono (by decide) (by decide)⟩
          · show Steps p.tables e below (T14.setTop (mkF m 129 #[.val (.ref a1), .val (.int p2), .val (.int p3), .val (.int (4 : Int32)), .val (.int ((p2 + (1 : Int32)) - (4 : Int32))), .val (.int (1 : Int32))] [(.int (own_sym f p2 p3 (((p2 + (1 : Int32)) - (4 : Int32)) + (3 : Int32)))), (.int (f 3))])) _
            refine XS.icmpNo X14.here hx rfl (hb hby d4_129) rfl (teq hc16).2 ?_
            show Steps p.tables e below (T14.setTop (mkF m 132 #[.val (.ref a1), .val (.int p2), .val (.int p3), .val (.int (4 : Int32)), .val (.int ((p2 + (1 : Int32)) - (4 : Int32))), .val (.int (1 : Int32))] [])) _
            refine XS.iconst X14.here hx rfl (hb hby d4_132) ?_
            show Steps p.tables e below (T14.setTop (mkF m 133 #[.val (.ref a1), .val (.int p2), .val (.int p3), .val (.int (4 : Int32)), .val (.int ((p2 + (1 : Int32)) - (4 : Int32))), .val (.int (1 : Int32))] [(.int (1 : Int32))])) _
            refine XS.goto X14.here hx rfl (pc0 := 133) (pc' := 137) rfl (hb hby d4_133) (by decide) (by decide) ?_
            show Steps p.tables e below (T14.setTop (mkF m 137 #[.val (.ref a1), .val (.int p2), .val (.int p3), .val (.int (4 : Int32)), .val (.int ((p2 + (1 : Int32)) - (4 : Int32))), .val (.int (1 : Int32))] [(.int (1 : Int32))])) _
            refine XS.istore X14.here hx rfl (hb hby d4_137) rfl (l' := #[.val (.ref a1), .val (.int p2), .val (.int p3), .val (.int (4 : Int32)), .val (.int ((p2 + (1 : Int32)) - (4 : Int32))), .val (.int (1 : Int32))]) rfl ?_
            show Steps p.tables e below (T14.setTop (mkF m 139 #[.val (.ref a1), .val (.int p2), .val (.int p3), .val (.int (4 : Int32)), .val (.int ((p2 + (1 : Int32)) - (4 : Int32))), .val (.int (1 : Int32))] [])) _
            refine XS.iload X14.here hx rfl (hb hby d4_139) rfl ?_
            show Steps p.tables e below (T14.setTop (mkF m 141 #[.val (.ref a1), .val (.int p2), .val (.int p3), .val (.int (4 : Int32)), .val (.int ((p2 + (1 : Int32)) - (4 : Int32))), .val (.int (1 : Int32))] [(.int (1 : Int32))])) _
            exact retN X14 hx (t := .boolean) Bd.returns (by simp) (hb hby d4_141) hr
          · show QE4 Z a1 p2 p3 k1 z f h0 n0 _ T14.heap _
            rw [r14_0]
            exact ⟨congrArg (fun z => some (Value.int z)) hv, N14, rfl⟩
        · have hv : (0 : Int32) = own_e4 f p2 p3 := by simp only [own_e4, if_pos hc4, if_pos hc8, if_pos hc12, if_neg hc16]
          obtain ⟨fs, hr, hrun, hended, hW, hsame⟩ := X14.leave (v := some (.int (0 : Int32))) (fun h => by rw [Bd.returns] at h; cases h)
          refine ⟨_, _, ch15 _ ?_, hrun, hended, _, _, rfl, ?_, ⟨_, rfl⟩, hW, hsame.mono (by decide) (by decide)⟩
          · show Steps p.tables e below (T14.setTop (mkF m 129 #[.val (.ref a1), .val (.int p2), .val (.int p3), .val (.int (4 : Int32)), .val (.int ((p2 + (1 : Int32)) - (4 : Int32))), .val (.int (1 : Int32))] [(.int (own_sym f p2 p3 (((p2 + (1 : Int32)) - (4 : Int32)) + (3 : Int32)))), (.int (f 3))])) _
            refine XS.icmpYes X14.here hx rfl (pc0 := 129) (pc' := 136) rfl (hb hby d4_129) rfl (feq hc16).2 (by decide) (by decide) ?_
            show Steps p.tables e below (T14.setTop (mkF m 136 #[.val (.ref a1), .val (.int p2), .val (.int p3), .val (.int (4 : Int32)), .val (.int ((p2 + (1 : Int32)) - (4 : Int32))), .val (.int (1 : Int32))] [])) _
            refine XS.iconst X14.here hx rfl (hb hby d4_136) ?_
            show Steps p.tables e below (T14.setTop (mkF m 137 #[.val (.ref a1), .val (.int p2), .val (.int p3), .val (.int (4 : Int32)), .val (.int ((p2 + (1 : Int32)) - (4 : Int32))), .val (.int (1 : Int32))] [(.int (0 : Int32))])) _
            refine XS.istore X14.here hx rfl (hb hby d4_137) rfl (l' := #[.val (.ref a1), .val (.int p2), .val (.int p3), .val (.int (4 : Int32)), .val (.int ((p2 + (1 : Int32)) - (4 : Int32))), .val (.int (0 : Int32))]) rfl ?_
            show Steps p.tables e below (T14.setTop (mkF m 139 #[.val (.ref a1), .val (.int p2), .val (.int p3), .val (.int (4 : Int32)), .val (.int ((p2 + (1 : Int32)) - (4 : Int32))), .val (.int (0 : Int32))] [])) _
            refine XS.iload X14.here hx rfl (hb hby d4_139) rfl ?_
            show Steps p.tables e below (T14.setTop (mkF m 141 #[.val (.ref a1), .val (.int p2), .val (.int p3), .val (.int (4 : Int32)), .val (.int ((p2 + (1 : Int32)) - (4 : Int32))), .val (.int (0 : Int32))] [(.int (0 : Int32))])) _
            exact retN X14 hx (t := .boolean) Bd.returns (by simp) (hb hby d4_141) hr
          · show QE4 Z a1 p2 p3 k1 z f h0 n0 _ T14.heap _
            rw [r14_0]
            exact ⟨congrArg (fun z => some (Value.int z)) hv, N14, rfl⟩
      · have hv : (0 : Int32) = own_e4 f p2 p3 := by simp only [own_e4, if_pos hc4, if_pos hc8, if_neg hc12]
        obtain ⟨fs, hr, hrun, hended, hW, hsame⟩ := X10.leave (v := some (.int (0 : Int32))) (fun h => by rw [Bd.returns] at h; cases h)
        refine ⟨_, _, ch11 _ ?_, hrun, hended, _, _, rfl, ?_, ⟨_, rfl⟩, hW, hsame.mono (by decide) (by decide)⟩
        · show Steps p.tables e below (T10.setTop (mkF m 96 #[.val (.ref a1), .val (.int p2), .val (.int p3), .val (.int (4 : Int32)), .val (.int ((p2 + (1 : Int32)) - (4 : Int32))), .val (.int (1 : Int32))] [(.int (own_sym f p2 p3 (((p2 + (1 : Int32)) - (4 : Int32)) + (2 : Int32)))), (.int (f 2))])) _
          refine XS.icmpYes X10.here hx rfl (pc0 := 96) (pc' := 103) rfl (hb hby d4_96) rfl (feq hc12).2 (by decide) (by decide) ?_
          show Steps p.tables e below (T10.setTop (mkF m 103 #[.val (.ref a1), .val (.int p2), .val (.int p3), .val (.int (4 : Int32)), .val (.int ((p2 + (1 : Int32)) - (4 : Int32))), .val (.int (1 : Int32))] [])) _
          refine XS.iconst X10.here hx rfl (hb hby d4_103) ?_
          show Steps p.tables e below (T10.setTop (mkF m 104 #[.val (.ref a1), .val (.int p2), .val (.int p3), .val (.int (4 : Int32)), .val (.int ((p2 + (1 : Int32)) - (4 : Int32))), .val (.int (1 : Int32))] [(.int (0 : Int32))])) _
          refine XS.istore X10.here hx rfl (hb hby d4_104) rfl (l' := #[.val (.ref a1), .val (.int p2), .val (.int p3), .val (.int (4 : Int32)), .val (.int ((p2 + (1 : Int32)) - (4 : Int32))), .val (.int (0 : Int32))]) rfl ?_
          show Steps p.tables e below (T10.setTop (mkF m 106 #[.val (.ref a1), .val (.int p2), .val (.int p3), .val (.int (4 : Int32)), .val (.int ((p2 + (1 : Int32)) - (4 : Int32))), .val (.int (0 : Int32))] [])) _
          refine XS.iloadN X10.here hx rfl (hb hby d4_106) rfl ?_
          show Steps p.tables e below (T10.setTop (mkF m 107 #[.val (.ref a1), .val (.int p2), .val (.int p3), .val (.int (4 : Int32)), .val (.int ((p2 + (1 : Int32)) - (4 : Int32))), .val (.int (0 : Int32))] [(.int (4 : Int32))])) _
          refine XS.iconst X10.here hx rfl (hb hby d4_107) ?_
          show Steps p.tables e below (T10.setTop (mkF m 108 #[.val (.ref a1), .val (.int p2), .val (.int p3), .val (.int (4 : Int32)), .val (.int ((p2 + (1 : Int32)) - (4 : Int32))), .val (.int (0 : Int32))] [(.int (3 : Int32)), (.int (4 : Int32))])) _
          refine XS.icmpNo X10.here hx rfl (hb hby d4_108) rfl (tlt (by decide : ((3 : Int32) < (4 : Int32)))).2.2.2 ?_
          show Steps p.tables e below (T10.setTop (mkF m 111 #[.val (.ref a1), .val (.int p2), .val (.int p3), .val (.int (4 : Int32)), .val (.int ((p2 + (1 : Int32)) - (4 : Int32))), .val (.int (0 : Int32))] [])) _
          refine XS.iload X10.here hx rfl (hb hby d4_111) rfl ?_
          show Steps p.tables e below (T10.setTop (mkF m 113 #[.val (.ref a1), .val (.int p2), .val (.int p3), .val (.int (4 : Int32)), .val (.int ((p2 + (1 : Int32)) - (4 : Int32))), .val (.int (0 : Int32))] [(.int (0 : Int32))])) _
          refine XS.ifYes X10.here hx rfl (pc0 := 113) (pc' := 136) rfl (hb hby d4_113) rfl ((if0 _ _).trans (teq (by decide : ((0 : Int32) = (0 : Int32)))).1) (by decide) (by decide) ?_
          show Steps p.tables e below (T10.setTop (mkF m 136 #[.val (.ref a1), .val (.int p2), .val (.int p3), .val (.int (4 : Int32)), .val (.int ((p2 + (1 : Int32)) - (4 : Int32))), .val (.int (0 : Int32))] [])) _
          refine XS.iconst X10.here hx rfl (hb hby d4_136) ?_
          show Steps p.tables e below (T10.setTop (mkF m 137 #[.val (.ref a1), .val (.int p2), .val (.int p3), .val (.int (4 : Int32)), .val (.int ((p2 + (1 : Int32)) - (4 : Int32))), .val (.int (0 : Int32))] [(.int (0 : Int32))])) _
          refine XS.istore X10.here hx rfl (hb hby d4_137) rfl (l' := #[.val (.ref a1), .val (.int p2), .val (.int p3), .val (.int (4 : Int32)), .val (.int ((p2 + (1 : Int32)) - (4 : Int32))), .val (.int (0 : Int32))]) rfl ?_
          show Steps p.tables e below (T10.setTop (mkF m 139 #[.val (.ref a1), .val (.int p2), .val (.int p3), .val (.int (4 : Int32)), .val (.int ((p2 + (1 : Int32)) - (4 : Int32))), .val (.int (0 : Int32))] [])) _
          refine XS.iload X10.here hx rfl (hb hby d4_139) rfl ?_
          show Steps p.tables e below (T10.setTop (mkF m 141 #[.val (.ref a1), .val (.int p2), .val (.int p3), .val (.int (4 : Int32)), .val (.int ((p2 + (1 : Int32)) - (4 : Int32))), .val (.int (0 : Int32))] [(.int (0 : Int32))])) _
          exact retN X10 hx (t := .boolean) Bd.returns (by simp) (hb hby d4_141) hr
        · show QE4 Z a1 p2 p3 k1 z f h0 n0 _ T10.heap _
          rw [r10_0]
          exact ⟨congrArg (fun z => some (Value.int z)) hv, N10, rfl⟩
    · have hv : (0 : Int32) = own_e4 f p2 p3 := by simp only [own_e4, if_pos hc4, if_neg hc8]
      obtain ⟨fs, hr, hrun, hended, hW, hsame⟩ := X6.leave (v := some (.int (0 : Int32))) (fun h => by rw [Bd.returns] at h; cases h)
      refine ⟨_, _, ch7 _ ?_, hrun, hended, _, _, rfl, ?_, ⟨_, rfl⟩, hW, hsame.mono (by decide) (by decide)⟩
      · show Steps p.tables e below (T6.setTop (mkF m 63 #[.val (.ref a1), .val (.int p2), .val (.int p3), .val (.int (4 : Int32)), .val (.int ((p2 + (1 : Int32)) - (4 : Int32))), .val (.int (1 : Int32))] [(.int (own_sym f p2 p3 (((p2 + (1 : Int32)) - (4 : Int32)) + (1 : Int32)))), (.int (f 1))])) _
        refine XS.icmpYes X6.here hx rfl (pc0 := 63) (pc' := 70) rfl (hb hby d4_63) rfl (feq hc8).2 (by decide) (by decide) ?_
        show Steps p.tables e below (T6.setTop (mkF m 70 #[.val (.ref a1), .val (.int p2), .val (.int p3), .val (.int (4 : Int32)), .val (.int ((p2 + (1 : Int32)) - (4 : Int32))), .val (.int (1 : Int32))] [])) _
        refine XS.iconst X6.here hx rfl (hb hby d4_70) ?_
        show Steps p.tables e below (T6.setTop (mkF m 71 #[.val (.ref a1), .val (.int p2), .val (.int p3), .val (.int (4 : Int32)), .val (.int ((p2 + (1 : Int32)) - (4 : Int32))), .val (.int (1 : Int32))] [(.int (0 : Int32))])) _
        refine XS.istore X6.here hx rfl (hb hby d4_71) rfl (l' := #[.val (.ref a1), .val (.int p2), .val (.int p3), .val (.int (4 : Int32)), .val (.int ((p2 + (1 : Int32)) - (4 : Int32))), .val (.int (0 : Int32))]) rfl ?_
        show Steps p.tables e below (T6.setTop (mkF m 73 #[.val (.ref a1), .val (.int p2), .val (.int p3), .val (.int (4 : Int32)), .val (.int ((p2 + (1 : Int32)) - (4 : Int32))), .val (.int (0 : Int32))] [])) _
        refine XS.iloadN X6.here hx rfl (hb hby d4_73) rfl ?_
        show Steps p.tables e below (T6.setTop (mkF m 74 #[.val (.ref a1), .val (.int p2), .val (.int p3), .val (.int (4 : Int32)), .val (.int ((p2 + (1 : Int32)) - (4 : Int32))), .val (.int (0 : Int32))] [(.int (4 : Int32))])) _
        refine XS.iconst X6.here hx rfl (hb hby d4_74) ?_
        show Steps p.tables e below (T6.setTop (mkF m 75 #[.val (.ref a1), .val (.int p2), .val (.int p3), .val (.int (4 : Int32)), .val (.int ((p2 + (1 : Int32)) - (4 : Int32))), .val (.int (0 : Int32))] [(.int (2 : Int32)), (.int (4 : Int32))])) _
        refine XS.icmpNo X6.here hx rfl (hb hby d4_75) rfl (tlt (by decide : ((2 : Int32) < (4 : Int32)))).2.2.2 ?_
        show Steps p.tables e below (T6.setTop (mkF m 78 #[.val (.ref a1), .val (.int p2), .val (.int p3), .val (.int (4 : Int32)), .val (.int ((p2 + (1 : Int32)) - (4 : Int32))), .val (.int (0 : Int32))] [])) _
        refine XS.iload X6.here hx rfl (hb hby d4_78) rfl ?_
        show Steps p.tables e below (T6.setTop (mkF m 80 #[.val (.ref a1), .val (.int p2), .val (.int p3), .val (.int (4 : Int32)), .val (.int ((p2 + (1 : Int32)) - (4 : Int32))), .val (.int (0 : Int32))] [(.int (0 : Int32))])) _
        refine XS.ifYes X6.here hx rfl (pc0 := 80) (pc' := 103) rfl (hb hby d4_80) rfl ((if0 _ _).trans (teq (by decide : ((0 : Int32) = (0 : Int32)))).1) (by decide) (by decide) ?_
        show Steps p.tables e below (T6.setTop (mkF m 103 #[.val (.ref a1), .val (.int p2), .val (.int p3), .val (.int (4 : Int32)), .val (.int ((p2 + (1 : Int32)) - (4 : Int32))), .val (.int (0 : Int32))] [])) _
        refine XS.iconst X6.here hx rfl (hb hby d4_103) ?_
        show Steps p.tables e below (T6.setTop (mkF m 104 #[.val (.ref a1), .val (.int p2), .val (.int p3), .val (.int (4 : Int32)), .val (.int ((p2 + (1 : Int32)) - (4 : Int32))), .val (.int (0 : Int32))] [(.int (0 : Int32))])) _
        refine XS.istore X6.here hx rfl (hb hby d4_104) rfl (l' := #[.val (.ref a1), .val (.int p2), .val (.int p3), .val (.int (4 : Int32)), .val (.int ((p2 + (1 : Int32)) - (4 : Int32))), .val (.int (0 : Int32))]) rfl ?_
        show Steps p.tables e below (T6.setTop (mkF m 106 #[.val (.ref a1), .val (.int p2), .val (.int p3), .val (.int (4 : Int32)), .val (.int ((p2 + (1 : Int32)) - (4 : Int32))), .val (.int (0 : Int32))] [])) _
        refine XS.iloadN X6.here hx rfl (hb hby d4_106) rfl ?_
        show Steps p.tables e below (T6.setTop (mkF m 107 #[.val (.ref a1), .val (.int p2), .val (.int p3), .val (.int (4 : Int32)), .val (.int ((p2 + (1 : Int32)) - (4 : Int32))), .val (.int (0 : Int32))] [(.int (4 : Int32))])) _
        refine XS.iconst X6.here hx rfl (hb hby d4_107) ?_
        show Steps p.tables e below (T6.setTop (mkF m 108 #[.val (.ref a1), .val (.int p2), .val (.int p3), .val (.int (4 : Int32)), .val (.int ((p2 + (1 : Int32)) - (4 : Int32))), .val (.int (0 : Int32))] [(.int (3 : Int32)), (.int (4 : Int32))])) _
        refine XS.icmpNo X6.here hx rfl (hb hby d4_108) rfl (tlt (by decide : ((3 : Int32) < (4 : Int32)))).2.2.2 ?_
        show Steps p.tables e below (T6.setTop (mkF m 111 #[.val (.ref a1), .val (.int p2), .val (.int p3), .val (.int (4 : Int32)), .val (.int ((p2 + (1 : Int32)) - (4 : Int32))), .val (.int (0 : Int32))] [])) _
        refine XS.iload X6.here hx rfl (hb hby d4_111) rfl ?_
        show Steps p.tables e below (T6.setTop (mkF m 113 #[.val (.ref a1), .val (.int p2), .val (.int p3), .val (.int (4 : Int32)), .val (.int ((p2 + (1 : Int32)) - (4 : Int32))), .val (.int (0 : Int32))] [(.int (0 : Int32))])) _
        refine XS.ifYes X6.here hx rfl (pc0 := 113) (pc' := 136) rfl (hb hby d4_113) rfl ((if0 _ _).trans (teq (by decide : ((0 : Int32) = (0 : Int32)))).1) (by decide) (by decide) ?_
        show Steps p.tables e below (T6.setTop (mkF m 136 #[.val (.ref a1), .val (.int p2), .val (.int p3), .val (.int (4 : Int32)), .val (.int ((p2 + (1 : Int32)) - (4 : Int32))), .val (.int (0 : Int32))] [])) _
        refine XS.iconst X6.here hx rfl (hb hby d4_136) ?_
        show Steps p.tables e below (T6.setTop (mkF m 137 #[.val (.ref a1), .val (.int p2), .val (.int p3), .val (.int (4 : Int32)), .val (.int ((p2 + (1 : Int32)) - (4 : Int32))), .val (.int (0 : Int32))] [(.int (0 : Int32))])) _
        refine XS.istore X6.here hx rfl (hb hby d4_137) rfl (l' := #[.val (.ref a1), .val (.int p2), .val (.int p3), .val (.int (4 : Int32)), .val (.int ((p2 + (1 : Int32)) - (4 : Int32))), .val (.int (0 : Int32))]) rfl ?_
        show Steps p.tables e below (T6.setTop (mkF m 139 #[.val (.ref a1), .val (.int p2), .val (.int p3), .val (.int (4 : Int32)), .val (.int ((p2 + (1 : Int32)) - (4 : Int32))), .val (.int (0 : Int32))] [])) _
        refine XS.iload X6.here hx rfl (hb hby d4_139) rfl ?_
        show Steps p.tables e below (T6.setTop (mkF m 141 #[.val (.ref a1), .val (.int p2), .val (.int p3), .val (.int (4 : Int32)), .val (.int ((p2 + (1 : Int32)) - (4 : Int32))), .val (.int (0 : Int32))] [(.int (0 : Int32))])) _
        exact retN X6 hx (t := .boolean) Bd.returns (by simp) (hb hby d4_141) hr
      · show QE4 Z a1 p2 p3 k1 z f h0 n0 _ T6.heap _
        rw [r6_0]
        exact ⟨congrArg (fun z => some (Value.int z)) hv, N6, rfl⟩
  · have hv : (0 : Int32) = own_e4 f p2 p3 := by simp only [own_e4, if_neg hc4]
    obtain ⟨fs, hr, hrun, hended, hW, hsame⟩ := X2.leave (v := some (.int (0 : Int32))) (fun h => by rw [Bd.returns] at h; cases h)
    refine ⟨_, _, ch3 _ ?_, hrun, hended, _, _, rfl, ?_, ⟨_, rfl⟩, hW, hsame.mono (by decide) (by decide)⟩
    · show Steps p.tables e below (T2.setTop (mkF m 30 #[.val (.ref a1), .val (.int p2), .val (.int p3), .val (.int (4 : Int32)), .val (.int ((p2 + (1 : Int32)) - (4 : Int32))), .val (.int (1 : Int32))] [(.int (own_sym f p2 p3 ((p2 + (1 : Int32)) - (4 : Int32)))), (.int (f 0))])) _
      refine XS.icmpYes X2.here hx rfl (pc0 := 30) (pc' := 37) rfl (hb hby d4_30) rfl (feq hc4).2 (by decide) (by decide) ?_
      show Steps p.tables e below (T2.setTop (mkF m 37 #[.val (.ref a1), .val (.int p2), .val (.int p3), .val (.int (4 : Int32)), .val (.int ((p2 + (1 : Int32)) - (4 : Int32))), .val (.int (1 : Int32))] [])) _
      refine XS.iconst X2.here hx rfl (hb hby d4_37) ?_
      show Steps p.tables e below (T2.setTop (mkF m 38 #[.val (.ref a1), .val (.int p2), .val (.int p3), .val (.int (4 : Int32)), .val (.int ((p2 + (1 : Int32)) - (4 : Int32))), .val (.int (1 : Int32))] [(.int (0 : Int32))])) _
      refine XS.istore X2.here hx rfl (hb hby d4_38) rfl (l' := #[.val (.ref a1), .val (.int p2), .val (.int p3), .val (.int (4 : Int32)), .val (.int ((p2 + (1 : Int32)) - (4 : Int32))), .val (.int (0 : Int32))]) rfl ?_
      show Steps p.tables e below (T2.setTop (mkF m 40 #[.val (.ref a1), .val (.int p2), .val (.int p3), .val (.int (4 : Int32)), .val (.int ((p2 + (1 : Int32)) - (4 : Int32))), .val (.int (0 : Int32))] [])) _
      refine XS.iloadN X2.here hx rfl (hb hby d4_40) rfl ?_
      show Steps p.tables e below (T2.setTop (mkF m 41 #[.val (.ref a1), .val (.int p2), .val (.int p3), .val (.int (4 : Int32)), .val (.int ((p2 + (1 : Int32)) - (4 : Int32))), .val (.int (0 : Int32))] [(.int (4 : Int32))])) _
      refine XS.iconst X2.here hx rfl (hb hby d4_41) ?_
      show Steps p.tables e below (T2.setTop (mkF m 42 #[.val (.ref a1), .val (.int p2), .val (.int p3), .val (.int (4 : Int32)), .val (.int ((p2 + (1 : Int32)) - (4 : Int32))), .val (.int (0 : Int32))] [(.int (1 : Int32)), (.int (4 : Int32))])) _
      refine XS.icmpNo X2.here hx rfl (hb hby d4_42) rfl (tlt (by decide : ((1 : Int32) < (4 : Int32)))).2.2.2 ?_
      show Steps p.tables e below (T2.setTop (mkF m 45 #[.val (.ref a1), .val (.int p2), .val (.int p3), .val (.int (4 : Int32)), .val (.int ((p2 + (1 : Int32)) - (4 : Int32))), .val (.int (0 : Int32))] [])) _
      refine XS.iload X2.here hx rfl (hb hby d4_45) rfl ?_
      show Steps p.tables e below (T2.setTop (mkF m 47 #[.val (.ref a1), .val (.int p2), .val (.int p3), .val (.int (4 : Int32)), .val (.int ((p2 + (1 : Int32)) - (4 : Int32))), .val (.int (0 : Int32))] [(.int (0 : Int32))])) _
      refine XS.ifYes X2.here hx rfl (pc0 := 47) (pc' := 70) rfl (hb hby d4_47) rfl ((if0 _ _).trans (teq (by decide : ((0 : Int32) = (0 : Int32)))).1) (by decide) (by decide) ?_
      show Steps p.tables e below (T2.setTop (mkF m 70 #[.val (.ref a1), .val (.int p2), .val (.int p3), .val (.int (4 : Int32)), .val (.int ((p2 + (1 : Int32)) - (4 : Int32))), .val (.int (0 : Int32))] [])) _
      refine XS.iconst X2.here hx rfl (hb hby d4_70) ?_
      show Steps p.tables e below (T2.setTop (mkF m 71 #[.val (.ref a1), .val (.int p2), .val (.int p3), .val (.int (4 : Int32)), .val (.int ((p2 + (1 : Int32)) - (4 : Int32))), .val (.int (0 : Int32))] [(.int (0 : Int32))])) _
      refine XS.istore X2.here hx rfl (hb hby d4_71) rfl (l' := #[.val (.ref a1), .val (.int p2), .val (.int p3), .val (.int (4 : Int32)), .val (.int ((p2 + (1 : Int32)) - (4 : Int32))), .val (.int (0 : Int32))]) rfl ?_
      show Steps p.tables e below (T2.setTop (mkF m 73 #[.val (.ref a1), .val (.int p2), .val (.int p3), .val (.int (4 : Int32)), .val (.int ((p2 + (1 : Int32)) - (4 : Int32))), .val (.int (0 : Int32))] [])) _
      refine XS.iloadN X2.here hx rfl (hb hby d4_73) rfl ?_
      show Steps p.tables e below (T2.setTop (mkF m 74 #[.val (.ref a1), .val (.int p2), .val (.int p3), .val (.int (4 : Int32)), .val (.int ((p2 + (1 : Int32)) - (4 : Int32))), .val (.int (0 : Int32))] [(.int (4 : Int32))])) _
      refine XS.iconst X2.here hx rfl (hb hby d4_74) ?_
      show Steps p.tables e below (T2.setTop (mkF m 75 #[.val (.ref a1), .val (.int p2), .val (.int p3), .val (.int (4 : Int32)), .val (.int ((p2 + (1 : Int32)) - (4 : Int32))), .val (.int (0 : Int32))] [(.int (2 : Int32)), (.int (4 : Int32))])) _
      refine XS.icmpNo X2.here hx rfl (hb hby d4_75) rfl (tlt (by decide : ((2 : Int32) < (4 : Int32)))).2.2.2 ?_
      show Steps p.tables e below (T2.setTop (mkF m 78 #[.val (.ref a1), .val (.int p2), .val (.int p3), .val (.int (4 : Int32)), .val (.int ((p2 + (1 : Int32)) - (4 : Int32))), .val (.int (0 : Int32))] [])) _
      refine XS.iload X2.here hx rfl (hb hby d4_78) rfl ?_
      show Steps p.tables e below (T2.setTop (mkF m 80 #[.val (.ref a1), .val (.int p2), .val (.int p3), .val (.int (4 : Int32)), .val (.int ((p2 + (1 : Int32)) - (4 : Int32))), .val (.int (0 : Int32))] [(.int (0 : Int32))])) _
      refine XS.ifYes X2.here hx rfl (pc0 := 80) (pc' := 103) rfl (hb hby d4_80) rfl ((if0 _ _).trans (teq (by decide : ((0 : Int32) = (0 : Int32)))).1) (by decide) (by decide) ?_
      show Steps p.tables e below (T2.setTop (mkF m 103 #[.val (.ref a1), .val (.int p2), .val (.int p3), .val (.int (4 : Int32)), .val (.int ((p2 + (1 : Int32)) - (4 : Int32))), .val (.int (0 : Int32))] [])) _
      refine XS.iconst X2.here hx rfl (hb hby d4_103) ?_
      show Steps p.tables e below (T2.setTop (mkF m 104 #[.val (.ref a1), .val (.int p2), .val (.int p3), .val (.int (4 : Int32)), .val (.int ((p2 + (1 : Int32)) - (4 : Int32))), .val (.int (0 : Int32))] [(.int (0 : Int32))])) _
      refine XS.istore X2.here hx rfl (hb hby d4_104) rfl (l' := #[.val (.ref a1), .val (.int p2), .val (.int p3), .val (.int (4 : Int32)), .val (.int ((p2 + (1 : Int32)) - (4 : Int32))), .val (.int (0 : Int32))]) rfl ?_
      show Steps p.tables e below (T2.setTop (mkF m 106 #[.val (.ref a1), .val (.int p2), .val (.int p3), .val (.int (4 : Int32)), .val (.int ((p2 + (1 : Int32)) - (4 : Int32))), .val (.int (0 : Int32))] [])) _
      refine XS.iloadN X2.here hx rfl (hb hby d4_106) rfl ?_
      show Steps p.tables e below (T2.setTop (mkF m 107 #[.val (.ref a1), .val (.int p2), .val (.int p3), .val (.int (4 : Int32)), .val (.int ((p2 + (1 : Int32)) - (4 : Int32))), .val (.int (0 : Int32))] [(.int (4 : Int32))])) _
      refine XS.iconst X2.here hx rfl (hb hby d4_107) ?_
      show Steps p.tables e below (T2.setTop (mkF m 108 #[.val (.ref a1), .val (.int p2), .val (.int p3), .val (.int (4 : Int32)), .val (.int ((p2 + (1 : Int32)) - (4 : Int32))), .val (.int (0 : Int32))] [(.int (3 : Int32)), (.int (4 : Int32))])) _
      refine XS.icmpNo X2.here hx rfl (hb hby d4_108) rfl (tlt (by decide : ((3 : Int32) < (4 : Int32)))).2.2.2 ?_
      show Steps p.tables e below (T2.setTop (mkF m 111 #[.val (.ref a1), .val (.int p2), .val (.int p3), .val (.int (4 : Int32)), .val (.int ((p2 + (1 : Int32)) - (4 : Int32))), .val (.int (0 : Int32))] [])) _
      refine XS.iload X2.here hx rfl (hb hby d4_111) rfl ?_
      show Steps p.tables e below (T2.setTop (mkF m 113 #[.val (.ref a1), .val (.int p2), .val (.int p3), .val (.int (4 : Int32)), .val (.int ((p2 + (1 : Int32)) - (4 : Int32))), .val (.int (0 : Int32))] [(.int (0 : Int32))])) _
      refine XS.ifYes X2.here hx rfl (pc0 := 113) (pc' := 136) rfl (hb hby d4_113) rfl ((if0 _ _).trans (teq (by decide : ((0 : Int32) = (0 : Int32)))).1) (by decide) (by decide) ?_
      show Steps p.tables e below (T2.setTop (mkF m 136 #[.val (.ref a1), .val (.int p2), .val (.int p3), .val (.int (4 : Int32)), .val (.int ((p2 + (1 : Int32)) - (4 : Int32))), .val (.int (0 : Int32))] [])) _
      refine XS.iconst X2.here hx rfl (hb hby d4_136) ?_
      show Steps p.tables e below (T2.setTop (mkF m 137 #[.val (.ref a1), .val (.int p2), .val (.int p3), .val (.int (4 : Int32)), .val (.int ((p2 + (1 : Int32)) - (4 : Int32))), .val (.int (0 : Int32))] [(.int (0 : Int32))])) _
      refine XS.istore X2.here hx rfl (hb hby d4_137) rfl (l' := #[.val (.ref a1), .val (.int p2), .val (.int p3), .val (.int (4 : Int32)), .val (.int ((p2 + (1 : Int32)) - (4 : Int32))), .val (.int (0 : Int32))]) rfl ?_
      show Steps p.tables e below (T2.setTop (mkF m 139 #[.val (.ref a1), .val (.int p2), .val (.int p3), .val (.int (4 : Int32)), .val (.int ((p2 + (1 : Int32)) - (4 : Int32))), .val (.int (0 : Int32))] [])) _
      refine XS.iload X2.here hx rfl (hb hby d4_139) rfl ?_
      show Steps p.tables e below (T2.setTop (mkF m 141 #[.val (.ref a1), .val (.int p2), .val (.int p3), .val (.int (4 : Int32)), .val (.int ((p2 + (1 : Int32)) - (4 : Int32))), .val (.int (0 : Int32))] [(.int (0 : Int32))])) _
      exact retN X2 hx (t := .boolean) Bd.returns (by simp) (hb hby d4_141) hr
    · show QE4 Z a1 p2 p3 k1 z f h0 n0 _ T2.heap _
      rw [r2_0]
      exact ⟨congrArg (fun z => some (Value.int z)) hv, N2, rfl⟩
theorem d2_0 : decode method_5_code 0 = .ok (.iload_n 3, 1) := by decide +kernel
theorem d2_1 : decode method_5_code 1 = .ok (.iconst 4, 1) := by decide +kernel
theorem d2_2 : decode method_5_code 2 = .ok (.if_icmp .lt 15, 3) := by decide +kernel
theorem d2_5 : decode method_5_code 5 = .ok (.aload_n 0, 1) := by decide +kernel
theorem d2_6 : decode method_5_code 6 = .ok (.iload_n 1, 1) := by decide +kernel
theorem d2_7 : decode method_5_code 7 = .ok (.iload_n 2, 1) := by decide +kernel
theorem d2_8 : decode method_5_code 8 = .ok (.iconst 4, 1) := by decide +kernel
theorem d2_9 : decode method_5_code 9 = .ok (.invokestatic 29, 3) := by decide +kernel
theorem d2_12 : decode method_5_code 12 = .ok (.ifCond .eq 5, 3) := by decide +kernel
theorem d2_15 : decode method_5_code 15 = .ok (.iconst 4, 1) := by decide +kernel
theorem d2_16 : decode method_5_code 16 = .ok (.ireturn, 1) := by decide +kernel
theorem d2_17 : decode method_5_code 17 = .ok (.iload_n 3, 1) := by decide +kernel
theorem d2_18 : decode method_5_code 18 = .ok (.iconst 3, 1) := by decide +kernel
theorem d2_19 : decode method_5_code 19 = .ok (.if_icmp .lt 15, 3) := by decide +kernel
theorem d2_22 : decode method_5_code 22 = .ok (.aload_n 0, 1) := by decide +kernel
theorem d2_23 : decode method_5_code 23 = .ok (.iload_n 1, 1) := by decide +kernel
theorem d2_24 : decode method_5_code 24 = .ok (.iload_n 2, 1) := by decide +kernel
theorem d2_25 : decode method_5_code 25 = .ok (.iconst 3, 1) := by decide +kernel
theorem d2_26 : decode method_5_code 26 = .ok (.invokestatic 29, 3) := by decide +kernel
theorem d2_29 : decode method_5_code 29 = .ok (.ifCond .eq 5, 3) := by decide +kernel
theorem d2_32 : decode method_5_code 32 = .ok (.iconst 3, 1) := by decide +kernel
theorem d2_33 : decode method_5_code 33 = .ok (.ireturn, 1) := by decide +kernel
theorem d2_34 : decode method_5_code 34 = .ok (.iload_n 3, 1) := by decide +kernel
theorem d2_35 : decode method_5_code 35 = .ok (.iconst 2, 1) := by decide +kernel
theorem d2_36 : decode method_5_code 36 = .ok (.if_icmp .lt 15, 3) := by decide +kernel
theorem d2_39 : decode method_5_code 39 = .ok (.aload_n 0, 1) := by decide +kernel
theorem d2_40 : decode method_5_code 40 = .ok (.iload_n 1, 1) := by decide +kernel
theorem d2_41 : decode method_5_code 41 = .ok (.iload_n 2, 1) := by decide +kernel
theorem d2_42 : decode method_5_code 42 = .ok (.iconst 2, 1) := by decide +kernel
theorem d2_43 : decode method_5_code 43 = .ok (.invokestatic 29, 3) := by decide +kernel
theorem d2_46 : decode method_5_code 46 = .ok (.ifCond .eq 5, 3) := by decide +kernel
theorem d2_49 : decode method_5_code 49 = .ok (.iconst 2, 1) := by decide +kernel
theorem d2_50 : decode method_5_code 50 = .ok (.ireturn, 1) := by decide +kernel
theorem d2_51 : decode method_5_code 51 = .ok (.iload_n 3, 1) := by decide +kernel
theorem d2_52 : decode method_5_code 52 = .ok (.iconst 1, 1) := by decide +kernel
theorem d2_53 : decode method_5_code 53 = .ok (.if_icmp .lt 15, 3) := by decide +kernel
theorem d2_56 : decode method_5_code 56 = .ok (.aload_n 0, 1) := by decide +kernel
theorem d2_57 : decode method_5_code 57 = .ok (.iload_n 1, 1) := by decide +kernel
theorem d2_58 : decode method_5_code 58 = .ok (.iload_n 2, 1) := by decide +kernel
theorem d2_59 : decode method_5_code 59 = .ok (.iconst 1, 1) := by decide +kernel
theorem d2_60 : decode method_5_code 60 = .ok (.invokestatic 29, 3) := by decide +kernel
theorem d2_63 : decode method_5_code 63 = .ok (.ifCond .eq 5, 3) := by decide +kernel
theorem d2_66 : decode method_5_code 66 = .ok (.iconst 1, 1) := by decide +kernel
theorem d2_67 : decode method_5_code 67 = .ok (.ireturn, 1) := by decide +kernel
theorem d2_68 : decode method_5_code 68 = .ok (.iconst 0, 1) := by decide +kernel
theorem d2_69 : decode method_5_code 69 = .ok (.ireturn, 1) := by decide +kernel
theorem pn_2 : plainName "com/example/humble_match/humblematch/PartialMatchTableAdvancePinLaw" = true := by first | (simp [plainName, overriddenIn]; done) | decide +kernel
theorem ef_2 (m : MethodId) (a1 : Addr) (p2 : Int32) (p3 : Int32) (p4 : Int32) : entryFrame m #[(.ref a1), (.int p2), (.int p3), (.int p4)] 4 = mkF m 0 #[.val (.ref a1), .val (.int p2), .val (.int p3), .val (.int p4)] [] := by first | (simp [entryFrame, mkF, argsToLocals, Value.category]; done) | rfl
theorem pd_3 : parseMethodDescriptor "([IIII)Z" = some ⟨[(.array .int), .int, .int, .int], some .boolean⟩ := by decide +kernel
def Q2 (Z : State) (a1 : Addr) (p2 : Int32) (p3 : Int32) (p4 : Int32) (k1 : ClassId) (z : Int32) (f : Nat → Int32) (h0 : Heap) (n0 : Nat) (v : Option Value) (h : Heap) (L : List Loc) : Prop := v = some (.int (own_b4 f p2 p3 p4)) ∧ Fr n0 L ∧ h = h0
set_option maxRecDepth 65536 in
set_option maxHeartbeats 40000000 in
theorem rm2 (l : Launch) (Z : State) (a0 : Array Value) (hw : ∀ d ∈ tables_1, d.before a0 Z = true) (ws : List Jvm.Cond) (a1 : Addr) (p2 : Int32) (p3 : Int32) (p4 : Int32) (k1 : ClassId) (z : Int32) (f : Nat → Int32) (h0 : Heap) (n0 : Nat) (Z0 : n0 ≤ h0.size) (V_1 : Arv Z h0 a1 k1 .int z (own_v4 f) (.int (0 : Int32))) (hB : own_B p2 z) (hKm : p4.toInt ≤ z.toInt ∧ p4.toInt ≤ p2.toInt + 1) :
    MetFree l (⟨"com/example/humble_match/humblematch/PartialMatchTableAdvancePinLaw", "best", "([IIII)I"⟩ : MethodName) (head1 (Jvm.Cond.code (⟨"com/example/humble_match/humblematch/PartialMatchTableAdvancePinLaw", "best", "([IIII)I"⟩ : MethodName) method_5_code 4 (some .int) :: ws) ({ frames := 2, cells := 0, slots := 0, locals := 33 } : Room)) (fun a U => a = #[(.ref a1), (.int p2), (.int p3), (.int p4)] ∧ Z.Warmed39 U.vm ∧ U.heap = h0) (fun _ _ _ _ _ => True) (fun _ U o U' => ∃ v L, o = .returned v ∧ Q2 Z a1 p2 p3 p4 k1 z f h0 n0 v U'.heap L ∧ FrameEnd U o U' L ({ frames := 2, cells := 0, slots := 0, locals := 33 } : Room).cells ({ frames := 2, cells := 0, slots := 0, locals := 33 } : Room).slots) := by
  refine MetFree.of_bodySF (plainFor_of_name pn_2) hisR ?_
  intro p e s m args below meth c s₁ Bd hml0 hP hK
  obtain ⟨rfl, hZ, hh⟩ := hP
  have hx := Bd.exec
  have hby := Bd.bytes
  have hml : c.maxLocals = 4 := hml0
  have hown : s.vm.findClass "com/example/humble_match/humblematch/PartialMatchTableAdvancePinLaw" = some m.cls := findClass_of_methodNamed Bd.named
  have hnm := (name_of_methodNamed Bd.named Bd.method).1
  have X0 : Stand p l e ({ frames := 2, cells := 0, slots := 0, locals := 33 } : Room) s m #[(.ref a1), (.int p2), (.int p3), (.int p4)] below meth c s₁ [] 0 0 := Stand.of_body Bd
  have e0 : s₁.heap = h0 := by rw [← hh, Bd.state]; rfl
  have N0 := Fr.nil n0
  have pre0 : ∀ t, Steps p.tables e below (s₁.setTop (mkF m 0 #[.val (.ref a1), .val (.int p2), .val (.int p3), .val (.int p4)] [])) t → Steps p.tables e below (s₁.setTop (entryFrame m #[(.ref a1), (.int p2), (.int p3), (.int p4)] 4)) t := fun t k => castTop (ef_2 m a1 p2 p3 p4) k
  have K0 : Keep h0 h0 [] := Keep.refl h0 []
  refine cps (A := ∃ (T' : State) (locs' : List Loc), Stand p l e ({ frames := 2, cells := 0, slots := 0, locals := 33 } : Room) s m #[(.ref a1), (.int p2), (.int p3), (.int p4)] below meth c T' locs' 0 0 ∧ T'.heap = h0 ∧ Fr n0 locs' ∧ (own_b4 f p2 p3 p4 = own_b3 f p2 p3 p4) ∧ Goes p e below s₁ (entryFrame m #[(.ref a1), (.int p2), (.int p3), (.int p4)] 4) T' (mkF m 17 #[.val (.ref a1), .val (.int p2), .val (.int p3), .val (.int p4)] [])) ?_ ?_
  · intro kk1
    have ch2 : Goes p e below s₁ (entryFrame m #[(.ref a1), (.int p2), (.int p3), (.int p4)] 4) s₁ (mkF m 2 #[.val (.ref a1), .val (.int p2), .val (.int p3), .val (.int p4)] [(.int (4 : Int32)), (.int p4)]) := fun t kt => pre0 t (by
      show Steps p.tables e below (s₁.setTop (mkF m 0 #[.val (.ref a1), .val (.int p2), .val (.int p3), .val (.int p4)] [])) _
      refine XS.iloadN X0.here hx rfl (hb hby d2_0) rfl ?_
      show Steps p.tables e below (s₁.setTop (mkF m 1 #[.val (.ref a1), .val (.int p2), .val (.int p3), .val (.int p4)] [(.int p4)])) _
      refine XS.iconst X0.here hx rfl (hb hby d2_1) ?_
      show Steps p.tables e below (s₁.setTop (mkF m 2 #[.val (.ref a1), .val (.int p2), .val (.int p3), .val (.int p4)] [(.int (4 : Int32)), (.int p4)])) _
      exact kt)
    by_cases hc3 : p4 < (4 : Int32)
    · have ch4 : Goes p e below s₁ (entryFrame m #[(.ref a1), (.int p2), (.int p3), (.int p4)] 4) s₁ (mkF m 17 #[.val (.ref a1), .val (.int p2), .val (.int p3), .val (.int p4)] []) := fun t kt => ch2 t (by
        show Steps p.tables e below (s₁.setTop (mkF m 2 #[.val (.ref a1), .val (.int p2), .val (.int p3), .val (.int p4)] [(.int (4 : Int32)), (.int p4)])) _
        refine XS.icmpYes X0.here hx rfl (pc0 := 2) (pc' := 17) rfl (hb hby d2_2) rfl (tlt hc3).1 (by decide) (by decide) ?_
        show Steps p.tables e below (s₁.setTop (mkF m 17 #[.val (.ref a1), .val (.int p2), .val (.int p3), .val (.int p4)] [])) _
        exact kt)
      exact kk1 ⟨s₁, _, X0, e0, N0, by rw [own_b4]; simp [hc3], ch4⟩
    · obtain ⟨_, _, ⟨T5, L5, k5, n5⟩, -, X5, ⟨Lc5, hQ5, l5, y5, z5⟩, st5⟩ := Jvm.LawKit.callS X0 hx (y := (⟨"com/example/humble_match/humblematch/PartialMatchTableAdvancePinLaw", "ends", "([IIII)Z"⟩ : MethodName)) hown (mvT hZ (hw _ (List.mem_of_getElem? (i := 14) rfl))) (mvT hZ (hw _ (List.mem_of_getElem? (i := 15) rfl))) (mvT hZ (hw _ (List.mem_of_getElem? (i := 8) rfl))) (mvT hZ (hw _ (List.mem_of_getElem? (i := 16) rfl))) (by decide) (backOf (W := 0) (rmE4 l Z a0 hw [] a1 p2 p3 k1 z f h0 n0 Z0 V_1 (own_hz (own_kk p4 (4 : Int32) z p2 hKm hc3).1) (own_okz p2 z (4 : Int32) hB ⟨by decide, by decide, (own_kk p4 (4 : Int32) z p2 hKm hc3).2⟩) (own_okj p2 z (4 : Int32) (1 : Int32) hB ⟨by decide, by decide, (own_kk p4 (4 : Int32) z p2 hKm hc3).2⟩ ⟨by decide, by decide⟩) (own_okj p2 z (4 : Int32) (2 : Int32) hB ⟨by decide, by decide, (own_kk p4 (4 : Int32) z p2 hKm hc3).2⟩ ⟨by decide, by decide⟩) (own_okj p2 z (4 : Int32) (3 : Int32) hB ⟨by decide, by decide, (own_kk p4 (4 : Int32) z p2 hKm hc3).2⟩ ⟨by decide, by decide⟩)) hZ (hw _ (List.mem_of_getElem? (i := 16) rfl)) (hw _ (List.mem_of_getElem? (i := 8) rfl)) (by decide) (by decide)) (g := (mkF m 9 #[.val (.ref a1), .val (.int p2), .val (.int p3), .val (.int p4)] [(.int (4 : Int32)), (.int p3), (.int p2), (.ref a1)])) rfl (by rw [hml]; rfl) (argsL := [(.ref a1), (.int p2), (.int p3), (.int (4 : Int32))]) (rest := []) (lenOf pd_3 rfl) rfl (by show 2 * 0 + _ ≤ _; exact Nat.le_of_eq rfl) (hb hby d2_9) (fun _ _ => ⟨rfl, e0, (by decide : 0 + 0 ≤ _), (by decide : 0 + 0 ≤ _)⟩)
      dsimp only [Pt.U, Pt.locs, Pt.cells, Pt.slots] at X5 l5 y5 z5 st5 hQ5
      subst l5 y5 z5
      obtain ⟨rfl, N5q, r5_0⟩ := hQ5
      have N5 := Fr.app N0 N5q
      have ch6 : Goes p e below s₁ (entryFrame m #[(.ref a1), (.int p2), (.int p3), (.int p4)] 4) T5 (mkF m 12 #[.val (.ref a1), .val (.int p2), .val (.int p3), .val (.int p4)] [(.int (own_e4 f p2 p3))]) := fun t kt => ch2 t (by
        show Steps p.tables e below (s₁.setTop (mkF m 2 #[.val (.ref a1), .val (.int p2), .val (.int p3), .val (.int p4)] [(.int (4 : Int32)), (.int p4)])) _
        refine XS.icmpNo X0.here hx rfl (hb hby d2_2) rfl (flt hc3).1 ?_
        show Steps p.tables e below (s₁.setTop (mkF m 5 #[.val (.ref a1), .val (.int p2), .val (.int p3), .val (.int p4)] [])) _
        refine XS.aloadN X0.here hx rfl (hb hby d2_5) rfl rfl ?_
        show Steps p.tables e below (s₁.setTop (mkF m 6 #[.val (.ref a1), .val (.int p2), .val (.int p3), .val (.int p4)] [(.ref a1)])) _
        refine XS.iloadN X0.here hx rfl (hb hby d2_6) rfl ?_
        show Steps p.tables e below (s₁.setTop (mkF m 7 #[.val (.ref a1), .val (.int p2), .val (.int p3), .val (.int p4)] [(.int p2), (.ref a1)])) _
        refine XS.iloadN X0.here hx rfl (hb hby d2_7) rfl ?_
        show Steps p.tables e below (s₁.setTop (mkF m 8 #[.val (.ref a1), .val (.int p2), .val (.int p3), .val (.int p4)] [(.int p3), (.int p2), (.ref a1)])) _
        refine XS.iconst X0.here hx rfl (hb hby d2_8) ?_
        show Steps p.tables e below (s₁.setTop (mkF m 9 #[.val (.ref a1), .val (.int p2), .val (.int p3), .val (.int p4)] [(.int (4 : Int32)), (.int p3), (.int p2), (.ref a1)])) _
        refine st5 _ ?_
        show Steps p.tables e below (T5.setTop (mkF m 12 #[.val (.ref a1), .val (.int p2), .val (.int p3), .val (.int p4)] [(.int (own_e4 f p2 p3))])) _
        exact kt)
      by_cases hc7 : (own_e4 f p2 p3) = (0 : Int32)
      · have ch8 : Goes p e below s₁ (entryFrame m #[(.ref a1), (.int p2), (.int p3), (.int p4)] 4) T5 (mkF m 17 #[.val (.ref a1), .val (.int p2), .val (.int p3), .val (.int p4)] []) := fun t kt => ch6 t (by
          show Steps p.tables e below (T5.setTop (mkF m 12 #[.val (.ref a1), .val (.int p2), .val (.int p3), .val (.int p4)] [(.int (own_e4 f p2 p3))])) _
          refine XS.ifYes X5.here hx rfl (pc0 := 12) (pc' := 17) rfl (hb hby d2_12) rfl ((if0 _ _).trans (teq hc7).1) (by decide) (by decide) ?_
          show Steps p.tables e below (T5.setTop (mkF m 17 #[.val (.ref a1), .val (.int p2), .val (.int p3), .val (.int p4)] [])) _
          exact kt)
        exact kk1 ⟨T5, _, X5, r5_0, N5, by rw [own_b4]; simp [hc3, hc7], ch8⟩
      · have hv : (4 : Int32) = own_b4 f p2 p3 p4 := by
          rw [own_b4]; simp [hc3, hc7]
        obtain ⟨fs, hr, hrun, hended, hW, hsame⟩ := X5.leave (v := some (.int (4 : Int32))) (fun h => by rw [Bd.returns] at h; cases h)
        refine ⟨_, _, ch6 _ ?_, hrun, hended, _, _, rfl, ?_, ⟨_, rfl⟩, hW, hsame.mono (by decide) (by decide)⟩
        · show Steps p.tables e below (T5.setTop (mkF m 12 #[.val (.ref a1), .val (.int p2), .val (.int p3), .val (.int p4)] [(.int (own_e4 f p2 p3))])) _
          refine XS.ifNo X5.here hx rfl (hb hby d2_12) rfl ((if0 _ _).trans (feq hc7).1) ?_
          show Steps p.tables e below (T5.setTop (mkF m 15 #[.val (.ref a1), .val (.int p2), .val (.int p3), .val (.int p4)] [])) _
          refine XS.iconst X5.here hx rfl (hb hby d2_15) ?_
          show Steps p.tables e below (T5.setTop (mkF m 16 #[.val (.ref a1), .val (.int p2), .val (.int p3), .val (.int p4)] [(.int (4 : Int32))])) _
          exact retI X5 hx Bd.returns (hb hby d2_16) hr
        · show Q2 Z a1 p2 p3 p4 k1 z f h0 n0 _ T5.heap _
          rw [r5_0]
          exact ⟨congrArg (fun z => some (Value.int z)) hv, N5, rfl⟩
  · rintro ⟨T1, lo1, X1, e1, N1, i1, ch1⟩
    refine cps (A := ∃ (T' : State) (locs' : List Loc), Stand p l e ({ frames := 2, cells := 0, slots := 0, locals := 33 } : Room) s m #[(.ref a1), (.int p2), (.int p3), (.int p4)] below meth c T' locs' 0 0 ∧ T'.heap = h0 ∧ Fr n0 locs' ∧ (own_b3 f p2 p3 p4 = own_b2 f p2 p3 p4) ∧ Goes p e below s₁ (entryFrame m #[(.ref a1), (.int p2), (.int p3), (.int p4)] 4) T' (mkF m 34 #[.val (.ref a1), .val (.int p2), .val (.int p3), .val (.int p4)] [])) ?_ ?_
    · intro kk9
      have ch10 : Goes p e below s₁ (entryFrame m #[(.ref a1), (.int p2), (.int p3), (.int p4)] 4) T1 (mkF m 19 #[.val (.ref a1), .val (.int p2), .val (.int p3), .val (.int p4)] [(.int (3 : Int32)), (.int p4)]) := fun t kt => ch1 t (by
        show Steps p.tables e below (T1.setTop (mkF m 17 #[.val (.ref a1), .val (.int p2), .val (.int p3), .val (.int p4)] [])) _
        refine XS.iloadN X1.here hx rfl (hb hby d2_17) rfl ?_
        show Steps p.tables e below (T1.setTop (mkF m 18 #[.val (.ref a1), .val (.int p2), .val (.int p3), .val (.int p4)] [(.int p4)])) _
        refine XS.iconst X1.here hx rfl (hb hby d2_18) ?_
        show Steps p.tables e below (T1.setTop (mkF m 19 #[.val (.ref a1), .val (.int p2), .val (.int p3), .val (.int p4)] [(.int (3 : Int32)), (.int p4)])) _
        exact kt)
      by_cases hc11 : p4 < (3 : Int32)
      · have ch12 : Goes p e below s₁ (entryFrame m #[(.ref a1), (.int p2), (.int p3), (.int p4)] 4) T1 (mkF m 34 #[.val (.ref a1), .val (.int p2), .val (.int p3), .val (.int p4)] []) := fun t kt => ch10 t (by
          show Steps p.tables e below (T1.setTop (mkF m 19 #[.val (.ref a1), .val (.int p2), .val (.int p3), .val (.int p4)] [(.int (3 : Int32)), (.int p4)])) _
          refine XS.icmpYes X1.here hx rfl (pc0 := 19) (pc' := 34) rfl (hb hby d2_19) rfl (tlt hc11).1 (by decide) (by decide) ?_
          show Steps p.tables e below (T1.setTop (mkF m 34 #[.val (.ref a1), .val (.int p2), .val (.int p3), .val (.int p4)] [])) _
          exact kt)
        exact kk9 ⟨T1, _, X1, e1, N1, by rw [own_b3]; simp [hc11], ch12⟩
      · obtain ⟨_, _, ⟨T13, L13, k13, n13⟩, -, X13, ⟨Lc13, hQ13, l13, y13, z13⟩, st13⟩ := Jvm.LawKit.callS X1 hx (y := (⟨"com/example/humble_match/humblematch/PartialMatchTableAdvancePinLaw", "ends", "([IIII)Z"⟩ : MethodName)) hown (mvT hZ (hw _ (List.mem_of_getElem? (i := 14) rfl))) (mvT hZ (hw _ (List.mem_of_getElem? (i := 15) rfl))) (mvT hZ (hw _ (List.mem_of_getElem? (i := 8) rfl))) (mvT hZ (hw _ (List.mem_of_getElem? (i := 16) rfl))) (by decide) (backOf (W := 0) (rmE3 l Z a0 hw [] a1 p2 p3 k1 z f h0 n0 Z0 V_1 (own_hz (own_kk p4 (3 : Int32) z p2 hKm hc11).1) (own_okz p2 z (3 : Int32) hB ⟨by decide, by decide, (own_kk p4 (3 : Int32) z p2 hKm hc11).2⟩) (own_okj p2 z (3 : Int32) (1 : Int32) hB ⟨by decide, by decide, (own_kk p4 (3 : Int32) z p2 hKm hc11).2⟩ ⟨by decide, by decide⟩) (own_okj p2 z (3 : Int32) (2 : Int32) hB ⟨by decide, by decide, (own_kk p4 (3 : Int32) z p2 hKm hc11).2⟩ ⟨by decide, by decide⟩)) hZ (hw _ (List.mem_of_getElem? (i := 16) rfl)) (hw _ (List.mem_of_getElem? (i := 8) rfl)) (by decide) (by decide)) (g := (mkF m 26 #[.val (.ref a1), .val (.int p2), .val (.int p3), .val (.int p4)] [(.int (3 : Int32)), (.int p3), (.int p2), (.ref a1)])) rfl (by rw [hml]; rfl) (argsL := [(.ref a1), (.int p2), (.int p3), (.int (3 : Int32))]) (rest := []) (lenOf pd_3 rfl) rfl (by show 2 * 0 + _ ≤ _; exact Nat.le_of_eq rfl) (hb hby d2_26) (fun _ _ => ⟨rfl, e1, (by decide : 0 + 0 ≤ _), (by decide : 0 + 0 ≤ _)⟩)
        dsimp only [Pt.U, Pt.locs, Pt.cells, Pt.slots] at X13 l13 y13 z13 st13 hQ13
        subst l13 y13 z13
        obtain ⟨rfl, N13q, r13_0⟩ := hQ13
        have N13 := Fr.app N1 N13q
        have ch14 : Goes p e below s₁ (entryFrame m #[(.ref a1), (.int p2), (.int p3), (.int p4)] 4) T13 (mkF m 29 #[.val (.ref a1), .val (.int p2), .val (.int p3), .val (.int p4)] [(.int (own_e3 f p2 p3))]) := fun t kt => ch10 t (by
          show Steps p.tables e below (T1.setTop (mkF m 19 #[.val (.ref a1), .val (.int p2), .val (.int p3), .val (.int p4)] [(.int (3 : Int32)), (.int p4)])) _
          refine XS.icmpNo X1.here hx rfl (hb hby d2_19) rfl (flt hc11).1 ?_
          show Steps p.tables e below (T1.setTop (mkF m 22 #[.val (.ref a1), .val (.int p2), .val (.int p3), .val (.int p4)] [])) _
          refine XS.aloadN X1.here hx rfl (hb hby d2_22) rfl rfl ?_
          show Steps p.tables e below (T1.setTop (mkF m 23 #[.val (.ref a1), .val (.int p2), .val (.int p3), .val (.int p4)] [(.ref a1)])) _
          refine XS.iloadN X1.here hx rfl (hb hby d2_23) rfl ?_
          show Steps p.tables e below (T1.setTop (mkF m 24 #[.val (.ref a1), .val (.int p2), .val (.int p3), .val (.int p4)] [(.int p2), (.ref a1)])) _
          refine XS.iloadN X1.here hx rfl (hb hby d2_24) rfl ?_
          show Steps p.tables e below (T1.setTop (mkF m 25 #[.val (.ref a1), .val (.int p2), .val (.int p3), .val (.int p4)] [(.int p3), (.int p2), (.ref a1)])) _
          refine XS.iconst X1.here hx rfl (hb hby d2_25) ?_
          show Steps p.tables e below (T1.setTop (mkF m 26 #[.val (.ref a1), .val (.int p2), .val (.int p3), .val (.int p4)] [(.int (3 : Int32)), (.int p3), (.int p2), (.ref a1)])) _
          refine st13 _ ?_
          show Steps p.tables e below (T13.setTop (mkF m 29 #[.val (.ref a1), .val (.int p2), .val (.int p3), .val (.int p4)] [(.int (own_e3 f p2 p3))])) _
          exact kt)
        by_cases hc15 : (own_e3 f p2 p3) = (0 : Int32)
        · have ch16 : Goes p e below s₁ (entryFrame m #[(.ref a1), (.int p2), (.int p3), (.int p4)] 4) T13 (mkF m 34 #[.val (.ref a1), .val (.int p2), .val (.int p3), .val (.int p4)] []) := fun t kt => ch14 t (by
            show Steps p.tables e below (T13.setTop (mkF m 29 #[.val (.ref a1), .val (.int p2), .val (.int p3), .val (.int p4)] [(.int (own_e3 f p2 p3))])) _
            refine XS.ifYes X13.here hx rfl (pc0 := 29) (pc' := 34) rfl (hb hby d2_29) rfl ((if0 _ _).trans (teq hc15).1) (by decide) (by decide) ?_
            show Steps p.tables e below (T13.setTop (mkF m 34 #[.val (.ref a1), .val (.int p2), .val (.int p3), .val (.int p4)] [])) _
            exact kt)
          exact kk9 ⟨T13, _, X13, r13_0, N13, by rw [own_b3]; simp [hc11, hc15], ch16⟩
        · have hv : (3 : Int32) = own_b4 f p2 p3 p4 := by
            rw [i1]
            rw [own_b3]; simp [hc11, hc15]
          obtain ⟨fs, hr, hrun, hended, hW, hsame⟩ := X13.leave (v := some (.int (3 : Int32))) (fun h => by rw [Bd.returns] at h; cases h)
          refine ⟨_, _, ch14 _ ?_, hrun, hended, _, _, rfl, ?_, ⟨_, rfl⟩, hW, hsame.mono (by decide) (by decide)⟩
          · show Steps p.tables e below (T13.setTop (mkF m 29 #[.val (.ref a1), .val (.int p2), .val (.int p3), .val (.int p4)] [(.int (own_e3 f p2 p3))])) _
            refine XS.ifNo X13.here hx rfl (hb hby d2_29) rfl ((if0 _ _).trans (feq hc15).1) ?_
            show Steps p.tables e below (T13.setTop (mkF m 32 #[.val (.ref a1), .val (.int p2), .val (.int p3), .val (.int p4)] [])) _
            refine XS.iconst X13.here hx rfl (hb hby d2_32) ?_
            show Steps p.tables e below (T13.setTop (mkF m 33 #[.val (.ref a1), .val (.int p2), .val (.int p3), .val (.int p4)] [(.int (3 : Int32))])) _
            exact retI X13 hx Bd.returns (hb hby d2_33) hr
          · show Q2 Z a1 p2 p3 p4 k1 z f h0 n0 _ T13.heap _
            rw [r13_0]
            exact ⟨congrArg (fun z => some (Value.int z)) hv, N13, rfl⟩
    · rintro ⟨T9, lo9, X9, e9, N9, i9, ch9⟩
      refine cps (A := ∃ (T' : State) (locs' : List Loc), Stand p l e ({ frames := 2, cells := 0, slots := 0, locals := 33 } : Room) s m #[(.ref a1), (.int p2), (.int p3), (.int p4)] below meth c T' locs' 0 0 ∧ T'.heap = h0 ∧ Fr n0 locs' ∧ (own_b2 f p2 p3 p4 = own_b1 f p2 p3 p4) ∧ Goes p e below s₁ (entryFrame m #[(.ref a1), (.int p2), (.int p3), (.int p4)] 4) T' (mkF m 51 #[.val (.ref a1), .val (.int p2), .val (.int p3), .val (.int p4)] [])) ?_ ?_
      · intro kk17
        have ch18 : Goes p e below s₁ (entryFrame m #[(.ref a1), (.int p2), (.int p3), (.int p4)] 4) T9 (mkF m 36 #[.val (.ref a1), .val (.int p2), .val (.int p3), .val (.int p4)] [(.int (2 : Int32)), (.int p4)]) := fun t kt => ch9 t (by
          show Steps p.tables e below (T9.setTop (mkF m 34 #[.val (.ref a1), .val (.int p2), .val (.int p3), .val (.int p4)] [])) _
          refine XS.iloadN X9.here hx rfl (hb hby d2_34) rfl ?_
          show Steps p.tables e below (T9.setTop (mkF m 35 #[.val (.ref a1), .val (.int p2), .val (.int p3), .val (.int p4)] [(.int p4)])) _
          refine XS.iconst X9.here hx rfl (hb hby d2_35) ?_
          show Steps p.tables e below (T9.setTop (mkF m 36 #[.val (.ref a1), .val (.int p2), .val (.int p3), .val (.int p4)] [(.int (2 : Int32)), (.int p4)])) _
          exact kt)
        by_cases hc19 : p4 < (2 : Int32)
        · have ch20 : Goes p e below s₁ (entryFrame m #[(.ref a1), (.int p2), (.int p3), (.int p4)] 4) T9 (mkF m 51 #[.val (.ref a1), .val (.int p2), .val (.int p3), .val (.int p4)] []) := fun t kt => ch18 t (by
            show Steps p.tables e below (T9.setTop (mkF m 36 #[.val (.ref a1), .val (.int p2), .val (.int p3), .val (.int p4)] [(.int (2 : Int32)), (.int p4)])) _
            refine XS.icmpYes X9.here hx rfl (pc0 := 36) (pc' := 51) rfl (hb hby d2_36) rfl (tlt hc19).1 (by decide) (by decide) ?_
            show Steps p.tables e below (T9.setTop (mkF m 51 #[.val (.ref a1), .val (.int p2), .val (.int p3), .val (.int p4)] [])) _
            exact kt)
          exact kk17 ⟨T9, _, X9, e9, N9, by rw [own_b2]; simp [hc19], ch20⟩
        · obtain ⟨_, _, ⟨T21, L21, k21, n21⟩, -, X21, ⟨Lc21, hQ21, l21, y21, z21⟩, st21⟩ := Jvm.LawKit.callS X9 hx (y := (⟨"com/example/humble_match/humblematch/PartialMatchTableAdvancePinLaw", "ends", "([IIII)Z"⟩ : MethodName)) hown (mvT hZ (hw _ (List.mem_of_getElem? (i := 14) rfl))) (mvT hZ (hw _ (List.mem_of_getElem? (i := 15) rfl))) (mvT hZ (hw _ (List.mem_of_getElem? (i := 8) rfl))) (mvT hZ (hw _ (List.mem_of_getElem? (i := 16) rfl))) (by decide) (backOf (W := 0) (rmE2 l Z a0 hw [] a1 p2 p3 k1 z f h0 n0 Z0 V_1 (own_hz (own_kk p4 (2 : Int32) z p2 hKm hc19).1) (own_okz p2 z (2 : Int32) hB ⟨by decide, by decide, (own_kk p4 (2 : Int32) z p2 hKm hc19).2⟩) (own_okj p2 z (2 : Int32) (1 : Int32) hB ⟨by decide, by decide, (own_kk p4 (2 : Int32) z p2 hKm hc19).2⟩ ⟨by decide, by decide⟩)) hZ (hw _ (List.mem_of_getElem? (i := 16) rfl)) (hw _ (List.mem_of_getElem? (i := 8) rfl)) (by decide) (by decide)) (g := (mkF m 43 #[.val (.ref a1), .val (.int p2), .val (.int p3), .val (.int p4)] [(.int (2 : Int32)), (.int p3), (.int p2), (.ref a1)])) rfl (by rw [hml]; rfl) (argsL := [(.ref a1), (.int p2), (.int p3), (.int (2 : Int32))]) (rest := []) (lenOf pd_3 rfl) rfl (by show 2 * 0 + _ ≤ _; exact Nat.le_of_eq rfl) (hb hby d2_43) (fun _ _ => ⟨rfl, e9, (by decide : 0 + 0 ≤ _), (by decide : 0 + 0 ≤ _)⟩)
          dsimp only [Pt.U, Pt.locs, Pt.cells, Pt.slots] at X21 l21 y21 z21 st21 hQ21
          subst l21 y21 z21
          obtain ⟨rfl, N21q, r21_0⟩ := hQ21
          have N21 := Fr.app N9 N21q
          have ch22 : Goes p e below s₁ (entryFrame m #[(.ref a1), (.int p2), (.int p3), (.int p4)] 4) T21 (mkF m 46 #[.val (.ref a1), .val (.int p2), .val (.int p3), .val (.int p4)] [(.int (own_e2 f p2 p3))]) := fun t kt => ch18 t (by
            show Steps p.tables e below (T9.setTop (mkF m 36 #[.val (.ref a1), .val (.int p2), .val (.int p3), .val (.int p4)] [(.int (2 : Int32)), (.int p4)])) _
            refine XS.icmpNo X9.here hx rfl (hb hby d2_36) rfl (flt hc19).1 ?_
            show Steps p.tables e below (T9.setTop (mkF m 39 #[.val (.ref a1), .val (.int p2), .val (.int p3), .val (.int p4)] [])) _
            refine XS.aloadN X9.here hx rfl (hb hby d2_39) rfl rfl ?_
            show Steps p.tables e below (T9.setTop (mkF m 40 #[.val (.ref a1), .val (.int p2), .val (.int p3), .val (.int p4)] [(.ref a1)])) _
            refine XS.iloadN X9.here hx rfl (hb hby d2_40) rfl ?_
            show Steps p.tables e below (T9.setTop (mkF m 41 #[.val (.ref a1), .val (.int p2), .val (.int p3), .val (.int p4)] [(.int p2), (.ref a1)])) _
            refine XS.iloadN X9.here hx rfl (hb hby d2_41) rfl ?_
            show Steps p.tables e below (T9.setTop (mkF m 42 #[.val (.ref a1), .val (.int p2), .val (.int p3), .val (.int p4)] [(.int p3), (.int p2), (.ref a1)])) _
            refine XS.iconst X9.here hx rfl (hb hby d2_42) ?_
            show Steps p.tables e below (T9.setTop (mkF m 43 #[.val (.ref a1), .val (.int p2), .val (.int p3), .val (.int p4)] [(.int (2 : Int32)), (.int p3), (.int p2), (.ref a1)])) _
            refine st21 _ ?_
            show Steps p.tables e below (T21.setTop (mkF m 46 #[.val (.ref a1), .val (.int p2), .val (.int p3), .val (.int p4)] [(.int (own_e2 f p2 p3))])) _
            exact kt)
          by_cases hc23 : (own_e2 f p2 p3) = (0 : Int32)
          · have ch24 : Goes p e below s₁ (entryFrame m #[(.ref a1), (.int p2), (.int p3), (.int p4)] 4) T21 (mkF m 51 #[.val (.ref a1), .val (.int p2), .val (.int p3), .val (.int p4)] []) := fun t kt => ch22 t (by
              show Steps p.tables e below (T21.setTop (mkF m 46 #[.val (.ref a1), .val (.int p2), .val (.int p3), .val (.int p4)] [(.int (own_e2 f p2 p3))])) _
              refine XS.ifYes X21.here hx rfl (pc0 := 46) (pc' := 51) rfl (hb hby d2_46) rfl ((if0 _ _).trans (teq hc23).1) (by decide) (by decide) ?_
              show Steps p.tables e below (T21.setTop (mkF m 51 #[.val (.ref a1), .val (.int p2), .val (.int p3), .val (.int p4)] [])) _
              exact kt)
            exact kk17 ⟨T21, _, X21, r21_0, N21, by rw [own_b2]; simp [hc19, hc23], ch24⟩
          · have hv : (2 : Int32) = own_b4 f p2 p3 p4 := by
              rw [i1]
              rw [i9]
              rw [own_b2]; simp [hc19, hc23]
            obtain ⟨fs, hr, hrun, hended, hW, hsame⟩ := X21.leave (v := some (.int (2 : Int32))) (fun h => by rw [Bd.returns] at h; cases h)
            refine ⟨_, _, ch22 _ ?_, hrun, hended, _, _, rfl, ?_, ⟨_, rfl⟩, hW, hsame.mono (by decide) (by decide)⟩
            · show Steps p.tables e below (T21.setTop (mkF m 46 #[.val (.ref a1), .val (.int p2), .val (.int p3), .val (.int p4)] [(.int (own_e2 f p2 p3))])) _
              refine XS.ifNo X21.here hx rfl (hb hby d2_46) rfl ((if0 _ _).trans (feq hc23).1) ?_
              show Steps p.tables e below (T21.setTop (mkF m 49 #[.val (.ref a1), .val (.int p2), .val (.int p3), .val (.int p4)] [])) _
              refine XS.iconst X21.here hx rfl (hb hby d2_49) ?_
              show Steps p.tables e below (T21.setTop (mkF m 50 #[.val (.ref a1), .val (.int p2), .val (.int p3), .val (.int p4)] [(.int (2 : Int32))])) _
              exact retI X21 hx Bd.returns (hb hby d2_50) hr
            · show Q2 Z a1 p2 p3 p4 k1 z f h0 n0 _ T21.heap _
              rw [r21_0]
              exact ⟨congrArg (fun z => some (Value.int z)) hv, N21, rfl⟩
      · rintro ⟨T17, lo17, X17, e17, N17, i17, ch17⟩
        refine cps (A := ∃ (T' : State) (locs' : List Loc), Stand p l e ({ frames := 2, cells := 0, slots := 0, locals := 33 } : Room) s m #[(.ref a1), (.int p2), (.int p3), (.int p4)] below meth c T' locs' 0 0 ∧ T'.heap = h0 ∧ Fr n0 locs' ∧ (own_b1 f p2 p3 p4 = own_b0 f p2 p3 p4) ∧ Goes p e below s₁ (entryFrame m #[(.ref a1), (.int p2), (.int p3), (.int p4)] 4) T' (mkF m 68 #[.val (.ref a1), .val (.int p2), .val (.int p3), .val (.int p4)] [])) ?_ ?_
        · intro kk25
          have ch26 : Goes p e below s₁ (entryFrame m #[(.ref a1), (.int p2), (.int p3), (.int p4)] 4) T17 (mkF m 53 #[.val (.ref a1), .val (.int p2), .val (.int p3), .val (.int p4)] [(.int (1 : Int32)), (.int p4)]) := fun t kt => ch17 t (by
            show Steps p.tables e below (T17.setTop (mkF m 51 #[.val (.ref a1), .val (.int p2), .val (.int p3), .val (.int p4)] [])) _
            refine XS.iloadN X17.here hx rfl (hb hby d2_51) rfl ?_
            show Steps p.tables e below (T17.setTop (mkF m 52 #[.val (.ref a1), .val (.int p2), .val (.int p3), .val (.int p4)] [(.int p4)])) _
            refine XS.iconst X17.here hx rfl (hb hby d2_52) ?_
            show Steps p.tables e below (T17.setTop (mkF m 53 #[.val (.ref a1), .val (.int p2), .val (.int p3), .val (.int p4)] [(.int (1 : Int32)), (.int p4)])) _
            exact kt)
          by_cases hc27 : p4 < (1 : Int32)
          · have ch28 : Goes p e below s₁ (entryFrame m #[(.ref a1), (.int p2), (.int p3), (.int p4)] 4) T17 (mkF m 68 #[.val (.ref a1), .val (.int p2), .val (.int p3), .val (.int p4)] []) := fun t kt => ch26 t (by
              show Steps p.tables e below (T17.setTop (mkF m 53 #[.val (.ref a1), .val (.int p2), .val (.int p3), .val (.int p4)] [(.int (1 : Int32)), (.int p4)])) _
              refine XS.icmpYes X17.here hx rfl (pc0 := 53) (pc' := 68) rfl (hb hby d2_53) rfl (tlt hc27).1 (by decide) (by decide) ?_
              show Steps p.tables e below (T17.setTop (mkF m 68 #[.val (.ref a1), .val (.int p2), .val (.int p3), .val (.int p4)] [])) _
              exact kt)
            exact kk25 ⟨T17, _, X17, e17, N17, by rw [own_b1]; simp [hc27], ch28⟩
          · obtain ⟨_, _, ⟨T29, L29, k29, n29⟩, -, X29, ⟨Lc29, hQ29, l29, y29, z29⟩, st29⟩ := Jvm.LawKit.callS X17 hx (y := (⟨"com/example/humble_match/humblematch/PartialMatchTableAdvancePinLaw", "ends", "([IIII)Z"⟩ : MethodName)) hown (mvT hZ (hw _ (List.mem_of_getElem? (i := 14) rfl))) (mvT hZ (hw _ (List.mem_of_getElem? (i := 15) rfl))) (mvT hZ (hw _ (List.mem_of_getElem? (i := 8) rfl))) (mvT hZ (hw _ (List.mem_of_getElem? (i := 16) rfl))) (by decide) (backOf (W := 0) (rmE1 l Z a0 hw [] a1 p2 p3 k1 z f h0 n0 Z0 V_1 (own_hz (own_kk p4 (1 : Int32) z p2 hKm hc27).1) (own_okz p2 z (1 : Int32) hB ⟨by decide, by decide, (own_kk p4 (1 : Int32) z p2 hKm hc27).2⟩)) hZ (hw _ (List.mem_of_getElem? (i := 16) rfl)) (hw _ (List.mem_of_getElem? (i := 8) rfl)) (by decide) (by decide)) (g := (mkF m 60 #[.val (.ref a1), .val (.int p2), .val (.int p3), .val (.int p4)] [(.int (1 : Int32)), (.int p3), (.int p2), (.ref a1)])) rfl (by rw [hml]; rfl) (argsL := [(.ref a1), (.int p2), (.int p3), (.int (1 : Int32))]) (rest := []) (lenOf pd_3 rfl) rfl (by show 2 * 0 + _ ≤ _; exact Nat.le_of_eq rfl) (hb hby d2_60) (fun _ _ => ⟨rfl, e17, (by decide : 0 + 0 ≤ _), (by decide : 0 + 0 ≤ _)⟩)
            dsimp only [Pt.U, Pt.locs, Pt.cells, Pt.slots] at X29 l29 y29 z29 st29 hQ29
            subst l29 y29 z29
            obtain ⟨rfl, N29q, r29_0⟩ := hQ29
            have N29 := Fr.app N17 N29q
            have ch30 : Goes p e below s₁ (entryFrame m #[(.ref a1), (.int p2), (.int p3), (.int p4)] 4) T29 (mkF m 63 #[.val (.ref a1), .val (.int p2), .val (.int p3), .val (.int p4)] [(.int (own_e1 f p2 p3))]) := fun t kt => ch26 t (by
              show Steps p.tables e below (T17.setTop (mkF m 53 #[.val (.ref a1), .val (.int p2), .val (.int p3), .val (.int p4)] [(.int (1 : Int32)), (.int p4)])) _
              refine XS.icmpNo X17.here hx rfl (hb hby d2_53) rfl (flt hc27).1 ?_
              show Steps p.tables e below (T17.setTop (mkF m 56 #[.val (.ref a1), .val (.int p2), .val (.int p3), .val (.int p4)] [])) _
              refine XS.aloadN X17.here hx rfl (hb hby d2_56) rfl rfl ?_
              show Steps p.tables e below (T17.setTop (mkF m 57 #[.val (.ref a1), .val (.int p2), .val (.int p3), .val (.int p4)] [(.ref a1)])) _
              refine XS.iloadN X17.here hx rfl (hb hby d2_57) rfl ?_
              show Steps p.tables e below (T17.setTop (mkF m 58 #[.val (.ref a1), .val (.int p2), .val (.int p3), .val (.int p4)] [(.int p2), (.ref a1)])) _
              refine XS.iloadN X17.here hx rfl (hb hby d2_58) rfl ?_
              show Steps p.tables e below (T17.setTop (mkF m 59 #[.val (.ref a1), .val (.int p2), .val (.int p3), .val (.int p4)] [(.int p3), (.int p2), (.ref a1)])) _
              refine XS.iconst X17.here hx rfl (hb hby d2_59) ?_
              show Steps p.tables e below (T17.setTop (mkF m 60 #[.val (.ref a1), .val (.int p2), .val (.int p3), .val (.int p4)] [(.int (1 : Int32)), (.int p3), (.int p2), (.ref a1)])) _
              refine st29 _ ?_
              show Steps p.tables e below (T29.setTop (mkF m 63 #[.val (.ref a1), .val (.int p2), .val (.int p3), .val (.int p4)] [(.int (own_e1 f p2 p3))])) _
              exact kt)
            by_cases hc31 : (own_e1 f p2 p3) = (0 : Int32)
            · have ch32 : Goes p e below s₁ (entryFrame m #[(.ref a1), (.int p2), (.int p3), (.int p4)] 4) T29 (mkF m 68 #[.val (.ref a1), .val (.int p2), .val (.int p3), .val (.int p4)] []) := fun t kt => ch30 t (by
                show Steps p.tables e below (T29.setTop (mkF m 63 #[.val (.ref a1), .val (.int p2), .val (.int p3), .val (.int p4)] [(.int (own_e1 f p2 p3))])) _
                refine XS.ifYes X29.here hx rfl (pc0 := 63) (pc' := 68) rfl (hb hby d2_63) rfl ((if0 _ _).trans (teq hc31).1) (by decide) (by decide) ?_
                show Steps p.tables e below (T29.setTop (mkF m 68 #[.val (.ref a1), .val (.int p2), .val (.int p3), .val (.int p4)] [])) _
                exact kt)
              exact kk25 ⟨T29, _, X29, r29_0, N29, by rw [own_b1]; simp [hc27, hc31], ch32⟩
            · have hv : (1 : Int32) = own_b4 f p2 p3 p4 := by
                rw [i1]
                rw [i9]
                rw [i17]
                rw [own_b1]; simp [hc27, hc31]
              obtain ⟨fs, hr, hrun, hended, hW, hsame⟩ := X29.leave (v := some (.int (1 : Int32))) (fun h => by rw [Bd.returns] at h; cases h)
              refine ⟨_, _, ch30 _ ?_, hrun, hended, _, _, rfl, ?_, ⟨_, rfl⟩, hW, hsame.mono (by decide) (by decide)⟩
              · show Steps p.tables e below (T29.setTop (mkF m 63 #[.val (.ref a1), .val (.int p2), .val (.int p3), .val (.int p4)] [(.int (own_e1 f p2 p3))])) _
                refine XS.ifNo X29.here hx rfl (hb hby d2_63) rfl ((if0 _ _).trans (feq hc31).1) ?_
                show Steps p.tables e below (T29.setTop (mkF m 66 #[.val (.ref a1), .val (.int p2), .val (.int p3), .val (.int p4)] [])) _
                refine XS.iconst X29.here hx rfl (hb hby d2_66) ?_
                show Steps p.tables e below (T29.setTop (mkF m 67 #[.val (.ref a1), .val (.int p2), .val (.int p3), .val (.int p4)] [(.int (1 : Int32))])) _
                exact retI X29 hx Bd.returns (hb hby d2_67) hr
              · show Q2 Z a1 p2 p3 p4 k1 z f h0 n0 _ T29.heap _
                rw [r29_0]
                exact ⟨congrArg (fun z => some (Value.int z)) hv, N29, rfl⟩
        · rintro ⟨T25, lo25, X25, e25, N25, i25, ch25⟩
          have hv : (0 : Int32) = own_b4 f p2 p3 p4 := by
            rw [i1]
            rw [i9]
            rw [i17]
            rw [i25]
            rfl
          obtain ⟨fs, hr, hrun, hended, hW, hsame⟩ := X25.leave (v := some (.int (0 : Int32))) (fun h => by rw [Bd.returns] at h; cases h)
          refine ⟨_, _, ch25 _ ?_, hrun, hended, _, _, rfl, ?_, ⟨_, rfl⟩, hW, hsame.mono (by decide) (by decide)⟩
          · show Steps p.tables e below (T25.setTop (mkF m 68 #[.val (.ref a1), .val (.int p2), .val (.int p3), .val (.int p4)] [])) _
            refine XS.iconst X25.here hx rfl (hb hby d2_68) ?_
            show Steps p.tables e below (T25.setTop (mkF m 69 #[.val (.ref a1), .val (.int p2), .val (.int p3), .val (.int p4)] [(.int (0 : Int32))])) _
            exact retI X25 hx Bd.returns (hb hby d2_69) hr
          · show Q2 Z a1 p2 p3 p4 k1 z f h0 n0 _ T25.heap _
            rw [e25]
            exact ⟨congrArg (fun z => some (Value.int z)) hv, N25, rfl⟩
theorem d1_0 : decode jdk_29_method_69_code 0 = .ok (.iload_n 0, 1) := by decide +kernel
theorem d1_1 : decode jdk_29_method_69_code 1 = .ok (.iload_n 1, 1) := by decide +kernel
theorem d1_2 : decode jdk_29_method_69_code 2 = .ok (.if_icmp .gt 7, 3) := by decide +kernel
theorem d1_5 : decode jdk_29_method_69_code 5 = .ok (.iload_n 0, 1) := by decide +kernel
theorem d1_6 : decode jdk_29_method_69_code 6 = .ok (.goto 4, 3) := by decide +kernel
theorem d1_9 : decode jdk_29_method_69_code 9 = .ok (.iload_n 1, 1) := by decide +kernel
theorem d1_10 : decode jdk_29_method_69_code 10 = .ok (.ireturn, 1) := by decide +kernel
theorem ef_1 (m : MethodId) (p1 : Int32) (p2 : Int32) : entryFrame m #[(.int p1), (.int p2)] 2 = mkF m 0 #[.val (.int p1), .val (.int p2)] [] := by first | (simp [entryFrame, mkF, argsToLocals, Value.category]; done) | rfl
def Q1 (Z : State) (p1 : Int32) (p2 : Int32) (h0 : Heap) (n0 : Nat) (v : Option Value) (h : Heap) (L : List Loc) : Prop := v = some (.int (own_min p1 p2)) ∧ Fr n0 L ∧ h = h0
set_option maxRecDepth 65536 in
set_option maxHeartbeats 40000000 in
theorem rm1 (l : Launch) (Z : State) (a0 : Array Value) (hw : ∀ d ∈ tables_1, d.before a0 Z = true) (ws : List Jvm.Cond) (p1 : Int32) (p2 : Int32) (h0 : Heap) (n0 : Nat) (Z0 : n0 ≤ h0.size) :
    MetFree l (⟨"java/lang/Math", "min", "(II)I"⟩ : MethodName) (head1 (Jvm.Cond.code (⟨"java/lang/Math", "min", "(II)I"⟩ : MethodName) jdk_29_method_69_code 2 (some .int) :: ws) ({ frames := 0, cells := 0, slots := 0, locals := 0 } : Room)) (fun a U => a = #[(.int p1), (.int p2)] ∧ Z.Warmed39 U.vm ∧ U.heap = h0) (fun _ _ _ _ _ => True) (fun _ U o U' => ∃ v L, o = .returned v ∧ Q1 Z p1 p2 h0 n0 v U'.heap L ∧ FrameEnd U o U' L ({ frames := 0, cells := 0, slots := 0, locals := 0 } : Room).cells ({ frames := 0, cells := 0, slots := 0, locals := 0 } : Room).slots) := by
  refine MetFree.of_bodySF (Jvm.Free.JP.mathPlain rfl (by decide +kernel)) hisR ?_
  intro p e s m args below meth c s₁ Bd hml0 hP hK
  obtain ⟨rfl, hZ, hh⟩ := hP
  have hx := Bd.exec
  have hby := Bd.bytes
  have hml : c.maxLocals = 2 := hml0
  have hown : s.vm.findClass "java/lang/Math" = some m.cls := findClass_of_methodNamed Bd.named
  have hnm := (name_of_methodNamed Bd.named Bd.method).1
  have X0 : Stand p l e ({ frames := 0, cells := 0, slots := 0, locals := 0 } : Room) s m #[(.int p1), (.int p2)] below meth c s₁ [] 0 0 := Stand.of_body Bd
  have e0 : s₁.heap = h0 := by rw [← hh, Bd.state]; rfl
  have N0 := Fr.nil n0
  have pre0 : ∀ t, Steps p.tables e below (s₁.setTop (mkF m 0 #[.val (.int p1), .val (.int p2)] [])) t → Steps p.tables e below (s₁.setTop (entryFrame m #[(.int p1), (.int p2)] 2)) t := fun t k => castTop (ef_1 m p1 p2) k
  have K0 : Keep h0 h0 [] := Keep.refl h0 []
  have ch1 : Goes p e below s₁ (entryFrame m #[(.int p1), (.int p2)] 2) s₁ (mkF m 2 #[.val (.int p1), .val (.int p2)] [(.int p2), (.int p1)]) := fun t kt => pre0 t (by
    show Steps p.tables e below (s₁.setTop (mkF m 0 #[.val (.int p1), .val (.int p2)] [])) _
    refine XS.iloadN X0.here hx rfl (hb hby d1_0) rfl ?_
    show Steps p.tables e below (s₁.setTop (mkF m 1 #[.val (.int p1), .val (.int p2)] [(.int p1)])) _
    refine XS.iloadN X0.here hx rfl (hb hby d1_1) rfl ?_
    show Steps p.tables e below (s₁.setTop (mkF m 2 #[.val (.int p1), .val (.int p2)] [(.int p2), (.int p1)])) _
    exact kt)
  by_cases hc2 : p2 < p1
  · have hv : p2 = own_min p1 p2 := by simp [own_min, hc2]
    obtain ⟨fs, hr, hrun, hended, hW, hsame⟩ := X0.leave (v := some (.int p2)) (fun h => by rw [Bd.returns] at h; cases h)
    refine ⟨_, _, ch1 _ ?_, hrun, hended, _, _, rfl, ?_, ⟨_, rfl⟩, hW, hsame.mono (by decide) (by decide)⟩
    · show Steps p.tables e below (s₁.setTop (mkF m 2 #[.val (.int p1), .val (.int p2)] [(.int p2), (.int p1)])) _
      refine XS.icmpYes X0.here hx rfl (pc0 := 2) (pc' := 9) rfl (hb hby d1_2) rfl (tlt hc2).2.2.1 (by decide) (by decide) ?_
      show Steps p.tables e below (s₁.setTop (mkF m 9 #[.val (.int p1), .val (.int p2)] [])) _
      refine XS.iloadN X0.here hx rfl (hb hby d1_9) rfl ?_
      show Steps p.tables e below (s₁.setTop (mkF m 10 #[.val (.int p1), .val (.int p2)] [(.int p2)])) _
      exact retI X0 hx Bd.returns (hb hby d1_10) hr
    · show Q1 Z p1 p2 h0 n0 _ s₁.heap _
      rw [e0]
      exact ⟨congrArg (fun z => some (Value.int z)) hv, N0, rfl⟩
  · have hv : p1 = own_min p1 p2 := by simp [own_min, hc2]
    obtain ⟨fs, hr, hrun, hended, hW, hsame⟩ := X0.leave (v := some (.int p1)) (fun h => by rw [Bd.returns] at h; cases h)
    refine ⟨_, _, ch1 _ ?_, hrun, hended, _, _, rfl, ?_, ⟨_, rfl⟩, hW, hsame.mono (by decide) (by decide)⟩
    · show Steps p.tables e below (s₁.setTop (mkF m 2 #[.val (.int p1), .val (.int p2)] [(.int p2), (.int p1)])) _
      refine XS.icmpNo X0.here hx rfl (hb hby d1_2) rfl (flt hc2).2.2.1 ?_
      show Steps p.tables e below (s₁.setTop (mkF m 5 #[.val (.int p1), .val (.int p2)] [])) _
      refine XS.iloadN X0.here hx rfl (hb hby d1_5) rfl ?_
      show Steps p.tables e below (s₁.setTop (mkF m 6 #[.val (.int p1), .val (.int p2)] [(.int p1)])) _
      refine XS.goto X0.here hx rfl (pc0 := 6) (pc' := 10) rfl (hb hby d1_6) (by decide) (by decide) ?_
      show Steps p.tables e below (s₁.setTop (mkF m 10 #[.val (.int p1), .val (.int p2)] [(.int p1)])) _
      exact retI X0 hx Bd.returns (hb hby d1_10) hr
    · show Q1 Z p1 p2 h0 n0 _ s₁.heap _
      rw [e0]
      exact ⟨congrArg (fun z => some (Value.int z)) hv, N0, rfl⟩
theorem own_x0b (g : Nat → Int32) (z m : Int32) (hB : own_B m z) (hg : ∀ i : Nat, (i : Int) < m.toInt → 0 ≤ (g i).toInt ∧ (g i).toInt ≤ i) : 0 ≤ (own_x0 g z m).toInt ∧ (own_x0 g z m).toInt ≤ m.toInt ∧ ((own_x0 g z m).toInt < z.toInt ∨ own_x0 g z m = 0) := by
  obtain ⟨b1, b2, b3⟩ := hB
  unfold own_x0
  split
  · rename_i he
    subst he
    split
    · rename_i h
      rw [Int32.lt_iff_toInt_lt, own_z0] at h
      have h1 := c_isub m (1 : Int32); have r1 := rng32 (m - (1 : Int32))
      rw [own_z1] at h1
      have e1 : (m - (1 : Int32)).toInt = m.toInt - 1 := by omega
      have e2 := own_ii (m - (1 : Int32)) (by omega)
      have e3 := hg (own_i (m - (1 : Int32))) (by omega)
      exact ⟨e3.1, by omega, Or.inl (by omega)⟩
    · rename_i h
      rw [Int32.lt_iff_toInt_lt, own_z0] at h
      refine ⟨b1, by omega, Or.inr ?_⟩
      apply Int32.toInt_inj.mp; rw [own_z0]; omega
  · rename_i he
    refine ⟨b1, by omega, Or.inl ?_⟩
    have : m.toInt ≠ z.toInt := fun q => he (Int32.toInt_inj.mp q)
    omega
theorem own_gb (g : Nat → Int32) (z m u : Int32) (hB : own_B m z) (hg : ∀ i : Nat, (i : Int) < m.toInt → 0 ≤ (g i).toInt ∧ (g i).toInt ≤ i) (h1 : u.toInt ≤ m.toInt) (hu : (0 : Int32) < u) :
    (¬ (u - (1 : Int32)) < (0 : Int32) ∧ (u - (1 : Int32)) < z) ∧ (u - (1 : Int32)).toNatClampNeg < 4 ∧ 0 ≤ (g (own_i (u - (1 : Int32)))).toInt ∧ (g (own_i (u - (1 : Int32)))).toInt < u.toInt := by
  obtain ⟨b1, b2, b3⟩ := hB
  rw [Int32.lt_iff_toInt_lt, own_z0] at hu
  have q1 := c_isub u (1 : Int32); have r1 := rng32 (u - (1 : Int32))
  rw [own_z1] at q1
  have e1 : (u - (1 : Int32)).toInt = u.toInt - 1 := by omega
  have e2 := own_ii (u - (1 : Int32)) (by omega)
  have e3 := hg (own_i (u - (1 : Int32))) (by omega)
  exact ⟨⟨by rw [Int32.lt_iff_toInt_lt, own_z0]; omega, by rw [Int32.lt_iff_toInt_lt]; omega⟩, own_clamp _ (by omega), e3.1, by omega⟩
theorem own_ub (z m u : Int32) (hB : own_B m z) (h0 : 0 ≤ u.toInt) (h1 : u.toInt ≤ m.toInt) (h2 : u.toInt < z.toInt) : (¬ u < (0 : Int32) ∧ u < z) ∧ u.toNatClampNeg < 4 := by
  obtain ⟨b1, b2, b3⟩ := hB
  exact ⟨⟨by rw [Int32.lt_iff_toInt_lt, own_z0]; omega, by rw [Int32.lt_iff_toInt_lt]; omega⟩, own_clamp _ (by omega)⟩
theorem own_lpb {α : Type} [DecidableEq α] (f : Nat → α) (g : Nat → Int32) (z m : Int32) (c : α) (hB : own_B m z) (hg : ∀ i : Nat, (i : Int) < m.toInt → 0 ≤ (g i).toInt ∧ (g i).toInt ≤ i) : ∀ (k : Nat) (u : Int32), 0 ≤ u.toInt → u.toInt ≤ m.toInt → 0 ≤ (own_lp f g c k u).toInt ∧ (own_lp f g c k u).toInt ≤ u.toInt := by
  intro k
  induction k with
  | zero => intro u h0 h1; exact ⟨h0, Int.le_refl _⟩
  | succ k ih =>
    intro u h0 h1
    unfold own_lp
    split
    · rename_i hu
      split
      · exact ⟨h0, Int.le_refl _⟩
      · have q := own_gb g z m u hB hg h1 hu
        have r := ih (g (own_i (u - (1 : Int32)))) q.2.2.1 (by omega)
        exact ⟨r.1, by omega⟩
    · exact ⟨h0, Int.le_refl _⟩
theorem d3_0 : decode prog_22_method_4_code 0 = .ok (.aload_n 0, 1) := by decide +kernel
theorem d3_1 : decode prog_22_method_4_code 1 = .ok (.arraylength, 1) := by decide +kernel
theorem d3_2 : decode prog_22_method_4_code 2 = .ok (.istore 4, 2) := by decide +kernel
theorem d3_4 : decode prog_22_method_4_code 4 = .ok (.iload_n 2, 1) := by decide +kernel
theorem d3_5 : decode prog_22_method_4_code 5 = .ok (.istore 5, 2) := by decide +kernel
theorem d3_7 : decode prog_22_method_4_code 7 = .ok (.iload 5, 2) := by decide +kernel
theorem d3_9 : decode prog_22_method_4_code 9 = .ok (.iload 4, 2) := by decide +kernel
theorem d3_11 : decode prog_22_method_4_code 11 = .ok (.if_icmp .ne 16, 3) := by decide +kernel
theorem d3_14 : decode prog_22_method_4_code 14 = .ok (.iload 4, 2) := by decide +kernel
theorem d3_16 : decode prog_22_method_4_code 16 = .ok (.ifCond .le 11, 3) := by decide +kernel
theorem d3_19 : decode prog_22_method_4_code 19 = .ok (.aload_n 1, 1) := by decide +kernel
theorem d3_20 : decode prog_22_method_4_code 20 = .ok (.iload 5, 2) := by decide +kernel
theorem d3_22 : decode prog_22_method_4_code 22 = .ok (.iconst 1, 1) := by decide +kernel
theorem d3_23 : decode prog_22_method_4_code 23 = .ok (.isub, 1) := by decide +kernel
theorem d3_24 : decode prog_22_method_4_code 24 = .ok (.iaload, 1) := by decide +kernel
theorem d3_25 : decode prog_22_method_4_code 25 = .ok (.istore 5, 2) := by decide +kernel
theorem d3_27 : decode prog_22_method_4_code 27 = .ok (.iload 5, 2) := by decide +kernel
theorem d3_29 : decode prog_22_method_4_code 29 = .ok (.ifCond .le 22, 3) := by decide +kernel
theorem d3_32 : decode prog_22_method_4_code 32 = .ok (.aload_n 0, 1) := by decide +kernel
theorem d3_33 : decode prog_22_method_4_code 33 = .ok (.iload 5, 2) := by decide +kernel
theorem d3_35 : decode prog_22_method_4_code 35 = .ok (.iaload, 1) := by decide +kernel
theorem d3_36 : decode prog_22_method_4_code 36 = .ok (.iload_n 3, 1) := by decide +kernel
theorem d3_37 : decode prog_22_method_4_code 37 = .ok (.if_icmp .eq 14, 3) := by decide +kernel
theorem d3_40 : decode prog_22_method_4_code 40 = .ok (.aload_n 1, 1) := by decide +kernel
theorem d3_41 : decode prog_22_method_4_code 41 = .ok (.iload 5, 2) := by decide +kernel
theorem d3_43 : decode prog_22_method_4_code 43 = .ok (.iconst 1, 1) := by decide +kernel
theorem d3_44 : decode prog_22_method_4_code 44 = .ok (.isub, 1) := by decide +kernel
theorem d3_45 : decode prog_22_method_4_code 45 = .ok (.iaload, 1) := by decide +kernel
theorem d3_46 : decode prog_22_method_4_code 46 = .ok (.istore 5, 2) := by decide +kernel
theorem d3_48 : decode prog_22_method_4_code 48 = .ok (.goto (-21), 3) := by decide +kernel
theorem d3_51 : decode prog_22_method_4_code 51 = .ok (.iload 5, 2) := by decide +kernel
theorem d3_53 : decode prog_22_method_4_code 53 = .ok (.iload 4, 2) := by decide +kernel
theorem d3_55 : decode prog_22_method_4_code 55 = .ok (.if_icmp .ge 14, 3) := by decide +kernel
theorem d3_58 : decode prog_22_method_4_code 58 = .ok (.aload_n 0, 1) := by decide +kernel
theorem d3_59 : decode prog_22_method_4_code 59 = .ok (.iload 5, 2) := by decide +kernel
theorem d3_61 : decode prog_22_method_4_code 61 = .ok (.iaload, 1) := by decide +kernel
theorem d3_62 : decode prog_22_method_4_code 62 = .ok (.iload_n 3, 1) := by decide +kernel
theorem d3_63 : decode prog_22_method_4_code 63 = .ok (.if_icmp .ne 6, 3) := by decide +kernel
theorem d3_66 : decode prog_22_method_4_code 66 = .ok (.iinc 5 1, 3) := by decide +kernel
theorem d3_69 : decode prog_22_method_4_code 69 = .ok (.iload 5, 2) := by decide +kernel
theorem d3_71 : decode prog_22_method_4_code 71 = .ok (.ireturn, 1) := by decide +kernel
theorem pn_3 : plainName "com/example/humble_match/humblematch/PartialMatchTable" = true := by first | (simp [plainName, overriddenIn]; done) | decide +kernel
theorem ef_3 (m : MethodId) (a1 : Addr) (a2 : Addr) (p3 : Int32) (p4 : Int32) : entryFrame m #[(.ref a1), (.ref a2), (.int p3), (.int p4)] 6 = mkF m 0 #[.val (.ref a1), .val (.ref a2), .val (.int p3), .val (.int p4), .unset, .unset] [] := by first | (simp [entryFrame, mkF, argsToLocals, Value.category]; done) | rfl
def Q3 (Z : State) (a1 : Addr) (a2 : Addr) (p3 : Int32) (p4 : Int32) (k1 : ClassId) (k2 : ClassId) (z : Int32) (f : Nat → Int32) (g : Nat → Int32) (h0 : Heap) (n0 : Nat) (v : Option Value) (h : Heap) (L : List Loc) : Prop := v = some (.int (own_adv f g z p3 p4)) ∧ Fr n0 L ∧ h = h0
set_option maxRecDepth 65536 in
set_option maxHeartbeats 40000000 in
theorem rm3 (l : Launch) (Z : State) (a0 : Array Value) (hw : ∀ d ∈ tables_1, d.before a0 Z = true) (ws : List Jvm.Cond) (a1 : Addr) (a2 : Addr) (p3 : Int32) (p4 : Int32) (k1 : ClassId) (k2 : ClassId) (z : Int32) (f : Nat → Int32) (g : Nat → Int32) (h0 : Heap) (n0 : Nat) (Z0 : n0 ≤ h0.size) (V_1 : Arv Z h0 a1 k1 .int z (own_v4 f) (.int (0 : Int32))) (V_2 : Arv Z h0 a2 k2 .int z (own_v4 g) (.int (0 : Int32))) (hB : own_B p3 z) (hg : ∀ i : Nat, (i : Int) < p3.toInt → 0 ≤ (g i).toInt ∧ (g i).toInt ≤ i) :
    MetFree l (⟨"com/example/humble_match/humblematch/PartialMatchTable", "advance", "([I[III)I"⟩ : MethodName) (head1 (Jvm.Cond.code (⟨"com/example/humble_match/humblematch/PartialMatchTable", "advance", "([I[III)I"⟩ : MethodName) prog_22_method_4_code 6 (some .int) :: ws) ({ frames := 0, cells := 0, slots := 0, locals := 0 } : Room)) (fun a U => a = #[(.ref a1), (.ref a2), (.int p3), (.int p4)] ∧ Z.Warmed39 U.vm ∧ U.heap = h0) (fun _ _ _ _ _ => True) (fun _ U o U' => ∃ v L, o = .returned v ∧ Q3 Z a1 a2 p3 p4 k1 k2 z f g h0 n0 v U'.heap L ∧ FrameEnd U o U' L ({ frames := 0, cells := 0, slots := 0, locals := 0 } : Room).cells ({ frames := 0, cells := 0, slots := 0, locals := 0 } : Room).slots) := by
  refine MetFree.of_bodySF (plainFor_of_name pn_3) hisR ?_
  intro p e s m args below meth c s₁ Bd hml0 hP hK
  obtain ⟨rfl, hZ, hh⟩ := hP
  have hx := Bd.exec
  have hby := Bd.bytes
  have hml : c.maxLocals = 6 := hml0
  have hown : s.vm.findClass "com/example/humble_match/humblematch/PartialMatchTable" = some m.cls := findClass_of_methodNamed Bd.named
  have hnm := (name_of_methodNamed Bd.named Bd.method).1
  have X0 : Stand p l e ({ frames := 0, cells := 0, slots := 0, locals := 0 } : Room) s m #[(.ref a1), (.ref a2), (.int p3), (.int p4)] below meth c s₁ [] 0 0 := Stand.of_body Bd
  have e0 : s₁.heap = h0 := by rw [← hh, Bd.state]; rfl
  have N0 := Fr.nil n0
  have pre0 : ∀ t, Steps p.tables e below (s₁.setTop (mkF m 0 #[.val (.ref a1), .val (.ref a2), .val (.int p3), .val (.int p4), .unset, .unset] [])) t → Steps p.tables e below (s₁.setTop (entryFrame m #[(.ref a1), (.ref a2), (.int p3), (.int p4)] 6)) t := fun t k => castTop (ef_3 m a1 a2 p3 p4) k
  have K0 : Keep h0 h0 [] := Keep.refl h0 []
  obtain ⟨cl1, Ar1, -, S1, M1, -, -⟩ := id V_1
  have ch2 : Goes p e below s₁ (entryFrame m #[(.ref a1), (.ref a2), (.int p3), (.int p4)] 6) s₁ (mkF m 7 #[.val (.ref a1), .val (.ref a2), .val (.int p3), .val (.int p4), .val (.int z), .val (.int p3)] []) := fun t kt => pre0 t (by
    show Steps p.tables e below (s₁.setTop (mkF m 0 #[.val (.ref a1), .val (.ref a2), .val (.int p3), .val (.int p4), .unset, .unset] [])) _
    refine XS.aloadN X0.here hx rfl (hb hby d3_0) rfl rfl ?_
    show Steps p.tables e below (s₁.setTop (mkF m 1 #[.val (.ref a1), .val (.ref a2), .val (.int p3), .val (.int p4), .unset, .unset] [(.ref a1)])) _
    refine X0.arraylength hx (by rw [e0]; exact Ar1.1) (State.isArrayOf_alike hZ.alike Ar1.2.1) (g := (mkF m 1 #[.val (.ref a1), .val (.ref a2), .val (.int p3), .val (.int p4), .unset, .unset] [(.ref a1)])) rfl rfl (hb hby d3_1) _ ?_
    rw [len_of S1 M1]
    show Steps p.tables e below (s₁.setTop (mkF m 2 #[.val (.ref a1), .val (.ref a2), .val (.int p3), .val (.int p4), .unset, .unset] [(.int z)])) _
    refine XS.istore X0.here hx rfl (hb hby d3_2) rfl (l' := #[.val (.ref a1), .val (.ref a2), .val (.int p3), .val (.int p4), .val (.int z), .unset]) rfl ?_
    show Steps p.tables e below (s₁.setTop (mkF m 4 #[.val (.ref a1), .val (.ref a2), .val (.int p3), .val (.int p4), .val (.int z), .unset] [])) _
    refine XS.iloadN X0.here hx rfl (hb hby d3_4) rfl ?_
    show Steps p.tables e below (s₁.setTop (mkF m 5 #[.val (.ref a1), .val (.ref a2), .val (.int p3), .val (.int p4), .val (.int z), .unset] [(.int p3)])) _
    refine XS.istore X0.here hx rfl (hb hby d3_5) rfl (l' := #[.val (.ref a1), .val (.ref a2), .val (.int p3), .val (.int p4), .val (.int z), .val (.int p3)]) rfl ?_
    show Steps p.tables e below (s₁.setTop (mkF m 7 #[.val (.ref a1), .val (.ref a2), .val (.int p3), .val (.int p4), .val (.int z), .val (.int p3)] [])) _
    exact kt)
  refine cps (A := ∃ (T' : State) (locs' : List Loc) (x : Int32), Stand p l e ({ frames := 0, cells := 0, slots := 0, locals := 0 } : Room) s m #[(.ref a1), (.ref a2), (.int p3), (.int p4)] below meth c T' locs' 0 0 ∧ T'.heap = h0 ∧ Fr n0 locs' ∧ (x = own_x0 g z p3) ∧ Goes p e below s₁ (entryFrame m #[(.ref a1), (.ref a2), (.int p3), (.int p4)] 6) T' (mkF m 27 #[.val (.ref a1), .val (.ref a2), .val (.int p3), .val (.int p4), .val (.int z), .val (.int x)] [])) ?_ ?_
  · intro kk3
    have ch4 : Goes p e below s₁ (entryFrame m #[(.ref a1), (.ref a2), (.int p3), (.int p4)] 6) s₁ (mkF m 11 #[.val (.ref a1), .val (.ref a2), .val (.int p3), .val (.int p4), .val (.int z), .val (.int p3)] [(.int z), (.int p3)]) := fun t kt => ch2 t (by
      show Steps p.tables e below (s₁.setTop (mkF m 7 #[.val (.ref a1), .val (.ref a2), .val (.int p3), .val (.int p4), .val (.int z), .val (.int p3)] [])) _
      refine XS.iload X0.here hx rfl (hb hby d3_7) rfl ?_
      show Steps p.tables e below (s₁.setTop (mkF m 9 #[.val (.ref a1), .val (.ref a2), .val (.int p3), .val (.int p4), .val (.int z), .val (.int p3)] [(.int p3)])) _
      refine XS.iload X0.here hx rfl (hb hby d3_9) rfl ?_
      show Steps p.tables e below (s₁.setTop (mkF m 11 #[.val (.ref a1), .val (.ref a2), .val (.int p3), .val (.int p4), .val (.int z), .val (.int p3)] [(.int z), (.int p3)])) _
      exact kt)
    by_cases hc5 : p3 = z
    · have ch6 : Goes p e below s₁ (entryFrame m #[(.ref a1), (.ref a2), (.int p3), (.int p4)] 6) s₁ (mkF m 16 #[.val (.ref a1), .val (.ref a2), .val (.int p3), .val (.int p4), .val (.int z), .val (.int p3)] [(.int z)]) := fun t kt => ch4 t (by
        show Steps p.tables e below (s₁.setTop (mkF m 11 #[.val (.ref a1), .val (.ref a2), .val (.int p3), .val (.int p4), .val (.int z), .val (.int p3)] [(.int z), (.int p3)])) _
        refine XS.icmpNo X0.here hx rfl (hb hby d3_11) rfl (teq hc5).2 ?_
        show Steps p.tables e below (s₁.setTop (mkF m 14 #[.val (.ref a1), .val (.ref a2), .val (.int p3), .val (.int p4), .val (.int z), .val (.int p3)] [])) _
        refine XS.iload X0.here hx rfl (hb hby d3_14) rfl ?_
        show Steps p.tables e below (s₁.setTop (mkF m 16 #[.val (.ref a1), .val (.ref a2), .val (.int p3), .val (.int p4), .val (.int z), .val (.int p3)] [(.int z)])) _
        exact kt)
      by_cases hc7 : (0 : Int32) < z
      · obtain ⟨cl8, Ar8, -, S8, M8, H8, G8⟩ := id V_2
        have hin8 : ¬ ((p3 - (1 : Int32)) < 0 ∨ cl8.slots.size ≤ ((p3 - (1 : Int32))).toNatClampNeg) := inb_of S8 (own_gb g z p3 p3 hB hg (Int.le_refl _) (hc5.symm ▸ hc7)).1
        have hat8 : cl8.slots[((p3 - (1 : Int32))).toNatClampNeg]? = some (.int (g (own_i (p3 - (1 : Int32))))) := Has.at H8 hin8 (own_get g _ _ (own_gb g z p3 p3 hB hg (Int.le_refl _) (hc5.symm ▸ hc7)).2.1)
        have ch9 : Goes p e below s₁ (entryFrame m #[(.ref a1), (.ref a2), (.int p3), (.int p4)] 6) s₁ (mkF m 27 #[.val (.ref a1), .val (.ref a2), .val (.int p3), .val (.int p4), .val (.int z), .val (.int (g (own_i (p3 - (1 : Int32)))))] []) := fun t kt => ch6 t (by
          show Steps p.tables e below (s₁.setTop (mkF m 16 #[.val (.ref a1), .val (.ref a2), .val (.int p3), .val (.int p4), .val (.int z), .val (.int p3)] [(.int z)])) _
          refine XS.ifNo X0.here hx rfl (hb hby d3_16) rfl ((if0 _ _).trans (tlt hc7).2.2.2) ?_
          show Steps p.tables e below (s₁.setTop (mkF m 19 #[.val (.ref a1), .val (.ref a2), .val (.int p3), .val (.int p4), .val (.int z), .val (.int p3)] [])) _
          refine XS.aloadN X0.here hx rfl (hb hby d3_19) rfl rfl ?_
          show Steps p.tables e below (s₁.setTop (mkF m 20 #[.val (.ref a1), .val (.ref a2), .val (.int p3), .val (.int p4), .val (.int z), .val (.int p3)] [(.ref a2)])) _
          refine XS.iload X0.here hx rfl (hb hby d3_20) rfl ?_
          show Steps p.tables e below (s₁.setTop (mkF m 22 #[.val (.ref a1), .val (.ref a2), .val (.int p3), .val (.int p4), .val (.int z), .val (.int p3)] [(.int p3), (.ref a2)])) _
          refine XS.iconst X0.here hx rfl (hb hby d3_22) ?_
          show Steps p.tables e below (s₁.setTop (mkF m 23 #[.val (.ref a1), .val (.ref a2), .val (.int p3), .val (.int p4), .val (.int z), .val (.int p3)] [(.int (1 : Int32)), (.int p3), (.ref a2)])) _
          refine XS.isub X0.here hx rfl (hb hby d3_23) rfl ?_
          show Steps p.tables e below (s₁.setTop (mkF m 24 #[.val (.ref a1), .val (.ref a2), .val (.int p3), .val (.int p4), .val (.int z), .val (.int p3)] [(.int (p3 - (1 : Int32))), (.ref a2)])) _
          refine X0.iaload hx (j := (p3 - (1 : Int32))) (v := (.int (g (own_i (p3 - (1 : Int32)))))) (by rw [e0]; exact Ar8.1) (State.isArrayOf_alike hZ.alike Ar8.2.1) Ar8.2.2 hin8 hat8 (g := (mkF m 24 #[.val (.ref a1), .val (.ref a2), .val (.int p3), .val (.int p4), .val (.int z), .val (.int p3)] [(.int (p3 - (1 : Int32))), (.ref a2)])) rfl rfl (hb hby d3_24) _ ?_
          show Steps p.tables e below (s₁.setTop (mkF m 25 #[.val (.ref a1), .val (.ref a2), .val (.int p3), .val (.int p4), .val (.int z), .val (.int p3)] [(.int (g (own_i (p3 - (1 : Int32)))))])) _
          refine XS.istore X0.here hx rfl (hb hby d3_25) rfl (l' := #[.val (.ref a1), .val (.ref a2), .val (.int p3), .val (.int p4), .val (.int z), .val (.int (g (own_i (p3 - (1 : Int32)))))]) rfl ?_
          show Steps p.tables e below (s₁.setTop (mkF m 27 #[.val (.ref a1), .val (.ref a2), .val (.int p3), .val (.int p4), .val (.int z), .val (.int (g (own_i (p3 - (1 : Int32)))))] [])) _
          exact kt)
        exact kk3 ⟨s₁, _, (g (own_i (p3 - (1 : Int32)))), X0, e0, N0, by simp [own_x0, hc5, hc7], ch9⟩
      · have ch10 : Goes p e below s₁ (entryFrame m #[(.ref a1), (.ref a2), (.int p3), (.int p4)] 6) s₁ (mkF m 27 #[.val (.ref a1), .val (.ref a2), .val (.int p3), .val (.int p4), .val (.int z), .val (.int p3)] []) := fun t kt => ch6 t (by
          show Steps p.tables e below (s₁.setTop (mkF m 16 #[.val (.ref a1), .val (.ref a2), .val (.int p3), .val (.int p4), .val (.int z), .val (.int p3)] [(.int z)])) _
          refine XS.ifYes X0.here hx rfl (pc0 := 16) (pc' := 27) rfl (hb hby d3_16) rfl ((if0 _ _).trans (flt hc7).2.2.2) (by decide) (by decide) ?_
          show Steps p.tables e below (s₁.setTop (mkF m 27 #[.val (.ref a1), .val (.ref a2), .val (.int p3), .val (.int p4), .val (.int z), .val (.int p3)] [])) _
          exact kt)
        exact kk3 ⟨s₁, _, p3, X0, e0, N0, by simp [own_x0, hc5, hc7], ch10⟩
    · have ch11 : Goes p e below s₁ (entryFrame m #[(.ref a1), (.ref a2), (.int p3), (.int p4)] 6) s₁ (mkF m 27 #[.val (.ref a1), .val (.ref a2), .val (.int p3), .val (.int p4), .val (.int z), .val (.int p3)] []) := fun t kt => ch4 t (by
        show Steps p.tables e below (s₁.setTop (mkF m 11 #[.val (.ref a1), .val (.ref a2), .val (.int p3), .val (.int p4), .val (.int z), .val (.int p3)] [(.int z), (.int p3)])) _
        refine XS.icmpYes X0.here hx rfl (pc0 := 11) (pc' := 27) rfl (hb hby d3_11) rfl (feq hc5).2 (by decide) (by decide) ?_
        show Steps p.tables e below (s₁.setTop (mkF m 27 #[.val (.ref a1), .val (.ref a2), .val (.int p3), .val (.int p4), .val (.int z), .val (.int p3)] [])) _
        exact kt)
      exact kk3 ⟨s₁, _, p3, X0, e0, N0, by simp [own_x0, hc5], ch11⟩
  · rintro ⟨T3, lo3, x, X3, e3, N3, i3, ch3⟩
    have hxb := own_x0b g z p3 hB hg
    rw [← i3] at hxb
    have LP : ∀ (k : Nat) (u : Int32), u.toInt ≤ k → 0 ≤ u.toInt → u.toInt ≤ p3.toInt → (u.toInt < z.toInt ∨ u = 0) → Goes p e below T3 (mkF m 27 #[.val (.ref a1), .val (.ref a2), .val (.int p3), .val (.int p4), .val (.int z), .val (.int u)] []) T3 (mkF m 51 #[.val (.ref a1), .val (.ref a2), .val (.int p3), .val (.int p4), .val (.int z), .val (.int (own_lp f g p4 k u))] []) := by
      intro k
      induction k with
      | zero =>
        intro u h1 h2 h3 h4
        have hu : ¬ (0 : Int32) < u := by rw [Int32.lt_iff_toInt_lt, own_z0]; omega
        intro t kt
        show Steps p.tables e below (T3.setTop (mkF m 27 #[.val (.ref a1), .val (.ref a2), .val (.int p3), .val (.int p4), .val (.int z), .val (.int u)] [])) _
        refine XS.iload X3.here hx rfl (hb hby d3_27) rfl ?_
        show Steps p.tables e below (T3.setTop (mkF m 29 #[.val (.ref a1), .val (.ref a2), .val (.int p3), .val (.int p4), .val (.int z), .val (.int u)] [(.int u)])) _
        refine XS.ifYes X3.here hx rfl (pc0 := 29) (pc' := 51) rfl (hb hby d3_29) rfl ((if0 _ _).trans (flt hu).2.2.2) (by decide) (by decide) ?_
        show Steps p.tables e below (T3.setTop (mkF m 51 #[.val (.ref a1), .val (.ref a2), .val (.int p3), .val (.int p4), .val (.int z), .val (.int u)] [])) _
        exact kt
      | succ k ih =>
        intro u h1 h2 h3 h4
        by_cases hu : (0 : Int32) < u
        · have hu' := hu
          rw [Int32.lt_iff_toInt_lt, own_z0] at hu'
          have hub := own_ub z p3 u hB h2 h3 (h4.elim id (fun q => by rw [q, own_z0] at hu'; omega))
          have hgb := own_gb g z p3 u hB hg h3 hu
          by_cases hc : (f (own_i u)) = p4
          · have hq : own_lp f g p4 (k + 1) u = u := by simp [own_lp, hu, hc]
            obtain ⟨cl12, Ar12, -, S12, M12, H12, G12⟩ := id V_1
            have hin12 : ¬ (u < 0 ∨ cl12.slots.size ≤ (u).toNatClampNeg) := inb_of S12 hub.1
            have hat12 : cl12.slots[(u).toNatClampNeg]? = some (.int (f (own_i u))) := Has.at H12 hin12 (own_get f _ _ hub.2)
            intro t kt
            rw [hq] at kt
            show Steps p.tables e below (T3.setTop (mkF m 27 #[.val (.ref a1), .val (.ref a2), .val (.int p3), .val (.int p4), .val (.int z), .val (.int u)] [])) _
            refine XS.iload X3.here hx rfl (hb hby d3_27) rfl ?_
            show Steps p.tables e below (T3.setTop (mkF m 29 #[.val (.ref a1), .val (.ref a2), .val (.int p3), .val (.int p4), .val (.int z), .val (.int u)] [(.int u)])) _
            refine XS.ifNo X3.here hx rfl (hb hby d3_29) rfl ((if0 _ _).trans (tlt hu).2.2.2) ?_
            show Steps p.tables e below (T3.setTop (mkF m 32 #[.val (.ref a1), .val (.ref a2), .val (.int p3), .val (.int p4), .val (.int z), .val (.int u)] [])) _
            refine XS.aloadN X3.here hx rfl (hb hby d3_32) rfl rfl ?_
            show Steps p.tables e below (T3.setTop (mkF m 33 #[.val (.ref a1), .val (.ref a2), .val (.int p3), .val (.int p4), .val (.int z), .val (.int u)] [(.ref a1)])) _
            refine XS.iload X3.here hx rfl (hb hby d3_33) rfl ?_
            show Steps p.tables e below (T3.setTop (mkF m 35 #[.val (.ref a1), .val (.ref a2), .val (.int p3), .val (.int p4), .val (.int z), .val (.int u)] [(.int u), (.ref a1)])) _
            refine X3.iaload hx (j := u) (v := (.int (f (own_i u)))) (by rw [e3]; exact Ar12.1) (State.isArrayOf_alike hZ.alike Ar12.2.1) Ar12.2.2 hin12 hat12 (g := (mkF m 35 #[.val (.ref a1), .val (.ref a2), .val (.int p3), .val (.int p4), .val (.int z), .val (.int u)] [(.int u), (.ref a1)])) rfl rfl (hb hby d3_35) _ ?_
            show Steps p.tables e below (T3.setTop (mkF m 36 #[.val (.ref a1), .val (.ref a2), .val (.int p3), .val (.int p4), .val (.int z), .val (.int u)] [(.int (f (own_i u)))])) _
            refine XS.iloadN X3.here hx rfl (hb hby d3_36) rfl ?_
            show Steps p.tables e below (T3.setTop (mkF m 37 #[.val (.ref a1), .val (.ref a2), .val (.int p3), .val (.int p4), .val (.int z), .val (.int u)] [(.int p4), (.int (f (own_i u)))])) _
            refine XS.icmpYes X3.here hx rfl (pc0 := 37) (pc' := 51) rfl (hb hby d3_37) rfl (teq hc).1 (by decide) (by decide) ?_
            show Steps p.tables e below (T3.setTop (mkF m 51 #[.val (.ref a1), .val (.ref a2), .val (.int p3), .val (.int p4), .val (.int z), .val (.int u)] [])) _
            exact kt
          · have hq : own_lp f g p4 (k + 1) u = own_lp f g p4 k (g (own_i (u - (1 : Int32)))) := by simp [own_lp, hu, hc]
            obtain ⟨cl13, Ar13, -, S13, M13, H13, G13⟩ := id V_1
            have hin13 : ¬ (u < 0 ∨ cl13.slots.size ≤ (u).toNatClampNeg) := inb_of S13 hub.1
            have hat13 : cl13.slots[(u).toNatClampNeg]? = some (.int (f (own_i u))) := Has.at H13 hin13 (own_get f _ _ hub.2)
            obtain ⟨cl14, Ar14, -, S14, M14, H14, G14⟩ := id V_2
            have hin14 : ¬ ((u - (1 : Int32)) < 0 ∨ cl14.slots.size ≤ ((u - (1 : Int32))).toNatClampNeg) := inb_of S14 hgb.1
            have hat14 : cl14.slots[((u - (1 : Int32))).toNatClampNeg]? = some (.int (g (own_i (u - (1 : Int32))))) := Has.at H14 hin14 (own_get g _ _ hgb.2.1)
            intro t kt
            rw [hq] at kt
            show Steps p.tables e below (T3.setTop (mkF m 27 #[.val (.ref a1), .val (.ref a2), .val (.int p3), .val (.int p4), .val (.int z), .val (.int u)] [])) _
            refine XS.iload X3.here hx rfl (hb hby d3_27) rfl ?_
            show Steps p.tables e below (T3.setTop (mkF m 29 #[.val (.ref a1), .val (.ref a2), .val (.int p3), .val (.int p4), .val (.int z), .val (.int u)] [(.int u)])) _
            refine XS.ifNo X3.here hx rfl (hb hby d3_29) rfl ((if0 _ _).trans (tlt hu).2.2.2) ?_
            show Steps p.tables e below (T3.setTop (mkF m 32 #[.val (.ref a1), .val (.ref a2), .val (.int p3), .val (.int p4), .val (.int z), .val (.int u)] [])) _
            refine XS.aloadN X3.here hx rfl (hb hby d3_32) rfl rfl ?_
            show Steps p.tables e below (T3.setTop (mkF m 33 #[.val (.ref a1), .val (.ref a2), .val (.int p3), .val (.int p4), .val (.int z), .val (.int u)] [(.ref a1)])) _
            refine XS.iload X3.here hx rfl (hb hby d3_33) rfl ?_
            show Steps p.tables e below (T3.setTop (mkF m 35 #[.val (.ref a1), .val (.ref a2), .val (.int p3), .val (.int p4), .val (.int z), .val (.int u)] [(.int u), (.ref a1)])) _
            refine X3.iaload hx (j := u) (v := (.int (f (own_i u)))) (by rw [e3]; exact Ar13.1) (State.isArrayOf_alike hZ.alike Ar13.2.1) Ar13.2.2 hin13 hat13 (g := (mkF m 35 #[.val (.ref a1), .val (.ref a2), .val (.int p3), .val (.int p4), .val (.int z), .val (.int u)] [(.int u), (.ref a1)])) rfl rfl (hb hby d3_35) _ ?_
            show Steps p.tables e below (T3.setTop (mkF m 36 #[.val (.ref a1), .val (.ref a2), .val (.int p3), .val (.int p4), .val (.int z), .val (.int u)] [(.int (f (own_i u)))])) _
            refine XS.iloadN X3.here hx rfl (hb hby d3_36) rfl ?_
            show Steps p.tables e below (T3.setTop (mkF m 37 #[.val (.ref a1), .val (.ref a2), .val (.int p3), .val (.int p4), .val (.int z), .val (.int u)] [(.int p4), (.int (f (own_i u)))])) _
            refine XS.icmpNo X3.here hx rfl (hb hby d3_37) rfl (feq hc).1 ?_
            show Steps p.tables e below (T3.setTop (mkF m 40 #[.val (.ref a1), .val (.ref a2), .val (.int p3), .val (.int p4), .val (.int z), .val (.int u)] [])) _
            refine XS.aloadN X3.here hx rfl (hb hby d3_40) rfl rfl ?_
            show Steps p.tables e below (T3.setTop (mkF m 41 #[.val (.ref a1), .val (.ref a2), .val (.int p3), .val (.int p4), .val (.int z), .val (.int u)] [(.ref a2)])) _
            refine XS.iload X3.here hx rfl (hb hby d3_41) rfl ?_
            show Steps p.tables e below (T3.setTop (mkF m 43 #[.val (.ref a1), .val (.ref a2), .val (.int p3), .val (.int p4), .val (.int z), .val (.int u)] [(.int u), (.ref a2)])) _
            refine XS.iconst X3.here hx rfl (hb hby d3_43) ?_
            show Steps p.tables e below (T3.setTop (mkF m 44 #[.val (.ref a1), .val (.ref a2), .val (.int p3), .val (.int p4), .val (.int z), .val (.int u)] [(.int (1 : Int32)), (.int u), (.ref a2)])) _
            refine XS.isub X3.here hx rfl (hb hby d3_44) rfl ?_
            show Steps p.tables e below (T3.setTop (mkF m 45 #[.val (.ref a1), .val (.ref a2), .val (.int p3), .val (.int p4), .val (.int z), .val (.int u)] [(.int (u - (1 : Int32))), (.ref a2)])) _
            refine X3.iaload hx (j := (u - (1 : Int32))) (v := (.int (g (own_i (u - (1 : Int32)))))) (by rw [e3]; exact Ar14.1) (State.isArrayOf_alike hZ.alike Ar14.2.1) Ar14.2.2 hin14 hat14 (g := (mkF m 45 #[.val (.ref a1), .val (.ref a2), .val (.int p3), .val (.int p4), .val (.int z), .val (.int u)] [(.int (u - (1 : Int32))), (.ref a2)])) rfl rfl (hb hby d3_45) _ ?_
            show Steps p.tables e below (T3.setTop (mkF m 46 #[.val (.ref a1), .val (.ref a2), .val (.int p3), .val (.int p4), .val (.int z), .val (.int u)] [(.int (g (own_i (u - (1 : Int32)))))])) _
            refine XS.istore X3.here hx rfl (hb hby d3_46) rfl (l' := #[.val (.ref a1), .val (.ref a2), .val (.int p3), .val (.int p4), .val (.int z), .val (.int (g (own_i (u - (1 : Int32)))))]) rfl ?_
            show Steps p.tables e below (T3.setTop (mkF m 48 #[.val (.ref a1), .val (.ref a2), .val (.int p3), .val (.int p4), .val (.int z), .val (.int (g (own_i (u - (1 : Int32)))))] [])) _
            refine XS.goto X3.here hx rfl (pc0 := 48) (pc' := 27) rfl (hb hby d3_48) (by decide) (by decide) ?_
            show Steps p.tables e below (T3.setTop (mkF m 27 #[.val (.ref a1), .val (.ref a2), .val (.int p3), .val (.int p4), .val (.int z), .val (.int (g (own_i (u - (1 : Int32)))))] [])) _
            exact ih _ (by omega) hgb.2.2.1 (by omega) (Or.inl (by have := hB.2.1; omega)) t kt
        · have hq : own_lp f g p4 (k + 1) u = u := by simp [own_lp, hu]
          intro t kt
          rw [hq] at kt
          show Steps p.tables e below (T3.setTop (mkF m 27 #[.val (.ref a1), .val (.ref a2), .val (.int p3), .val (.int p4), .val (.int z), .val (.int u)] [])) _
          refine XS.iload X3.here hx rfl (hb hby d3_27) rfl ?_
          show Steps p.tables e below (T3.setTop (mkF m 29 #[.val (.ref a1), .val (.ref a2), .val (.int p3), .val (.int p4), .val (.int z), .val (.int u)] [(.int u)])) _
          refine XS.ifYes X3.here hx rfl (pc0 := 29) (pc' := 51) rfl (hb hby d3_29) rfl ((if0 _ _).trans (flt hu).2.2.2) (by decide) (by decide) ?_
          show Steps p.tables e below (T3.setTop (mkF m 51 #[.val (.ref a1), .val (.ref a2), .val (.int p3), .val (.int p4), .val (.int z), .val (.int u)] [])) _
          exact kt
    obtain ⟨y, hy⟩ : ∃ y : Int32, y = own_lp f g p4 4 x := ⟨_, rfl⟩
    have hyb := own_lpb f g z p3 p4 hB hg 4 x hxb.1 hxb.2.1
    rw [← hy] at hyb
    have ch15 : Goes p e below s₁ (entryFrame m #[(.ref a1), (.ref a2), (.int p3), (.int p4)] 6) T3 (mkF m 51 #[.val (.ref a1), .val (.ref a2), .val (.int p3), .val (.int p4), .val (.int z), .val (.int y)] []) := fun t kt => ch3 t (LP 4 x (by have := hB.2.1; have := hB.2.2; omega) hxb.1 hxb.2.1 hxb.2.2 t (by rw [← hy]; exact kt))
    have ch16 : Goes p e below s₁ (entryFrame m #[(.ref a1), (.ref a2), (.int p3), (.int p4)] 6) T3 (mkF m 55 #[.val (.ref a1), .val (.ref a2), .val (.int p3), .val (.int p4), .val (.int z), .val (.int y)] [(.int z), (.int y)]) := fun t kt => ch15 t (by
      show Steps p.tables e below (T3.setTop (mkF m 51 #[.val (.ref a1), .val (.ref a2), .val (.int p3), .val (.int p4), .val (.int z), .val (.int y)] [])) _
      refine XS.iload X3.here hx rfl (hb hby d3_51) rfl ?_
      show Steps p.tables e below (T3.setTop (mkF m 53 #[.val (.ref a1), .val (.ref a2), .val (.int p3), .val (.int p4), .val (.int z), .val (.int y)] [(.int y)])) _
      refine XS.iload X3.here hx rfl (hb hby d3_53) rfl ?_
      show Steps p.tables e below (T3.setTop (mkF m 55 #[.val (.ref a1), .val (.ref a2), .val (.int p3), .val (.int p4), .val (.int z), .val (.int y)] [(.int z), (.int y)])) _
      exact kt)
    by_cases hc17 : y < z
    · obtain ⟨cl18, Ar18, -, S18, M18, H18, G18⟩ := id V_1
      have hin18 : ¬ (y < 0 ∨ cl18.slots.size ≤ (y).toNatClampNeg) := inb_of S18 (own_ub z p3 y hB hyb.1 (by omega) (by have q := hc17; rw [Int32.lt_iff_toInt_lt] at q; exact q)).1
      have hat18 : cl18.slots[(y).toNatClampNeg]? = some (.int (f (own_i y))) := Has.at H18 hin18 (own_get f _ _ (own_ub z p3 y hB hyb.1 (by omega) (by have q := hc17; rw [Int32.lt_iff_toInt_lt] at q; exact q)).2)
      have ch19 : Goes p e below s₁ (entryFrame m #[(.ref a1), (.ref a2), (.int p3), (.int p4)] 6) T3 (mkF m 63 #[.val (.ref a1), .val (.ref a2), .val (.int p3), .val (.int p4), .val (.int z), .val (.int y)] [(.int p4), (.int (f (own_i y)))]) := fun t kt => ch16 t (by
        show Steps p.tables e below (T3.setTop (mkF m 55 #[.val (.ref a1), .val (.ref a2), .val (.int p3), .val (.int p4), .val (.int z), .val (.int y)] [(.int z), (.int y)])) _
        refine XS.icmpNo X3.here hx rfl (hb hby d3_55) rfl (tlt hc17).2.1 ?_
        show Steps p.tables e below (T3.setTop (mkF m 58 #[.val (.ref a1), .val (.ref a2), .val (.int p3), .val (.int p4), .val (.int z), .val (.int y)] [])) _
        refine XS.aloadN X3.here hx rfl (hb hby d3_58) rfl rfl ?_
        show Steps p.tables e below (T3.setTop (mkF m 59 #[.val (.ref a1), .val (.ref a2), .val (.int p3), .val (.int p4), .val (.int z), .val (.int y)] [(.ref a1)])) _
        refine XS.iload X3.here hx rfl (hb hby d3_59) rfl ?_
        show Steps p.tables e below (T3.setTop (mkF m 61 #[.val (.ref a1), .val (.ref a2), .val (.int p3), .val (.int p4), .val (.int z), .val (.int y)] [(.int y), (.ref a1)])) _
        refine X3.iaload hx (j := y) (v := (.int (f (own_i y)))) (by rw [e3]; exact Ar18.1) (State.isArrayOf_alike hZ.alike Ar18.2.1) Ar18.2.2 hin18 hat18 (g := (mkF m 61 #[.val (.ref a1), .val (.ref a2), .val (.int p3), .val (.int p4), .val (.int z), .val (.int y)] [(.int y), (.ref a1)])) rfl rfl (hb hby d3_61) _ ?_
        show Steps p.tables e below (T3.setTop (mkF m 62 #[.val (.ref a1), .val (.ref a2), .val (.int p3), .val (.int p4), .val (.int z), .val (.int y)] [(.int (f (own_i y)))])) _
        refine XS.iloadN X3.here hx rfl (hb hby d3_62) rfl ?_
        show Steps p.tables e below (T3.setTop (mkF m 63 #[.val (.ref a1), .val (.ref a2), .val (.int p3), .val (.int p4), .val (.int z), .val (.int y)] [(.int p4), (.int (f (own_i y)))])) _
        exact kt)
      by_cases hc20 : (f (own_i y)) = p4
      · have hv : (y + (1 : Int32)) = own_adv f g z p3 p4 := by rw [own_adv, ← i3, ← hy]; simp [own_fi, hc17, hc20]
        obtain ⟨fs, hr, hrun, hended, hW, hsame⟩ := X3.leave (v := some (.int (y + (1 : Int32)))) (fun h => by rw [Bd.returns] at h; cases h)
        refine ⟨_, _, ch19 _ ?_, hrun, hended, _, _, rfl, ?_, ⟨_, rfl⟩, hW, hsame.mono (by decide) (by decide)⟩
        · show Steps p.tables e below (T3.setTop (mkF m 63 #[.val (.ref a1), .val (.ref a2), .val (.int p3), .val (.int p4), .val (.int z), .val (.int y)] [(.int p4), (.int (f (own_i y)))])) _
          refine XS.icmpNo X3.here hx rfl (hb hby d3_63) rfl (teq hc20).2 ?_
          show Steps p.tables e below (T3.setTop (mkF m 66 #[.val (.ref a1), .val (.ref a2), .val (.int p3), .val (.int p4), .val (.int z), .val (.int y)] [])) _
          refine XS.iinc X3.here hx rfl (hb hby d3_66) rfl (l' := #[.val (.ref a1), .val (.ref a2), .val (.int p3), .val (.int p4), .val (.int z), .val (.int (y + (1 : Int32)))]) rfl ?_
          show Steps p.tables e below (T3.setTop (mkF m 69 #[.val (.ref a1), .val (.ref a2), .val (.int p3), .val (.int p4), .val (.int z), .val (.int (y + (1 : Int32)))] [])) _
          refine XS.iload X3.here hx rfl (hb hby d3_69) rfl ?_
          show Steps p.tables e below (T3.setTop (mkF m 71 #[.val (.ref a1), .val (.ref a2), .val (.int p3), .val (.int p4), .val (.int z), .val (.int (y + (1 : Int32)))] [(.int (y + (1 : Int32)))])) _
          exact retI X3 hx Bd.returns (hb hby d3_71) hr
        · show Q3 Z a1 a2 p3 p4 k1 k2 z f g h0 n0 _ T3.heap _
          rw [e3]
          exact ⟨congrArg (fun z => some (Value.int z)) hv, N3, rfl⟩
      · have hv : y = own_adv f g z p3 p4 := by rw [own_adv, ← i3, ← hy]; simp [own_fi, hc17, hc20]
        obtain ⟨fs, hr, hrun, hended, hW, hsame⟩ := X3.leave (v := some (.int y)) (fun h => by rw [Bd.returns] at h; cases h)
        refine ⟨_, _, ch19 _ ?_, hrun, hended, _, _, rfl, ?_, ⟨_, rfl⟩, hW, hsame.mono (by decide) (by decide)⟩
        · show Steps p.tables e below (T3.setTop (mkF m 63 #[.val (.ref a1), .val (.ref a2), .val (.int p3), .val (.int p4), .val (.int z), .val (.int y)] [(.int p4), (.int (f (own_i y)))])) _
          refine XS.icmpYes X3.here hx rfl (pc0 := 63) (pc' := 69) rfl (hb hby d3_63) rfl (feq hc20).2 (by decide) (by decide) ?_
          show Steps p.tables e below (T3.setTop (mkF m 69 #[.val (.ref a1), .val (.ref a2), .val (.int p3), .val (.int p4), .val (.int z), .val (.int y)] [])) _
          refine XS.iload X3.here hx rfl (hb hby d3_69) rfl ?_
          show Steps p.tables e below (T3.setTop (mkF m 71 #[.val (.ref a1), .val (.ref a2), .val (.int p3), .val (.int p4), .val (.int z), .val (.int y)] [(.int y)])) _
          exact retI X3 hx Bd.returns (hb hby d3_71) hr
        · show Q3 Z a1 a2 p3 p4 k1 k2 z f g h0 n0 _ T3.heap _
          rw [e3]
          exact ⟨congrArg (fun z => some (Value.int z)) hv, N3, rfl⟩
    · have hv : y = own_adv f g z p3 p4 := by rw [own_adv, ← i3, ← hy]; simp [own_fi, hc17]
      obtain ⟨fs, hr, hrun, hended, hW, hsame⟩ := X3.leave (v := some (.int y)) (fun h => by rw [Bd.returns] at h; cases h)
      refine ⟨_, _, ch16 _ ?_, hrun, hended, _, _, rfl, ?_, ⟨_, rfl⟩, hW, hsame.mono (by decide) (by decide)⟩
      · show Steps p.tables e below (T3.setTop (mkF m 55 #[.val (.ref a1), .val (.ref a2), .val (.int p3), .val (.int p4), .val (.int z), .val (.int y)] [(.int z), (.int y)])) _
        refine XS.icmpYes X3.here hx rfl (pc0 := 55) (pc' := 69) rfl (hb hby d3_55) rfl (flt hc17).2.1 (by decide) (by decide) ?_
        show Steps p.tables e below (T3.setTop (mkF m 69 #[.val (.ref a1), .val (.ref a2), .val (.int p3), .val (.int p4), .val (.int z), .val (.int y)] [])) _
        refine XS.iload X3.here hx rfl (hb hby d3_69) rfl ?_
        show Steps p.tables e below (T3.setTop (mkF m 71 #[.val (.ref a1), .val (.ref a2), .val (.int p3), .val (.int p4), .val (.int z), .val (.int y)] [(.int y)])) _
        exact retI X3 hx Bd.returns (hb hby d3_71) hr
      · show Q3 Z a1 a2 p3 p4 k1 k2 z f g h0 n0 _ T3.heap _
        rw [e3]
        exact ⟨congrArg (fun z => some (Value.int z)) hv, N3, rfl⟩
theorem own_i4 (x : Int32) : own_i x < 4 := by unfold own_i; omega
section Tr
variable {α β : Type} [DecidableEq α] [DecidableEq β] (φ : α → β) (f : Nat → α) (c : α) (hS : ∀ i j : Nat, i < 4 → j < 4 → (φ (f i) = φ (f j) ↔ f i = f j)) (hC : ∀ i : Nat, i < 4 → (φ (f i) = φ c ↔ f i = c))
theorem own_trs (hS : ∀ i j : Nat, i < 4 → j < 4 → (φ (f i) = φ (f j) ↔ f i = f j)) (hC : ∀ i : Nat, i < 4 → (φ (f i) = φ c ↔ f i = c)) (m : Int32) (j : Nat) (hj : j < 4) (i : Int32) : (φ (f j) = own_sym (fun i => φ (f i)) m (φ c) i ↔ f j = own_sym f m c i) := by
  unfold own_sym
  split
  · exact hS _ _ hj (own_i4 i)
  · exact hC _ hj
theorem own_tre1 (hS : ∀ i j : Nat, i < 4 → j < 4 → (φ (f i) = φ (f j) ↔ f i = f j)) (hC : ∀ i : Nat, i < 4 → (φ (f i) = φ c ↔ f i = c)) (m : Int32) : own_e1 (fun i => φ (f i)) m (φ c) = own_e1 f m c := by
  unfold own_e1; simp only [own_trs φ f c hS hC m 0 (by decide)]
theorem own_tre2 (hS : ∀ i j : Nat, i < 4 → j < 4 → (φ (f i) = φ (f j) ↔ f i = f j)) (hC : ∀ i : Nat, i < 4 → (φ (f i) = φ c ↔ f i = c)) (m : Int32) : own_e2 (fun i => φ (f i)) m (φ c) = own_e2 f m c := by
  unfold own_e2; simp only [own_trs φ f c hS hC m 0 (by decide), own_trs φ f c hS hC m 1 (by decide)]
theorem own_tre3 (hS : ∀ i j : Nat, i < 4 → j < 4 → (φ (f i) = φ (f j) ↔ f i = f j)) (hC : ∀ i : Nat, i < 4 → (φ (f i) = φ c ↔ f i = c)) (m : Int32) : own_e3 (fun i => φ (f i)) m (φ c) = own_e3 f m c := by
  unfold own_e3; simp only [own_trs φ f c hS hC m 0 (by decide), own_trs φ f c hS hC m 1 (by decide), own_trs φ f c hS hC m 2 (by decide)]
theorem own_tre4 (hS : ∀ i j : Nat, i < 4 → j < 4 → (φ (f i) = φ (f j) ↔ f i = f j)) (hC : ∀ i : Nat, i < 4 → (φ (f i) = φ c ↔ f i = c)) (m : Int32) : own_e4 (fun i => φ (f i)) m (φ c) = own_e4 f m c := by
  unfold own_e4; simp only [own_trs φ f c hS hC m 0 (by decide), own_trs φ f c hS hC m 1 (by decide), own_trs φ f c hS hC m 2 (by decide), own_trs φ f c hS hC m 3 (by decide)]
theorem own_trb (hS : ∀ i j : Nat, i < 4 → j < 4 → (φ (f i) = φ (f j) ↔ f i = f j)) (hC : ∀ i : Nat, i < 4 → (φ (f i) = φ c ↔ f i = c)) (m K : Int32) : own_b4 (fun i => φ (f i)) m (φ c) K = own_b4 f m c K := by
  unfold own_b4 own_b3 own_b2 own_b1 own_b0
  simp only [own_tre1 φ f c hS hC, own_tre2 φ f c hS hC, own_tre3 φ f c hS hC, own_tre4 φ f c hS hC]
theorem own_trl (hC : ∀ i : Nat, i < 4 → (φ (f i) = φ c ↔ f i = c)) (g : Nat → Int32) : ∀ (k : Nat) (x : Int32), own_lp (fun i => φ (f i)) g (φ c) k x = own_lp f g c k x := by
  intro k
  induction k with
  | zero => intro x; rfl
  | succ k ih =>
    intro x
    unfold own_lp
    simp only [hC _ (own_i4 x), ih]
theorem own_tra (hC : ∀ i : Nat, i < 4 → (φ (f i) = φ c ↔ f i = c)) (g : Nat → Int32) (z m : Int32) : own_adv (fun i => φ (f i)) g z m (φ c) = own_adv f g z m c := by
  unfold own_adv
  rw [own_trl φ f c hC]
  unfold own_fi
  simp only [hC _ (own_i4 _)]
end Tr
theorem own_lpg {α : Type} [DecidableEq α] (f : Nat → α) (g g' : Nat → Int32) (z m : Int32) (c : α) (hB : own_B m z) (hg : ∀ i : Nat, (i : Int) < m.toInt → 0 ≤ (g i).toInt ∧ (g i).toInt ≤ i) (he : ∀ i : Nat, (i : Int) < m.toInt → g i = g' i) : ∀ (k : Nat) (u : Int32), 0 ≤ u.toInt → u.toInt ≤ m.toInt → own_lp f g c k u = own_lp f g' c k u := by
  intro k
  induction k with
  | zero => intro u h0 h1; rfl
  | succ k ih =>
    intro u h0 h1
    unfold own_lp
    split
    · rename_i hu
      have q := own_gb g z m u hB hg h1 hu
      have hu' := hu
      rw [Int32.lt_iff_toInt_lt, own_z0] at hu'
      have q1 := c_isub u (1 : Int32); have r1 := rng32 (u - (1 : Int32))
      rw [own_z1] at q1
      have b := hB.2.1; have b' := hB.2.2
      have e1 : (u - (1 : Int32)).toInt = u.toInt - 1 := by omega
      have e2 := own_ii (u - (1 : Int32)) (by omega)
      have e3 := he (own_i (u - (1 : Int32))) (by omega)
      split
      · rfl
      · rw [← e3]; exact ih _ q.2.2.1 (by omega)
    · rfl
theorem own_advg {α : Type} [DecidableEq α] (f : Nat → α) (g g' : Nat → Int32) (z m : Int32) (c : α) (hB : own_B m z) (hg : ∀ i : Nat, (i : Int) < m.toInt → 0 ≤ (g i).toInt ∧ (g i).toInt ≤ i) (he : ∀ i : Nat, (i : Int) < m.toInt → g i = g' i) : own_adv f g z m c = own_adv f g' z m c := by
  have hb := own_x0b g z m hB hg
  have e0 : own_x0 g z m = own_x0 g' z m := by
    unfold own_x0
    split
    · rename_i hz
      split
      · rename_i h
        rw [Int32.lt_iff_toInt_lt, own_z0] at h
        have q1 := c_isub m (1 : Int32); have r1 := rng32 (m - (1 : Int32))
        rw [own_z1] at q1
        have b := hB.1; have b1 := hB.2.1; have b' := hB.2.2
        have hzz : m.toInt = z.toInt := by rw [hz]
        have e1 : (m - (1 : Int32)).toInt = m.toInt - 1 := by omega
        have e2 := own_ii (m - (1 : Int32)) (by omega)
        exact he _ (by omega)
      · rfl
    · rfl
  unfold own_adv
  rw [own_lpg f g g' z m c hB hg he 4 _ hb.1 hb.2.1, e0]
def own_g {α : Type} [DecidableEq α] (f : Nat → α) (m : Int32) : Nat → Int32 := own_f (0 : Int32) (own_b4 f (1 : Int32) (f 1) (1 : Int32)) (own_b4 f (2 : Int32) (f 2) (2 : Int32)) (own_b4 f (3 : Int32) (f 3) (3 : Int32))
def own_ph (a b c d x : Int32) : Nat := if x = a then 0 else if x = b then 1 else if x = c then 2 else if x = d then 3 else 4
theorem own_dec_0_0 : ∀ (q1 : Fin 2) (q2 : Fin 3) (q3 : Fin 4) (d : Fin 5), own_adv (own_f 0 q1.1 q2.1 q3.1) (own_g (own_f 0 q1.1 q2.1 q3.1) (0 : Int32)) (0 : Int32) (0 : Int32) d.1 = own_b4 (own_f 0 q1.1 q2.1 q3.1) (0 : Int32) d.1 (own_min (0 : Int32) ((0 : Int32) + (1 : Int32))) := by decide +kernel
theorem own_dec_1_0 : ∀ (q1 : Fin 2) (q2 : Fin 3) (q3 : Fin 4) (d : Fin 5), own_adv (own_f 0 q1.1 q2.1 q3.1) (own_g (own_f 0 q1.1 q2.1 q3.1) (0 : Int32)) (1 : Int32) (0 : Int32) d.1 = own_b4 (own_f 0 q1.1 q2.1 q3.1) (0 : Int32) d.1 (own_min (1 : Int32) ((0 : Int32) + (1 : Int32))) := by decide +kernel
theorem own_dec_1_1 : ∀ (q1 : Fin 2) (q2 : Fin 3) (q3 : Fin 4) (d : Fin 5), own_adv (own_f 0 q1.1 q2.1 q3.1) (own_g (own_f 0 q1.1 q2.1 q3.1) (1 : Int32)) (1 : Int32) (1 : Int32) d.1 = own_b4 (own_f 0 q1.1 q2.1 q3.1) (1 : Int32) d.1 (own_min (1 : Int32) ((1 : Int32) + (1 : Int32))) := by decide +kernel
theorem own_dec_2_0 : ∀ (q1 : Fin 2) (q2 : Fin 3) (q3 : Fin 4) (d : Fin 5), own_adv (own_f 0 q1.1 q2.1 q3.1) (own_g (own_f 0 q1.1 q2.1 q3.1) (0 : Int32)) (2 : Int32) (0 : Int32) d.1 = own_b4 (own_f 0 q1.1 q2.1 q3.1) (0 : Int32) d.1 (own_min (2 : Int32) ((0 : Int32) + (1 : Int32))) := by decide +kernel
theorem own_dec_2_1 : ∀ (q1 : Fin 2) (q2 : Fin 3) (q3 : Fin 4) (d : Fin 5), own_adv (own_f 0 q1.1 q2.1 q3.1) (own_g (own_f 0 q1.1 q2.1 q3.1) (1 : Int32)) (2 : Int32) (1 : Int32) d.1 = own_b4 (own_f 0 q1.1 q2.1 q3.1) (1 : Int32) d.1 (own_min (2 : Int32) ((1 : Int32) + (1 : Int32))) := by decide +kernel
theorem own_dec_2_2 : ∀ (q1 : Fin 2) (q2 : Fin 3) (q3 : Fin 4) (d : Fin 5), own_adv (own_f 0 q1.1 q2.1 q3.1) (own_g (own_f 0 q1.1 q2.1 q3.1) (2 : Int32)) (2 : Int32) (2 : Int32) d.1 = own_b4 (own_f 0 q1.1 q2.1 q3.1) (2 : Int32) d.1 (own_min (2 : Int32) ((2 : Int32) + (1 : Int32))) := by decide +kernel
theorem own_dec_3_0 : ∀ (q1 : Fin 2) (q2 : Fin 3) (q3 : Fin 4) (d : Fin 5), own_adv (own_f 0 q1.1 q2.1 q3.1) (own_g (own_f 0 q1.1 q2.1 q3.1) (0 : Int32)) (3 : Int32) (0 : Int32) d.1 = own_b4 (own_f 0 q1.1 q2.1 q3.1) (0 : Int32) d.1 (own_min (3 : Int32) ((0 : Int32) + (1 : Int32))) := by decide +kernel
theorem own_dec_3_1 : ∀ (q1 : Fin 2) (q2 : Fin 3) (q3 : Fin 4) (d : Fin 5), own_adv (own_f 0 q1.1 q2.1 q3.1) (own_g (own_f 0 q1.1 q2.1 q3.1) (1 : Int32)) (3 : Int32) (1 : Int32) d.1 = own_b4 (own_f 0 q1.1 q2.1 q3.1) (1 : Int32) d.1 (own_min (3 : Int32) ((1 : Int32) + (1 : Int32))) := by decide +kernel
theorem own_dec_3_2 : ∀ (q1 : Fin 2) (q2 : Fin 3) (q3 : Fin 4) (d : Fin 5), own_adv (own_f 0 q1.1 q2.1 q3.1) (own_g (own_f 0 q1.1 q2.1 q3.1) (2 : Int32)) (3 : Int32) (2 : Int32) d.1 = own_b4 (own_f 0 q1.1 q2.1 q3.1) (2 : Int32) d.1 (own_min (3 : Int32) ((2 : Int32) + (1 : Int32))) := by decide +kernel
theorem own_dec_3_3 : ∀ (q1 : Fin 2) (q2 : Fin 3) (q3 : Fin 4) (d : Fin 5), own_adv (own_f 0 q1.1 q2.1 q3.1) (own_g (own_f 0 q1.1 q2.1 q3.1) (3 : Int32)) (3 : Int32) (3 : Int32) d.1 = own_b4 (own_f 0 q1.1 q2.1 q3.1) (3 : Int32) d.1 (own_min (3 : Int32) ((3 : Int32) + (1 : Int32))) := by decide +kernel
theorem own_dec_4_0 : ∀ (q1 : Fin 2) (q2 : Fin 3) (q3 : Fin 4) (d : Fin 5), own_adv (own_f 0 q1.1 q2.1 q3.1) (own_g (own_f 0 q1.1 q2.1 q3.1) (0 : Int32)) (4 : Int32) (0 : Int32) d.1 = own_b4 (own_f 0 q1.1 q2.1 q3.1) (0 : Int32) d.1 (own_min (4 : Int32) ((0 : Int32) + (1 : Int32))) := by decide +kernel
theorem own_dec_4_1 : ∀ (q1 : Fin 2) (q2 : Fin 3) (q3 : Fin 4) (d : Fin 5), own_adv (own_f 0 q1.1 q2.1 q3.1) (own_g (own_f 0 q1.1 q2.1 q3.1) (1 : Int32)) (4 : Int32) (1 : Int32) d.1 = own_b4 (own_f 0 q1.1 q2.1 q3.1) (1 : Int32) d.1 (own_min (4 : Int32) ((1 : Int32) + (1 : Int32))) := by decide +kernel
theorem own_dec_4_2 : ∀ (q1 : Fin 2) (q2 : Fin 3) (q3 : Fin 4) (d : Fin 5), own_adv (own_f 0 q1.1 q2.1 q3.1) (own_g (own_f 0 q1.1 q2.1 q3.1) (2 : Int32)) (4 : Int32) (2 : Int32) d.1 = own_b4 (own_f 0 q1.1 q2.1 q3.1) (2 : Int32) d.1 (own_min (4 : Int32) ((2 : Int32) + (1 : Int32))) := by decide +kernel
theorem own_dec_4_3 : ∀ (q1 : Fin 2) (q2 : Fin 3) (q3 : Fin 4) (d : Fin 5), own_adv (own_f 0 q1.1 q2.1 q3.1) (own_g (own_f 0 q1.1 q2.1 q3.1) (3 : Int32)) (4 : Int32) (3 : Int32) d.1 = own_b4 (own_f 0 q1.1 q2.1 q3.1) (3 : Int32) d.1 (own_min (4 : Int32) ((3 : Int32) + (1 : Int32))) := by decide +kernel
theorem own_dec_4_4 : ∀ (q1 : Fin 2) (q2 : Fin 3) (q3 : Fin 4) (d : Fin 5), own_adv (own_f 0 q1.1 q2.1 q3.1) (own_g (own_f 0 q1.1 q2.1 q3.1) (4 : Int32)) (4 : Int32) (4 : Int32) d.1 = own_b4 (own_f 0 q1.1 q2.1 q3.1) (4 : Int32) d.1 (own_min (4 : Int32) ((4 : Int32) + (1 : Int32))) := by decide +kernel
theorem own_bb (f : Nat → Int32) (m c K : Int32) (h : 0 ≤ K.toInt) : 0 ≤ (own_b4 f m c K).toInt ∧ (own_b4 f m c K).toInt ≤ K.toInt := by
  have e1 : (1 : Int32).toInt = 1 := by decide
  have e2 : (2 : Int32).toInt = 2 := by decide
  have e3 : (3 : Int32).toInt = 3 := by decide
  have e4 : (4 : Int32).toInt = 4 := by decide
  have e0 := own_z0
  unfold own_b4 own_b3 own_b2 own_b1 own_b0
  simp only [Int32.lt_iff_toInt_lt]
  repeat' split
  all_goals omega
theorem own_no (j mm n : Int32) (hm : mm.toInt ≤ n.toInt) (h : n.toInt ≤ j.toInt) : ¬ j < mm := by rw [Int32.lt_iff_toInt_lt]; omega
theorem own_hg (f : Nat → Int32) (mm n v0 v1 v2 v3 : Int32) (hB : own_B mm n) (h0 : (0 : Int32) < mm → v0 = 0) (h1 : (1 : Int32) < mm → v1 = own_b4 f (1 : Int32) (f 1) (1 : Int32)) (h2 : (2 : Int32) < mm → v2 = own_b4 f (2 : Int32) (f 2) (2 : Int32)) (h3 : (3 : Int32) < mm → v3 = own_b4 f (3 : Int32) (f 3) (3 : Int32)) :
    ∀ i : Nat, (i : Int) < mm.toInt → 0 ≤ (own_f v0 v1 v2 v3 i).toInt ∧ (own_f v0 v1 v2 v3 i).toInt ≤ i := by
  obtain ⟨b1, b2, b3⟩ := hB
  have e2 : (2 : Int32).toInt = 2 := by decide
  have e3 : (3 : Int32).toInt = 3 := by decide
  simp only [Int32.lt_iff_toInt_lt, own_z0, own_z1, e2, e3] at h0 h1 h2 h3
  intro i hi
  match i, hi with
  | 0, hi => show 0 ≤ v0.toInt ∧ v0.toInt ≤ _; rw [h0 (by omega), own_z0]; omega
  | 1, hi => show 0 ≤ v1.toInt ∧ v1.toInt ≤ _; rw [h1 (by omega)]; have q := own_bb f (1 : Int32) (f 1) (1 : Int32) (by decide); rw [own_z1] at q; omega
  | 2, hi => show 0 ≤ v2.toInt ∧ v2.toInt ≤ _; rw [h2 (by omega)]; have q := own_bb f (2 : Int32) (f 2) (2 : Int32) (by decide); rw [e2] at q; omega
  | 3, hi => show 0 ≤ v3.toInt ∧ v3.toInt ≤ _; rw [h3 (by omega)]; have q := own_bb f (3 : Int32) (f 3) (3 : Int32) (by decide); rw [e3] at q; omega
  | k + 4, hi => exfalso; omega
theorem own_phi (a b c d x y : Int32) (hx : own_ph a b c d x < 4) (h : own_ph a b c d x = own_ph a b c d y) : x = y := by
  unfold own_ph at hx h
  by_cases x0 : x = a
  · by_cases y0 : y = a
    · rw [x0, y0]
    · rw [if_pos x0, if_neg y0] at h; split at h <;> first | omega | (split at h <;> first | omega | (split at h <;> omega))
  · rw [if_neg x0] at h hx
    by_cases x1 : x = b
    · rw [if_pos x1] at h hx
      by_cases y0 : y = a
      · rw [if_pos y0] at h; omega
      · rw [if_neg y0] at h
        by_cases y1 : y = b
        · rw [x1, y1]
        · rw [if_neg y1] at h; split at h <;> first | omega | (split at h <;> omega)
    · rw [if_neg x1] at h hx
      by_cases x2 : x = c
      · rw [if_pos x2] at h hx
        by_cases y0 : y = a
        · rw [if_pos y0] at h; omega
        · rw [if_neg y0] at h
          by_cases y1 : y = b
          · rw [if_pos y1] at h; omega
          · rw [if_neg y1] at h
            by_cases y2 : y = c
            · rw [x2, y2]
            · rw [if_neg y2] at h; split at h <;> omega
      · rw [if_neg x2] at h hx
        by_cases x3 : x = d
        · rw [if_pos x3] at h hx
          by_cases y0 : y = a
          · rw [if_pos y0] at h; omega
          · rw [if_neg y0] at h
            by_cases y1 : y = b
            · rw [if_pos y1] at h; omega
            · rw [if_neg y1] at h
              by_cases y2 : y = c
              · rw [if_pos y2] at h; omega
              · rw [if_neg y2] at h
                by_cases y3 : y = d
                · rw [x3, y3]
                · rw [if_neg y3] at h; omega
        · rw [if_neg x3] at hx; omega
theorem own_ph4 (s0 s1 s2 s3 : Int32) (i : Nat) (hi : i < 4) : own_ph s0 s1 s2 s3 (own_f s0 s1 s2 s3 i) < 4 := by
  match i, hi with
  | 0, _ => simp [own_ph, own_f]
  | 1, _ => show own_ph s0 s1 s2 s3 s1 < 4; unfold own_ph; simp only [if_true]; split <;> omega
  | 2, _ => show own_ph s0 s1 s2 s3 s2 < 4; unfold own_ph; simp only [if_true]; split <;> first | omega | (split <;> omega)
  | 3, _ => show own_ph s0 s1 s2 s3 s3 < 4; unfold own_ph; simp only [if_true]; split <;> first | omega | (split <;> first | omega | (split <;> omega))
theorem own_main (s0 s1 s2 s3 c mm n v0 v1 v2 v3 : Int32) (hB : own_B mm n) (hn : n = 0 ∨ n = 1 ∨ n = 2 ∨ n = 3 ∨ n = 4) (h0 : (0 : Int32) < mm → v0 = 0) (h1 : (1 : Int32) < mm → v1 = own_b4 (own_f s0 s1 s2 s3) (1 : Int32) s1 (1 : Int32)) (h2 : (2 : Int32) < mm → v2 = own_b4 (own_f s0 s1 s2 s3) (2 : Int32) s2 (2 : Int32)) (h3 : (3 : Int32) < mm → v3 = own_b4 (own_f s0 s1 s2 s3) (3 : Int32) s3 (3 : Int32)) :
    own_adv (own_f s0 s1 s2 s3) (own_f v0 v1 v2 v3) n mm c = own_b4 (own_f s0 s1 s2 s3) mm c (own_min n (mm + (1 : Int32))) := by
  have hg := own_hg (own_f s0 s1 s2 s3) mm n v0 v1 v2 v3 hB h0 h1 h2 h3
  have he : ∀ i : Nat, (i : Int) < mm.toInt → own_f v0 v1 v2 v3 i = own_g (own_f s0 s1 s2 s3) mm i := by
    obtain ⟨b1, b2, b3⟩ := hB
    have e2 : (2 : Int32).toInt = 2 := by decide
    have e3 : (3 : Int32).toInt = 3 := by decide
    simp only [Int32.lt_iff_toInt_lt, own_z0, own_z1, e2, e3] at h0 h1 h2 h3
    intro i hi
    match i, hi with
    | 0, hi => exact h0 (by omega)
    | 1, hi => exact h1 (by omega)
    | 2, hi => exact h2 (by omega)
    | 3, hi => exact h3 (by omega)
    | k + 4, hi => exfalso; omega
  rw [own_advg (own_f s0 s1 s2 s3) _ (own_g (own_f s0 s1 s2 s3) mm) n mm c hB hg he]
  have hS : ∀ i j : Nat, i < 4 → j < 4 → (own_ph s0 s1 s2 s3 ((own_f s0 s1 s2 s3) i) = own_ph s0 s1 s2 s3 ((own_f s0 s1 s2 s3) j) ↔ (own_f s0 s1 s2 s3) i = (own_f s0 s1 s2 s3) j) := fun i j hi hj => ⟨own_phi _ _ _ _ _ _ (own_ph4 s0 s1 s2 s3 i hi), fun q => by rw [q]⟩
  have hC : ∀ x : Int32, ∀ i : Nat, i < 4 → (own_ph s0 s1 s2 s3 ((own_f s0 s1 s2 s3) i) = own_ph s0 s1 s2 s3 x ↔ (own_f s0 s1 s2 s3) i = x) := fun x i hi => ⟨own_phi _ _ _ _ _ _ (own_ph4 s0 s1 s2 s3 i hi), fun q => by rw [q]⟩
  have hf : (fun i => own_ph s0 s1 s2 s3 ((own_f s0 s1 s2 s3) i)) = own_f 0 (own_ph s0 s1 s2 s3 s1) (own_ph s0 s1 s2 s3 s2) (own_ph s0 s1 s2 s3 s3) := by
    funext i
    match i with
    | 0 => simp [own_ph, own_f]
    | 1 => rfl
    | 2 => rfl
    | k + 3 => rfl
  have hG : own_g (fun i => own_ph s0 s1 s2 s3 ((own_f s0 s1 s2 s3) i)) mm = own_g (own_f s0 s1 s2 s3) mm := by
    unfold own_g
    rw [own_trb (own_ph s0 s1 s2 s3) (own_f s0 s1 s2 s3) ((own_f s0 s1 s2 s3) 1) hS (hC _), own_trb (own_ph s0 s1 s2 s3) (own_f s0 s1 s2 s3) ((own_f s0 s1 s2 s3) 2) hS (hC _), own_trb (own_ph s0 s1 s2 s3) (own_f s0 s1 s2 s3) ((own_f s0 s1 s2 s3) 3) hS (hC _)]
  rw [← own_tra (own_ph s0 s1 s2 s3) (own_f s0 s1 s2 s3) c (hC c), ← own_trb (own_ph s0 s1 s2 s3) (own_f s0 s1 s2 s3) c hS (hC c), ← hG, hf]
  have q1 : own_ph s0 s1 s2 s3 s1 < 2 := by unfold own_ph; simp only [if_true]; split <;> omega
  have q2 : own_ph s0 s1 s2 s3 s2 < 3 := by unfold own_ph; simp only [if_true]; split <;> first | omega | (split <;> omega)
  have q3 : own_ph s0 s1 s2 s3 s3 < 4 := own_ph4 s0 s1 s2 s3 3 (by decide)
  have q4 : own_ph s0 s1 s2 s3 c < 5 := by unfold own_ph; repeat' split
                                           all_goals omega
  obtain ⟨b1, b2, b3⟩ := hB
  have hm : mm = 0 ∨ mm = 1 ∨ mm = 2 ∨ mm = 3 ∨ mm = 4 := by
    have e : ∀ (k j : Int32), k = j ↔ k.toInt = j.toInt := fun k j => Int32.toInt_inj.symm
    simp only [e]
    have q : mm.toInt = 0 ∨ mm.toInt = 1 ∨ mm.toInt = 2 ∨ mm.toInt = 3 ∨ mm.toInt = 4 := by omega
    exact q
  rcases hn with rfl | rfl | rfl | rfl | rfl <;> rcases hm with rfl | rfl | rfl | rfl | rfl
  · exact own_dec_0_0 ⟨_, q1⟩ ⟨_, q2⟩ ⟨_, q3⟩ ⟨_, q4⟩
  · exact absurd b2 (by decide)
  · exact absurd b2 (by decide)
  · exact absurd b2 (by decide)
  · exact absurd b2 (by decide)
  · exact own_dec_1_0 ⟨_, q1⟩ ⟨_, q2⟩ ⟨_, q3⟩ ⟨_, q4⟩
  · exact own_dec_1_1 ⟨_, q1⟩ ⟨_, q2⟩ ⟨_, q3⟩ ⟨_, q4⟩
  · exact absurd b2 (by decide)
  · exact absurd b2 (by decide)
  · exact absurd b2 (by decide)
  · exact own_dec_2_0 ⟨_, q1⟩ ⟨_, q2⟩ ⟨_, q3⟩ ⟨_, q4⟩
  · exact own_dec_2_1 ⟨_, q1⟩ ⟨_, q2⟩ ⟨_, q3⟩ ⟨_, q4⟩
  · exact own_dec_2_2 ⟨_, q1⟩ ⟨_, q2⟩ ⟨_, q3⟩ ⟨_, q4⟩
  · exact absurd b2 (by decide)
  · exact absurd b2 (by decide)
  · exact own_dec_3_0 ⟨_, q1⟩ ⟨_, q2⟩ ⟨_, q3⟩ ⟨_, q4⟩
  · exact own_dec_3_1 ⟨_, q1⟩ ⟨_, q2⟩ ⟨_, q3⟩ ⟨_, q4⟩
  · exact own_dec_3_2 ⟨_, q1⟩ ⟨_, q2⟩ ⟨_, q3⟩ ⟨_, q4⟩
  · exact own_dec_3_3 ⟨_, q1⟩ ⟨_, q2⟩ ⟨_, q3⟩ ⟨_, q4⟩
  · exact absurd b2 (by decide)
  · exact own_dec_4_0 ⟨_, q1⟩ ⟨_, q2⟩ ⟨_, q3⟩ ⟨_, q4⟩
  · exact own_dec_4_1 ⟨_, q1⟩ ⟨_, q2⟩ ⟨_, q3⟩ ⟨_, q4⟩
  · exact own_dec_4_2 ⟨_, q1⟩ ⟨_, q2⟩ ⟨_, q3⟩ ⟨_, q4⟩
  · exact own_dec_4_3 ⟨_, q1⟩ ⟨_, q2⟩ ⟨_, q3⟩ ⟨_, q4⟩
  · exact own_dec_4_4 ⟨_, q1⟩ ⟨_, q2⟩ ⟨_, q3⟩ ⟨_, q4⟩
theorem own_mink (n mm : Int32) (hB : own_B mm n) : (own_min n (mm + (1 : Int32))).toInt ≤ n.toInt ∧ (own_min n (mm + (1 : Int32))).toInt ≤ mm.toInt + 1 := by
  obtain ⟨b1, b2, b3⟩ := hB
  have h1 := c_iadd mm (1 : Int32); have r1 := rng32 (mm + (1 : Int32))
  rw [own_z1] at h1
  unfold own_min
  split
  · rename_i h; rw [Int32.lt_iff_toInt_lt] at h; omega
  · rename_i h; rw [Int32.lt_iff_toInt_lt] at h; omega
theorem own_n (x : Int32) : (((x.toUInt32 >>> ((8 : Int32) &&& 31).toUInt32).toInt32) % (5 : Int32)) = (0 : Int32) ∨ (((x.toUInt32 >>> ((8 : Int32) &&& 31).toUInt32).toInt32) % (5 : Int32)) = (1 : Int32) ∨ (((x.toUInt32 >>> ((8 : Int32) &&& 31).toUInt32).toInt32) % (5 : Int32)) = (2 : Int32) ∨ (((x.toUInt32 >>> ((8 : Int32) &&& 31).toUInt32).toInt32) % (5 : Int32)) = (3 : Int32) ∨ (((x.toUInt32 >>> ((8 : Int32) &&& 31).toUInt32).toInt32) % (5 : Int32)) = (4 : Int32) := by
  have h1 := c_iushr x (8 : Int32) 8 (by decide) (by decide)
  have h := (c_iremV ((x.toUInt32 >>> ((8 : Int32) &&& 31).toUInt32).toInt32) (5 : Int32)).1 (by rw [h1]; omega) (by decide)
  have e1 : (5 : Int32).toInt = 5 := by decide
  have e : ∀ (k j : Int32), k = j ↔ k.toInt = j.toInt := fun k j => Int32.toInt_inj.symm
  simp only [e]
  generalize (((x.toUInt32 >>> ((8 : Int32) &&& 31).toUInt32).toInt32) % (5 : Int32)).toInt = z at *
  have q : z = 0 ∨ z = 1 ∨ z = 2 ∨ z = 3 ∨ z = 4 := by omega
  exact q
theorem own_mb (x n k : Int32) (hk : k.toInt = n.toInt + 1) (hn : 0 ≤ n.toInt ∧ n.toInt ≤ 4) : own_B ((x &&& (2147483647 : Int32)) % k) n := by
  have h := (c_iremV (x &&& (2147483647 : Int32)) k).1 (c_and x (2147483647 : Int32) (by decide)).1 (by omega)
  exact ⟨h.1, by omega, hn.2⟩
theorem pn_0 : plainName "com/example/humble_match/humblematch/PartialMatchTableAdvancePinLaw" = true := by first | (simp [plainName, overriddenIn]; done) | decide +kernel
theorem ef_0 (m : MethodId) (p1 : Int32) (p2 : Int32) (p3 : Int32) (p4 : Int32) (p5 : Int32) : entryFrame m #[(.int p1), (.int p2), (.int p3), (.int p4), (.int p5)] maxLocals = mkF m 0 #[.val (.int p1), .val (.int p2), .val (.int p3), .val (.int p4), .val (.int p5), .unset, .unset, .unset, .unset, .unset, .unset, .unset, .unset, .unset, .unset, .unset] [] := by first | (simp [entryFrame, mkF, argsToLocals, Value.category, maxLocals]; done) | rfl
theorem pd_0 : parseMethodDescriptor "(II)I" = some ⟨[.int, .int], some .int⟩ := by decide +kernel
theorem pd_2 : parseMethodDescriptor "([I[III)I" = some ⟨[(.array .int), (.array .int), .int, .int], some .int⟩ := by decide +kernel
def Q0 (Z : State) (p1 : Int32) (p2 : Int32) (p3 : Int32) (p4 : Int32) (p5 : Int32) (h0 : Heap) (n0 : Nat) (v : Option Value) (h : Heap) (L : List Loc) : Prop := v = some (.int (1 : Int32)) ∧ Fr n0 L
set_option maxRecDepth 65536 in
set_option maxHeartbeats 40000000 in
theorem rm0 (l : Launch) (Z : State) (a0 : Array Value) (hw : ∀ d ∈ tables_1, d.before a0 Z = true) (ws : List Jvm.Cond) (p1 : Int32) (p2 : Int32) (p3 : Int32) (p4 : Int32) (p5 : Int32) (h0 : Heap) (n0 : Nat) (Z0 : n0 ≤ h0.size) :
    MetFree l x (head1 (Jvm.Cond.code x code maxLocals ret :: ws) room_1) (fun a U => a = #[(.int p1), (.int p2), (.int p3), (.int p4), (.int p5)] ∧ Z.Warmed39 U.vm ∧ U.heap = h0) (fun _ _ _ _ _ => True) (fun _ U o U' => ∃ v L, o = .returned v ∧ Q0 Z p1 p2 p3 p4 p5 h0 n0 v U'.heap L ∧ FrameEnd U o U' L room_1.cells room_1.slots) := by
  refine MetFree.of_bodySF (plainFor_of_name pn_0) hisR ?_
  intro p e s m args below meth c s₁ Bd hml0 hP hK
  obtain ⟨rfl, hZ, hh⟩ := hP
  have hx := Bd.exec
  have hby := Bd.bytes
  have hml : c.maxLocals = 16 := hml0
  have hown : s.vm.findClass "com/example/humble_match/humblematch/PartialMatchTableAdvancePinLaw" = some m.cls := findClass_of_methodNamed Bd.named
  have hnm := (name_of_methodNamed Bd.named Bd.method).1
  have X0 : Stand p l e room_1 s m #[(.int p1), (.int p2), (.int p3), (.int p4), (.int p5)] below meth c s₁ [] 0 0 := Stand.of_body Bd
  have e0 : s₁.heap = h0 := by rw [← hh, Bd.state]; rfl
  have N0 := Fr.nil n0
  have pre0 : ∀ t, Steps p.tables e below (s₁.setTop (mkF m 0 #[.val (.int p1), .val (.int p2), .val (.int p3), .val (.int p4), .val (.int p5), .unset, .unset, .unset, .unset, .unset, .unset, .unset, .unset, .unset, .unset, .unset] [])) t → Steps p.tables e below (s₁.setTop (entryFrame m #[(.int p1), (.int p2), (.int p3), (.int p4), (.int p5)] maxLocals)) t := fun t k => castTop (ef_0 m p1 p2 p3 p4 p5) k
  have K0 : Keep h0 h0 [] := Keep.refl h0 []
  obtain ⟨s0, hs0⟩ : ∃ z : Int32, z = (p1 + (p2 &&& (3 : Int32))) := ⟨_, rfl⟩
  obtain ⟨s1, hs1⟩ : ∃ z : Int32, z = (p1 + (((p2.toUInt32 >>> ((2 : Int32) &&& 31).toUInt32).toInt32) &&& (3 : Int32))) := ⟨_, rfl⟩
  obtain ⟨s2, hs2⟩ : ∃ z : Int32, z = (p1 + (((p2.toUInt32 >>> ((4 : Int32) &&& 31).toUInt32).toInt32) &&& (3 : Int32))) := ⟨_, rfl⟩
  obtain ⟨s3, hs3⟩ : ∃ z : Int32, z = (p1 + (((p2.toUInt32 >>> ((6 : Int32) &&& 31).toUInt32).toInt32) &&& (3 : Int32))) := ⟨_, rfl⟩
  have ch1 : Goes p e below s₁ (entryFrame m #[(.int p1), (.int p2), (.int p3), (.int p4), (.int p5)] maxLocals) s₁ (mkF m 43 #[.val (.int p1), .val (.int p2), .val (.int p3), .val (.int p4), .val (.int p5), .val (.int (((p2.toUInt32 >>> ((8 : Int32) &&& 31).toUInt32).toInt32) % (5 : Int32))), .val (.int s0), .val (.int s1), .val (.int s2), .val (.int s3), .unset, .unset, .unset, .unset, .unset, .unset] []) := fun t kt => pre0 t (by
    show Steps p.tables e below (s₁.setTop (mkF m 0 #[.val (.int p1), .val (.int p2), .val (.int p3), .val (.int p4), .val (.int p5), .unset, .unset, .unset, .unset, .unset, .unset, .unset, .unset, .unset, .unset, .unset] [])) _
    refine XS.iloadN X0.here hx rfl (hb hby at_0) rfl ?_
    show Steps p.tables e below (s₁.setTop (mkF m 1 #[.val (.int p1), .val (.int p2), .val (.int p3), .val (.int p4), .val (.int p5), .unset, .unset, .unset, .unset, .unset, .unset, .unset, .unset, .unset, .unset, .unset] [(.int p2)])) _
    refine XS.bipush X0.here hx rfl (hb hby at_1) ?_
    show Steps p.tables e below (s₁.setTop (mkF m 3 #[.val (.int p1), .val (.int p2), .val (.int p3), .val (.int p4), .val (.int p5), .unset, .unset, .unset, .unset, .unset, .unset, .unset, .unset, .unset, .unset, .unset] [(.int (8 : Int32)), (.int p2)])) _
    refine XS.iushr X0.here hx rfl (hb hby at_3) rfl ?_
    show Steps p.tables e below (s₁.setTop (mkF m 4 #[.val (.int p1), .val (.int p2), .val (.int p3), .val (.int p4), .val (.int p5), .unset, .unset, .unset, .unset, .unset, .unset, .unset, .unset, .unset, .unset, .unset] [(.int ((p2.toUInt32 >>> ((8 : Int32) &&& 31).toUInt32).toInt32))])) _
    refine XS.iconst X0.here hx rfl (hb hby at_4) ?_
    show Steps p.tables e below (s₁.setTop (mkF m 5 #[.val (.int p1), .val (.int p2), .val (.int p3), .val (.int p4), .val (.int p5), .unset, .unset, .unset, .unset, .unset, .unset, .unset, .unset, .unset, .unset, .unset] [(.int (5 : Int32)), (.int ((p2.toUInt32 >>> ((8 : Int32) &&& 31).toUInt32).toInt32))])) _
    refine iremM X0 hx rfl (hb hby at_5) rfl (by decide) ?_
    show Steps p.tables e below (s₁.setTop (mkF m 6 #[.val (.int p1), .val (.int p2), .val (.int p3), .val (.int p4), .val (.int p5), .unset, .unset, .unset, .unset, .unset, .unset, .unset, .unset, .unset, .unset, .unset] [(.int (((p2.toUInt32 >>> ((8 : Int32) &&& 31).toUInt32).toInt32) % (5 : Int32)))])) _
    refine XS.istore X0.here hx rfl (hb hby at_6) rfl (l' := #[.val (.int p1), .val (.int p2), .val (.int p3), .val (.int p4), .val (.int p5), .val (.int (((p2.toUInt32 >>> ((8 : Int32) &&& 31).toUInt32).toInt32) % (5 : Int32))), .unset, .unset, .unset, .unset, .unset, .unset, .unset, .unset, .unset, .unset]) rfl ?_
    show Steps p.tables e below (s₁.setTop (mkF m 8 #[.val (.int p1), .val (.int p2), .val (.int p3), .val (.int p4), .val (.int p5), .val (.int (((p2.toUInt32 >>> ((8 : Int32) &&& 31).toUInt32).toInt32) % (5 : Int32))), .unset, .unset, .unset, .unset, .unset, .unset, .unset, .unset, .unset, .unset] [])) _
    refine XS.iloadN X0.here hx rfl (hb hby at_8) rfl ?_
    show Steps p.tables e below (s₁.setTop (mkF m 9 #[.val (.int p1), .val (.int p2), .val (.int p3), .val (.int p4), .val (.int p5), .val (.int (((p2.toUInt32 >>> ((8 : Int32) &&& 31).toUInt32).toInt32) % (5 : Int32))), .unset, .unset, .unset, .unset, .unset, .unset, .unset, .unset, .unset, .unset] [(.int p1)])) _
    refine XS.iloadN X0.here hx rfl (hb hby at_9) rfl ?_
    show Steps p.tables e below (s₁.setTop (mkF m 10 #[.val (.int p1), .val (.int p2), .val (.int p3), .val (.int p4), .val (.int p5), .val (.int (((p2.toUInt32 >>> ((8 : Int32) &&& 31).toUInt32).toInt32) % (5 : Int32))), .unset, .unset, .unset, .unset, .unset, .unset, .unset, .unset, .unset, .unset] [(.int p2), (.int p1)])) _
    refine XS.iconst X0.here hx rfl (hb hby at_10) ?_
    show Steps p.tables e below (s₁.setTop (mkF m 11 #[.val (.int p1), .val (.int p2), .val (.int p3), .val (.int p4), .val (.int p5), .val (.int (((p2.toUInt32 >>> ((8 : Int32) &&& 31).toUInt32).toInt32) % (5 : Int32))), .unset, .unset, .unset, .unset, .unset, .unset, .unset, .unset, .unset, .unset] [(.int (3 : Int32)), (.int p2), (.int p1)])) _
    refine XS.iand X0.here hx rfl (hb hby at_11) rfl ?_
    show Steps p.tables e below (s₁.setTop (mkF m 12 #[.val (.int p1), .val (.int p2), .val (.int p3), .val (.int p4), .val (.int p5), .val (.int (((p2.toUInt32 >>> ((8 : Int32) &&& 31).toUInt32).toInt32) % (5 : Int32))), .unset, .unset, .unset, .unset, .unset, .unset, .unset, .unset, .unset, .unset] [(.int (p2 &&& (3 : Int32))), (.int p1)])) _
    refine XS.iadd X0.here hx rfl (hb hby at_12) rfl ?_
    show Steps p.tables e below (s₁.setTop (mkF m 13 #[.val (.int p1), .val (.int p2), .val (.int p3), .val (.int p4), .val (.int p5), .val (.int (((p2.toUInt32 >>> ((8 : Int32) &&& 31).toUInt32).toInt32) % (5 : Int32))), .unset, .unset, .unset, .unset, .unset, .unset, .unset, .unset, .unset, .unset] [(.int (p1 + (p2 &&& (3 : Int32))))])) _
    refine XS.istore X0.here hx rfl (hb hby at_13) rfl (l' := #[.val (.int p1), .val (.int p2), .val (.int p3), .val (.int p4), .val (.int p5), .val (.int (((p2.toUInt32 >>> ((8 : Int32) &&& 31).toUInt32).toInt32) % (5 : Int32))), .val (.int (p1 + (p2 &&& (3 : Int32)))), .unset, .unset, .unset, .unset, .unset, .unset, .unset, .unset, .unset]) rfl ?_
    show Steps p.tables e below (s₁.setTop (mkF m 15 #[.val (.int p1), .val (.int p2), .val (.int p3), .val (.int p4), .val (.int p5), .val (.int (((p2.toUInt32 >>> ((8 : Int32) &&& 31).toUInt32).toInt32) % (5 : Int32))), .val (.int (p1 + (p2 &&& (3 : Int32)))), .unset, .unset, .unset, .unset, .unset, .unset, .unset, .unset, .unset] [])) _
    refine XS.iloadN X0.here hx rfl (hb hby at_15) rfl ?_
    show Steps p.tables e below (s₁.setTop (mkF m 16 #[.val (.int p1), .val (.int p2), .val (.int p3), .val (.int p4), .val (.int p5), .val (.int (((p2.toUInt32 >>> ((8 : Int32) &&& 31).toUInt32).toInt32) % (5 : Int32))), .val (.int (p1 + (p2 &&& (3 : Int32)))), .unset, .unset, .unset, .unset, .unset, .unset, .unset, .unset, .unset] [(.int p1)])) _
    refine XS.iloadN X0.here hx rfl (hb hby at_16) rfl ?_
    show Steps p.tables e below (s₁.setTop (mkF m 17 #[.val (.int p1), .val (.int p2), .val (.int p3), .val (.int p4), .val (.int p5), .val (.int (((p2.toUInt32 >>> ((8 : Int32) &&& 31).toUInt32).toInt32) % (5 : Int32))), .val (.int (p1 + (p2 &&& (3 : Int32)))), .unset, .unset, .unset, .unset, .unset, .unset, .unset, .unset, .unset] [(.int p2), (.int p1)])) _
    refine XS.iconst X0.here hx rfl (hb hby at_17) ?_
    show Steps p.tables e below (s₁.setTop (mkF m 18 #[.val (.int p1), .val (.int p2), .val (.int p3), .val (.int p4), .val (.int p5), .val (.int (((p2.toUInt32 >>> ((8 : Int32) &&& 31).toUInt32).toInt32) % (5 : Int32))), .val (.int (p1 + (p2 &&& (3 : Int32)))), .unset, .unset, .unset, .unset, .unset, .unset, .unset, .unset, .unset] [(.int (2 : Int32)), (.int p2), (.int p1)])) _
    refine XS.iushr X0.here hx rfl (hb hby at_18) rfl ?_
    show Steps p.tables e below (s₁.setTop (mkF m 19 #[.val (.int p1), .val (.int p2), .val (.int p3), .val (.int p4), .val (.int p5), .val (.int (((p2.toUInt32 >>> ((8 : Int32) &&& 31).toUInt32).toInt32) % (5 : Int32))), .val (.int (p1 + (p2 &&& (3 : Int32)))), .unset, .unset, .unset, .unset, .unset, .unset, .unset, .unset, .unset] [(.int ((p2.toUInt32 >>> ((2 : Int32) &&& 31).toUInt32).toInt32)), (.int p1)])) _
    refine XS.iconst X0.here hx rfl (hb hby at_19) ?_
    show Steps p.tables e below (s₁.setTop (mkF m 20 #[.val (.int p1), .val (.int p2), .val (.int p3), .val (.int p4), .val (.int p5), .val (.int (((p2.toUInt32 >>> ((8 : Int32) &&& 31).toUInt32).toInt32) % (5 : Int32))), .val (.int (p1 + (p2 &&& (3 : Int32)))), .unset, .unset, .unset, .unset, .unset, .unset, .unset, .unset, .unset] [(.int (3 : Int32)), (.int ((p2.toUInt32 >>> ((2 : Int32) &&& 31).toUInt32).toInt32)), (.int p1)])) _
    refine XS.iand X0.here hx rfl (hb hby at_20) rfl ?_
    show Steps p.tables e below (s₁.setTop (mkF m 21 #[.val (.int p1), .val (.int p2), .val (.int p3), .val (.int p4), .val (.int p5), .val (.int (((p2.toUInt32 >>> ((8 : Int32) &&& 31).toUInt32).toInt32) % (5 : Int32))), .val (.int (p1 + (p2 &&& (3 : Int32)))), .unset, .unset, .unset, .unset, .unset, .unset, .unset, .unset, .unset] [(.int (((p2.toUInt32 >>> ((2 : Int32) &&& 31).toUInt32).toInt32) &&& (3 : Int32))), (.int p1)])) _
    refine XS.iadd X0.here hx rfl (hb hby at_21) rfl ?_
    show Steps p.tables e below (s₁.setTop (mkF m 22 #[.val (.int p1), .val (.int p2), .val (.int p3), .val (.int p4), .val (.int p5), .val (.int (((p2.toUInt32 >>> ((8 : Int32) &&& 31).toUInt32).toInt32) % (5 : Int32))), .val (.int (p1 + (p2 &&& (3 : Int32)))), .unset, .unset, .unset, .unset, .unset, .unset, .unset, .unset, .unset] [(.int (p1 + (((p2.toUInt32 >>> ((2 : Int32) &&& 31).toUInt32).toInt32) &&& (3 : Int32))))])) _
    refine XS.istore X0.here hx rfl (hb hby at_22) rfl (l' := #[.val (.int p1), .val (.int p2), .val (.int p3), .val (.int p4), .val (.int p5), .val (.int (((p2.toUInt32 >>> ((8 : Int32) &&& 31).toUInt32).toInt32) % (5 : Int32))), .val (.int (p1 + (p2 &&& (3 : Int32)))), .val (.int (p1 + (((p2.toUInt32 >>> ((2 : Int32) &&& 31).toUInt32).toInt32) &&& (3 : Int32)))), .unset, .unset, .unset, .unset, .unset, .unset, .unset, .unset]) rfl ?_
    show Steps p.tables e below (s₁.setTop (mkF m 24 #[.val (.int p1), .val (.int p2), .val (.int p3), .val (.int p4), .val (.int p5), .val (.int (((p2.toUInt32 >>> ((8 : Int32) &&& 31).toUInt32).toInt32) % (5 : Int32))), .val (.int (p1 + (p2 &&& (3 : Int32)))), .val (.int (p1 + (((p2.toUInt32 >>> ((2 : Int32) &&& 31).toUInt32).toInt32) &&& (3 : Int32)))), .unset, .unset, .unset, .unset, .unset, .unset, .unset, .unset] [])) _
    refine XS.iloadN X0.here hx rfl (hb hby at_24) rfl ?_
    show Steps p.tables e below (s₁.setTop (mkF m 25 #[.val (.int p1), .val (.int p2), .val (.int p3), .val (.int p4), .val (.int p5), .val (.int (((p2.toUInt32 >>> ((8 : Int32) &&& 31).toUInt32).toInt32) % (5 : Int32))), .val (.int (p1 + (p2 &&& (3 : Int32)))), .val (.int (p1 + (((p2.toUInt32 >>> ((2 : Int32) &&& 31).toUInt32).toInt32) &&& (3 : Int32)))), .unset, .unset, .unset, .unset, .unset, .unset, .unset, .unset] [(.int p1)])) _
    refine XS.iloadN X0.here hx rfl (hb hby at_25) rfl ?_
    show Steps p.tables e below (s₁.setTop (mkF m 26 #[.val (.int p1), .val (.int p2), .val (.int p3), .val (.int p4), .val (.int p5), .val (.int (((p2.toUInt32 >>> ((8 : Int32) &&& 31).toUInt32).toInt32) % (5 : Int32))), .val (.int (p1 + (p2 &&& (3 : Int32)))), .val (.int (p1 + (((p2.toUInt32 >>> ((2 : Int32) &&& 31).toUInt32).toInt32) &&& (3 : Int32)))), .unset, .unset, .unset, .unset, .unset, .unset, .unset, .unset] [(.int p2), (.int p1)])) _
    refine XS.iconst X0.here hx rfl (hb hby at_26) ?_
    show Steps p.tables e below (s₁.setTop (mkF m 27 #[.val (.int p1), .val (.int p2), .val (.int p3), .val (.int p4), .val (.int p5), .val (.int (((p2.toUInt32 >>> ((8 : Int32) &&& 31).toUInt32).toInt32) % (5 : Int32))), .val (.int (p1 + (p2 &&& (3 : Int32)))), .val (.int (p1 + (((p2.toUInt32 >>> ((2 : Int32) &&& 31).toUInt32).toInt32) &&& (3 : Int32)))), .unset, .unset, .unset, .unset, .unset, .unset, .unset, .unset] [(.int (4 : Int32)), (.int p2), (.int p1)])) _
    refine XS.iushr X0.here hx rfl (hb hby at_27) rfl ?_
    show Steps p.tables e below (s₁.setTop (mkF m 28 #[.val (.int p1), .val (.int p2), .val (.int p3), .val (.int p4), .val (.int p5), .val (.int (((p2.toUInt32 >>> ((8 : Int32) &&& 31).toUInt32).toInt32) % (5 : Int32))), .val (.int (p1 + (p2 &&& (3 : Int32)))), .val (.int (p1 + (((p2.toUInt32 >>> ((2 : Int32) &&& 31).toUInt32).toInt32) &&& (3 : Int32)))), .unset, .unset, .unset, .unset, .unset, .unset, .unset, .unset] [(.int ((p2.toUInt32 >>> ((4 : Int32) &&& 31).toUInt32).toInt32)), (.int p1)])) _
    refine XS.iconst X0.here hx rfl (hb hby at_28) ?_
    show Steps p.tables e below (s₁.setTop (mkF m 29 #[.val (.int p1), .val (.int p2), .val (.int p3), .val (.int p4), .val (.int p5), .val (.int (((p2.toUInt32 >>> ((8 : Int32) &&& 31).toUInt32).toInt32) % (5 : Int32))), .val (.int (p1 + (p2 &&& (3 : Int32)))), .val (.int (p1 + (((p2.toUInt32 >>> ((2 : Int32) &&& 31).toUInt32).toInt32) &&& (3 : Int32)))), .unset, .unset, .unset, .unset, .unset, .unset, .unset, .unset] [(.int (3 : Int32)), (.int ((p2.toUInt32 >>> ((4 : Int32) &&& 31).toUInt32).toInt32)), (.int p1)])) _
    refine XS.iand X0.here hx rfl (hb hby at_29) rfl ?_
    show Steps p.tables e below (s₁.setTop (mkF m 30 #[.val (.int p1), .val (.int p2), .val (.int p3), .val (.int p4), .val (.int p5), .val (.int (((p2.toUInt32 >>> ((8 : Int32) &&& 31).toUInt32).toInt32) % (5 : Int32))), .val (.int (p1 + (p2 &&& (3 : Int32)))), .val (.int (p1 + (((p2.toUInt32 >>> ((2 : Int32) &&& 31).toUInt32).toInt32) &&& (3 : Int32)))), .unset, .unset, .unset, .unset, .unset, .unset, .unset, .unset] [(.int (((p2.toUInt32 >>> ((4 : Int32) &&& 31).toUInt32).toInt32) &&& (3 : Int32))), (.int p1)])) _
    refine XS.iadd X0.here hx rfl (hb hby at_30) rfl ?_
    show Steps p.tables e below (s₁.setTop (mkF m 31 #[.val (.int p1), .val (.int p2), .val (.int p3), .val (.int p4), .val (.int p5), .val (.int (((p2.toUInt32 >>> ((8 : Int32) &&& 31).toUInt32).toInt32) % (5 : Int32))), .val (.int (p1 + (p2 &&& (3 : Int32)))), .val (.int (p1 + (((p2.toUInt32 >>> ((2 : Int32) &&& 31).toUInt32).toInt32) &&& (3 : Int32)))), .unset, .unset, .unset, .unset, .unset, .unset, .unset, .unset] [(.int (p1 + (((p2.toUInt32 >>> ((4 : Int32) &&& 31).toUInt32).toInt32) &&& (3 : Int32))))])) _
    refine XS.istore X0.here hx rfl (hb hby at_31) rfl (l' := #[.val (.int p1), .val (.int p2), .val (.int p3), .val (.int p4), .val (.int p5), .val (.int (((p2.toUInt32 >>> ((8 : Int32) &&& 31).toUInt32).toInt32) % (5 : Int32))), .val (.int (p1 + (p2 &&& (3 : Int32)))), .val (.int (p1 + (((p2.toUInt32 >>> ((2 : Int32) &&& 31).toUInt32).toInt32) &&& (3 : Int32)))), .val (.int (p1 + (((p2.toUInt32 >>> ((4 : Int32) &&& 31).toUInt32).toInt32) &&& (3 : Int32)))), .unset, .unset, .unset, .unset, .unset, .unset, .unset]) rfl ?_
    show Steps p.tables e below (s₁.setTop (mkF m 33 #[.val (.int p1), .val (.int p2), .val (.int p3), .val (.int p4), .val (.int p5), .val (.int (((p2.toUInt32 >>> ((8 : Int32) &&& 31).toUInt32).toInt32) % (5 : Int32))), .val (.int (p1 + (p2 &&& (3 : Int32)))), .val (.int (p1 + (((p2.toUInt32 >>> ((2 : Int32) &&& 31).toUInt32).toInt32) &&& (3 : Int32)))), .val (.int (p1 + (((p2.toUInt32 >>> ((4 : Int32) &&& 31).toUInt32).toInt32) &&& (3 : Int32)))), .unset, .unset, .unset, .unset, .unset, .unset, .unset] [])) _
    refine XS.iloadN X0.here hx rfl (hb hby at_33) rfl ?_
    show Steps p.tables e below (s₁.setTop (mkF m 34 #[.val (.int p1), .val (.int p2), .val (.int p3), .val (.int p4), .val (.int p5), .val (.int (((p2.toUInt32 >>> ((8 : Int32) &&& 31).toUInt32).toInt32) % (5 : Int32))), .val (.int (p1 + (p2 &&& (3 : Int32)))), .val (.int (p1 + (((p2.toUInt32 >>> ((2 : Int32) &&& 31).toUInt32).toInt32) &&& (3 : Int32)))), .val (.int (p1 + (((p2.toUInt32 >>> ((4 : Int32) &&& 31).toUInt32).toInt32) &&& (3 : Int32)))), .unset, .unset, .unset, .unset, .unset, .unset, .unset] [(.int p1)])) _
    refine XS.iloadN X0.here hx rfl (hb hby at_34) rfl ?_
    show Steps p.tables e below (s₁.setTop (mkF m 35 #[.val (.int p1), .val (.int p2), .val (.int p3), .val (.int p4), .val (.int p5), .val (.int (((p2.toUInt32 >>> ((8 : Int32) &&& 31).toUInt32).toInt32) % (5 : Int32))), .val (.int (p1 + (p2 &&& (3 : Int32)))), .val (.int (p1 + (((p2.toUInt32 >>> ((2 : Int32) &&& 31).toUInt32).toInt32) &&& (3 : Int32)))), .val (.int (p1 + (((p2.toUInt32 >>> ((4 : Int32) &&& 31).toUInt32).toInt32) &&& (3 : Int32)))), .unset, .unset, .unset, .unset, .unset, .unset, .unset] [(.int p2), (.int p1)])) _
    refine XS.bipush X0.here hx rfl (hb hby at_35) ?_
    show Steps p.tables e below (s₁.setTop (mkF m 37 #[.val (.int p1), .val (.int p2), .val (.int p3), .val (.int p4), .val (.int p5), .val (.int (((p2.toUInt32 >>> ((8 : Int32) &&& 31).toUInt32).toInt32) % (5 : Int32))), .val (.int (p1 + (p2 &&& (3 : Int32)))), .val (.int (p1 + (((p2.toUInt32 >>> ((2 : Int32) &&& 31).toUInt32).toInt32) &&& (3 : Int32)))), .val (.int (p1 + (((p2.toUInt32 >>> ((4 : Int32) &&& 31).toUInt32).toInt32) &&& (3 : Int32)))), .unset, .unset, .unset, .unset, .unset, .unset, .unset] [(.int (6 : Int32)), (.int p2), (.int p1)])) _
    refine XS.iushr X0.here hx rfl (hb hby at_37) rfl ?_
    show Steps p.tables e below (s₁.setTop (mkF m 38 #[.val (.int p1), .val (.int p2), .val (.int p3), .val (.int p4), .val (.int p5), .val (.int (((p2.toUInt32 >>> ((8 : Int32) &&& 31).toUInt32).toInt32) % (5 : Int32))), .val (.int (p1 + (p2 &&& (3 : Int32)))), .val (.int (p1 + (((p2.toUInt32 >>> ((2 : Int32) &&& 31).toUInt32).toInt32) &&& (3 : Int32)))), .val (.int (p1 + (((p2.toUInt32 >>> ((4 : Int32) &&& 31).toUInt32).toInt32) &&& (3 : Int32)))), .unset, .unset, .unset, .unset, .unset, .unset, .unset] [(.int ((p2.toUInt32 >>> ((6 : Int32) &&& 31).toUInt32).toInt32)), (.int p1)])) _
    refine XS.iconst X0.here hx rfl (hb hby at_38) ?_
    show Steps p.tables e below (s₁.setTop (mkF m 39 #[.val (.int p1), .val (.int p2), .val (.int p3), .val (.int p4), .val (.int p5), .val (.int (((p2.toUInt32 >>> ((8 : Int32) &&& 31).toUInt32).toInt32) % (5 : Int32))), .val (.int (p1 + (p2 &&& (3 : Int32)))), .val (.int (p1 + (((p2.toUInt32 >>> ((2 : Int32) &&& 31).toUInt32).toInt32) &&& (3 : Int32)))), .val (.int (p1 + (((p2.toUInt32 >>> ((4 : Int32) &&& 31).toUInt32).toInt32) &&& (3 : Int32)))), .unset, .unset, .unset, .unset, .unset, .unset, .unset] [(.int (3 : Int32)), (.int ((p2.toUInt32 >>> ((6 : Int32) &&& 31).toUInt32).toInt32)), (.int p1)])) _
    refine XS.iand X0.here hx rfl (hb hby at_39) rfl ?_
    show Steps p.tables e below (s₁.setTop (mkF m 40 #[.val (.int p1), .val (.int p2), .val (.int p3), .val (.int p4), .val (.int p5), .val (.int (((p2.toUInt32 >>> ((8 : Int32) &&& 31).toUInt32).toInt32) % (5 : Int32))), .val (.int (p1 + (p2 &&& (3 : Int32)))), .val (.int (p1 + (((p2.toUInt32 >>> ((2 : Int32) &&& 31).toUInt32).toInt32) &&& (3 : Int32)))), .val (.int (p1 + (((p2.toUInt32 >>> ((4 : Int32) &&& 31).toUInt32).toInt32) &&& (3 : Int32)))), .unset, .unset, .unset, .unset, .unset, .unset, .unset] [(.int (((p2.toUInt32 >>> ((6 : Int32) &&& 31).toUInt32).toInt32) &&& (3 : Int32))), (.int p1)])) _
    refine XS.iadd X0.here hx rfl (hb hby at_40) rfl ?_
    show Steps p.tables e below (s₁.setTop (mkF m 41 #[.val (.int p1), .val (.int p2), .val (.int p3), .val (.int p4), .val (.int p5), .val (.int (((p2.toUInt32 >>> ((8 : Int32) &&& 31).toUInt32).toInt32) % (5 : Int32))), .val (.int (p1 + (p2 &&& (3 : Int32)))), .val (.int (p1 + (((p2.toUInt32 >>> ((2 : Int32) &&& 31).toUInt32).toInt32) &&& (3 : Int32)))), .val (.int (p1 + (((p2.toUInt32 >>> ((4 : Int32) &&& 31).toUInt32).toInt32) &&& (3 : Int32)))), .unset, .unset, .unset, .unset, .unset, .unset, .unset] [(.int (p1 + (((p2.toUInt32 >>> ((6 : Int32) &&& 31).toUInt32).toInt32) &&& (3 : Int32))))])) _
    refine XS.istore X0.here hx rfl (hb hby at_41) rfl (l' := #[.val (.int p1), .val (.int p2), .val (.int p3), .val (.int p4), .val (.int p5), .val (.int (((p2.toUInt32 >>> ((8 : Int32) &&& 31).toUInt32).toInt32) % (5 : Int32))), .val (.int (p1 + (p2 &&& (3 : Int32)))), .val (.int (p1 + (((p2.toUInt32 >>> ((2 : Int32) &&& 31).toUInt32).toInt32) &&& (3 : Int32)))), .val (.int (p1 + (((p2.toUInt32 >>> ((4 : Int32) &&& 31).toUInt32).toInt32) &&& (3 : Int32)))), .val (.int (p1 + (((p2.toUInt32 >>> ((6 : Int32) &&& 31).toUInt32).toInt32) &&& (3 : Int32)))), .unset, .unset, .unset, .unset, .unset, .unset]) rfl ?_
    show Steps p.tables e below (s₁.setTop (mkF m 43 #[.val (.int p1), .val (.int p2), .val (.int p3), .val (.int p4), .val (.int p5), .val (.int (((p2.toUInt32 >>> ((8 : Int32) &&& 31).toUInt32).toInt32) % (5 : Int32))), .val (.int (p1 + (p2 &&& (3 : Int32)))), .val (.int (p1 + (((p2.toUInt32 >>> ((2 : Int32) &&& 31).toUInt32).toInt32) &&& (3 : Int32)))), .val (.int (p1 + (((p2.toUInt32 >>> ((4 : Int32) &&& 31).toUInt32).toInt32) &&& (3 : Int32)))), .val (.int (p1 + (((p2.toUInt32 >>> ((6 : Int32) &&& 31).toUInt32).toInt32) &&& (3 : Int32)))), .unset, .unset, .unset, .unset, .unset, .unset] [])) _
    rw [← hs0]
    show Steps p.tables e below (s₁.setTop (mkF m 43 #[.val (.int p1), .val (.int p2), .val (.int p3), .val (.int p4), .val (.int p5), .val (.int (((p2.toUInt32 >>> ((8 : Int32) &&& 31).toUInt32).toInt32) % (5 : Int32))), .val (.int s0), .val (.int (p1 + (((p2.toUInt32 >>> ((2 : Int32) &&& 31).toUInt32).toInt32) &&& (3 : Int32)))), .val (.int (p1 + (((p2.toUInt32 >>> ((4 : Int32) &&& 31).toUInt32).toInt32) &&& (3 : Int32)))), .val (.int (p1 + (((p2.toUInt32 >>> ((6 : Int32) &&& 31).toUInt32).toInt32) &&& (3 : Int32)))), .unset, .unset, .unset, .unset, .unset, .unset] [])) _
    rw [← hs1]
    show Steps p.tables e below (s₁.setTop (mkF m 43 #[.val (.int p1), .val (.int p2), .val (.int p3), .val (.int p4), .val (.int p5), .val (.int (((p2.toUInt32 >>> ((8 : Int32) &&& 31).toUInt32).toInt32) % (5 : Int32))), .val (.int s0), .val (.int s1), .val (.int (p1 + (((p2.toUInt32 >>> ((4 : Int32) &&& 31).toUInt32).toInt32) &&& (3 : Int32)))), .val (.int (p1 + (((p2.toUInt32 >>> ((6 : Int32) &&& 31).toUInt32).toInt32) &&& (3 : Int32)))), .unset, .unset, .unset, .unset, .unset, .unset] [])) _
    rw [← hs2]
    show Steps p.tables e below (s₁.setTop (mkF m 43 #[.val (.int p1), .val (.int p2), .val (.int p3), .val (.int p4), .val (.int p5), .val (.int (((p2.toUInt32 >>> ((8 : Int32) &&& 31).toUInt32).toInt32) % (5 : Int32))), .val (.int s0), .val (.int s1), .val (.int s2), .val (.int (p1 + (((p2.toUInt32 >>> ((6 : Int32) &&& 31).toUInt32).toInt32) &&& (3 : Int32)))), .unset, .unset, .unset, .unset, .unset, .unset] [])) _
    rw [← hs3]
    show Steps p.tables e below (s₁.setTop (mkF m 43 #[.val (.int p1), .val (.int p2), .val (.int p3), .val (.int p4), .val (.int p5), .val (.int (((p2.toUInt32 >>> ((8 : Int32) &&& 31).toUInt32).toInt32) % (5 : Int32))), .val (.int s0), .val (.int s1), .val (.int s2), .val (.int s3), .unset, .unset, .unset, .unset, .unset, .unset] [])) _
    exact kt)
  rcases own_n p2 with hn | hn | hn | hn | hn
  · obtain ⟨T2, h2, k2, X2, e2, E2, A2, st2⟩ := newP X0 hx hZ (hw _ (List.mem_of_getElem? (i := 0) rfl)) e0 (g := (mkF m 45 #[.val (.int p1), .val (.int p2), .val (.int p3), .val (.int p4), .val (.int p5), .val (.int (0 : Int32)), .val (.int s0), .val (.int s1), .val (.int s2), .val (.int s3), .unset, .unset, .unset, .unset, .unset, .unset] [(.int (0 : Int32))])) rfl (hb hby at_45) rfl (by decide) (cap := 0) (by decide) (by decide) (by decide) (by decide)
    obtain ⟨b2, g2⟩ : ∃ z, z = h0.size := ⟨_, rfl⟩
    rw [← g2] at A2 st2
    have g_b2 : n0 ≤ b2 := Nat.le_trans Z0 (Nat.le_of_eq g2.symm)
    have sz_b2 : h0.size ≤ b2 := Nat.le_trans K0.1 (Nat.le_of_eq g2.symm)
    have K2 : Keep h0 h2 [] := K0.ext E2
    have Z2 : n0 ≤ h2.size := Nat.le_trans Z0 E2.1
    have V2 : Arv Z h2 b2 k2 .int (0 : Int32) [(.int (0 : Int32)), (.int (0 : Int32)), (.int (0 : Int32)), (.int (0 : Int32))] (.int (0 : Int32)) := (Arv.new A2 (by decide)).pad (pad_rep [] (.int (0 : Int32)) 4)
    obtain ⟨mm, hmm⟩ : ∃ z : Int32, z = ((p3 &&& (2147483647 : Int32)) % (1 : Int32)) := ⟨_, rfl⟩
    have hB : own_B mm (0 : Int32) := by rw [hmm]; exact own_mb _ _ _ (by decide) (by decide)
    have ch3 : Goes p e below s₁ (entryFrame m #[(.int p1), (.int p2), (.int p3), (.int p4), (.int p5)] maxLocals) T2 (mkF m 110 #[.val (.int p1), .val (.int p2), .val (.int p3), .val (.int p4), .val (.int p5), .val (.int (0 : Int32)), .val (.int s0), .val (.int s1), .val (.int s2), .val (.int s3), .val (.ref b2), .val (.int mm), .unset, .unset, .unset, .unset] [(.int (p4 &&& (4 : Int32)))]) := fun t kt => ch1 t (by
      show Steps p.tables e below (s₁.setTop (mkF m 43 #[.val (.int p1), .val (.int p2), .val (.int p3), .val (.int p4), .val (.int p5), .val (.int (((p2.toUInt32 >>> ((8 : Int32) &&& 31).toUInt32).toInt32) % (5 : Int32))), .val (.int s0), .val (.int s1), .val (.int s2), .val (.int s3), .unset, .unset, .unset, .unset, .unset, .unset] [])) _
      rw [hn]
      show Steps p.tables e below (s₁.setTop (mkF m 43 #[.val (.int p1), .val (.int p2), .val (.int p3), .val (.int p4), .val (.int p5), .val (.int (0 : Int32)), .val (.int s0), .val (.int s1), .val (.int s2), .val (.int s3), .unset, .unset, .unset, .unset, .unset, .unset] [])) _
      refine XS.iload X0.here hx rfl (hb hby at_43) rfl ?_
      show Steps p.tables e below (s₁.setTop (mkF m 45 #[.val (.int p1), .val (.int p2), .val (.int p3), .val (.int p4), .val (.int p5), .val (.int (0 : Int32)), .val (.int s0), .val (.int s1), .val (.int s2), .val (.int s3), .unset, .unset, .unset, .unset, .unset, .unset] [(.int (0 : Int32))])) _
      refine st2 _ ?_
      show Steps p.tables e below (T2.setTop (mkF m 47 #[.val (.int p1), .val (.int p2), .val (.int p3), .val (.int p4), .val (.int p5), .val (.int (0 : Int32)), .val (.int s0), .val (.int s1), .val (.int s2), .val (.int s3), .unset, .unset, .unset, .unset, .unset, .unset] [(.ref b2)])) _
      refine XS.astore X2.here hx rfl (hb hby at_47) rfl rfl (l' := #[.val (.int p1), .val (.int p2), .val (.int p3), .val (.int p4), .val (.int p5), .val (.int (0 : Int32)), .val (.int s0), .val (.int s1), .val (.int s2), .val (.int s3), .val (.ref b2), .unset, .unset, .unset, .unset, .unset]) rfl ?_
      show Steps p.tables e below (T2.setTop (mkF m 49 #[.val (.int p1), .val (.int p2), .val (.int p3), .val (.int p4), .val (.int p5), .val (.int (0 : Int32)), .val (.int s0), .val (.int s1), .val (.int s2), .val (.int s3), .val (.ref b2), .unset, .unset, .unset, .unset, .unset] [])) _
      refine XS.iload X2.here hx rfl (hb hby at_49) rfl ?_
      show Steps p.tables e below (T2.setTop (mkF m 51 #[.val (.int p1), .val (.int p2), .val (.int p3), .val (.int p4), .val (.int p5), .val (.int (0 : Int32)), .val (.int s0), .val (.int s1), .val (.int s2), .val (.int s3), .val (.ref b2), .unset, .unset, .unset, .unset, .unset] [(.int (0 : Int32))])) _
      refine XS.ifYes X2.here hx rfl (pc0 := 51) (pc' := 60) rfl (hb hby at_51) rfl ((if0 _ _).trans (flt (by decide : ¬ ((0 : Int32) < (0 : Int32)))).2.2.2) (by decide) (by decide) ?_
      show Steps p.tables e below (T2.setTop (mkF m 60 #[.val (.int p1), .val (.int p2), .val (.int p3), .val (.int p4), .val (.int p5), .val (.int (0 : Int32)), .val (.int s0), .val (.int s1), .val (.int s2), .val (.int s3), .val (.ref b2), .unset, .unset, .unset, .unset, .unset] [])) _
      refine XS.iload X2.here hx rfl (hb hby at_60) rfl ?_
      show Steps p.tables e below (T2.setTop (mkF m 62 #[.val (.int p1), .val (.int p2), .val (.int p3), .val (.int p4), .val (.int p5), .val (.int (0 : Int32)), .val (.int s0), .val (.int s1), .val (.int s2), .val (.int s3), .val (.ref b2), .unset, .unset, .unset, .unset, .unset] [(.int (0 : Int32))])) _
      refine XS.iconst X2.here hx rfl (hb hby at_62) ?_
      show Steps p.tables e below (T2.setTop (mkF m 63 #[.val (.int p1), .val (.int p2), .val (.int p3), .val (.int p4), .val (.int p5), .val (.int (0 : Int32)), .val (.int s0), .val (.int s1), .val (.int s2), .val (.int s3), .val (.ref b2), .unset, .unset, .unset, .unset, .unset] [(.int (1 : Int32)), (.int (0 : Int32))])) _
      refine XS.icmpYes X2.here hx rfl (pc0 := 63) (pc' := 72) rfl (hb hby at_63) rfl (flt (by decide : ¬ ((1 : Int32) < (0 : Int32)))).2.2.2 (by decide) (by decide) ?_
      show Steps p.tables e below (T2.setTop (mkF m 72 #[.val (.int p1), .val (.int p2), .val (.int p3), .val (.int p4), .val (.int p5), .val (.int (0 : Int32)), .val (.int s0), .val (.int s1), .val (.int s2), .val (.int s3), .val (.ref b2), .unset, .unset, .unset, .unset, .unset] [])) _
      refine XS.iload X2.here hx rfl (hb hby at_72) rfl ?_
      show Steps p.tables e below (T2.setTop (mkF m 74 #[.val (.int p1), .val (.int p2), .val (.int p3), .val (.int p4), .val (.int p5), .val (.int (0 : Int32)), .val (.int s0), .val (.int s1), .val (.int s2), .val (.int s3), .val (.ref b2), .unset, .unset, .unset, .unset, .unset] [(.int (0 : Int32))])) _
      refine XS.iconst X2.here hx rfl (hb hby at_74) ?_
      show Steps p.tables e below (T2.setTop (mkF m 75 #[.val (.int p1), .val (.int p2), .val (.int p3), .val (.int p4), .val (.int p5), .val (.int (0 : Int32)), .val (.int s0), .val (.int s1), .val (.int s2), .val (.int s3), .val (.ref b2), .unset, .unset, .unset, .unset, .unset] [(.int (2 : Int32)), (.int (0 : Int32))])) _
      refine XS.icmpYes X2.here hx rfl (pc0 := 75) (pc' := 84) rfl (hb hby at_75) rfl (flt (by decide : ¬ ((2 : Int32) < (0 : Int32)))).2.2.2 (by decide) (by decide) ?_
      show Steps p.tables e below (T2.setTop (mkF m 84 #[.val (.int p1), .val (.int p2), .val (.int p3), .val (.int p4), .val (.int p5), .val (.int (0 : Int32)), .val (.int s0), .val (.int s1), .val (.int s2), .val (.int s3), .val (.ref b2), .unset, .unset, .unset, .unset, .unset] [])) _
      refine XS.iload X2.here hx rfl (hb hby at_84) rfl ?_
      show Steps p.tables e below (T2.setTop (mkF m 86 #[.val (.int p1), .val (.int p2), .val (.int p3), .val (.int p4), .val (.int p5), .val (.int (0 : Int32)), .val (.int s0), .val (.int s1), .val (.int s2), .val (.int s3), .val (.ref b2), .unset, .unset, .unset, .unset, .unset] [(.int (0 : Int32))])) _
      refine XS.iconst X2.here hx rfl (hb hby at_86) ?_
      show Steps p.tables e below (T2.setTop (mkF m 87 #[.val (.int p1), .val (.int p2), .val (.int p3), .val (.int p4), .val (.int p5), .val (.int (0 : Int32)), .val (.int s0), .val (.int s1), .val (.int s2), .val (.int s3), .val (.ref b2), .unset, .unset, .unset, .unset, .unset] [(.int (3 : Int32)), (.int (0 : Int32))])) _
      refine XS.icmpYes X2.here hx rfl (pc0 := 87) (pc' := 96) rfl (hb hby at_87) rfl (flt (by decide : ¬ ((3 : Int32) < (0 : Int32)))).2.2.2 (by decide) (by decide) ?_
      show Steps p.tables e below (T2.setTop (mkF m 96 #[.val (.int p1), .val (.int p2), .val (.int p3), .val (.int p4), .val (.int p5), .val (.int (0 : Int32)), .val (.int s0), .val (.int s1), .val (.int s2), .val (.int s3), .val (.ref b2), .unset, .unset, .unset, .unset, .unset] [])) _
      refine XS.iloadN X2.here hx rfl (hb hby at_96) rfl ?_
      show Steps p.tables e below (T2.setTop (mkF m 97 #[.val (.int p1), .val (.int p2), .val (.int p3), .val (.int p4), .val (.int p5), .val (.int (0 : Int32)), .val (.int s0), .val (.int s1), .val (.int s2), .val (.int s3), .val (.ref b2), .unset, .unset, .unset, .unset, .unset] [(.int p3)])) _
      refine X2.ldcInt hx hown (mvT hZ (hw _ (List.mem_of_getElem? (i := 1) rfl))) (g := (mkF m 97 #[.val (.int p1), .val (.int p2), .val (.int p3), .val (.int p4), .val (.int p5), .val (.int (0 : Int32)), .val (.int s0), .val (.int s1), .val (.int s2), .val (.int s3), .val (.ref b2), .unset, .unset, .unset, .unset, .unset] [(.int p3)])) rfl (hb hby at_97) _ ?_
      show Steps p.tables e below (T2.setTop (mkF m 99 #[.val (.int p1), .val (.int p2), .val (.int p3), .val (.int p4), .val (.int p5), .val (.int (0 : Int32)), .val (.int s0), .val (.int s1), .val (.int s2), .val (.int s3), .val (.ref b2), .unset, .unset, .unset, .unset, .unset] [(.int (2147483647 : Int32)), (.int p3)])) _
      refine XS.iand X2.here hx rfl (hb hby at_99) rfl ?_
      show Steps p.tables e below (T2.setTop (mkF m 100 #[.val (.int p1), .val (.int p2), .val (.int p3), .val (.int p4), .val (.int p5), .val (.int (0 : Int32)), .val (.int s0), .val (.int s1), .val (.int s2), .val (.int s3), .val (.ref b2), .unset, .unset, .unset, .unset, .unset] [(.int (p3 &&& (2147483647 : Int32)))])) _
      refine XS.iload X2.here hx rfl (hb hby at_100) rfl ?_
      show Steps p.tables e below (T2.setTop (mkF m 102 #[.val (.int p1), .val (.int p2), .val (.int p3), .val (.int p4), .val (.int p5), .val (.int (0 : Int32)), .val (.int s0), .val (.int s1), .val (.int s2), .val (.int s3), .val (.ref b2), .unset, .unset, .unset, .unset, .unset] [(.int (0 : Int32)), (.int (p3 &&& (2147483647 : Int32)))])) _
      refine XS.iconst X2.here hx rfl (hb hby at_102) ?_
      show Steps p.tables e below (T2.setTop (mkF m 103 #[.val (.int p1), .val (.int p2), .val (.int p3), .val (.int p4), .val (.int p5), .val (.int (0 : Int32)), .val (.int s0), .val (.int s1), .val (.int s2), .val (.int s3), .val (.ref b2), .unset, .unset, .unset, .unset, .unset] [(.int (1 : Int32)), (.int (0 : Int32)), (.int (p3 &&& (2147483647 : Int32)))])) _
      refine XS.iadd X2.here hx rfl (hb hby at_103) rfl ?_
      show Steps p.tables e below (T2.setTop (mkF m 104 #[.val (.int p1), .val (.int p2), .val (.int p3), .val (.int p4), .val (.int p5), .val (.int (0 : Int32)), .val (.int s0), .val (.int s1), .val (.int s2), .val (.int s3), .val (.ref b2), .unset, .unset, .unset, .unset, .unset] [(.int (1 : Int32)), (.int (p3 &&& (2147483647 : Int32)))])) _
      refine iremM X2 hx rfl (hb hby at_104) rfl (by decide) ?_
      show Steps p.tables e below (T2.setTop (mkF m 105 #[.val (.int p1), .val (.int p2), .val (.int p3), .val (.int p4), .val (.int p5), .val (.int (0 : Int32)), .val (.int s0), .val (.int s1), .val (.int s2), .val (.int s3), .val (.ref b2), .unset, .unset, .unset, .unset, .unset] [(.int ((p3 &&& (2147483647 : Int32)) % (1 : Int32)))])) _
      refine XS.istore X2.here hx rfl (hb hby at_105) rfl (l' := #[.val (.int p1), .val (.int p2), .val (.int p3), .val (.int p4), .val (.int p5), .val (.int (0 : Int32)), .val (.int s0), .val (.int s1), .val (.int s2), .val (.int s3), .val (.ref b2), .val (.int ((p3 &&& (2147483647 : Int32)) % (1 : Int32))), .unset, .unset, .unset, .unset]) rfl ?_
      show Steps p.tables e below (T2.setTop (mkF m 107 #[.val (.int p1), .val (.int p2), .val (.int p3), .val (.int p4), .val (.int p5), .val (.int (0 : Int32)), .val (.int s0), .val (.int s1), .val (.int s2), .val (.int s3), .val (.ref b2), .val (.int ((p3 &&& (2147483647 : Int32)) % (1 : Int32))), .unset, .unset, .unset, .unset] [])) _
      rw [← hmm]
      show Steps p.tables e below (T2.setTop (mkF m 107 #[.val (.int p1), .val (.int p2), .val (.int p3), .val (.int p4), .val (.int p5), .val (.int (0 : Int32)), .val (.int s0), .val (.int s1), .val (.int s2), .val (.int s3), .val (.ref b2), .val (.int mm), .unset, .unset, .unset, .unset] [])) _
      refine XS.iloadN X2.here hx rfl (hb hby at_107) rfl ?_
      show Steps p.tables e below (T2.setTop (mkF m 108 #[.val (.int p1), .val (.int p2), .val (.int p3), .val (.int p4), .val (.int p5), .val (.int (0 : Int32)), .val (.int s0), .val (.int s1), .val (.int s2), .val (.int s3), .val (.ref b2), .val (.int mm), .unset, .unset, .unset, .unset] [(.int p4)])) _
      refine XS.iconst X2.here hx rfl (hb hby at_108) ?_
      show Steps p.tables e below (T2.setTop (mkF m 109 #[.val (.int p1), .val (.int p2), .val (.int p3), .val (.int p4), .val (.int p5), .val (.int (0 : Int32)), .val (.int s0), .val (.int s1), .val (.int s2), .val (.int s3), .val (.ref b2), .val (.int mm), .unset, .unset, .unset, .unset] [(.int (4 : Int32)), (.int p4)])) _
      refine XS.iand X2.here hx rfl (hb hby at_109) rfl ?_
      show Steps p.tables e below (T2.setTop (mkF m 110 #[.val (.int p1), .val (.int p2), .val (.int p3), .val (.int p4), .val (.int p5), .val (.int (0 : Int32)), .val (.int s0), .val (.int s1), .val (.int s2), .val (.int s3), .val (.ref b2), .val (.int mm), .unset, .unset, .unset, .unset] [(.int (p4 &&& (4 : Int32)))])) _
      exact kt)
    have ch5 : Goes p e below s₁ (entryFrame m #[(.int p1), (.int p2), (.int p3), (.int p4), (.int p5)] maxLocals) T2 (mkF m 122 #[.val (.int p1), .val (.int p2), .val (.int p3), .val (.int p4), .val (.int p5), .val (.int (0 : Int32)), .val (.int s0), .val (.int s1), .val (.int s2), .val (.int s3), .val (.ref b2), .val (.int mm), .unset, .unset, .unset, .unset] [(.int (if (p4 &&& (4 : Int32)) = (0 : Int32) then (p1 + (p4 &&& (3 : Int32))) else p4))]) := fun t kt => ch3 t (by
      by_cases hc4 : (p4 &&& (4 : Int32)) = (0 : Int32)
      · show Steps p.tables e below (T2.setTop (mkF m 110 #[.val (.int p1), .val (.int p2), .val (.int p3), .val (.int p4), .val (.int p5), .val (.int (0 : Int32)), .val (.int s0), .val (.int s1), .val (.int s2), .val (.int s3), .val (.ref b2), .val (.int mm), .unset, .unset, .unset, .unset] [(.int (p4 &&& (4 : Int32)))])) _
        refine XS.ifYes X2.here hx rfl (pc0 := 110) (pc' := 117) rfl (hb hby at_110) rfl ((if0 _ _).trans (teq hc4).1) (by decide) (by decide) ?_
        show Steps p.tables e below (T2.setTop (mkF m 117 #[.val (.int p1), .val (.int p2), .val (.int p3), .val (.int p4), .val (.int p5), .val (.int (0 : Int32)), .val (.int s0), .val (.int s1), .val (.int s2), .val (.int s3), .val (.ref b2), .val (.int mm), .unset, .unset, .unset, .unset] [])) _
        refine XS.iloadN X2.here hx rfl (hb hby at_117) rfl ?_
        show Steps p.tables e below (T2.setTop (mkF m 118 #[.val (.int p1), .val (.int p2), .val (.int p3), .val (.int p4), .val (.int p5), .val (.int (0 : Int32)), .val (.int s0), .val (.int s1), .val (.int s2), .val (.int s3), .val (.ref b2), .val (.int mm), .unset, .unset, .unset, .unset] [(.int p1)])) _
        refine XS.iloadN X2.here hx rfl (hb hby at_118) rfl ?_
        show Steps p.tables e below (T2.setTop (mkF m 119 #[.val (.int p1), .val (.int p2), .val (.int p3), .val (.int p4), .val (.int p5), .val (.int (0 : Int32)), .val (.int s0), .val (.int s1), .val (.int s2), .val (.int s3), .val (.ref b2), .val (.int mm), .unset, .unset, .unset, .unset] [(.int p4), (.int p1)])) _
        refine XS.iconst X2.here hx rfl (hb hby at_119) ?_
        show Steps p.tables e below (T2.setTop (mkF m 120 #[.val (.int p1), .val (.int p2), .val (.int p3), .val (.int p4), .val (.int p5), .val (.int (0 : Int32)), .val (.int s0), .val (.int s1), .val (.int s2), .val (.int s3), .val (.ref b2), .val (.int mm), .unset, .unset, .unset, .unset] [(.int (3 : Int32)), (.int p4), (.int p1)])) _
        refine XS.iand X2.here hx rfl (hb hby at_120) rfl ?_
        show Steps p.tables e below (T2.setTop (mkF m 121 #[.val (.int p1), .val (.int p2), .val (.int p3), .val (.int p4), .val (.int p5), .val (.int (0 : Int32)), .val (.int s0), .val (.int s1), .val (.int s2), .val (.int s3), .val (.ref b2), .val (.int mm), .unset, .unset, .unset, .unset] [(.int (p4 &&& (3 : Int32))), (.int p1)])) _
        refine XS.iadd X2.here hx rfl (hb hby at_121) rfl ?_
        show Steps p.tables e below (T2.setTop (mkF m 122 #[.val (.int p1), .val (.int p2), .val (.int p3), .val (.int p4), .val (.int p5), .val (.int (0 : Int32)), .val (.int s0), .val (.int s1), .val (.int s2), .val (.int s3), .val (.ref b2), .val (.int mm), .unset, .unset, .unset, .unset] [(.int (p1 + (p4 &&& (3 : Int32))))])) _
        simpa only [if_pos hc4] using kt
      · show Steps p.tables e below (T2.setTop (mkF m 110 #[.val (.int p1), .val (.int p2), .val (.int p3), .val (.int p4), .val (.int p5), .val (.int (0 : Int32)), .val (.int s0), .val (.int s1), .val (.int s2), .val (.int s3), .val (.ref b2), .val (.int mm), .unset, .unset, .unset, .unset] [(.int (p4 &&& (4 : Int32)))])) _
        refine XS.ifNo X2.here hx rfl (hb hby at_110) rfl ((if0 _ _).trans (feq hc4).1) ?_
        show Steps p.tables e below (T2.setTop (mkF m 113 #[.val (.int p1), .val (.int p2), .val (.int p3), .val (.int p4), .val (.int p5), .val (.int (0 : Int32)), .val (.int s0), .val (.int s1), .val (.int s2), .val (.int s3), .val (.ref b2), .val (.int mm), .unset, .unset, .unset, .unset] [])) _
        refine XS.iloadN X2.here hx rfl (hb hby at_113) rfl ?_
        show Steps p.tables e below (T2.setTop (mkF m 114 #[.val (.int p1), .val (.int p2), .val (.int p3), .val (.int p4), .val (.int p5), .val (.int (0 : Int32)), .val (.int s0), .val (.int s1), .val (.int s2), .val (.int s3), .val (.ref b2), .val (.int mm), .unset, .unset, .unset, .unset] [(.int p4)])) _
        refine XS.goto X2.here hx rfl (pc0 := 114) (pc' := 122) rfl (hb hby at_114) (by decide) (by decide) ?_
        show Steps p.tables e below (T2.setTop (mkF m 122 #[.val (.int p1), .val (.int p2), .val (.int p3), .val (.int p4), .val (.int p5), .val (.int (0 : Int32)), .val (.int s0), .val (.int s1), .val (.int s2), .val (.int s3), .val (.ref b2), .val (.int mm), .unset, .unset, .unset, .unset] [(.int p4)])) _
        simpa only [if_neg hc4] using kt)
    obtain ⟨cc, hcc⟩ : ∃ z : Int32, z = (if (p4 &&& (4 : Int32)) = (0 : Int32) then (p1 + (p4 &&& (3 : Int32))) else p4) := ⟨_, rfl⟩
    obtain ⟨T6, h6, k6, X6, e6, E6, A6, st6⟩ := newP X2 hx hZ (hw _ (List.mem_of_getElem? (i := 0) rfl)) e2 (g := (mkF m 126 #[.val (.int p1), .val (.int p2), .val (.int p3), .val (.int p4), .val (.int p5), .val (.int (0 : Int32)), .val (.int s0), .val (.int s1), .val (.int s2), .val (.int s3), .val (.ref b2), .val (.int mm), .val (.int cc), .unset, .unset, .unset] [(.int (0 : Int32))])) rfl (hb hby at_126) rfl (by decide) (cap := 0) (by decide) (by decide) (by decide) (by decide)
    obtain ⟨b6, g6⟩ : ∃ z, z = h2.size := ⟨_, rfl⟩
    rw [← g6] at A6 st6
    have g_b6 : n0 ≤ b6 := Nat.le_trans Z2 (Nat.le_of_eq g6.symm)
    have sz_b6 : h0.size ≤ b6 := Nat.le_trans K2.1 (Nat.le_of_eq g6.symm)
    have ne7 : b2 ≠ b6 := Nat.ne_of_lt (Nat.lt_of_lt_of_le V2.lt (Nat.le_of_eq g6.symm))
    have f8 := V2.ext E6
    have K6 : Keep h0 h6 [] := K2.ext E6
    have Z6 : n0 ≤ h6.size := Nat.le_trans Z2 E6.1
    have V6 : Arv Z h6 b6 k6 .int (0 : Int32) [(.int (0 : Int32)), (.int (0 : Int32)), (.int (0 : Int32)), (.int (0 : Int32))] (.int (0 : Int32)) := (Arv.new A6 (by decide)).pad (pad_rep [] (.int (0 : Int32)) 4)
    obtain ⟨_, _, ⟨T9, L9, k9, n9⟩, -, X9, ⟨Lc9, hQ9, l9, y9, z9⟩, st9⟩ := Jvm.LawKit.callS X6 hx (y := (⟨"java/lang/Math", "min", "(II)I"⟩ : MethodName)) hown (mvT hZ (hw _ (List.mem_of_getElem? (i := 2) rfl))) (mvT hZ (hw _ (List.mem_of_getElem? (i := 3) rfl))) (mvT hZ (hw _ (List.mem_of_getElem? (i := 4) rfl))) (mvT hZ (hw _ (List.mem_of_getElem? (i := 5) rfl))) (by decide) (backOf (W := 3) (rm1 l Z a0 hw [] (0 : Int32) (mm + (1 : Int32)) h6 n0 Z6) hZ (hw _ (List.mem_of_getElem? (i := 5) rfl)) (hw _ (List.mem_of_getElem? (i := 4) rfl)) (by decide) (by decide)) (g := (mkF m 259 #[.val (.int p1), .val (.int p2), .val (.int p3), .val (.int p4), .val (.int p5), .val (.int (0 : Int32)), .val (.int s0), .val (.int s1), .val (.int s2), .val (.int s3), .val (.ref b2), .val (.int mm), .val (.int cc), .val (.ref b6), .unset, .unset] [(.int (mm + (1 : Int32))), (.int (0 : Int32)), (.int cc), (.int mm), (.ref b2)])) rfl (by rw [hml]; rfl) (argsL := [(.int (0 : Int32)), (.int (mm + (1 : Int32)))]) (rest := [(.int cc), (.int mm), (.ref b2)]) (lenOf pd_0 rfl) rfl (by show 2 * 0 + _ ≤ _; exact Nat.le_of_eq rfl) (hb hby at_259) (fun _ _ => ⟨rfl, e6, (by decide : 2 + 0 ≤ _), (by decide : 0 + 0 ≤ _)⟩)
    dsimp only [Pt.U, Pt.locs, Pt.cells, Pt.slots] at X9 l9 y9 z9 st9 hQ9
    subst l9 y9 z9
    obtain ⟨rfl, N9q, r9_0⟩ := hQ9
    have N9 := Fr.app N0 N9q
    obtain ⟨_, _, ⟨T10, L10, k10, n10⟩, -, X10, ⟨Lc10, hQ10, l10, y10, z10⟩, st10⟩ := Jvm.LawKit.callS X9 hx (y := (⟨"com/example/humble_match/humblematch/PartialMatchTableAdvancePinLaw", "best", "([IIII)I"⟩ : MethodName)) hown (mvT hZ (hw _ (List.mem_of_getElem? (i := 6) rfl))) (mvT hZ (hw _ (List.mem_of_getElem? (i := 7) rfl))) (mvT hZ (hw _ (List.mem_of_getElem? (i := 8) rfl))) (mvT hZ (hw _ (List.mem_of_getElem? (i := 9) rfl))) (by decide) (backOf (W := 0) (rm2 l Z a0 hw [] b2 mm cc (own_min (0 : Int32) (mm + (1 : Int32))) k2 (0 : Int32) (own_f (0 : Int32) (0 : Int32) (0 : Int32) (0 : Int32)) h6 n0 Z6 f8 hB (own_mink (0 : Int32) mm hB)) hZ (hw _ (List.mem_of_getElem? (i := 9) rfl)) (hw _ (List.mem_of_getElem? (i := 8) rfl)) (by decide) (by decide)) (g := (mkF m 262 #[.val (.int p1), .val (.int p2), .val (.int p3), .val (.int p4), .val (.int p5), .val (.int (0 : Int32)), .val (.int s0), .val (.int s1), .val (.int s2), .val (.int s3), .val (.ref b2), .val (.int mm), .val (.int cc), .val (.ref b6), .unset, .unset] [(.int (own_min (0 : Int32) (mm + (1 : Int32)))), (.int cc), (.int mm), (.ref b2)])) rfl (by rw [hml]; rfl) (argsL := [(.ref b2), (.int mm), (.int cc), (.int (own_min (0 : Int32) (mm + (1 : Int32))))]) (rest := []) (lenOf pd_1 rfl) rfl (by show 2 * 0 + _ ≤ _; exact Nat.le_of_eq rfl) (hb hby at_262) (fun _ _ => ⟨rfl, r9_0, (by decide : 2 + 0 ≤ _), (by decide : 0 + 0 ≤ _)⟩)
    dsimp only [Pt.U, Pt.locs, Pt.cells, Pt.slots] at X10 l10 y10 z10 st10 hQ10
    subst l10 y10 z10
    obtain ⟨rfl, N10q, r10_0⟩ := hQ10
    have N10 := Fr.app N9 N10q
    obtain ⟨_, _, ⟨T11, L11, k11, n11⟩, -, X11, ⟨Lc11, hQ11, l11, y11, z11⟩, st11⟩ := Jvm.LawKit.callS X10 hx (y := (⟨"com/example/humble_match/humblematch/PartialMatchTable", "advance", "([I[III)I"⟩ : MethodName)) hown (mvT hZ (hw _ (List.mem_of_getElem? (i := 10) rfl))) (mvT hZ (hw _ (List.mem_of_getElem? (i := 11) rfl))) (mvT hZ (hw _ (List.mem_of_getElem? (i := 12) rfl))) (mvT hZ (hw _ (List.mem_of_getElem? (i := 13) rfl))) (by decide) (backOf (W := 0) (rm3 l Z a0 hw [] b2 b6 mm cc k2 k6 (0 : Int32) (own_f (0 : Int32) (0 : Int32) (0 : Int32) (0 : Int32)) (own_f (0 : Int32) (0 : Int32) (0 : Int32) (0 : Int32)) h6 n0 Z6 f8 V6 hB (own_hg (own_f (0 : Int32) (0 : Int32) (0 : Int32) (0 : Int32)) mm (0 : Int32) (0 : Int32) (0 : Int32) (0 : Int32) (0 : Int32) hB (fun q => absurd q (own_no _ _ _ hB.2.1 (by decide))) (fun q => absurd q (own_no _ _ _ hB.2.1 (by decide))) (fun q => absurd q (own_no _ _ _ hB.2.1 (by decide))) (fun q => absurd q (own_no _ _ _ hB.2.1 (by decide))))) hZ (hw _ (List.mem_of_getElem? (i := 13) rfl)) (hw _ (List.mem_of_getElem? (i := 12) rfl)) (by decide) (by decide)) (g := (mkF m 275 #[.val (.int p1), .val (.int p2), .val (.int p3), .val (.int p4), .val (.int p5), .val (.int (0 : Int32)), .val (.int s0), .val (.int s1), .val (.int s2), .val (.int s3), .val (.ref b2), .val (.int mm), .val (.int cc), .val (.ref b6), .val (.int (own_b4 (own_f (0 : Int32) (0 : Int32) (0 : Int32) (0 : Int32)) mm cc (own_min (0 : Int32) (mm + (1 : Int32))))), .unset] [(.int cc), (.int mm), (.ref b6), (.ref b2)])) rfl (by rw [hml]; rfl) (argsL := [(.ref b2), (.ref b6), (.int mm), (.int cc)]) (rest := []) (lenOf pd_2 rfl) rfl (by show 2 * 0 + _ ≤ _; exact Nat.le_of_eq rfl) (hb hby at_275) (fun _ _ => ⟨rfl, r10_0, (by decide : 2 + 0 ≤ _), (by decide : 0 + 0 ≤ _)⟩)
    dsimp only [Pt.U, Pt.locs, Pt.cells, Pt.slots] at X11 l11 y11 z11 st11 hQ11
    subst l11 y11 z11
    obtain ⟨rfl, N11q, r11_0⟩ := hQ11
    have N11 := Fr.app N10 N11q
    obtain ⟨fs, hr, hrun, hended, hW, hsame⟩ := X11.leave (v := some (.int (1 : Int32))) (fun h => by rw [Bd.returns] at h; cases h)
    refine ⟨_, _, ch5 _ ?_, hrun, hended, _, _, rfl, ?_, ⟨_, rfl⟩, hW, hsame.mono (by decide) (by decide)⟩
    · show Steps p.tables e below (T2.setTop (mkF m 122 #[.val (.int p1), .val (.int p2), .val (.int p3), .val (.int p4), .val (.int p5), .val (.int (0 : Int32)), .val (.int s0), .val (.int s1), .val (.int s2), .val (.int s3), .val (.ref b2), .val (.int mm), .unset, .unset, .unset, .unset] [(.int (if (p4 &&& (4 : Int32)) = (0 : Int32) then (p1 + (p4 &&& (3 : Int32))) else p4))])) _
      refine XS.istore X2.here hx rfl (hb hby at_122) rfl (l' := #[.val (.int p1), .val (.int p2), .val (.int p3), .val (.int p4), .val (.int p5), .val (.int (0 : Int32)), .val (.int s0), .val (.int s1), .val (.int s2), .val (.int s3), .val (.ref b2), .val (.int mm), .val (.int (if (p4 &&& (4 : Int32)) = (0 : Int32) then (p1 + (p4 &&& (3 : Int32))) else p4)), .unset, .unset, .unset]) rfl ?_
      show Steps p.tables e below (T2.setTop (mkF m 124 #[.val (.int p1), .val (.int p2), .val (.int p3), .val (.int p4), .val (.int p5), .val (.int (0 : Int32)), .val (.int s0), .val (.int s1), .val (.int s2), .val (.int s3), .val (.ref b2), .val (.int mm), .val (.int (if (p4 &&& (4 : Int32)) = (0 : Int32) then (p1 + (p4 &&& (3 : Int32))) else p4)), .unset, .unset, .unset] [])) _
      rw [← hcc]
      show Steps p.tables e below (T2.setTop (mkF m 124 #[.val (.int p1), .val (.int p2), .val (.int p3), .val (.int p4), .val (.int p5), .val (.int (0 : Int32)), .val (.int s0), .val (.int s1), .val (.int s2), .val (.int s3), .val (.ref b2), .val (.int mm), .val (.int cc), .unset, .unset, .unset] [])) _
      refine XS.iload X2.here hx rfl (hb hby at_124) rfl ?_
      show Steps p.tables e below (T2.setTop (mkF m 126 #[.val (.int p1), .val (.int p2), .val (.int p3), .val (.int p4), .val (.int p5), .val (.int (0 : Int32)), .val (.int s0), .val (.int s1), .val (.int s2), .val (.int s3), .val (.ref b2), .val (.int mm), .val (.int cc), .unset, .unset, .unset] [(.int (0 : Int32))])) _
      refine st6 _ ?_
      show Steps p.tables e below (T6.setTop (mkF m 128 #[.val (.int p1), .val (.int p2), .val (.int p3), .val (.int p4), .val (.int p5), .val (.int (0 : Int32)), .val (.int s0), .val (.int s1), .val (.int s2), .val (.int s3), .val (.ref b2), .val (.int mm), .val (.int cc), .unset, .unset, .unset] [(.ref b6)])) _
      refine XS.astore X6.here hx rfl (hb hby at_128) rfl rfl (l' := #[.val (.int p1), .val (.int p2), .val (.int p3), .val (.int p4), .val (.int p5), .val (.int (0 : Int32)), .val (.int s0), .val (.int s1), .val (.int s2), .val (.int s3), .val (.ref b2), .val (.int mm), .val (.int cc), .val (.ref b6), .unset, .unset]) rfl ?_
      show Steps p.tables e below (T6.setTop (mkF m 130 #[.val (.int p1), .val (.int p2), .val (.int p3), .val (.int p4), .val (.int p5), .val (.int (0 : Int32)), .val (.int s0), .val (.int s1), .val (.int s2), .val (.int s3), .val (.ref b2), .val (.int mm), .val (.int cc), .val (.ref b6), .unset, .unset] [])) _
      refine XS.iload X6.here hx rfl (hb hby at_130) rfl ?_
      show Steps p.tables e below (T6.setTop (mkF m 132 #[.val (.int p1), .val (.int p2), .val (.int p3), .val (.int p4), .val (.int p5), .val (.int (0 : Int32)), .val (.int s0), .val (.int s1), .val (.int s2), .val (.int s3), .val (.ref b2), .val (.int mm), .val (.int cc), .val (.ref b6), .unset, .unset] [(.int (0 : Int32))])) _
      refine XS.ifYes X6.here hx rfl (pc0 := 132) (pc' := 151) rfl (hb hby at_132) rfl ((if0 _ _).trans (flt (by decide : ¬ ((0 : Int32) < (0 : Int32)))).2.2.2) (by decide) (by decide) ?_
      show Steps p.tables e below (T6.setTop (mkF m 151 #[.val (.int p1), .val (.int p2), .val (.int p3), .val (.int p4), .val (.int p5), .val (.int (0 : Int32)), .val (.int s0), .val (.int s1), .val (.int s2), .val (.int s3), .val (.ref b2), .val (.int mm), .val (.int cc), .val (.ref b6), .unset, .unset] [])) _
      refine XS.iload X6.here hx rfl (hb hby at_151) rfl ?_
      show Steps p.tables e below (T6.setTop (mkF m 153 #[.val (.int p1), .val (.int p2), .val (.int p3), .val (.int p4), .val (.int p5), .val (.int (0 : Int32)), .val (.int s0), .val (.int s1), .val (.int s2), .val (.int s3), .val (.ref b2), .val (.int mm), .val (.int cc), .val (.ref b6), .unset, .unset] [(.int (0 : Int32))])) _
      refine XS.iconst X6.here hx rfl (hb hby at_153) ?_
      show Steps p.tables e below (T6.setTop (mkF m 154 #[.val (.int p1), .val (.int p2), .val (.int p3), .val (.int p4), .val (.int p5), .val (.int (0 : Int32)), .val (.int s0), .val (.int s1), .val (.int s2), .val (.int s3), .val (.ref b2), .val (.int mm), .val (.int cc), .val (.ref b6), .unset, .unset] [(.int (1 : Int32)), (.int (0 : Int32))])) _
      refine XS.icmpYes X6.here hx rfl (pc0 := 154) (pc' := 183) rfl (hb hby at_154) rfl (flt (by decide : ¬ ((1 : Int32) < (0 : Int32)))).2.2.2 (by decide) (by decide) ?_
      show Steps p.tables e below (T6.setTop (mkF m 183 #[.val (.int p1), .val (.int p2), .val (.int p3), .val (.int p4), .val (.int p5), .val (.int (0 : Int32)), .val (.int s0), .val (.int s1), .val (.int s2), .val (.int s3), .val (.ref b2), .val (.int mm), .val (.int cc), .val (.ref b6), .unset, .unset] [])) _
      refine XS.iload X6.here hx rfl (hb hby at_183) rfl ?_
      show Steps p.tables e below (T6.setTop (mkF m 185 #[.val (.int p1), .val (.int p2), .val (.int p3), .val (.int p4), .val (.int p5), .val (.int (0 : Int32)), .val (.int s0), .val (.int s1), .val (.int s2), .val (.int s3), .val (.ref b2), .val (.int mm), .val (.int cc), .val (.ref b6), .unset, .unset] [(.int (0 : Int32))])) _
      refine XS.iconst X6.here hx rfl (hb hby at_185) ?_
      show Steps p.tables e below (T6.setTop (mkF m 186 #[.val (.int p1), .val (.int p2), .val (.int p3), .val (.int p4), .val (.int p5), .val (.int (0 : Int32)), .val (.int s0), .val (.int s1), .val (.int s2), .val (.int s3), .val (.ref b2), .val (.int mm), .val (.int cc), .val (.ref b6), .unset, .unset] [(.int (2 : Int32)), (.int (0 : Int32))])) _
      refine XS.icmpYes X6.here hx rfl (pc0 := 186) (pc' := 215) rfl (hb hby at_186) rfl (flt (by decide : ¬ ((2 : Int32) < (0 : Int32)))).2.2.2 (by decide) (by decide) ?_
      show Steps p.tables e below (T6.setTop (mkF m 215 #[.val (.int p1), .val (.int p2), .val (.int p3), .val (.int p4), .val (.int p5), .val (.int (0 : Int32)), .val (.int s0), .val (.int s1), .val (.int s2), .val (.int s3), .val (.ref b2), .val (.int mm), .val (.int cc), .val (.ref b6), .unset, .unset] [])) _
      refine XS.iload X6.here hx rfl (hb hby at_215) rfl ?_
      show Steps p.tables e below (T6.setTop (mkF m 217 #[.val (.int p1), .val (.int p2), .val (.int p3), .val (.int p4), .val (.int p5), .val (.int (0 : Int32)), .val (.int s0), .val (.int s1), .val (.int s2), .val (.int s3), .val (.ref b2), .val (.int mm), .val (.int cc), .val (.ref b6), .unset, .unset] [(.int (0 : Int32))])) _
      refine XS.iconst X6.here hx rfl (hb hby at_217) ?_
      show Steps p.tables e below (T6.setTop (mkF m 218 #[.val (.int p1), .val (.int p2), .val (.int p3), .val (.int p4), .val (.int p5), .val (.int (0 : Int32)), .val (.int s0), .val (.int s1), .val (.int s2), .val (.int s3), .val (.ref b2), .val (.int mm), .val (.int cc), .val (.ref b6), .unset, .unset] [(.int (3 : Int32)), (.int (0 : Int32))])) _
      refine XS.icmpYes X6.here hx rfl (pc0 := 218) (pc' := 247) rfl (hb hby at_218) rfl (flt (by decide : ¬ ((3 : Int32) < (0 : Int32)))).2.2.2 (by decide) (by decide) ?_
      show Steps p.tables e below (T6.setTop (mkF m 247 #[.val (.int p1), .val (.int p2), .val (.int p3), .val (.int p4), .val (.int p5), .val (.int (0 : Int32)), .val (.int s0), .val (.int s1), .val (.int s2), .val (.int s3), .val (.ref b2), .val (.int mm), .val (.int cc), .val (.ref b6), .unset, .unset] [])) _
      refine XS.aload X6.here hx rfl (hb hby at_247) rfl rfl ?_
      show Steps p.tables e below (T6.setTop (mkF m 249 #[.val (.int p1), .val (.int p2), .val (.int p3), .val (.int p4), .val (.int p5), .val (.int (0 : Int32)), .val (.int s0), .val (.int s1), .val (.int s2), .val (.int s3), .val (.ref b2), .val (.int mm), .val (.int cc), .val (.ref b6), .unset, .unset] [(.ref b2)])) _
      refine XS.iload X6.here hx rfl (hb hby at_249) rfl ?_
      show Steps p.tables e below (T6.setTop (mkF m 251 #[.val (.int p1), .val (.int p2), .val (.int p3), .val (.int p4), .val (.int p5), .val (.int (0 : Int32)), .val (.int s0), .val (.int s1), .val (.int s2), .val (.int s3), .val (.ref b2), .val (.int mm), .val (.int cc), .val (.ref b6), .unset, .unset] [(.int mm), (.ref b2)])) _
      refine XS.iload X6.here hx rfl (hb hby at_251) rfl ?_
      show Steps p.tables e below (T6.setTop (mkF m 253 #[.val (.int p1), .val (.int p2), .val (.int p3), .val (.int p4), .val (.int p5), .val (.int (0 : Int32)), .val (.int s0), .val (.int s1), .val (.int s2), .val (.int s3), .val (.ref b2), .val (.int mm), .val (.int cc), .val (.ref b6), .unset, .unset] [(.int cc), (.int mm), (.ref b2)])) _
      refine XS.iload X6.here hx rfl (hb hby at_253) rfl ?_
      show Steps p.tables e below (T6.setTop (mkF m 255 #[.val (.int p1), .val (.int p2), .val (.int p3), .val (.int p4), .val (.int p5), .val (.int (0 : Int32)), .val (.int s0), .val (.int s1), .val (.int s2), .val (.int s3), .val (.ref b2), .val (.int mm), .val (.int cc), .val (.ref b6), .unset, .unset] [(.int (0 : Int32)), (.int cc), (.int mm), (.ref b2)])) _
      refine XS.iload X6.here hx rfl (hb hby at_255) rfl ?_
      show Steps p.tables e below (T6.setTop (mkF m 257 #[.val (.int p1), .val (.int p2), .val (.int p3), .val (.int p4), .val (.int p5), .val (.int (0 : Int32)), .val (.int s0), .val (.int s1), .val (.int s2), .val (.int s3), .val (.ref b2), .val (.int mm), .val (.int cc), .val (.ref b6), .unset, .unset] [(.int mm), (.int (0 : Int32)), (.int cc), (.int mm), (.ref b2)])) _
      refine XS.iconst X6.here hx rfl (hb hby at_257) ?_
      show Steps p.tables e below (T6.setTop (mkF m 258 #[.val (.int p1), .val (.int p2), .val (.int p3), .val (.int p4), .val (.int p5), .val (.int (0 : Int32)), .val (.int s0), .val (.int s1), .val (.int s2), .val (.int s3), .val (.ref b2), .val (.int mm), .val (.int cc), .val (.ref b6), .unset, .unset] [(.int (1 : Int32)), (.int mm), (.int (0 : Int32)), (.int cc), (.int mm), (.ref b2)])) _
      refine XS.iadd X6.here hx rfl (hb hby at_258) rfl ?_
      show Steps p.tables e below (T6.setTop (mkF m 259 #[.val (.int p1), .val (.int p2), .val (.int p3), .val (.int p4), .val (.int p5), .val (.int (0 : Int32)), .val (.int s0), .val (.int s1), .val (.int s2), .val (.int s3), .val (.ref b2), .val (.int mm), .val (.int cc), .val (.ref b6), .unset, .unset] [(.int (mm + (1 : Int32))), (.int (0 : Int32)), (.int cc), (.int mm), (.ref b2)])) _
      refine st9 _ ?_
      show Steps p.tables e below (T9.setTop (mkF m 262 #[.val (.int p1), .val (.int p2), .val (.int p3), .val (.int p4), .val (.int p5), .val (.int (0 : Int32)), .val (.int s0), .val (.int s1), .val (.int s2), .val (.int s3), .val (.ref b2), .val (.int mm), .val (.int cc), .val (.ref b6), .unset, .unset] [(.int (own_min (0 : Int32) (mm + (1 : Int32)))), (.int cc), (.int mm), (.ref b2)])) _
      refine st10 _ ?_
      show Steps p.tables e below (T10.setTop (mkF m 265 #[.val (.int p1), .val (.int p2), .val (.int p3), .val (.int p4), .val (.int p5), .val (.int (0 : Int32)), .val (.int s0), .val (.int s1), .val (.int s2), .val (.int s3), .val (.ref b2), .val (.int mm), .val (.int cc), .val (.ref b6), .unset, .unset] [(.int (own_b4 (own_f (0 : Int32) (0 : Int32) (0 : Int32) (0 : Int32)) mm cc (own_min (0 : Int32) (mm + (1 : Int32)))))])) _
      refine XS.istore X10.here hx rfl (hb hby at_265) rfl (l' := #[.val (.int p1), .val (.int p2), .val (.int p3), .val (.int p4), .val (.int p5), .val (.int (0 : Int32)), .val (.int s0), .val (.int s1), .val (.int s2), .val (.int s3), .val (.ref b2), .val (.int mm), .val (.int cc), .val (.ref b6), .val (.int (own_b4 (own_f (0 : Int32) (0 : Int32) (0 : Int32) (0 : Int32)) mm cc (own_min (0 : Int32) (mm + (1 : Int32))))), .unset]) rfl ?_
      show Steps p.tables e below (T10.setTop (mkF m 267 #[.val (.int p1), .val (.int p2), .val (.int p3), .val (.int p4), .val (.int p5), .val (.int (0 : Int32)), .val (.int s0), .val (.int s1), .val (.int s2), .val (.int s3), .val (.ref b2), .val (.int mm), .val (.int cc), .val (.ref b6), .val (.int (own_b4 (own_f (0 : Int32) (0 : Int32) (0 : Int32) (0 : Int32)) mm cc (own_min (0 : Int32) (mm + (1 : Int32))))), .unset] [])) _
      refine XS.aload X10.here hx rfl (hb hby at_267) rfl rfl ?_
      show Steps p.tables e below (T10.setTop (mkF m 269 #[.val (.int p1), .val (.int p2), .val (.int p3), .val (.int p4), .val (.int p5), .val (.int (0 : Int32)), .val (.int s0), .val (.int s1), .val (.int s2), .val (.int s3), .val (.ref b2), .val (.int mm), .val (.int cc), .val (.ref b6), .val (.int (own_b4 (own_f (0 : Int32) (0 : Int32) (0 : Int32) (0 : Int32)) mm cc (own_min (0 : Int32) (mm + (1 : Int32))))), .unset] [(.ref b2)])) _
      refine XS.aload X10.here hx rfl (hb hby at_269) rfl rfl ?_
      show Steps p.tables e below (T10.setTop (mkF m 271 #[.val (.int p1), .val (.int p2), .val (.int p3), .val (.int p4), .val (.int p5), .val (.int (0 : Int32)), .val (.int s0), .val (.int s1), .val (.int s2), .val (.int s3), .val (.ref b2), .val (.int mm), .val (.int cc), .val (.ref b6), .val (.int (own_b4 (own_f (0 : Int32) (0 : Int32) (0 : Int32) (0 : Int32)) mm cc (own_min (0 : Int32) (mm + (1 : Int32))))), .unset] [(.ref b6), (.ref b2)])) _
      refine XS.iload X10.here hx rfl (hb hby at_271) rfl ?_
      show Steps p.tables e below (T10.setTop (mkF m 273 #[.val (.int p1), .val (.int p2), .val (.int p3), .val (.int p4), .val (.int p5), .val (.int (0 : Int32)), .val (.int s0), .val (.int s1), .val (.int s2), .val (.int s3), .val (.ref b2), .val (.int mm), .val (.int cc), .val (.ref b6), .val (.int (own_b4 (own_f (0 : Int32) (0 : Int32) (0 : Int32) (0 : Int32)) mm cc (own_min (0 : Int32) (mm + (1 : Int32))))), .unset] [(.int mm), (.ref b6), (.ref b2)])) _
      refine XS.iload X10.here hx rfl (hb hby at_273) rfl ?_
      show Steps p.tables e below (T10.setTop (mkF m 275 #[.val (.int p1), .val (.int p2), .val (.int p3), .val (.int p4), .val (.int p5), .val (.int (0 : Int32)), .val (.int s0), .val (.int s1), .val (.int s2), .val (.int s3), .val (.ref b2), .val (.int mm), .val (.int cc), .val (.ref b6), .val (.int (own_b4 (own_f (0 : Int32) (0 : Int32) (0 : Int32) (0 : Int32)) mm cc (own_min (0 : Int32) (mm + (1 : Int32))))), .unset] [(.int cc), (.int mm), (.ref b6), (.ref b2)])) _
      refine st11 _ ?_
      show Steps p.tables e below (T11.setTop (mkF m 278 #[.val (.int p1), .val (.int p2), .val (.int p3), .val (.int p4), .val (.int p5), .val (.int (0 : Int32)), .val (.int s0), .val (.int s1), .val (.int s2), .val (.int s3), .val (.ref b2), .val (.int mm), .val (.int cc), .val (.ref b6), .val (.int (own_b4 (own_f (0 : Int32) (0 : Int32) (0 : Int32) (0 : Int32)) mm cc (own_min (0 : Int32) (mm + (1 : Int32))))), .unset] [(.int (own_adv (own_f (0 : Int32) (0 : Int32) (0 : Int32) (0 : Int32)) (own_f (0 : Int32) (0 : Int32) (0 : Int32) (0 : Int32)) (0 : Int32) mm cc))])) _
      refine XS.istore X11.here hx rfl (hb hby at_278) rfl (l' := #[.val (.int p1), .val (.int p2), .val (.int p3), .val (.int p4), .val (.int p5), .val (.int (0 : Int32)), .val (.int s0), .val (.int s1), .val (.int s2), .val (.int s3), .val (.ref b2), .val (.int mm), .val (.int cc), .val (.ref b6), .val (.int (own_b4 (own_f (0 : Int32) (0 : Int32) (0 : Int32) (0 : Int32)) mm cc (own_min (0 : Int32) (mm + (1 : Int32))))), .val (.int (own_adv (own_f (0 : Int32) (0 : Int32) (0 : Int32) (0 : Int32)) (own_f (0 : Int32) (0 : Int32) (0 : Int32) (0 : Int32)) (0 : Int32) mm cc))]) rfl ?_
      show Steps p.tables e below (T11.setTop (mkF m 280 #[.val (.int p1), .val (.int p2), .val (.int p3), .val (.int p4), .val (.int p5), .val (.int (0 : Int32)), .val (.int s0), .val (.int s1), .val (.int s2), .val (.int s3), .val (.ref b2), .val (.int mm), .val (.int cc), .val (.ref b6), .val (.int (own_b4 (own_f (0 : Int32) (0 : Int32) (0 : Int32) (0 : Int32)) mm cc (own_min (0 : Int32) (mm + (1 : Int32))))), .val (.int (own_adv (own_f (0 : Int32) (0 : Int32) (0 : Int32) (0 : Int32)) (own_f (0 : Int32) (0 : Int32) (0 : Int32) (0 : Int32)) (0 : Int32) mm cc))] [])) _
      refine XS.iload X11.here hx rfl (hb hby at_280) rfl ?_
      show Steps p.tables e below (T11.setTop (mkF m 282 #[.val (.int p1), .val (.int p2), .val (.int p3), .val (.int p4), .val (.int p5), .val (.int (0 : Int32)), .val (.int s0), .val (.int s1), .val (.int s2), .val (.int s3), .val (.ref b2), .val (.int mm), .val (.int cc), .val (.ref b6), .val (.int (own_b4 (own_f (0 : Int32) (0 : Int32) (0 : Int32) (0 : Int32)) mm cc (own_min (0 : Int32) (mm + (1 : Int32))))), .val (.int (own_adv (own_f (0 : Int32) (0 : Int32) (0 : Int32) (0 : Int32)) (own_f (0 : Int32) (0 : Int32) (0 : Int32) (0 : Int32)) (0 : Int32) mm cc))] [(.int (own_adv (own_f (0 : Int32) (0 : Int32) (0 : Int32) (0 : Int32)) (own_f (0 : Int32) (0 : Int32) (0 : Int32) (0 : Int32)) (0 : Int32) mm cc))])) _
      refine XS.iload X11.here hx rfl (hb hby at_282) rfl ?_
      show Steps p.tables e below (T11.setTop (mkF m 284 #[.val (.int p1), .val (.int p2), .val (.int p3), .val (.int p4), .val (.int p5), .val (.int (0 : Int32)), .val (.int s0), .val (.int s1), .val (.int s2), .val (.int s3), .val (.ref b2), .val (.int mm), .val (.int cc), .val (.ref b6), .val (.int (own_b4 (own_f (0 : Int32) (0 : Int32) (0 : Int32) (0 : Int32)) mm cc (own_min (0 : Int32) (mm + (1 : Int32))))), .val (.int (own_adv (own_f (0 : Int32) (0 : Int32) (0 : Int32) (0 : Int32)) (own_f (0 : Int32) (0 : Int32) (0 : Int32) (0 : Int32)) (0 : Int32) mm cc))] [(.int (own_b4 (own_f (0 : Int32) (0 : Int32) (0 : Int32) (0 : Int32)) mm cc (own_min (0 : Int32) (mm + (1 : Int32))))), (.int (own_adv (own_f (0 : Int32) (0 : Int32) (0 : Int32) (0 : Int32)) (own_f (0 : Int32) (0 : Int32) (0 : Int32) (0 : Int32)) (0 : Int32) mm cc))])) _
      refine XS.icmpNo X11.here hx rfl (hb hby at_284) rfl (teq (own_main (0 : Int32) (0 : Int32) (0 : Int32) (0 : Int32) cc mm (0 : Int32) (0 : Int32) (0 : Int32) (0 : Int32) (0 : Int32) hB (by decide) (fun q => absurd q (own_no _ _ _ hB.2.1 (by decide))) (fun q => absurd q (own_no _ _ _ hB.2.1 (by decide))) (fun q => absurd q (own_no _ _ _ hB.2.1 (by decide))) (fun q => absurd q (own_no _ _ _ hB.2.1 (by decide))) : ((own_adv (own_f (0 : Int32) (0 : Int32) (0 : Int32) (0 : Int32)) (own_f (0 : Int32) (0 : Int32) (0 : Int32) (0 : Int32)) (0 : Int32) mm cc) = (own_b4 (own_f (0 : Int32) (0 : Int32) (0 : Int32) (0 : Int32)) mm cc (own_min (0 : Int32) (mm + (1 : Int32))))))).2 ?_
      show Steps p.tables e below (T11.setTop (mkF m 287 #[.val (.int p1), .val (.int p2), .val (.int p3), .val (.int p4), .val (.int p5), .val (.int (0 : Int32)), .val (.int s0), .val (.int s1), .val (.int s2), .val (.int s3), .val (.ref b2), .val (.int mm), .val (.int cc), .val (.ref b6), .val (.int (own_b4 (own_f (0 : Int32) (0 : Int32) (0 : Int32) (0 : Int32)) mm cc (own_min (0 : Int32) (mm + (1 : Int32))))), .val (.int (own_adv (own_f (0 : Int32) (0 : Int32) (0 : Int32) (0 : Int32)) (own_f (0 : Int32) (0 : Int32) (0 : Int32) (0 : Int32)) (0 : Int32) mm cc))] [])) _
      refine XS.iconst X11.here hx rfl (hb hby at_287) ?_
      show Steps p.tables e below (T11.setTop (mkF m 288 #[.val (.int p1), .val (.int p2), .val (.int p3), .val (.int p4), .val (.int p5), .val (.int (0 : Int32)), .val (.int s0), .val (.int s1), .val (.int s2), .val (.int s3), .val (.ref b2), .val (.int mm), .val (.int cc), .val (.ref b6), .val (.int (own_b4 (own_f (0 : Int32) (0 : Int32) (0 : Int32) (0 : Int32)) mm cc (own_min (0 : Int32) (mm + (1 : Int32))))), .val (.int (own_adv (own_f (0 : Int32) (0 : Int32) (0 : Int32) (0 : Int32)) (own_f (0 : Int32) (0 : Int32) (0 : Int32) (0 : Int32)) (0 : Int32) mm cc))] [(.int (1 : Int32))])) _
      refine XS.goto X11.here hx rfl (pc0 := 288) (pc' := 292) rfl (hb hby at_288) (by decide) (by decide) ?_
      show Steps p.tables e below (T11.setTop (mkF m 292 #[.val (.int p1), .val (.int p2), .val (.int p3), .val (.int p4), .val (.int p5), .val (.int (0 : Int32)), .val (.int s0), .val (.int s1), .val (.int s2), .val (.int s3), .val (.ref b2), .val (.int mm), .val (.int cc), .val (.ref b6), .val (.int (own_b4 (own_f (0 : Int32) (0 : Int32) (0 : Int32) (0 : Int32)) mm cc (own_min (0 : Int32) (mm + (1 : Int32))))), .val (.int (own_adv (own_f (0 : Int32) (0 : Int32) (0 : Int32) (0 : Int32)) (own_f (0 : Int32) (0 : Int32) (0 : Int32) (0 : Int32)) (0 : Int32) mm cc))] [(.int (1 : Int32))])) _
      exact retN X11 hx (t := .boolean) Bd.returns (by simp) (hb hby at_292) hr
    · show Q0 Z p1 p2 p3 p4 p5 h0 n0 _ T11.heap _
      rw [r11_0]
      exact ⟨rfl, N11⟩
  · obtain ⟨T12, h12, k12, X12, e12, E12, A12, st12⟩ := newP X0 hx hZ (hw _ (List.mem_of_getElem? (i := 0) rfl)) e0 (g := (mkF m 45 #[.val (.int p1), .val (.int p2), .val (.int p3), .val (.int p4), .val (.int p5), .val (.int (1 : Int32)), .val (.int s0), .val (.int s1), .val (.int s2), .val (.int s3), .unset, .unset, .unset, .unset, .unset, .unset] [(.int (1 : Int32))])) rfl (hb hby at_45) rfl (by decide) (cap := 1) (by decide) (by decide) (by decide) (by decide)
    obtain ⟨b12, g12⟩ : ∃ z, z = h0.size := ⟨_, rfl⟩
    rw [← g12] at A12 st12
    have g_b12 : n0 ≤ b12 := Nat.le_trans Z0 (Nat.le_of_eq g12.symm)
    have sz_b12 : h0.size ≤ b12 := Nat.le_trans K0.1 (Nat.le_of_eq g12.symm)
    have K12 : Keep h0 h12 [] := K0.ext E12
    have Z12 : n0 ≤ h12.size := Nat.le_trans Z0 E12.1
    have V12 : Arv Z h12 b12 k12 .int (1 : Int32) [(.int (0 : Int32)), (.int (0 : Int32)), (.int (0 : Int32)), (.int (0 : Int32))] (.int (0 : Int32)) := (Arv.new A12 (by decide)).pad (pad_rep [] (.int (0 : Int32)) 4)
    obtain ⟨cl13, Ar13, q13, S13, M13, H13, G13⟩ := id V12
    have hin13 : ¬ ((0 : Int32) < 0 ∨ cl13.slots.size ≤ ((0 : Int32)).toNatClampNeg) := inb_of S13 ⟨by decide, by decide⟩
    obtain ⟨T13, h13, X13, e13, W13, st13⟩ := stI X12 hx hZ e12 Ar13 (j := (0 : Int32)) hin13 (g := (mkF m 59 #[.val (.int p1), .val (.int p2), .val (.int p3), .val (.int p4), .val (.int p5), .val (.int (1 : Int32)), .val (.int s0), .val (.int s1), .val (.int s2), .val (.int s3), .val (.ref b12), .unset, .unset, .unset, .unset, .unset] [(.int s0), (.int (0 : Int32)), (.ref b12)])) rfl rfl (hb hby at_59)
    have V13 := Arv.set Ar13 q13 S13 M13 H13 G13 rfl W13 0 rfl (Nat.le_of_ble_eq_true rfl)
    have K13 : Keep h0 h13 [] := K12.wr W13 (Or.inr sz_b12)
    have N13 := Fr.snoc X13 N0 g_b12
    have Z13 : n0 ≤ h13.size := Nat.le_trans Z12 (Keep.of_wr W13).1
    have U13 : Arv Z h13 b12 k12 .int (1 : Int32) [(.int s0), (.int (0 : Int32)), (.int (0 : Int32)), (.int (0 : Int32))] (.int (0 : Int32)) := V13
    obtain ⟨mm, hmm⟩ : ∃ z : Int32, z = ((p3 &&& (2147483647 : Int32)) % (2 : Int32)) := ⟨_, rfl⟩
    have hB : own_B mm (1 : Int32) := by rw [hmm]; exact own_mb _ _ _ (by decide) (by decide)
    have ch15 : Goes p e below s₁ (entryFrame m #[(.int p1), (.int p2), (.int p3), (.int p4), (.int p5)] maxLocals) T13 (mkF m 110 #[.val (.int p1), .val (.int p2), .val (.int p3), .val (.int p4), .val (.int p5), .val (.int (1 : Int32)), .val (.int s0), .val (.int s1), .val (.int s2), .val (.int s3), .val (.ref b12), .val (.int mm), .unset, .unset, .unset, .unset] [(.int (p4 &&& (4 : Int32)))]) := fun t kt => ch1 t (by
      show Steps p.tables e below (s₁.setTop (mkF m 43 #[.val (.int p1), .val (.int p2), .val (.int p3), .val (.int p4), .val (.int p5), .val (.int (((p2.toUInt32 >>> ((8 : Int32) &&& 31).toUInt32).toInt32) % (5 : Int32))), .val (.int s0), .val (.int s1), .val (.int s2), .val (.int s3), .unset, .unset, .unset, .unset, .unset, .unset] [])) _
      rw [hn]
      show Steps p.tables e below (s₁.setTop (mkF m 43 #[.val (.int p1), .val (.int p2), .val (.int p3), .val (.int p4), .val (.int p5), .val (.int (1 : Int32)), .val (.int s0), .val (.int s1), .val (.int s2), .val (.int s3), .unset, .unset, .unset, .unset, .unset, .unset] [])) _
      refine XS.iload X0.here hx rfl (hb hby at_43) rfl ?_
      show Steps p.tables e below (s₁.setTop (mkF m 45 #[.val (.int p1), .val (.int p2), .val (.int p3), .val (.int p4), .val (.int p5), .val (.int (1 : Int32)), .val (.int s0), .val (.int s1), .val (.int s2), .val (.int s3), .unset, .unset, .unset, .unset, .unset, .unset] [(.int (1 : Int32))])) _
      refine st12 _ ?_
      show Steps p.tables e below (T12.setTop (mkF m 47 #[.val (.int p1), .val (.int p2), .val (.int p3), .val (.int p4), .val (.int p5), .val (.int (1 : Int32)), .val (.int s0), .val (.int s1), .val (.int s2), .val (.int s3), .unset, .unset, .unset, .unset, .unset, .unset] [(.ref b12)])) _
      refine XS.astore X12.here hx rfl (hb hby at_47) rfl rfl (l' := #[.val (.int p1), .val (.int p2), .val (.int p3), .val (.int p4), .val (.int p5), .val (.int (1 : Int32)), .val (.int s0), .val (.int s1), .val (.int s2), .val (.int s3), .val (.ref b12), .unset, .unset, .unset, .unset, .unset]) rfl ?_
      show Steps p.tables e below (T12.setTop (mkF m 49 #[.val (.int p1), .val (.int p2), .val (.int p3), .val (.int p4), .val (.int p5), .val (.int (1 : Int32)), .val (.int s0), .val (.int s1), .val (.int s2), .val (.int s3), .val (.ref b12), .unset, .unset, .unset, .unset, .unset] [])) _
      refine XS.iload X12.here hx rfl (hb hby at_49) rfl ?_
      show Steps p.tables e below (T12.setTop (mkF m 51 #[.val (.int p1), .val (.int p2), .val (.int p3), .val (.int p4), .val (.int p5), .val (.int (1 : Int32)), .val (.int s0), .val (.int s1), .val (.int s2), .val (.int s3), .val (.ref b12), .unset, .unset, .unset, .unset, .unset] [(.int (1 : Int32))])) _
      refine XS.ifNo X12.here hx rfl (hb hby at_51) rfl ((if0 _ _).trans (tlt (by decide : ((0 : Int32) < (1 : Int32)))).2.2.2) ?_
      show Steps p.tables e below (T12.setTop (mkF m 54 #[.val (.int p1), .val (.int p2), .val (.int p3), .val (.int p4), .val (.int p5), .val (.int (1 : Int32)), .val (.int s0), .val (.int s1), .val (.int s2), .val (.int s3), .val (.ref b12), .unset, .unset, .unset, .unset, .unset] [])) _
      refine XS.aload X12.here hx rfl (hb hby at_54) rfl rfl ?_
      show Steps p.tables e below (T12.setTop (mkF m 56 #[.val (.int p1), .val (.int p2), .val (.int p3), .val (.int p4), .val (.int p5), .val (.int (1 : Int32)), .val (.int s0), .val (.int s1), .val (.int s2), .val (.int s3), .val (.ref b12), .unset, .unset, .unset, .unset, .unset] [(.ref b12)])) _
      refine XS.iconst X12.here hx rfl (hb hby at_56) ?_
      show Steps p.tables e below (T12.setTop (mkF m 57 #[.val (.int p1), .val (.int p2), .val (.int p3), .val (.int p4), .val (.int p5), .val (.int (1 : Int32)), .val (.int s0), .val (.int s1), .val (.int s2), .val (.int s3), .val (.ref b12), .unset, .unset, .unset, .unset, .unset] [(.int (0 : Int32)), (.ref b12)])) _
      refine XS.iload X12.here hx rfl (hb hby at_57) rfl ?_
      show Steps p.tables e below (T12.setTop (mkF m 59 #[.val (.int p1), .val (.int p2), .val (.int p3), .val (.int p4), .val (.int p5), .val (.int (1 : Int32)), .val (.int s0), .val (.int s1), .val (.int s2), .val (.int s3), .val (.ref b12), .unset, .unset, .unset, .unset, .unset] [(.int s0), (.int (0 : Int32)), (.ref b12)])) _
      refine st13 _ ?_
      show Steps p.tables e below (T13.setTop (mkF m 60 #[.val (.int p1), .val (.int p2), .val (.int p3), .val (.int p4), .val (.int p5), .val (.int (1 : Int32)), .val (.int s0), .val (.int s1), .val (.int s2), .val (.int s3), .val (.ref b12), .unset, .unset, .unset, .unset, .unset] [])) _
      refine XS.iload X13.here hx rfl (hb hby at_60) rfl ?_
      show Steps p.tables e below (T13.setTop (mkF m 62 #[.val (.int p1), .val (.int p2), .val (.int p3), .val (.int p4), .val (.int p5), .val (.int (1 : Int32)), .val (.int s0), .val (.int s1), .val (.int s2), .val (.int s3), .val (.ref b12), .unset, .unset, .unset, .unset, .unset] [(.int (1 : Int32))])) _
      refine XS.iconst X13.here hx rfl (hb hby at_62) ?_
      show Steps p.tables e below (T13.setTop (mkF m 63 #[.val (.int p1), .val (.int p2), .val (.int p3), .val (.int p4), .val (.int p5), .val (.int (1 : Int32)), .val (.int s0), .val (.int s1), .val (.int s2), .val (.int s3), .val (.ref b12), .unset, .unset, .unset, .unset, .unset] [(.int (1 : Int32)), (.int (1 : Int32))])) _
      refine XS.icmpYes X13.here hx rfl (pc0 := 63) (pc' := 72) rfl (hb hby at_63) rfl (flt (by decide : ¬ ((1 : Int32) < (1 : Int32)))).2.2.2 (by decide) (by decide) ?_
      show Steps p.tables e below (T13.setTop (mkF m 72 #[.val (.int p1), .val (.int p2), .val (.int p3), .val (.int p4), .val (.int p5), .val (.int (1 : Int32)), .val (.int s0), .val (.int s1), .val (.int s2), .val (.int s3), .val (.ref b12), .unset, .unset, .unset, .unset, .unset] [])) _
      refine XS.iload X13.here hx rfl (hb hby at_72) rfl ?_
      show Steps p.tables e below (T13.setTop (mkF m 74 #[.val (.int p1), .val (.int p2), .val (.int p3), .val (.int p4), .val (.int p5), .val (.int (1 : Int32)), .val (.int s0), .val (.int s1), .val (.int s2), .val (.int s3), .val (.ref b12), .unset, .unset, .unset, .unset, .unset] [(.int (1 : Int32))])) _
      refine XS.iconst X13.here hx rfl (hb hby at_74) ?_
      show Steps p.tables e below (T13.setTop (mkF m 75 #[.val (.int p1), .val (.int p2), .val (.int p3), .val (.int p4), .val (.int p5), .val (.int (1 : Int32)), .val (.int s0), .val (.int s1), .val (.int s2), .val (.int s3), .val (.ref b12), .unset, .unset, .unset, .unset, .unset] [(.int (2 : Int32)), (.int (1 : Int32))])) _
      refine XS.icmpYes X13.here hx rfl (pc0 := 75) (pc' := 84) rfl (hb hby at_75) rfl (flt (by decide : ¬ ((2 : Int32) < (1 : Int32)))).2.2.2 (by decide) (by decide) ?_
      show Steps p.tables e below (T13.setTop (mkF m 84 #[.val (.int p1), .val (.int p2), .val (.int p3), .val (.int p4), .val (.int p5), .val (.int (1 : Int32)), .val (.int s0), .val (.int s1), .val (.int s2), .val (.int s3), .val (.ref b12), .unset, .unset, .unset, .unset, .unset] [])) _
      refine XS.iload X13.here hx rfl (hb hby at_84) rfl ?_
      show Steps p.tables e below (T13.setTop (mkF m 86 #[.val (.int p1), .val (.int p2), .val (.int p3), .val (.int p4), .val (.int p5), .val (.int (1 : Int32)), .val (.int s0), .val (.int s1), .val (.int s2), .val (.int s3), .val (.ref b12), .unset, .unset, .unset, .unset, .unset] [(.int (1 : Int32))])) _
      refine XS.iconst X13.here hx rfl (hb hby at_86) ?_
      show Steps p.tables e below (T13.setTop (mkF m 87 #[.val (.int p1), .val (.int p2), .val (.int p3), .val (.int p4), .val (.int p5), .val (.int (1 : Int32)), .val (.int s0), .val (.int s1), .val (.int s2), .val (.int s3), .val (.ref b12), .unset, .unset, .unset, .unset, .unset] [(.int (3 : Int32)), (.int (1 : Int32))])) _
      refine XS.icmpYes X13.here hx rfl (pc0 := 87) (pc' := 96) rfl (hb hby at_87) rfl (flt (by decide : ¬ ((3 : Int32) < (1 : Int32)))).2.2.2 (by decide) (by decide) ?_
      show Steps p.tables e below (T13.setTop (mkF m 96 #[.val (.int p1), .val (.int p2), .val (.int p3), .val (.int p4), .val (.int p5), .val (.int (1 : Int32)), .val (.int s0), .val (.int s1), .val (.int s2), .val (.int s3), .val (.ref b12), .unset, .unset, .unset, .unset, .unset] [])) _
      refine XS.iloadN X13.here hx rfl (hb hby at_96) rfl ?_
      show Steps p.tables e below (T13.setTop (mkF m 97 #[.val (.int p1), .val (.int p2), .val (.int p3), .val (.int p4), .val (.int p5), .val (.int (1 : Int32)), .val (.int s0), .val (.int s1), .val (.int s2), .val (.int s3), .val (.ref b12), .unset, .unset, .unset, .unset, .unset] [(.int p3)])) _
      refine X13.ldcInt hx hown (mvT hZ (hw _ (List.mem_of_getElem? (i := 1) rfl))) (g := (mkF m 97 #[.val (.int p1), .val (.int p2), .val (.int p3), .val (.int p4), .val (.int p5), .val (.int (1 : Int32)), .val (.int s0), .val (.int s1), .val (.int s2), .val (.int s3), .val (.ref b12), .unset, .unset, .unset, .unset, .unset] [(.int p3)])) rfl (hb hby at_97) _ ?_
      show Steps p.tables e below (T13.setTop (mkF m 99 #[.val (.int p1), .val (.int p2), .val (.int p3), .val (.int p4), .val (.int p5), .val (.int (1 : Int32)), .val (.int s0), .val (.int s1), .val (.int s2), .val (.int s3), .val (.ref b12), .unset, .unset, .unset, .unset, .unset] [(.int (2147483647 : Int32)), (.int p3)])) _
      refine XS.iand X13.here hx rfl (hb hby at_99) rfl ?_
      show Steps p.tables e below (T13.setTop (mkF m 100 #[.val (.int p1), .val (.int p2), .val (.int p3), .val (.int p4), .val (.int p5), .val (.int (1 : Int32)), .val (.int s0), .val (.int s1), .val (.int s2), .val (.int s3), .val (.ref b12), .unset, .unset, .unset, .unset, .unset] [(.int (p3 &&& (2147483647 : Int32)))])) _
      refine XS.iload X13.here hx rfl (hb hby at_100) rfl ?_
      show Steps p.tables e below (T13.setTop (mkF m 102 #[.val (.int p1), .val (.int p2), .val (.int p3), .val (.int p4), .val (.int p5), .val (.int (1 : Int32)), .val (.int s0), .val (.int s1), .val (.int s2), .val (.int s3), .val (.ref b12), .unset, .unset, .unset, .unset, .unset] [(.int (1 : Int32)), (.int (p3 &&& (2147483647 : Int32)))])) _
      refine XS.iconst X13.here hx rfl (hb hby at_102) ?_
      show Steps p.tables e below (T13.setTop (mkF m 103 #[.val (.int p1), .val (.int p2), .val (.int p3), .val (.int p4), .val (.int p5), .val (.int (1 : Int32)), .val (.int s0), .val (.int s1), .val (.int s2), .val (.int s3), .val (.ref b12), .unset, .unset, .unset, .unset, .unset] [(.int (1 : Int32)), (.int (1 : Int32)), (.int (p3 &&& (2147483647 : Int32)))])) _
      refine XS.iadd X13.here hx rfl (hb hby at_103) rfl ?_
      show Steps p.tables e below (T13.setTop (mkF m 104 #[.val (.int p1), .val (.int p2), .val (.int p3), .val (.int p4), .val (.int p5), .val (.int (1 : Int32)), .val (.int s0), .val (.int s1), .val (.int s2), .val (.int s3), .val (.ref b12), .unset, .unset, .unset, .unset, .unset] [(.int (2 : Int32)), (.int (p3 &&& (2147483647 : Int32)))])) _
      refine iremM X13 hx rfl (hb hby at_104) rfl (by decide) ?_
      show Steps p.tables e below (T13.setTop (mkF m 105 #[.val (.int p1), .val (.int p2), .val (.int p3), .val (.int p4), .val (.int p5), .val (.int (1 : Int32)), .val (.int s0), .val (.int s1), .val (.int s2), .val (.int s3), .val (.ref b12), .unset, .unset, .unset, .unset, .unset] [(.int ((p3 &&& (2147483647 : Int32)) % (2 : Int32)))])) _
      refine XS.istore X13.here hx rfl (hb hby at_105) rfl (l' := #[.val (.int p1), .val (.int p2), .val (.int p3), .val (.int p4), .val (.int p5), .val (.int (1 : Int32)), .val (.int s0), .val (.int s1), .val (.int s2), .val (.int s3), .val (.ref b12), .val (.int ((p3 &&& (2147483647 : Int32)) % (2 : Int32))), .unset, .unset, .unset, .unset]) rfl ?_
      show Steps p.tables e below (T13.setTop (mkF m 107 #[.val (.int p1), .val (.int p2), .val (.int p3), .val (.int p4), .val (.int p5), .val (.int (1 : Int32)), .val (.int s0), .val (.int s1), .val (.int s2), .val (.int s3), .val (.ref b12), .val (.int ((p3 &&& (2147483647 : Int32)) % (2 : Int32))), .unset, .unset, .unset, .unset] [])) _
      rw [← hmm]
      show Steps p.tables e below (T13.setTop (mkF m 107 #[.val (.int p1), .val (.int p2), .val (.int p3), .val (.int p4), .val (.int p5), .val (.int (1 : Int32)), .val (.int s0), .val (.int s1), .val (.int s2), .val (.int s3), .val (.ref b12), .val (.int mm), .unset, .unset, .unset, .unset] [])) _
      refine XS.iloadN X13.here hx rfl (hb hby at_107) rfl ?_
      show Steps p.tables e below (T13.setTop (mkF m 108 #[.val (.int p1), .val (.int p2), .val (.int p3), .val (.int p4), .val (.int p5), .val (.int (1 : Int32)), .val (.int s0), .val (.int s1), .val (.int s2), .val (.int s3), .val (.ref b12), .val (.int mm), .unset, .unset, .unset, .unset] [(.int p4)])) _
      refine XS.iconst X13.here hx rfl (hb hby at_108) ?_
      show Steps p.tables e below (T13.setTop (mkF m 109 #[.val (.int p1), .val (.int p2), .val (.int p3), .val (.int p4), .val (.int p5), .val (.int (1 : Int32)), .val (.int s0), .val (.int s1), .val (.int s2), .val (.int s3), .val (.ref b12), .val (.int mm), .unset, .unset, .unset, .unset] [(.int (4 : Int32)), (.int p4)])) _
      refine XS.iand X13.here hx rfl (hb hby at_109) rfl ?_
      show Steps p.tables e below (T13.setTop (mkF m 110 #[.val (.int p1), .val (.int p2), .val (.int p3), .val (.int p4), .val (.int p5), .val (.int (1 : Int32)), .val (.int s0), .val (.int s1), .val (.int s2), .val (.int s3), .val (.ref b12), .val (.int mm), .unset, .unset, .unset, .unset] [(.int (p4 &&& (4 : Int32)))])) _
      exact kt)
    have ch17 : Goes p e below s₁ (entryFrame m #[(.int p1), (.int p2), (.int p3), (.int p4), (.int p5)] maxLocals) T13 (mkF m 122 #[.val (.int p1), .val (.int p2), .val (.int p3), .val (.int p4), .val (.int p5), .val (.int (1 : Int32)), .val (.int s0), .val (.int s1), .val (.int s2), .val (.int s3), .val (.ref b12), .val (.int mm), .unset, .unset, .unset, .unset] [(.int (if (p4 &&& (4 : Int32)) = (0 : Int32) then (p1 + (p4 &&& (3 : Int32))) else p4))]) := fun t kt => ch15 t (by
      by_cases hc16 : (p4 &&& (4 : Int32)) = (0 : Int32)
      · show Steps p.tables e below (T13.setTop (mkF m 110 #[.val (.int p1), .val (.int p2), .val (.int p3), .val (.int p4), .val (.int p5), .val (.int (1 : Int32)), .val (.int s0), .val (.int s1), .val (.int s2), .val (.int s3), .val (.ref b12), .val (.int mm), .unset, .unset, .unset, .unset] [(.int (p4 &&& (4 : Int32)))])) _
        refine XS.ifYes X13.here hx rfl (pc0 := 110) (pc' := 117) rfl (hb hby at_110) rfl ((if0 _ _).trans (teq hc16).1) (by decide) (by decide) ?_
        show Steps p.tables e below (T13.setTop (mkF m 117 #[.val (.int p1), .val (.int p2), .val (.int p3), .val (.int p4), .val (.int p5), .val (.int (1 : Int32)), .val (.int s0), .val (.int s1), .val (.int s2), .val (.int s3), .val (.ref b12), .val (.int mm), .unset, .unset, .unset, .unset] [])) _
        refine XS.iloadN X13.here hx rfl (hb hby at_117) rfl ?_
        show Steps p.tables e below (T13.setTop (mkF m 118 #[.val (.int p1), .val (.int p2), .val (.int p3), .val (.int p4), .val (.int p5), .val (.int (1 : Int32)), .val (.int s0), .val (.int s1), .val (.int s2), .val (.int s3), .val (.ref b12), .val (.int mm), .unset, .unset, .unset, .unset] [(.int p1)])) _
        refine XS.iloadN X13.here hx rfl (hb hby at_118) rfl ?_
        show Steps p.tables e below (T13.setTop (mkF m 119 #[.val (.int p1), .val (.int p2), .val (.int p3), .val (.int p4), .val (.int p5), .val (.int (1 : Int32)), .val (.int s0), .val (.int s1), .val (.int s2), .val (.int s3), .val (.ref b12), .val (.int mm), .unset, .unset, .unset, .unset] [(.int p4), (.int p1)])) _
        refine XS.iconst X13.here hx rfl (hb hby at_119) ?_
        show Steps p.tables e below (T13.setTop (mkF m 120 #[.val (.int p1), .val (.int p2), .val (.int p3), .val (.int p4), .val (.int p5), .val (.int (1 : Int32)), .val (.int s0), .val (.int s1), .val (.int s2), .val (.int s3), .val (.ref b12), .val (.int mm), .unset, .unset, .unset, .unset] [(.int (3 : Int32)), (.int p4), (.int p1)])) _
        refine XS.iand X13.here hx rfl (hb hby at_120) rfl ?_
        show Steps p.tables e below (T13.setTop (mkF m 121 #[.val (.int p1), .val (.int p2), .val (.int p3), .val (.int p4), .val (.int p5), .val (.int (1 : Int32)), .val (.int s0), .val (.int s1), .val (.int s2), .val (.int s3), .val (.ref b12), .val (.int mm), .unset, .unset, .unset, .unset] [(.int (p4 &&& (3 : Int32))), (.int p1)])) _
        refine XS.iadd X13.here hx rfl (hb hby at_121) rfl ?_
        show Steps p.tables e below (T13.setTop (mkF m 122 #[.val (.int p1), .val (.int p2), .val (.int p3), .val (.int p4), .val (.int p5), .val (.int (1 : Int32)), .val (.int s0), .val (.int s1), .val (.int s2), .val (.int s3), .val (.ref b12), .val (.int mm), .unset, .unset, .unset, .unset] [(.int (p1 + (p4 &&& (3 : Int32))))])) _
        simpa only [if_pos hc16] using kt
      · show Steps p.tables e below (T13.setTop (mkF m 110 #[.val (.int p1), .val (.int p2), .val (.int p3), .val (.int p4), .val (.int p5), .val (.int (1 : Int32)), .val (.int s0), .val (.int s1), .val (.int s2), .val (.int s3), .val (.ref b12), .val (.int mm), .unset, .unset, .unset, .unset] [(.int (p4 &&& (4 : Int32)))])) _
        refine XS.ifNo X13.here hx rfl (hb hby at_110) rfl ((if0 _ _).trans (feq hc16).1) ?_
        show Steps p.tables e below (T13.setTop (mkF m 113 #[.val (.int p1), .val (.int p2), .val (.int p3), .val (.int p4), .val (.int p5), .val (.int (1 : Int32)), .val (.int s0), .val (.int s1), .val (.int s2), .val (.int s3), .val (.ref b12), .val (.int mm), .unset, .unset, .unset, .unset] [])) _
        refine XS.iloadN X13.here hx rfl (hb hby at_113) rfl ?_
        show Steps p.tables e below (T13.setTop (mkF m 114 #[.val (.int p1), .val (.int p2), .val (.int p3), .val (.int p4), .val (.int p5), .val (.int (1 : Int32)), .val (.int s0), .val (.int s1), .val (.int s2), .val (.int s3), .val (.ref b12), .val (.int mm), .unset, .unset, .unset, .unset] [(.int p4)])) _
        refine XS.goto X13.here hx rfl (pc0 := 114) (pc' := 122) rfl (hb hby at_114) (by decide) (by decide) ?_
        show Steps p.tables e below (T13.setTop (mkF m 122 #[.val (.int p1), .val (.int p2), .val (.int p3), .val (.int p4), .val (.int p5), .val (.int (1 : Int32)), .val (.int s0), .val (.int s1), .val (.int s2), .val (.int s3), .val (.ref b12), .val (.int mm), .unset, .unset, .unset, .unset] [(.int p4)])) _
        simpa only [if_neg hc16] using kt)
    obtain ⟨cc, hcc⟩ : ∃ z : Int32, z = (if (p4 &&& (4 : Int32)) = (0 : Int32) then (p1 + (p4 &&& (3 : Int32))) else p4) := ⟨_, rfl⟩
    obtain ⟨T18, h18, k18, X18, e18, E18, A18, st18⟩ := newP X13 hx hZ (hw _ (List.mem_of_getElem? (i := 0) rfl)) e13 (g := (mkF m 126 #[.val (.int p1), .val (.int p2), .val (.int p3), .val (.int p4), .val (.int p5), .val (.int (1 : Int32)), .val (.int s0), .val (.int s1), .val (.int s2), .val (.int s3), .val (.ref b12), .val (.int mm), .val (.int cc), .unset, .unset, .unset] [(.int (1 : Int32))])) rfl (hb hby at_126) rfl (by decide) (cap := 1) (by decide) (by decide) (by decide) (by decide)
    obtain ⟨b18, g18⟩ : ∃ z, z = h13.size := ⟨_, rfl⟩
    rw [← g18] at A18 st18
    have g_b18 : n0 ≤ b18 := Nat.le_trans Z13 (Nat.le_of_eq g18.symm)
    have sz_b18 : h0.size ≤ b18 := Nat.le_trans K13.1 (Nat.le_of_eq g18.symm)
    have ne19 : b12 ≠ b18 := Nat.ne_of_lt (Nat.lt_of_lt_of_le U13.lt (Nat.le_of_eq g18.symm))
    have f20 := U13.ext E18
    have K18 : Keep h0 h18 [] := K13.ext E18
    have Z18 : n0 ≤ h18.size := Nat.le_trans Z13 E18.1
    have V18 : Arv Z h18 b18 k18 .int (1 : Int32) [(.int (0 : Int32)), (.int (0 : Int32)), (.int (0 : Int32)), (.int (0 : Int32))] (.int (0 : Int32)) := (Arv.new A18 (by decide)).pad (pad_rep [] (.int (0 : Int32)) 4)
    have ch21 : Goes p e below s₁ (entryFrame m #[(.int p1), (.int p2), (.int p3), (.int p4), (.int p5)] maxLocals) T18 (mkF m 141 #[.val (.int p1), .val (.int p2), .val (.int p3), .val (.int p4), .val (.int p5), .val (.int (1 : Int32)), .val (.int s0), .val (.int s1), .val (.int s2), .val (.int s3), .val (.ref b12), .val (.int mm), .val (.int cc), .val (.ref b18), .unset, .unset] [(.int mm), (.int (0 : Int32)), (.int (0 : Int32)), (.ref b18)]) := fun t kt => ch17 t (by
      show Steps p.tables e below (T13.setTop (mkF m 122 #[.val (.int p1), .val (.int p2), .val (.int p3), .val (.int p4), .val (.int p5), .val (.int (1 : Int32)), .val (.int s0), .val (.int s1), .val (.int s2), .val (.int s3), .val (.ref b12), .val (.int mm), .unset, .unset, .unset, .unset] [(.int (if (p4 &&& (4 : Int32)) = (0 : Int32) then (p1 + (p4 &&& (3 : Int32))) else p4))])) _
      refine XS.istore X13.here hx rfl (hb hby at_122) rfl (l' := #[.val (.int p1), .val (.int p2), .val (.int p3), .val (.int p4), .val (.int p5), .val (.int (1 : Int32)), .val (.int s0), .val (.int s1), .val (.int s2), .val (.int s3), .val (.ref b12), .val (.int mm), .val (.int (if (p4 &&& (4 : Int32)) = (0 : Int32) then (p1 + (p4 &&& (3 : Int32))) else p4)), .unset, .unset, .unset]) rfl ?_
      show Steps p.tables e below (T13.setTop (mkF m 124 #[.val (.int p1), .val (.int p2), .val (.int p3), .val (.int p4), .val (.int p5), .val (.int (1 : Int32)), .val (.int s0), .val (.int s1), .val (.int s2), .val (.int s3), .val (.ref b12), .val (.int mm), .val (.int (if (p4 &&& (4 : Int32)) = (0 : Int32) then (p1 + (p4 &&& (3 : Int32))) else p4)), .unset, .unset, .unset] [])) _
      rw [← hcc]
      show Steps p.tables e below (T13.setTop (mkF m 124 #[.val (.int p1), .val (.int p2), .val (.int p3), .val (.int p4), .val (.int p5), .val (.int (1 : Int32)), .val (.int s0), .val (.int s1), .val (.int s2), .val (.int s3), .val (.ref b12), .val (.int mm), .val (.int cc), .unset, .unset, .unset] [])) _
      refine XS.iload X13.here hx rfl (hb hby at_124) rfl ?_
      show Steps p.tables e below (T13.setTop (mkF m 126 #[.val (.int p1), .val (.int p2), .val (.int p3), .val (.int p4), .val (.int p5), .val (.int (1 : Int32)), .val (.int s0), .val (.int s1), .val (.int s2), .val (.int s3), .val (.ref b12), .val (.int mm), .val (.int cc), .unset, .unset, .unset] [(.int (1 : Int32))])) _
      refine st18 _ ?_
      show Steps p.tables e below (T18.setTop (mkF m 128 #[.val (.int p1), .val (.int p2), .val (.int p3), .val (.int p4), .val (.int p5), .val (.int (1 : Int32)), .val (.int s0), .val (.int s1), .val (.int s2), .val (.int s3), .val (.ref b12), .val (.int mm), .val (.int cc), .unset, .unset, .unset] [(.ref b18)])) _
      refine XS.astore X18.here hx rfl (hb hby at_128) rfl rfl (l' := #[.val (.int p1), .val (.int p2), .val (.int p3), .val (.int p4), .val (.int p5), .val (.int (1 : Int32)), .val (.int s0), .val (.int s1), .val (.int s2), .val (.int s3), .val (.ref b12), .val (.int mm), .val (.int cc), .val (.ref b18), .unset, .unset]) rfl ?_
      show Steps p.tables e below (T18.setTop (mkF m 130 #[.val (.int p1), .val (.int p2), .val (.int p3), .val (.int p4), .val (.int p5), .val (.int (1 : Int32)), .val (.int s0), .val (.int s1), .val (.int s2), .val (.int s3), .val (.ref b12), .val (.int mm), .val (.int cc), .val (.ref b18), .unset, .unset] [])) _
      refine XS.iload X18.here hx rfl (hb hby at_130) rfl ?_
      show Steps p.tables e below (T18.setTop (mkF m 132 #[.val (.int p1), .val (.int p2), .val (.int p3), .val (.int p4), .val (.int p5), .val (.int (1 : Int32)), .val (.int s0), .val (.int s1), .val (.int s2), .val (.int s3), .val (.ref b12), .val (.int mm), .val (.int cc), .val (.ref b18), .unset, .unset] [(.int (1 : Int32))])) _
      refine XS.ifNo X18.here hx rfl (hb hby at_132) rfl ((if0 _ _).trans (tlt (by decide : ((0 : Int32) < (1 : Int32)))).2.2.2) ?_
      show Steps p.tables e below (T18.setTop (mkF m 135 #[.val (.int p1), .val (.int p2), .val (.int p3), .val (.int p4), .val (.int p5), .val (.int (1 : Int32)), .val (.int s0), .val (.int s1), .val (.int s2), .val (.int s3), .val (.ref b12), .val (.int mm), .val (.int cc), .val (.ref b18), .unset, .unset] [])) _
      refine XS.aload X18.here hx rfl (hb hby at_135) rfl rfl ?_
      show Steps p.tables e below (T18.setTop (mkF m 137 #[.val (.int p1), .val (.int p2), .val (.int p3), .val (.int p4), .val (.int p5), .val (.int (1 : Int32)), .val (.int s0), .val (.int s1), .val (.int s2), .val (.int s3), .val (.ref b12), .val (.int mm), .val (.int cc), .val (.ref b18), .unset, .unset] [(.ref b18)])) _
      refine XS.iconst X18.here hx rfl (hb hby at_137) ?_
      show Steps p.tables e below (T18.setTop (mkF m 138 #[.val (.int p1), .val (.int p2), .val (.int p3), .val (.int p4), .val (.int p5), .val (.int (1 : Int32)), .val (.int s0), .val (.int s1), .val (.int s2), .val (.int s3), .val (.ref b12), .val (.int mm), .val (.int cc), .val (.ref b18), .unset, .unset] [(.int (0 : Int32)), (.ref b18)])) _
      refine XS.iconst X18.here hx rfl (hb hby at_138) ?_
      show Steps p.tables e below (T18.setTop (mkF m 139 #[.val (.int p1), .val (.int p2), .val (.int p3), .val (.int p4), .val (.int p5), .val (.int (1 : Int32)), .val (.int s0), .val (.int s1), .val (.int s2), .val (.int s3), .val (.ref b12), .val (.int mm), .val (.int cc), .val (.ref b18), .unset, .unset] [(.int (0 : Int32)), (.int (0 : Int32)), (.ref b18)])) _
      refine XS.iload X18.here hx rfl (hb hby at_139) rfl ?_
      show Steps p.tables e below (T18.setTop (mkF m 141 #[.val (.int p1), .val (.int p2), .val (.int p3), .val (.int p4), .val (.int p5), .val (.int (1 : Int32)), .val (.int s0), .val (.int s1), .val (.int s2), .val (.int s3), .val (.ref b12), .val (.int mm), .val (.int cc), .val (.ref b18), .unset, .unset] [(.int mm), (.int (0 : Int32)), (.int (0 : Int32)), (.ref b18)])) _
      exact kt)
    have ch23 : Goes p e below s₁ (entryFrame m #[(.int p1), (.int p2), (.int p3), (.int p4), (.int p5)] maxLocals) T18 (mkF m 150 #[.val (.int p1), .val (.int p2), .val (.int p3), .val (.int p4), .val (.int p5), .val (.int (1 : Int32)), .val (.int s0), .val (.int s1), .val (.int s2), .val (.int s3), .val (.ref b12), .val (.int mm), .val (.int cc), .val (.ref b18), .unset, .unset] [(.int (if (0 : Int32) < mm then (0 : Int32) else p5)), (.int (0 : Int32)), (.ref b18)]) := fun t kt => ch21 t (by
      by_cases hc22 : (0 : Int32) < mm
      · show Steps p.tables e below (T18.setTop (mkF m 141 #[.val (.int p1), .val (.int p2), .val (.int p3), .val (.int p4), .val (.int p5), .val (.int (1 : Int32)), .val (.int s0), .val (.int s1), .val (.int s2), .val (.int s3), .val (.ref b12), .val (.int mm), .val (.int cc), .val (.ref b18), .unset, .unset] [(.int mm), (.int (0 : Int32)), (.int (0 : Int32)), (.ref b18)])) _
        refine XS.icmpNo X18.here hx rfl (hb hby at_141) rfl (tlt hc22).2.1 ?_
        show Steps p.tables e below (T18.setTop (mkF m 144 #[.val (.int p1), .val (.int p2), .val (.int p3), .val (.int p4), .val (.int p5), .val (.int (1 : Int32)), .val (.int s0), .val (.int s1), .val (.int s2), .val (.int s3), .val (.ref b12), .val (.int mm), .val (.int cc), .val (.ref b18), .unset, .unset] [(.int (0 : Int32)), (.ref b18)])) _
        refine XS.iconst X18.here hx rfl (hb hby at_144) ?_
        show Steps p.tables e below (T18.setTop (mkF m 145 #[.val (.int p1), .val (.int p2), .val (.int p3), .val (.int p4), .val (.int p5), .val (.int (1 : Int32)), .val (.int s0), .val (.int s1), .val (.int s2), .val (.int s3), .val (.ref b12), .val (.int mm), .val (.int cc), .val (.ref b18), .unset, .unset] [(.int (0 : Int32)), (.int (0 : Int32)), (.ref b18)])) _
        refine XS.goto X18.here hx rfl (pc0 := 145) (pc' := 150) rfl (hb hby at_145) (by decide) (by decide) ?_
        show Steps p.tables e below (T18.setTop (mkF m 150 #[.val (.int p1), .val (.int p2), .val (.int p3), .val (.int p4), .val (.int p5), .val (.int (1 : Int32)), .val (.int s0), .val (.int s1), .val (.int s2), .val (.int s3), .val (.ref b12), .val (.int mm), .val (.int cc), .val (.ref b18), .unset, .unset] [(.int (0 : Int32)), (.int (0 : Int32)), (.ref b18)])) _
        simpa only [if_pos hc22] using kt
      · show Steps p.tables e below (T18.setTop (mkF m 141 #[.val (.int p1), .val (.int p2), .val (.int p3), .val (.int p4), .val (.int p5), .val (.int (1 : Int32)), .val (.int s0), .val (.int s1), .val (.int s2), .val (.int s3), .val (.ref b12), .val (.int mm), .val (.int cc), .val (.ref b18), .unset, .unset] [(.int mm), (.int (0 : Int32)), (.int (0 : Int32)), (.ref b18)])) _
        refine XS.icmpYes X18.here hx rfl (pc0 := 141) (pc' := 148) rfl (hb hby at_141) rfl (flt hc22).2.1 (by decide) (by decide) ?_
        show Steps p.tables e below (T18.setTop (mkF m 148 #[.val (.int p1), .val (.int p2), .val (.int p3), .val (.int p4), .val (.int p5), .val (.int (1 : Int32)), .val (.int s0), .val (.int s1), .val (.int s2), .val (.int s3), .val (.ref b12), .val (.int mm), .val (.int cc), .val (.ref b18), .unset, .unset] [(.int (0 : Int32)), (.ref b18)])) _
        refine XS.iload X18.here hx rfl (hb hby at_148) rfl ?_
        show Steps p.tables e below (T18.setTop (mkF m 150 #[.val (.int p1), .val (.int p2), .val (.int p3), .val (.int p4), .val (.int p5), .val (.int (1 : Int32)), .val (.int s0), .val (.int s1), .val (.int s2), .val (.int s3), .val (.ref b12), .val (.int mm), .val (.int cc), .val (.ref b18), .unset, .unset] [(.int p5), (.int (0 : Int32)), (.ref b18)])) _
        simpa only [if_neg hc22] using kt)
    obtain ⟨v0, hv0⟩ : ∃ z : Int32, z = (if (0 : Int32) < mm then (0 : Int32) else p5) := ⟨_, rfl⟩
    obtain ⟨cl24, Ar24, q24, S24, M24, H24, G24⟩ := id V18
    have hin24 : ¬ ((0 : Int32) < 0 ∨ cl24.slots.size ≤ ((0 : Int32)).toNatClampNeg) := inb_of S24 ⟨by decide, by decide⟩
    obtain ⟨T24, h24, X24, e24, W24, st24⟩ := stI X18 hx hZ e18 Ar24 (j := (0 : Int32)) hin24 (g := (mkF m 150 #[.val (.int p1), .val (.int p2), .val (.int p3), .val (.int p4), .val (.int p5), .val (.int (1 : Int32)), .val (.int s0), .val (.int s1), .val (.int s2), .val (.int s3), .val (.ref b12), .val (.int mm), .val (.int cc), .val (.ref b18), .unset, .unset] [(.int v0), (.int (0 : Int32)), (.ref b18)])) rfl rfl (hb hby at_150)
    have V24 := Arv.set Ar24 q24 S24 M24 H24 G24 rfl W24 0 rfl (Nat.le_of_ble_eq_true rfl)
    have f25 := f20.other W24 ne19
    have K24 : Keep h0 h24 [] := K18.wr W24 (Or.inr sz_b18)
    have N24 := Fr.snoc X24 N13 g_b18
    have Z24 : n0 ≤ h24.size := Nat.le_trans Z18 (Keep.of_wr W24).1
    have U24 : Arv Z h24 b18 k18 .int (1 : Int32) [(.int v0), (.int (0 : Int32)), (.int (0 : Int32)), (.int (0 : Int32))] (.int (0 : Int32)) := V24
    obtain ⟨_, _, ⟨T27, L27, k27, n27⟩, -, X27, ⟨Lc27, hQ27, l27, y27, z27⟩, st27⟩ := Jvm.LawKit.callS X24 hx (y := (⟨"java/lang/Math", "min", "(II)I"⟩ : MethodName)) hown (mvT hZ (hw _ (List.mem_of_getElem? (i := 2) rfl))) (mvT hZ (hw _ (List.mem_of_getElem? (i := 3) rfl))) (mvT hZ (hw _ (List.mem_of_getElem? (i := 4) rfl))) (mvT hZ (hw _ (List.mem_of_getElem? (i := 5) rfl))) (by decide) (backOf (W := 3) (rm1 l Z a0 hw [] (1 : Int32) (mm + (1 : Int32)) h24 n0 Z24) hZ (hw _ (List.mem_of_getElem? (i := 5) rfl)) (hw _ (List.mem_of_getElem? (i := 4) rfl)) (by decide) (by decide)) (g := (mkF m 259 #[.val (.int p1), .val (.int p2), .val (.int p3), .val (.int p4), .val (.int p5), .val (.int (1 : Int32)), .val (.int s0), .val (.int s1), .val (.int s2), .val (.int s3), .val (.ref b12), .val (.int mm), .val (.int cc), .val (.ref b18), .unset, .unset] [(.int (mm + (1 : Int32))), (.int (1 : Int32)), (.int cc), (.int mm), (.ref b12)])) rfl (by rw [hml]; rfl) (argsL := [(.int (1 : Int32)), (.int (mm + (1 : Int32)))]) (rest := [(.int cc), (.int mm), (.ref b12)]) (lenOf pd_0 rfl) rfl (by show 2 * 0 + _ ≤ _; exact Nat.le_of_eq rfl) (hb hby at_259) (fun _ _ => ⟨rfl, e24, (by decide : 2 + 0 ≤ _), (by decide : 2 + 0 ≤ _)⟩)
    dsimp only [Pt.U, Pt.locs, Pt.cells, Pt.slots] at X27 l27 y27 z27 st27 hQ27
    subst l27 y27 z27
    obtain ⟨rfl, N27q, r27_0⟩ := hQ27
    have N27 := Fr.app N24 N27q
    obtain ⟨_, _, ⟨T28, L28, k28, n28⟩, -, X28, ⟨Lc28, hQ28, l28, y28, z28⟩, st28⟩ := Jvm.LawKit.callS X27 hx (y := (⟨"com/example/humble_match/humblematch/PartialMatchTableAdvancePinLaw", "best", "([IIII)I"⟩ : MethodName)) hown (mvT hZ (hw _ (List.mem_of_getElem? (i := 6) rfl))) (mvT hZ (hw _ (List.mem_of_getElem? (i := 7) rfl))) (mvT hZ (hw _ (List.mem_of_getElem? (i := 8) rfl))) (mvT hZ (hw _ (List.mem_of_getElem? (i := 9) rfl))) (by decide) (backOf (W := 0) (rm2 l Z a0 hw [] b12 mm cc (own_min (1 : Int32) (mm + (1 : Int32))) k12 (1 : Int32) (own_f s0 (0 : Int32) (0 : Int32) (0 : Int32)) h24 n0 Z24 f25 hB (own_mink (1 : Int32) mm hB)) hZ (hw _ (List.mem_of_getElem? (i := 9) rfl)) (hw _ (List.mem_of_getElem? (i := 8) rfl)) (by decide) (by decide)) (g := (mkF m 262 #[.val (.int p1), .val (.int p2), .val (.int p3), .val (.int p4), .val (.int p5), .val (.int (1 : Int32)), .val (.int s0), .val (.int s1), .val (.int s2), .val (.int s3), .val (.ref b12), .val (.int mm), .val (.int cc), .val (.ref b18), .unset, .unset] [(.int (own_min (1 : Int32) (mm + (1 : Int32)))), (.int cc), (.int mm), (.ref b12)])) rfl (by rw [hml]; rfl) (argsL := [(.ref b12), (.int mm), (.int cc), (.int (own_min (1 : Int32) (mm + (1 : Int32))))]) (rest := []) (lenOf pd_1 rfl) rfl (by show 2 * 0 + _ ≤ _; exact Nat.le_of_eq rfl) (hb hby at_262) (fun _ _ => ⟨rfl, r27_0, (by decide : 2 + 0 ≤ _), (by decide : 2 + 0 ≤ _)⟩)
    dsimp only [Pt.U, Pt.locs, Pt.cells, Pt.slots] at X28 l28 y28 z28 st28 hQ28
    subst l28 y28 z28
    obtain ⟨rfl, N28q, r28_0⟩ := hQ28
    have N28 := Fr.app N27 N28q
    obtain ⟨_, _, ⟨T29, L29, k29, n29⟩, -, X29, ⟨Lc29, hQ29, l29, y29, z29⟩, st29⟩ := Jvm.LawKit.callS X28 hx (y := (⟨"com/example/humble_match/humblematch/PartialMatchTable", "advance", "([I[III)I"⟩ : MethodName)) hown (mvT hZ (hw _ (List.mem_of_getElem? (i := 10) rfl))) (mvT hZ (hw _ (List.mem_of_getElem? (i := 11) rfl))) (mvT hZ (hw _ (List.mem_of_getElem? (i := 12) rfl))) (mvT hZ (hw _ (List.mem_of_getElem? (i := 13) rfl))) (by decide) (backOf (W := 0) (rm3 l Z a0 hw [] b12 b18 mm cc k12 k18 (1 : Int32) (own_f s0 (0 : Int32) (0 : Int32) (0 : Int32)) (own_f v0 (0 : Int32) (0 : Int32) (0 : Int32)) h24 n0 Z24 f25 U24 hB (own_hg (own_f s0 (0 : Int32) (0 : Int32) (0 : Int32)) mm (1 : Int32) v0 (0 : Int32) (0 : Int32) (0 : Int32) hB (fun q => hv0.trans (if_pos q)) (fun q => absurd q (own_no _ _ _ hB.2.1 (by decide))) (fun q => absurd q (own_no _ _ _ hB.2.1 (by decide))) (fun q => absurd q (own_no _ _ _ hB.2.1 (by decide))))) hZ (hw _ (List.mem_of_getElem? (i := 13) rfl)) (hw _ (List.mem_of_getElem? (i := 12) rfl)) (by decide) (by decide)) (g := (mkF m 275 #[.val (.int p1), .val (.int p2), .val (.int p3), .val (.int p4), .val (.int p5), .val (.int (1 : Int32)), .val (.int s0), .val (.int s1), .val (.int s2), .val (.int s3), .val (.ref b12), .val (.int mm), .val (.int cc), .val (.ref b18), .val (.int (own_b4 (own_f s0 (0 : Int32) (0 : Int32) (0 : Int32)) mm cc (own_min (1 : Int32) (mm + (1 : Int32))))), .unset] [(.int cc), (.int mm), (.ref b18), (.ref b12)])) rfl (by rw [hml]; rfl) (argsL := [(.ref b12), (.ref b18), (.int mm), (.int cc)]) (rest := []) (lenOf pd_2 rfl) rfl (by show 2 * 0 + _ ≤ _; exact Nat.le_of_eq rfl) (hb hby at_275) (fun _ _ => ⟨rfl, r28_0, (by decide : 2 + 0 ≤ _), (by decide : 2 + 0 ≤ _)⟩)
    dsimp only [Pt.U, Pt.locs, Pt.cells, Pt.slots] at X29 l29 y29 z29 st29 hQ29
    subst l29 y29 z29
    obtain ⟨rfl, N29q, r29_0⟩ := hQ29
    have N29 := Fr.app N28 N29q
    obtain ⟨fs, hr, hrun, hended, hW, hsame⟩ := X29.leave (v := some (.int (1 : Int32))) (fun h => by rw [Bd.returns] at h; cases h)
    refine ⟨_, _, ch23 _ ?_, hrun, hended, _, _, rfl, ?_, ⟨_, rfl⟩, hW, hsame.mono (by decide) (by decide)⟩
    · show Steps p.tables e below (T18.setTop (mkF m 150 #[.val (.int p1), .val (.int p2), .val (.int p3), .val (.int p4), .val (.int p5), .val (.int (1 : Int32)), .val (.int s0), .val (.int s1), .val (.int s2), .val (.int s3), .val (.ref b12), .val (.int mm), .val (.int cc), .val (.ref b18), .unset, .unset] [(.int (if (0 : Int32) < mm then (0 : Int32) else p5)), (.int (0 : Int32)), (.ref b18)])) _
      rw [← hv0]
      show Steps p.tables e below (T18.setTop (mkF m 150 #[.val (.int p1), .val (.int p2), .val (.int p3), .val (.int p4), .val (.int p5), .val (.int (1 : Int32)), .val (.int s0), .val (.int s1), .val (.int s2), .val (.int s3), .val (.ref b12), .val (.int mm), .val (.int cc), .val (.ref b18), .unset, .unset] [(.int v0), (.int (0 : Int32)), (.ref b18)])) _
      refine st24 _ ?_
      show Steps p.tables e below (T24.setTop (mkF m 151 #[.val (.int p1), .val (.int p2), .val (.int p3), .val (.int p4), .val (.int p5), .val (.int (1 : Int32)), .val (.int s0), .val (.int s1), .val (.int s2), .val (.int s3), .val (.ref b12), .val (.int mm), .val (.int cc), .val (.ref b18), .unset, .unset] [])) _
      refine XS.iload X24.here hx rfl (hb hby at_151) rfl ?_
      show Steps p.tables e below (T24.setTop (mkF m 153 #[.val (.int p1), .val (.int p2), .val (.int p3), .val (.int p4), .val (.int p5), .val (.int (1 : Int32)), .val (.int s0), .val (.int s1), .val (.int s2), .val (.int s3), .val (.ref b12), .val (.int mm), .val (.int cc), .val (.ref b18), .unset, .unset] [(.int (1 : Int32))])) _
      refine XS.iconst X24.here hx rfl (hb hby at_153) ?_
      show Steps p.tables e below (T24.setTop (mkF m 154 #[.val (.int p1), .val (.int p2), .val (.int p3), .val (.int p4), .val (.int p5), .val (.int (1 : Int32)), .val (.int s0), .val (.int s1), .val (.int s2), .val (.int s3), .val (.ref b12), .val (.int mm), .val (.int cc), .val (.ref b18), .unset, .unset] [(.int (1 : Int32)), (.int (1 : Int32))])) _
      refine XS.icmpYes X24.here hx rfl (pc0 := 154) (pc' := 183) rfl (hb hby at_154) rfl (flt (by decide : ¬ ((1 : Int32) < (1 : Int32)))).2.2.2 (by decide) (by decide) ?_
      show Steps p.tables e below (T24.setTop (mkF m 183 #[.val (.int p1), .val (.int p2), .val (.int p3), .val (.int p4), .val (.int p5), .val (.int (1 : Int32)), .val (.int s0), .val (.int s1), .val (.int s2), .val (.int s3), .val (.ref b12), .val (.int mm), .val (.int cc), .val (.ref b18), .unset, .unset] [])) _
      refine XS.iload X24.here hx rfl (hb hby at_183) rfl ?_
      show Steps p.tables e below (T24.setTop (mkF m 185 #[.val (.int p1), .val (.int p2), .val (.int p3), .val (.int p4), .val (.int p5), .val (.int (1 : Int32)), .val (.int s0), .val (.int s1), .val (.int s2), .val (.int s3), .val (.ref b12), .val (.int mm), .val (.int cc), .val (.ref b18), .unset, .unset] [(.int (1 : Int32))])) _
      refine XS.iconst X24.here hx rfl (hb hby at_185) ?_
      show Steps p.tables e below (T24.setTop (mkF m 186 #[.val (.int p1), .val (.int p2), .val (.int p3), .val (.int p4), .val (.int p5), .val (.int (1 : Int32)), .val (.int s0), .val (.int s1), .val (.int s2), .val (.int s3), .val (.ref b12), .val (.int mm), .val (.int cc), .val (.ref b18), .unset, .unset] [(.int (2 : Int32)), (.int (1 : Int32))])) _
      refine XS.icmpYes X24.here hx rfl (pc0 := 186) (pc' := 215) rfl (hb hby at_186) rfl (flt (by decide : ¬ ((2 : Int32) < (1 : Int32)))).2.2.2 (by decide) (by decide) ?_
      show Steps p.tables e below (T24.setTop (mkF m 215 #[.val (.int p1), .val (.int p2), .val (.int p3), .val (.int p4), .val (.int p5), .val (.int (1 : Int32)), .val (.int s0), .val (.int s1), .val (.int s2), .val (.int s3), .val (.ref b12), .val (.int mm), .val (.int cc), .val (.ref b18), .unset, .unset] [])) _
      refine XS.iload X24.here hx rfl (hb hby at_215) rfl ?_
      show Steps p.tables e below (T24.setTop (mkF m 217 #[.val (.int p1), .val (.int p2), .val (.int p3), .val (.int p4), .val (.int p5), .val (.int (1 : Int32)), .val (.int s0), .val (.int s1), .val (.int s2), .val (.int s3), .val (.ref b12), .val (.int mm), .val (.int cc), .val (.ref b18), .unset, .unset] [(.int (1 : Int32))])) _
      refine XS.iconst X24.here hx rfl (hb hby at_217) ?_
      show Steps p.tables e below (T24.setTop (mkF m 218 #[.val (.int p1), .val (.int p2), .val (.int p3), .val (.int p4), .val (.int p5), .val (.int (1 : Int32)), .val (.int s0), .val (.int s1), .val (.int s2), .val (.int s3), .val (.ref b12), .val (.int mm), .val (.int cc), .val (.ref b18), .unset, .unset] [(.int (3 : Int32)), (.int (1 : Int32))])) _
      refine XS.icmpYes X24.here hx rfl (pc0 := 218) (pc' := 247) rfl (hb hby at_218) rfl (flt (by decide : ¬ ((3 : Int32) < (1 : Int32)))).2.2.2 (by decide) (by decide) ?_
      show Steps p.tables e below (T24.setTop (mkF m 247 #[.val (.int p1), .val (.int p2), .val (.int p3), .val (.int p4), .val (.int p5), .val (.int (1 : Int32)), .val (.int s0), .val (.int s1), .val (.int s2), .val (.int s3), .val (.ref b12), .val (.int mm), .val (.int cc), .val (.ref b18), .unset, .unset] [])) _
      refine XS.aload X24.here hx rfl (hb hby at_247) rfl rfl ?_
      show Steps p.tables e below (T24.setTop (mkF m 249 #[.val (.int p1), .val (.int p2), .val (.int p3), .val (.int p4), .val (.int p5), .val (.int (1 : Int32)), .val (.int s0), .val (.int s1), .val (.int s2), .val (.int s3), .val (.ref b12), .val (.int mm), .val (.int cc), .val (.ref b18), .unset, .unset] [(.ref b12)])) _
      refine XS.iload X24.here hx rfl (hb hby at_249) rfl ?_
      show Steps p.tables e below (T24.setTop (mkF m 251 #[.val (.int p1), .val (.int p2), .val (.int p3), .val (.int p4), .val (.int p5), .val (.int (1 : Int32)), .val (.int s0), .val (.int s1), .val (.int s2), .val (.int s3), .val (.ref b12), .val (.int mm), .val (.int cc), .val (.ref b18), .unset, .unset] [(.int mm), (.ref b12)])) _
      refine XS.iload X24.here hx rfl (hb hby at_251) rfl ?_
      show Steps p.tables e below (T24.setTop (mkF m 253 #[.val (.int p1), .val (.int p2), .val (.int p3), .val (.int p4), .val (.int p5), .val (.int (1 : Int32)), .val (.int s0), .val (.int s1), .val (.int s2), .val (.int s3), .val (.ref b12), .val (.int mm), .val (.int cc), .val (.ref b18), .unset, .unset] [(.int cc), (.int mm), (.ref b12)])) _
      refine XS.iload X24.here hx rfl (hb hby at_253) rfl ?_
      show Steps p.tables e below (T24.setTop (mkF m 255 #[.val (.int p1), .val (.int p2), .val (.int p3), .val (.int p4), .val (.int p5), .val (.int (1 : Int32)), .val (.int s0), .val (.int s1), .val (.int s2), .val (.int s3), .val (.ref b12), .val (.int mm), .val (.int cc), .val (.ref b18), .unset, .unset] [(.int (1 : Int32)), (.int cc), (.int mm), (.ref b12)])) _
      refine XS.iload X24.here hx rfl (hb hby at_255) rfl ?_
      show Steps p.tables e below (T24.setTop (mkF m 257 #[.val (.int p1), .val (.int p2), .val (.int p3), .val (.int p4), .val (.int p5), .val (.int (1 : Int32)), .val (.int s0), .val (.int s1), .val (.int s2), .val (.int s3), .val (.ref b12), .val (.int mm), .val (.int cc), .val (.ref b18), .unset, .unset] [(.int mm), (.int (1 : Int32)), (.int cc), (.int mm), (.ref b12)])) _
      refine XS.iconst X24.here hx rfl (hb hby at_257) ?_
      show Steps p.tables e below (T24.setTop (mkF m 258 #[.val (.int p1), .val (.int p2), .val (.int p3), .val (.int p4), .val (.int p5), .val (.int (1 : Int32)), .val (.int s0), .val (.int s1), .val (.int s2), .val (.int s3), .val (.ref b12), .val (.int mm), .val (.int cc), .val (.ref b18), .unset, .unset] [(.int (1 : Int32)), (.int mm), (.int (1 : Int32)), (.int cc), (.int mm), (.ref b12)])) _
      refine XS.iadd X24.here hx rfl (hb hby at_258) rfl ?_
      show Steps p.tables e below (T24.setTop (mkF m 259 #[.val (.int p1), .val (.int p2), .val (.int p3), .val (.int p4), .val (.int p5), .val (.int (1 : Int32)), .val (.int s0), .val (.int s1), .val (.int s2), .val (.int s3), .val (.ref b12), .val (.int mm), .val (.int cc), .val (.ref b18), .unset, .unset] [(.int (mm + (1 : Int32))), (.int (1 : Int32)), (.int cc), (.int mm), (.ref b12)])) _
      refine st27 _ ?_
      show Steps p.tables e below (T27.setTop (mkF m 262 #[.val (.int p1), .val (.int p2), .val (.int p3), .val (.int p4), .val (.int p5), .val (.int (1 : Int32)), .val (.int s0), .val (.int s1), .val (.int s2), .val (.int s3), .val (.ref b12), .val (.int mm), .val (.int cc), .val (.ref b18), .unset, .unset] [(.int (own_min (1 : Int32) (mm + (1 : Int32)))), (.int cc), (.int mm), (.ref b12)])) _
      refine st28 _ ?_
      show Steps p.tables e below (T28.setTop (mkF m 265 #[.val (.int p1), .val (.int p2), .val (.int p3), .val (.int p4), .val (.int p5), .val (.int (1 : Int32)), .val (.int s0), .val (.int s1), .val (.int s2), .val (.int s3), .val (.ref b12), .val (.int mm), .val (.int cc), .val (.ref b18), .unset, .unset] [(.int (own_b4 (own_f s0 (0 : Int32) (0 : Int32) (0 : Int32)) mm cc (own_min (1 : Int32) (mm + (1 : Int32)))))])) _
      refine XS.istore X28.here hx rfl (hb hby at_265) rfl (l' := #[.val (.int p1), .val (.int p2), .val (.int p3), .val (.int p4), .val (.int p5), .val (.int (1 : Int32)), .val (.int s0), .val (.int s1), .val (.int s2), .val (.int s3), .val (.ref b12), .val (.int mm), .val (.int cc), .val (.ref b18), .val (.int (own_b4 (own_f s0 (0 : Int32) (0 : Int32) (0 : Int32)) mm cc (own_min (1 : Int32) (mm + (1 : Int32))))), .unset]) rfl ?_
      show Steps p.tables e below (T28.setTop (mkF m 267 #[.val (.int p1), .val (.int p2), .val (.int p3), .val (.int p4), .val (.int p5), .val (.int (1 : Int32)), .val (.int s0), .val (.int s1), .val (.int s2), .val (.int s3), .val (.ref b12), .val (.int mm), .val (.int cc), .val (.ref b18), .val (.int (own_b4 (own_f s0 (0 : Int32) (0 : Int32) (0 : Int32)) mm cc (own_min (1 : Int32) (mm + (1 : Int32))))), .unset] [])) _
      refine XS.aload X28.here hx rfl (hb hby at_267) rfl rfl ?_
      show Steps p.tables e below (T28.setTop (mkF m 269 #[.val (.int p1), .val (.int p2), .val (.int p3), .val (.int p4), .val (.int p5), .val (.int (1 : Int32)), .val (.int s0), .val (.int s1), .val (.int s2), .val (.int s3), .val (.ref b12), .val (.int mm), .val (.int cc), .val (.ref b18), .val (.int (own_b4 (own_f s0 (0 : Int32) (0 : Int32) (0 : Int32)) mm cc (own_min (1 : Int32) (mm + (1 : Int32))))), .unset] [(.ref b12)])) _
      refine XS.aload X28.here hx rfl (hb hby at_269) rfl rfl ?_
      show Steps p.tables e below (T28.setTop (mkF m 271 #[.val (.int p1), .val (.int p2), .val (.int p3), .val (.int p4), .val (.int p5), .val (.int (1 : Int32)), .val (.int s0), .val (.int s1), .val (.int s2), .val (.int s3), .val (.ref b12), .val (.int mm), .val (.int cc), .val (.ref b18), .val (.int (own_b4 (own_f s0 (0 : Int32) (0 : Int32) (0 : Int32)) mm cc (own_min (1 : Int32) (mm + (1 : Int32))))), .unset] [(.ref b18), (.ref b12)])) _
      refine XS.iload X28.here hx rfl (hb hby at_271) rfl ?_
      show Steps p.tables e below (T28.setTop (mkF m 273 #[.val (.int p1), .val (.int p2), .val (.int p3), .val (.int p4), .val (.int p5), .val (.int (1 : Int32)), .val (.int s0), .val (.int s1), .val (.int s2), .val (.int s3), .val (.ref b12), .val (.int mm), .val (.int cc), .val (.ref b18), .val (.int (own_b4 (own_f s0 (0 : Int32) (0 : Int32) (0 : Int32)) mm cc (own_min (1 : Int32) (mm + (1 : Int32))))), .unset] [(.int mm), (.ref b18), (.ref b12)])) _
      refine XS.iload X28.here hx rfl (hb hby at_273) rfl ?_
      show Steps p.tables e below (T28.setTop (mkF m 275 #[.val (.int p1), .val (.int p2), .val (.int p3), .val (.int p4), .val (.int p5), .val (.int (1 : Int32)), .val (.int s0), .val (.int s1), .val (.int s2), .val (.int s3), .val (.ref b12), .val (.int mm), .val (.int cc), .val (.ref b18), .val (.int (own_b4 (own_f s0 (0 : Int32) (0 : Int32) (0 : Int32)) mm cc (own_min (1 : Int32) (mm + (1 : Int32))))), .unset] [(.int cc), (.int mm), (.ref b18), (.ref b12)])) _
      refine st29 _ ?_
      show Steps p.tables e below (T29.setTop (mkF m 278 #[.val (.int p1), .val (.int p2), .val (.int p3), .val (.int p4), .val (.int p5), .val (.int (1 : Int32)), .val (.int s0), .val (.int s1), .val (.int s2), .val (.int s3), .val (.ref b12), .val (.int mm), .val (.int cc), .val (.ref b18), .val (.int (own_b4 (own_f s0 (0 : Int32) (0 : Int32) (0 : Int32)) mm cc (own_min (1 : Int32) (mm + (1 : Int32))))), .unset] [(.int (own_adv (own_f s0 (0 : Int32) (0 : Int32) (0 : Int32)) (own_f v0 (0 : Int32) (0 : Int32) (0 : Int32)) (1 : Int32) mm cc))])) _
      refine XS.istore X29.here hx rfl (hb hby at_278) rfl (l' := #[.val (.int p1), .val (.int p2), .val (.int p3), .val (.int p4), .val (.int p5), .val (.int (1 : Int32)), .val (.int s0), .val (.int s1), .val (.int s2), .val (.int s3), .val (.ref b12), .val (.int mm), .val (.int cc), .val (.ref b18), .val (.int (own_b4 (own_f s0 (0 : Int32) (0 : Int32) (0 : Int32)) mm cc (own_min (1 : Int32) (mm + (1 : Int32))))), .val (.int (own_adv (own_f s0 (0 : Int32) (0 : Int32) (0 : Int32)) (own_f v0 (0 : Int32) (0 : Int32) (0 : Int32)) (1 : Int32) mm cc))]) rfl ?_
      show Steps p.tables e below (T29.setTop (mkF m 280 #[.val (.int p1), .val (.int p2), .val (.int p3), .val (.int p4), .val (.int p5), .val (.int (1 : Int32)), .val (.int s0), .val (.int s1), .val (.int s2), .val (.int s3), .val (.ref b12), .val (.int mm), .val (.int cc), .val (.ref b18), .val (.int (own_b4 (own_f s0 (0 : Int32) (0 : Int32) (0 : Int32)) mm cc (own_min (1 : Int32) (mm + (1 : Int32))))), .val (.int (own_adv (own_f s0 (0 : Int32) (0 : Int32) (0 : Int32)) (own_f v0 (0 : Int32) (0 : Int32) (0 : Int32)) (1 : Int32) mm cc))] [])) _
      refine XS.iload X29.here hx rfl (hb hby at_280) rfl ?_
      show Steps p.tables e below (T29.setTop (mkF m 282 #[.val (.int p1), .val (.int p2), .val (.int p3), .val (.int p4), .val (.int p5), .val (.int (1 : Int32)), .val (.int s0), .val (.int s1), .val (.int s2), .val (.int s3), .val (.ref b12), .val (.int mm), .val (.int cc), .val (.ref b18), .val (.int (own_b4 (own_f s0 (0 : Int32) (0 : Int32) (0 : Int32)) mm cc (own_min (1 : Int32) (mm + (1 : Int32))))), .val (.int (own_adv (own_f s0 (0 : Int32) (0 : Int32) (0 : Int32)) (own_f v0 (0 : Int32) (0 : Int32) (0 : Int32)) (1 : Int32) mm cc))] [(.int (own_adv (own_f s0 (0 : Int32) (0 : Int32) (0 : Int32)) (own_f v0 (0 : Int32) (0 : Int32) (0 : Int32)) (1 : Int32) mm cc))])) _
      refine XS.iload X29.here hx rfl (hb hby at_282) rfl ?_
      show Steps p.tables e below (T29.setTop (mkF m 284 #[.val (.int p1), .val (.int p2), .val (.int p3), .val (.int p4), .val (.int p5), .val (.int (1 : Int32)), .val (.int s0), .val (.int s1), .val (.int s2), .val (.int s3), .val (.ref b12), .val (.int mm), .val (.int cc), .val (.ref b18), .val (.int (own_b4 (own_f s0 (0 : Int32) (0 : Int32) (0 : Int32)) mm cc (own_min (1 : Int32) (mm + (1 : Int32))))), .val (.int (own_adv (own_f s0 (0 : Int32) (0 : Int32) (0 : Int32)) (own_f v0 (0 : Int32) (0 : Int32) (0 : Int32)) (1 : Int32) mm cc))] [(.int (own_b4 (own_f s0 (0 : Int32) (0 : Int32) (0 : Int32)) mm cc (own_min (1 : Int32) (mm + (1 : Int32))))), (.int (own_adv (own_f s0 (0 : Int32) (0 : Int32) (0 : Int32)) (own_f v0 (0 : Int32) (0 : Int32) (0 : Int32)) (1 : Int32) mm cc))])) _
      refine XS.icmpNo X29.here hx rfl (hb hby at_284) rfl (teq (own_main s0 (0 : Int32) (0 : Int32) (0 : Int32) cc mm (1 : Int32) v0 (0 : Int32) (0 : Int32) (0 : Int32) hB (by decide) (fun q => hv0.trans (if_pos q)) (fun q => absurd q (own_no _ _ _ hB.2.1 (by decide))) (fun q => absurd q (own_no _ _ _ hB.2.1 (by decide))) (fun q => absurd q (own_no _ _ _ hB.2.1 (by decide))) : ((own_adv (own_f s0 (0 : Int32) (0 : Int32) (0 : Int32)) (own_f v0 (0 : Int32) (0 : Int32) (0 : Int32)) (1 : Int32) mm cc) = (own_b4 (own_f s0 (0 : Int32) (0 : Int32) (0 : Int32)) mm cc (own_min (1 : Int32) (mm + (1 : Int32))))))).2 ?_
      show Steps p.tables e below (T29.setTop (mkF m 287 #[.val (.int p1), .val (.int p2), .val (.int p3), .val (.int p4), .val (.int p5), .val (.int (1 : Int32)), .val (.int s0), .val (.int s1), .val (.int s2), .val (.int s3), .val (.ref b12), .val (.int mm), .val (.int cc), .val (.ref b18), .val (.int (own_b4 (own_f s0 (0 : Int32) (0 : Int32) (0 : Int32)) mm cc (own_min (1 : Int32) (mm + (1 : Int32))))), .val (.int (own_adv (own_f s0 (0 : Int32) (0 : Int32) (0 : Int32)) (own_f v0 (0 : Int32) (0 : Int32) (0 : Int32)) (1 : Int32) mm cc))] [])) _
      refine XS.iconst X29.here hx rfl (hb hby at_287) ?_
      show Steps p.tables e below (T29.setTop (mkF m 288 #[.val (.int p1), .val (.int p2), .val (.int p3), .val (.int p4), .val (.int p5), .val (.int (1 : Int32)), .val (.int s0), .val (.int s1), .val (.int s2), .val (.int s3), .val (.ref b12), .val (.int mm), .val (.int cc), .val (.ref b18), .val (.int (own_b4 (own_f s0 (0 : Int32) (0 : Int32) (0 : Int32)) mm cc (own_min (1 : Int32) (mm + (1 : Int32))))), .val (.int (own_adv (own_f s0 (0 : Int32) (0 : Int32) (0 : Int32)) (own_f v0 (0 : Int32) (0 : Int32) (0 : Int32)) (1 : Int32) mm cc))] [(.int (1 : Int32))])) _
      refine XS.goto X29.here hx rfl (pc0 := 288) (pc' := 292) rfl (hb hby at_288) (by decide) (by decide) ?_
      show Steps p.tables e below (T29.setTop (mkF m 292 #[.val (.int p1), .val (.int p2), .val (.int p3), .val (.int p4), .val (.int p5), .val (.int (1 : Int32)), .val (.int s0), .val (.int s1), .val (.int s2), .val (.int s3), .val (.ref b12), .val (.int mm), .val (.int cc), .val (.ref b18), .val (.int (own_b4 (own_f s0 (0 : Int32) (0 : Int32) (0 : Int32)) mm cc (own_min (1 : Int32) (mm + (1 : Int32))))), .val (.int (own_adv (own_f s0 (0 : Int32) (0 : Int32) (0 : Int32)) (own_f v0 (0 : Int32) (0 : Int32) (0 : Int32)) (1 : Int32) mm cc))] [(.int (1 : Int32))])) _
      exact retN X29 hx (t := .boolean) Bd.returns (by simp) (hb hby at_292) hr
    · show Q0 Z p1 p2 p3 p4 p5 h0 n0 _ T29.heap _
      rw [r29_0]
      exact ⟨rfl, N29⟩
  · obtain ⟨T30, h30, k30, X30, e30, E30, A30, st30⟩ := newP X0 hx hZ (hw _ (List.mem_of_getElem? (i := 0) rfl)) e0 (g := (mkF m 45 #[.val (.int p1), .val (.int p2), .val (.int p3), .val (.int p4), .val (.int p5), .val (.int (2 : Int32)), .val (.int s0), .val (.int s1), .val (.int s2), .val (.int s3), .unset, .unset, .unset, .unset, .unset, .unset] [(.int (2 : Int32))])) rfl (hb hby at_45) rfl (by decide) (cap := 2) (by decide) (by decide) (by decide) (by decide)
    obtain ⟨b30, g30⟩ : ∃ z, z = h0.size := ⟨_, rfl⟩
    rw [← g30] at A30 st30
    have g_b30 : n0 ≤ b30 := Nat.le_trans Z0 (Nat.le_of_eq g30.symm)
    have sz_b30 : h0.size ≤ b30 := Nat.le_trans K0.1 (Nat.le_of_eq g30.symm)
    have K30 : Keep h0 h30 [] := K0.ext E30
    have Z30 : n0 ≤ h30.size := Nat.le_trans Z0 E30.1
    have V30 : Arv Z h30 b30 k30 .int (2 : Int32) [(.int (0 : Int32)), (.int (0 : Int32)), (.int (0 : Int32)), (.int (0 : Int32))] (.int (0 : Int32)) := (Arv.new A30 (by decide)).pad (pad_rep [] (.int (0 : Int32)) 4)
    obtain ⟨cl31, Ar31, q31, S31, M31, H31, G31⟩ := id V30
    have hin31 : ¬ ((0 : Int32) < 0 ∨ cl31.slots.size ≤ ((0 : Int32)).toNatClampNeg) := inb_of S31 ⟨by decide, by decide⟩
    obtain ⟨T31, h31, X31, e31, W31, st31⟩ := stI X30 hx hZ e30 Ar31 (j := (0 : Int32)) hin31 (g := (mkF m 59 #[.val (.int p1), .val (.int p2), .val (.int p3), .val (.int p4), .val (.int p5), .val (.int (2 : Int32)), .val (.int s0), .val (.int s1), .val (.int s2), .val (.int s3), .val (.ref b30), .unset, .unset, .unset, .unset, .unset] [(.int s0), (.int (0 : Int32)), (.ref b30)])) rfl rfl (hb hby at_59)
    have V31 := Arv.set Ar31 q31 S31 M31 H31 G31 rfl W31 0 rfl (Nat.le_of_ble_eq_true rfl)
    have K31 : Keep h0 h31 [] := K30.wr W31 (Or.inr sz_b30)
    have N31 := Fr.snoc X31 N0 g_b30
    have Z31 : n0 ≤ h31.size := Nat.le_trans Z30 (Keep.of_wr W31).1
    have U31 : Arv Z h31 b30 k30 .int (2 : Int32) [(.int s0), (.int (0 : Int32)), (.int (0 : Int32)), (.int (0 : Int32))] (.int (0 : Int32)) := V31
    obtain ⟨cl33, Ar33, q33, S33, M33, H33, G33⟩ := id U31
    have hin33 : ¬ ((1 : Int32) < 0 ∨ cl33.slots.size ≤ ((1 : Int32)).toNatClampNeg) := inb_of S33 ⟨by decide, by decide⟩
    obtain ⟨T33, h33, X33, e33, W33, st33⟩ := stI X31 hx hZ e31 Ar33 (j := (1 : Int32)) hin33 (g := (mkF m 71 #[.val (.int p1), .val (.int p2), .val (.int p3), .val (.int p4), .val (.int p5), .val (.int (2 : Int32)), .val (.int s0), .val (.int s1), .val (.int s2), .val (.int s3), .val (.ref b30), .unset, .unset, .unset, .unset, .unset] [(.int s1), (.int (1 : Int32)), (.ref b30)])) rfl rfl (hb hby at_71)
    have V33 := Arv.set Ar33 q33 S33 M33 H33 G33 rfl W33 1 rfl (Nat.le_of_ble_eq_true rfl)
    have K33 : Keep h0 h33 [] := K31.wr W33 (Or.inr sz_b30)
    have N33 := Fr.snoc X33 N31 g_b30
    have Z33 : n0 ≤ h33.size := Nat.le_trans Z31 (Keep.of_wr W33).1
    have U33 : Arv Z h33 b30 k30 .int (2 : Int32) [(.int s0), (.int s1), (.int (0 : Int32)), (.int (0 : Int32))] (.int (0 : Int32)) := V33
    obtain ⟨mm, hmm⟩ : ∃ z : Int32, z = ((p3 &&& (2147483647 : Int32)) % (3 : Int32)) := ⟨_, rfl⟩
    have hB : own_B mm (2 : Int32) := by rw [hmm]; exact own_mb _ _ _ (by decide) (by decide)
    have ch35 : Goes p e below s₁ (entryFrame m #[(.int p1), (.int p2), (.int p3), (.int p4), (.int p5)] maxLocals) T33 (mkF m 110 #[.val (.int p1), .val (.int p2), .val (.int p3), .val (.int p4), .val (.int p5), .val (.int (2 : Int32)), .val (.int s0), .val (.int s1), .val (.int s2), .val (.int s3), .val (.ref b30), .val (.int mm), .unset, .unset, .unset, .unset] [(.int (p4 &&& (4 : Int32)))]) := fun t kt => ch1 t (by
      show Steps p.tables e below (s₁.setTop (mkF m 43 #[.val (.int p1), .val (.int p2), .val (.int p3), .val (.int p4), .val (.int p5), .val (.int (((p2.toUInt32 >>> ((8 : Int32) &&& 31).toUInt32).toInt32) % (5 : Int32))), .val (.int s0), .val (.int s1), .val (.int s2), .val (.int s3), .unset, .unset, .unset, .unset, .unset, .unset] [])) _
      rw [hn]
      show Steps p.tables e below (s₁.setTop (mkF m 43 #[.val (.int p1), .val (.int p2), .val (.int p3), .val (.int p4), .val (.int p5), .val (.int (2 : Int32)), .val (.int s0), .val (.int s1), .val (.int s2), .val (.int s3), .unset, .unset, .unset, .unset, .unset, .unset] [])) _
      refine XS.iload X0.here hx rfl (hb hby at_43) rfl ?_
      show Steps p.tables e below (s₁.setTop (mkF m 45 #[.val (.int p1), .val (.int p2), .val (.int p3), .val (.int p4), .val (.int p5), .val (.int (2 : Int32)), .val (.int s0), .val (.int s1), .val (.int s2), .val (.int s3), .unset, .unset, .unset, .unset, .unset, .unset] [(.int (2 : Int32))])) _
      refine st30 _ ?_
      show Steps p.tables e below (T30.setTop (mkF m 47 #[.val (.int p1), .val (.int p2), .val (.int p3), .val (.int p4), .val (.int p5), .val (.int (2 : Int32)), .val (.int s0), .val (.int s1), .val (.int s2), .val (.int s3), .unset, .unset, .unset, .unset, .unset, .unset] [(.ref b30)])) _
      refine XS.astore X30.here hx rfl (hb hby at_47) rfl rfl (l' := #[.val (.int p1), .val (.int p2), .val (.int p3), .val (.int p4), .val (.int p5), .val (.int (2 : Int32)), .val (.int s0), .val (.int s1), .val (.int s2), .val (.int s3), .val (.ref b30), .unset, .unset, .unset, .unset, .unset]) rfl ?_
      show Steps p.tables e below (T30.setTop (mkF m 49 #[.val (.int p1), .val (.int p2), .val (.int p3), .val (.int p4), .val (.int p5), .val (.int (2 : Int32)), .val (.int s0), .val (.int s1), .val (.int s2), .val (.int s3), .val (.ref b30), .unset, .unset, .unset, .unset, .unset] [])) _
      refine XS.iload X30.here hx rfl (hb hby at_49) rfl ?_
      show Steps p.tables e below (T30.setTop (mkF m 51 #[.val (.int p1), .val (.int p2), .val (.int p3), .val (.int p4), .val (.int p5), .val (.int (2 : Int32)), .val (.int s0), .val (.int s1), .val (.int s2), .val (.int s3), .val (.ref b30), .unset, .unset, .unset, .unset, .unset] [(.int (2 : Int32))])) _
      refine XS.ifNo X30.here hx rfl (hb hby at_51) rfl ((if0 _ _).trans (tlt (by decide : ((0 : Int32) < (2 : Int32)))).2.2.2) ?_
      show Steps p.tables e below (T30.setTop (mkF m 54 #[.val (.int p1), .val (.int p2), .val (.int p3), .val (.int p4), .val (.int p5), .val (.int (2 : Int32)), .val (.int s0), .val (.int s1), .val (.int s2), .val (.int s3), .val (.ref b30), .unset, .unset, .unset, .unset, .unset] [])) _
      refine XS.aload X30.here hx rfl (hb hby at_54) rfl rfl ?_
      show Steps p.tables e below (T30.setTop (mkF m 56 #[.val (.int p1), .val (.int p2), .val (.int p3), .val (.int p4), .val (.int p5), .val (.int (2 : Int32)), .val (.int s0), .val (.int s1), .val (.int s2), .val (.int s3), .val (.ref b30), .unset, .unset, .unset, .unset, .unset] [(.ref b30)])) _
      refine XS.iconst X30.here hx rfl (hb hby at_56) ?_
      show Steps p.tables e below (T30.setTop (mkF m 57 #[.val (.int p1), .val (.int p2), .val (.int p3), .val (.int p4), .val (.int p5), .val (.int (2 : Int32)), .val (.int s0), .val (.int s1), .val (.int s2), .val (.int s3), .val (.ref b30), .unset, .unset, .unset, .unset, .unset] [(.int (0 : Int32)), (.ref b30)])) _
      refine XS.iload X30.here hx rfl (hb hby at_57) rfl ?_
      show Steps p.tables e below (T30.setTop (mkF m 59 #[.val (.int p1), .val (.int p2), .val (.int p3), .val (.int p4), .val (.int p5), .val (.int (2 : Int32)), .val (.int s0), .val (.int s1), .val (.int s2), .val (.int s3), .val (.ref b30), .unset, .unset, .unset, .unset, .unset] [(.int s0), (.int (0 : Int32)), (.ref b30)])) _
      refine st31 _ ?_
      show Steps p.tables e below (T31.setTop (mkF m 60 #[.val (.int p1), .val (.int p2), .val (.int p3), .val (.int p4), .val (.int p5), .val (.int (2 : Int32)), .val (.int s0), .val (.int s1), .val (.int s2), .val (.int s3), .val (.ref b30), .unset, .unset, .unset, .unset, .unset] [])) _
      refine XS.iload X31.here hx rfl (hb hby at_60) rfl ?_
      show Steps p.tables e below (T31.setTop (mkF m 62 #[.val (.int p1), .val (.int p2), .val (.int p3), .val (.int p4), .val (.int p5), .val (.int (2 : Int32)), .val (.int s0), .val (.int s1), .val (.int s2), .val (.int s3), .val (.ref b30), .unset, .unset, .unset, .unset, .unset] [(.int (2 : Int32))])) _
      refine XS.iconst X31.here hx rfl (hb hby at_62) ?_
      show Steps p.tables e below (T31.setTop (mkF m 63 #[.val (.int p1), .val (.int p2), .val (.int p3), .val (.int p4), .val (.int p5), .val (.int (2 : Int32)), .val (.int s0), .val (.int s1), .val (.int s2), .val (.int s3), .val (.ref b30), .unset, .unset, .unset, .unset, .unset] [(.int (1 : Int32)), (.int (2 : Int32))])) _
      refine XS.icmpNo X31.here hx rfl (hb hby at_63) rfl (tlt (by decide : ((1 : Int32) < (2 : Int32)))).2.2.2 ?_
      show Steps p.tables e below (T31.setTop (mkF m 66 #[.val (.int p1), .val (.int p2), .val (.int p3), .val (.int p4), .val (.int p5), .val (.int (2 : Int32)), .val (.int s0), .val (.int s1), .val (.int s2), .val (.int s3), .val (.ref b30), .unset, .unset, .unset, .unset, .unset] [])) _
      refine XS.aload X31.here hx rfl (hb hby at_66) rfl rfl ?_
      show Steps p.tables e below (T31.setTop (mkF m 68 #[.val (.int p1), .val (.int p2), .val (.int p3), .val (.int p4), .val (.int p5), .val (.int (2 : Int32)), .val (.int s0), .val (.int s1), .val (.int s2), .val (.int s3), .val (.ref b30), .unset, .unset, .unset, .unset, .unset] [(.ref b30)])) _
      refine XS.iconst X31.here hx rfl (hb hby at_68) ?_
      show Steps p.tables e below (T31.setTop (mkF m 69 #[.val (.int p1), .val (.int p2), .val (.int p3), .val (.int p4), .val (.int p5), .val (.int (2 : Int32)), .val (.int s0), .val (.int s1), .val (.int s2), .val (.int s3), .val (.ref b30), .unset, .unset, .unset, .unset, .unset] [(.int (1 : Int32)), (.ref b30)])) _
      refine XS.iload X31.here hx rfl (hb hby at_69) rfl ?_
      show Steps p.tables e below (T31.setTop (mkF m 71 #[.val (.int p1), .val (.int p2), .val (.int p3), .val (.int p4), .val (.int p5), .val (.int (2 : Int32)), .val (.int s0), .val (.int s1), .val (.int s2), .val (.int s3), .val (.ref b30), .unset, .unset, .unset, .unset, .unset] [(.int s1), (.int (1 : Int32)), (.ref b30)])) _
      refine st33 _ ?_
      show Steps p.tables e below (T33.setTop (mkF m 72 #[.val (.int p1), .val (.int p2), .val (.int p3), .val (.int p4), .val (.int p5), .val (.int (2 : Int32)), .val (.int s0), .val (.int s1), .val (.int s2), .val (.int s3), .val (.ref b30), .unset, .unset, .unset, .unset, .unset] [])) _
      refine XS.iload X33.here hx rfl (hb hby at_72) rfl ?_
      show Steps p.tables e below (T33.setTop (mkF m 74 #[.val (.int p1), .val (.int p2), .val (.int p3), .val (.int p4), .val (.int p5), .val (.int (2 : Int32)), .val (.int s0), .val (.int s1), .val (.int s2), .val (.int s3), .val (.ref b30), .unset, .unset, .unset, .unset, .unset] [(.int (2 : Int32))])) _
      refine XS.iconst X33.here hx rfl (hb hby at_74) ?_
      show Steps p.tables e below (T33.setTop (mkF m 75 #[.val (.int p1), .val (.int p2), .val (.int p3), .val (.int p4), .val (.int p5), .val (.int (2 : Int32)), .val (.int s0), .val (.int s1), .val (.int s2), .val (.int s3), .val (.ref b30), .unset, .unset, .unset, .unset, .unset] [(.int (2 : Int32)), (.int (2 : Int32))])) _
      refine XS.icmpYes X33.here hx rfl (pc0 := 75) (pc' := 84) rfl (hb hby at_75) rfl (flt (by decide : ¬ ((2 : Int32) < (2 : Int32)))).2.2.2 (by decide) (by decide) ?_
      show Steps p.tables e below (T33.setTop (mkF m 84 #[.val (.int p1), .val (.int p2), .val (.int p3), .val (.int p4), .val (.int p5), .val (.int (2 : Int32)), .val (.int s0), .val (.int s1), .val (.int s2), .val (.int s3), .val (.ref b30), .unset, .unset, .unset, .unset, .unset] [])) _
      refine XS.iload X33.here hx rfl (hb hby at_84) rfl ?_
      show Steps p.tables e below (T33.setTop (mkF m 86 #[.val (.int p1), .val (.int p2), .val (.int p3), .val (.int p4), .val (.int p5), .val (.int (2 : Int32)), .val (.int s0), .val (.int s1), .val (.int s2), .val (.int s3), .val (.ref b30), .unset, .unset, .unset, .unset, .unset] [(.int (2 : Int32))])) _
      refine XS.iconst X33.here hx rfl (hb hby at_86) ?_
      show Steps p.tables e below (T33.setTop (mkF m 87 #[.val (.int p1), .val (.int p2), .val (.int p3), .val (.int p4), .val (.int p5), .val (.int (2 : Int32)), .val (.int s0), .val (.int s1), .val (.int s2), .val (.int s3), .val (.ref b30), .unset, .unset, .unset, .unset, .unset] [(.int (3 : Int32)), (.int (2 : Int32))])) _
      refine XS.icmpYes X33.here hx rfl (pc0 := 87) (pc' := 96) rfl (hb hby at_87) rfl (flt (by decide : ¬ ((3 : Int32) < (2 : Int32)))).2.2.2 (by decide) (by decide) ?_
      show Steps p.tables e below (T33.setTop (mkF m 96 #[.val (.int p1), .val (.int p2), .val (.int p3), .val (.int p4), .val (.int p5), .val (.int (2 : Int32)), .val (.int s0), .val (.int s1), .val (.int s2), .val (.int s3), .val (.ref b30), .unset, .unset, .unset, .unset, .unset] [])) _
      refine XS.iloadN X33.here hx rfl (hb hby at_96) rfl ?_
      show Steps p.tables e below (T33.setTop (mkF m 97 #[.val (.int p1), .val (.int p2), .val (.int p3), .val (.int p4), .val (.int p5), .val (.int (2 : Int32)), .val (.int s0), .val (.int s1), .val (.int s2), .val (.int s3), .val (.ref b30), .unset, .unset, .unset, .unset, .unset] [(.int p3)])) _
      refine X33.ldcInt hx hown (mvT hZ (hw _ (List.mem_of_getElem? (i := 1) rfl))) (g := (mkF m 97 #[.val (.int p1), .val (.int p2), .val (.int p3), .val (.int p4), .val (.int p5), .val (.int (2 : Int32)), .val (.int s0), .val (.int s1), .val (.int s2), .val (.int s3), .val (.ref b30), .unset, .unset, .unset, .unset, .unset] [(.int p3)])) rfl (hb hby at_97) _ ?_
      show Steps p.tables e below (T33.setTop (mkF m 99 #[.val (.int p1), .val (.int p2), .val (.int p3), .val (.int p4), .val (.int p5), .val (.int (2 : Int32)), .val (.int s0), .val (.int s1), .val (.int s2), .val (.int s3), .val (.ref b30), .unset, .unset, .unset, .unset, .unset] [(.int (2147483647 : Int32)), (.int p3)])) _
      refine XS.iand X33.here hx rfl (hb hby at_99) rfl ?_
      show Steps p.tables e below (T33.setTop (mkF m 100 #[.val (.int p1), .val (.int p2), .val (.int p3), .val (.int p4), .val (.int p5), .val (.int (2 : Int32)), .val (.int s0), .val (.int s1), .val (.int s2), .val (.int s3), .val (.ref b30), .unset, .unset, .unset, .unset, .unset] [(.int (p3 &&& (2147483647 : Int32)))])) _
      refine XS.iload X33.here hx rfl (hb hby at_100) rfl ?_
      show Steps p.tables e below (T33.setTop (mkF m 102 #[.val (.int p1), .val (.int p2), .val (.int p3), .val (.int p4), .val (.int p5), .val (.int (2 : Int32)), .val (.int s0), .val (.int s1), .val (.int s2), .val (.int s3), .val (.ref b30), .unset, .unset, .unset, .unset, .unset] [(.int (2 : Int32)), (.int (p3 &&& (2147483647 : Int32)))])) _
      refine XS.iconst X33.here hx rfl (hb hby at_102) ?_
      show Steps p.tables e below (T33.setTop (mkF m 103 #[.val (.int p1), .val (.int p2), .val (.int p3), .val (.int p4), .val (.int p5), .val (.int (2 : Int32)), .val (.int s0), .val (.int s1), .val (.int s2), .val (.int s3), .val (.ref b30), .unset, .unset, .unset, .unset, .unset] [(.int (1 : Int32)), (.int (2 : Int32)), (.int (p3 &&& (2147483647 : Int32)))])) _
      refine XS.iadd X33.here hx rfl (hb hby at_103) rfl ?_
      show Steps p.tables e below (T33.setTop (mkF m 104 #[.val (.int p1), .val (.int p2), .val (.int p3), .val (.int p4), .val (.int p5), .val (.int (2 : Int32)), .val (.int s0), .val (.int s1), .val (.int s2), .val (.int s3), .val (.ref b30), .unset, .unset, .unset, .unset, .unset] [(.int (3 : Int32)), (.int (p3 &&& (2147483647 : Int32)))])) _
      refine iremM X33 hx rfl (hb hby at_104) rfl (by decide) ?_
      show Steps p.tables e below (T33.setTop (mkF m 105 #[.val (.int p1), .val (.int p2), .val (.int p3), .val (.int p4), .val (.int p5), .val (.int (2 : Int32)), .val (.int s0), .val (.int s1), .val (.int s2), .val (.int s3), .val (.ref b30), .unset, .unset, .unset, .unset, .unset] [(.int ((p3 &&& (2147483647 : Int32)) % (3 : Int32)))])) _
      refine XS.istore X33.here hx rfl (hb hby at_105) rfl (l' := #[.val (.int p1), .val (.int p2), .val (.int p3), .val (.int p4), .val (.int p5), .val (.int (2 : Int32)), .val (.int s0), .val (.int s1), .val (.int s2), .val (.int s3), .val (.ref b30), .val (.int ((p3 &&& (2147483647 : Int32)) % (3 : Int32))), .unset, .unset, .unset, .unset]) rfl ?_
      show Steps p.tables e below (T33.setTop (mkF m 107 #[.val (.int p1), .val (.int p2), .val (.int p3), .val (.int p4), .val (.int p5), .val (.int (2 : Int32)), .val (.int s0), .val (.int s1), .val (.int s2), .val (.int s3), .val (.ref b30), .val (.int ((p3 &&& (2147483647 : Int32)) % (3 : Int32))), .unset, .unset, .unset, .unset] [])) _
      rw [← hmm]
      show Steps p.tables e below (T33.setTop (mkF m 107 #[.val (.int p1), .val (.int p2), .val (.int p3), .val (.int p4), .val (.int p5), .val (.int (2 : Int32)), .val (.int s0), .val (.int s1), .val (.int s2), .val (.int s3), .val (.ref b30), .val (.int mm), .unset, .unset, .unset, .unset] [])) _
      refine XS.iloadN X33.here hx rfl (hb hby at_107) rfl ?_
      show Steps p.tables e below (T33.setTop (mkF m 108 #[.val (.int p1), .val (.int p2), .val (.int p3), .val (.int p4), .val (.int p5), .val (.int (2 : Int32)), .val (.int s0), .val (.int s1), .val (.int s2), .val (.int s3), .val (.ref b30), .val (.int mm), .unset, .unset, .unset, .unset] [(.int p4)])) _
      refine XS.iconst X33.here hx rfl (hb hby at_108) ?_
      show Steps p.tables e below (T33.setTop (mkF m 109 #[.val (.int p1), .val (.int p2), .val (.int p3), .val (.int p4), .val (.int p5), .val (.int (2 : Int32)), .val (.int s0), .val (.int s1), .val (.int s2), .val (.int s3), .val (.ref b30), .val (.int mm), .unset, .unset, .unset, .unset] [(.int (4 : Int32)), (.int p4)])) _
      refine XS.iand X33.here hx rfl (hb hby at_109) rfl ?_
      show Steps p.tables e below (T33.setTop (mkF m 110 #[.val (.int p1), .val (.int p2), .val (.int p3), .val (.int p4), .val (.int p5), .val (.int (2 : Int32)), .val (.int s0), .val (.int s1), .val (.int s2), .val (.int s3), .val (.ref b30), .val (.int mm), .unset, .unset, .unset, .unset] [(.int (p4 &&& (4 : Int32)))])) _
      exact kt)
    have ch37 : Goes p e below s₁ (entryFrame m #[(.int p1), (.int p2), (.int p3), (.int p4), (.int p5)] maxLocals) T33 (mkF m 122 #[.val (.int p1), .val (.int p2), .val (.int p3), .val (.int p4), .val (.int p5), .val (.int (2 : Int32)), .val (.int s0), .val (.int s1), .val (.int s2), .val (.int s3), .val (.ref b30), .val (.int mm), .unset, .unset, .unset, .unset] [(.int (if (p4 &&& (4 : Int32)) = (0 : Int32) then (p1 + (p4 &&& (3 : Int32))) else p4))]) := fun t kt => ch35 t (by
      by_cases hc36 : (p4 &&& (4 : Int32)) = (0 : Int32)
      · show Steps p.tables e below (T33.setTop (mkF m 110 #[.val (.int p1), .val (.int p2), .val (.int p3), .val (.int p4), .val (.int p5), .val (.int (2 : Int32)), .val (.int s0), .val (.int s1), .val (.int s2), .val (.int s3), .val (.ref b30), .val (.int mm), .unset, .unset, .unset, .unset] [(.int (p4 &&& (4 : Int32)))])) _
        refine XS.ifYes X33.here hx rfl (pc0 := 110) (pc' := 117) rfl (hb hby at_110) rfl ((if0 _ _).trans (teq hc36).1) (by decide) (by decide) ?_
        show Steps p.tables e below (T33.setTop (mkF m 117 #[.val (.int p1), .val (.int p2), .val (.int p3), .val (.int p4), .val (.int p5), .val (.int (2 : Int32)), .val (.int s0), .val (.int s1), .val (.int s2), .val (.int s3), .val (.ref b30), .val (.int mm), .unset, .unset, .unset, .unset] [])) _
        refine XS.iloadN X33.here hx rfl (hb hby at_117) rfl ?_
        show Steps p.tables e below (T33.setTop (mkF m 118 #[.val (.int p1), .val (.int p2), .val (.int p3), .val (.int p4), .val (.int p5), .val (.int (2 : Int32)), .val (.int s0), .val (.int s1), .val (.int s2), .val (.int s3), .val (.ref b30), .val (.int mm), .unset, .unset, .unset, .unset] [(.int p1)])) _
        refine XS.iloadN X33.here hx rfl (hb hby at_118) rfl ?_
        show Steps p.tables e below (T33.setTop (mkF m 119 #[.val (.int p1), .val (.int p2), .val (.int p3), .val (.int p4), .val (.int p5), .val (.int (2 : Int32)), .val (.int s0), .val (.int s1), .val (.int s2), .val (.int s3), .val (.ref b30), .val (.int mm), .unset, .unset, .unset, .unset] [(.int p4), (.int p1)])) _
        refine XS.iconst X33.here hx rfl (hb hby at_119) ?_
        show Steps p.tables e below (T33.setTop (mkF m 120 #[.val (.int p1), .val (.int p2), .val (.int p3), .val (.int p4), .val (.int p5), .val (.int (2 : Int32)), .val (.int s0), .val (.int s1), .val (.int s2), .val (.int s3), .val (.ref b30), .val (.int mm), .unset, .unset, .unset, .unset] [(.int (3 : Int32)), (.int p4), (.int p1)])) _
        refine XS.iand X33.here hx rfl (hb hby at_120) rfl ?_
        show Steps p.tables e below (T33.setTop (mkF m 121 #[.val (.int p1), .val (.int p2), .val (.int p3), .val (.int p4), .val (.int p5), .val (.int (2 : Int32)), .val (.int s0), .val (.int s1), .val (.int s2), .val (.int s3), .val (.ref b30), .val (.int mm), .unset, .unset, .unset, .unset] [(.int (p4 &&& (3 : Int32))), (.int p1)])) _
        refine XS.iadd X33.here hx rfl (hb hby at_121) rfl ?_
        show Steps p.tables e below (T33.setTop (mkF m 122 #[.val (.int p1), .val (.int p2), .val (.int p3), .val (.int p4), .val (.int p5), .val (.int (2 : Int32)), .val (.int s0), .val (.int s1), .val (.int s2), .val (.int s3), .val (.ref b30), .val (.int mm), .unset, .unset, .unset, .unset] [(.int (p1 + (p4 &&& (3 : Int32))))])) _
        simpa only [if_pos hc36] using kt
      · show Steps p.tables e below (T33.setTop (mkF m 110 #[.val (.int p1), .val (.int p2), .val (.int p3), .val (.int p4), .val (.int p5), .val (.int (2 : Int32)), .val (.int s0), .val (.int s1), .val (.int s2), .val (.int s3), .val (.ref b30), .val (.int mm), .unset, .unset, .unset, .unset] [(.int (p4 &&& (4 : Int32)))])) _
        refine XS.ifNo X33.here hx rfl (hb hby at_110) rfl ((if0 _ _).trans (feq hc36).1) ?_
        show Steps p.tables e below (T33.setTop (mkF m 113 #[.val (.int p1), .val (.int p2), .val (.int p3), .val (.int p4), .val (.int p5), .val (.int (2 : Int32)), .val (.int s0), .val (.int s1), .val (.int s2), .val (.int s3), .val (.ref b30), .val (.int mm), .unset, .unset, .unset, .unset] [])) _
        refine XS.iloadN X33.here hx rfl (hb hby at_113) rfl ?_
        show Steps p.tables e below (T33.setTop (mkF m 114 #[.val (.int p1), .val (.int p2), .val (.int p3), .val (.int p4), .val (.int p5), .val (.int (2 : Int32)), .val (.int s0), .val (.int s1), .val (.int s2), .val (.int s3), .val (.ref b30), .val (.int mm), .unset, .unset, .unset, .unset] [(.int p4)])) _
        refine XS.goto X33.here hx rfl (pc0 := 114) (pc' := 122) rfl (hb hby at_114) (by decide) (by decide) ?_
        show Steps p.tables e below (T33.setTop (mkF m 122 #[.val (.int p1), .val (.int p2), .val (.int p3), .val (.int p4), .val (.int p5), .val (.int (2 : Int32)), .val (.int s0), .val (.int s1), .val (.int s2), .val (.int s3), .val (.ref b30), .val (.int mm), .unset, .unset, .unset, .unset] [(.int p4)])) _
        simpa only [if_neg hc36] using kt)
    obtain ⟨cc, hcc⟩ : ∃ z : Int32, z = (if (p4 &&& (4 : Int32)) = (0 : Int32) then (p1 + (p4 &&& (3 : Int32))) else p4) := ⟨_, rfl⟩
    obtain ⟨T38, h38, k38, X38, e38, E38, A38, st38⟩ := newP X33 hx hZ (hw _ (List.mem_of_getElem? (i := 0) rfl)) e33 (g := (mkF m 126 #[.val (.int p1), .val (.int p2), .val (.int p3), .val (.int p4), .val (.int p5), .val (.int (2 : Int32)), .val (.int s0), .val (.int s1), .val (.int s2), .val (.int s3), .val (.ref b30), .val (.int mm), .val (.int cc), .unset, .unset, .unset] [(.int (2 : Int32))])) rfl (hb hby at_126) rfl (by decide) (cap := 2) (by decide) (by decide) (by decide) (by decide)
    obtain ⟨b38, g38⟩ : ∃ z, z = h33.size := ⟨_, rfl⟩
    rw [← g38] at A38 st38
    have g_b38 : n0 ≤ b38 := Nat.le_trans Z33 (Nat.le_of_eq g38.symm)
    have sz_b38 : h0.size ≤ b38 := Nat.le_trans K33.1 (Nat.le_of_eq g38.symm)
    have ne39 : b30 ≠ b38 := Nat.ne_of_lt (Nat.lt_of_lt_of_le U33.lt (Nat.le_of_eq g38.symm))
    have f40 := U33.ext E38
    have K38 : Keep h0 h38 [] := K33.ext E38
    have Z38 : n0 ≤ h38.size := Nat.le_trans Z33 E38.1
    have V38 : Arv Z h38 b38 k38 .int (2 : Int32) [(.int (0 : Int32)), (.int (0 : Int32)), (.int (0 : Int32)), (.int (0 : Int32))] (.int (0 : Int32)) := (Arv.new A38 (by decide)).pad (pad_rep [] (.int (0 : Int32)) 4)
    have ch41 : Goes p e below s₁ (entryFrame m #[(.int p1), (.int p2), (.int p3), (.int p4), (.int p5)] maxLocals) T38 (mkF m 141 #[.val (.int p1), .val (.int p2), .val (.int p3), .val (.int p4), .val (.int p5), .val (.int (2 : Int32)), .val (.int s0), .val (.int s1), .val (.int s2), .val (.int s3), .val (.ref b30), .val (.int mm), .val (.int cc), .val (.ref b38), .unset, .unset] [(.int mm), (.int (0 : Int32)), (.int (0 : Int32)), (.ref b38)]) := fun t kt => ch37 t (by
      show Steps p.tables e below (T33.setTop (mkF m 122 #[.val (.int p1), .val (.int p2), .val (.int p3), .val (.int p4), .val (.int p5), .val (.int (2 : Int32)), .val (.int s0), .val (.int s1), .val (.int s2), .val (.int s3), .val (.ref b30), .val (.int mm), .unset, .unset, .unset, .unset] [(.int (if (p4 &&& (4 : Int32)) = (0 : Int32) then (p1 + (p4 &&& (3 : Int32))) else p4))])) _
      refine XS.istore X33.here hx rfl (hb hby at_122) rfl (l' := #[.val (.int p1), .val (.int p2), .val (.int p3), .val (.int p4), .val (.int p5), .val (.int (2 : Int32)), .val (.int s0), .val (.int s1), .val (.int s2), .val (.int s3), .val (.ref b30), .val (.int mm), .val (.int (if (p4 &&& (4 : Int32)) = (0 : Int32) then (p1 + (p4 &&& (3 : Int32))) else p4)), .unset, .unset, .unset]) rfl ?_
      show Steps p.tables e below (T33.setTop (mkF m 124 #[.val (.int p1), .val (.int p2), .val (.int p3), .val (.int p4), .val (.int p5), .val (.int (2 : Int32)), .val (.int s0), .val (.int s1), .val (.int s2), .val (.int s3), .val (.ref b30), .val (.int mm), .val (.int (if (p4 &&& (4 : Int32)) = (0 : Int32) then (p1 + (p4 &&& (3 : Int32))) else p4)), .unset, .unset, .unset] [])) _
      rw [← hcc]
      show Steps p.tables e below (T33.setTop (mkF m 124 #[.val (.int p1), .val (.int p2), .val (.int p3), .val (.int p4), .val (.int p5), .val (.int (2 : Int32)), .val (.int s0), .val (.int s1), .val (.int s2), .val (.int s3), .val (.ref b30), .val (.int mm), .val (.int cc), .unset, .unset, .unset] [])) _
      refine XS.iload X33.here hx rfl (hb hby at_124) rfl ?_
      show Steps p.tables e below (T33.setTop (mkF m 126 #[.val (.int p1), .val (.int p2), .val (.int p3), .val (.int p4), .val (.int p5), .val (.int (2 : Int32)), .val (.int s0), .val (.int s1), .val (.int s2), .val (.int s3), .val (.ref b30), .val (.int mm), .val (.int cc), .unset, .unset, .unset] [(.int (2 : Int32))])) _
      refine st38 _ ?_
      show Steps p.tables e below (T38.setTop (mkF m 128 #[.val (.int p1), .val (.int p2), .val (.int p3), .val (.int p4), .val (.int p5), .val (.int (2 : Int32)), .val (.int s0), .val (.int s1), .val (.int s2), .val (.int s3), .val (.ref b30), .val (.int mm), .val (.int cc), .unset, .unset, .unset] [(.ref b38)])) _
      refine XS.astore X38.here hx rfl (hb hby at_128) rfl rfl (l' := #[.val (.int p1), .val (.int p2), .val (.int p3), .val (.int p4), .val (.int p5), .val (.int (2 : Int32)), .val (.int s0), .val (.int s1), .val (.int s2), .val (.int s3), .val (.ref b30), .val (.int mm), .val (.int cc), .val (.ref b38), .unset, .unset]) rfl ?_
      show Steps p.tables e below (T38.setTop (mkF m 130 #[.val (.int p1), .val (.int p2), .val (.int p3), .val (.int p4), .val (.int p5), .val (.int (2 : Int32)), .val (.int s0), .val (.int s1), .val (.int s2), .val (.int s3), .val (.ref b30), .val (.int mm), .val (.int cc), .val (.ref b38), .unset, .unset] [])) _
      refine XS.iload X38.here hx rfl (hb hby at_130) rfl ?_
      show Steps p.tables e below (T38.setTop (mkF m 132 #[.val (.int p1), .val (.int p2), .val (.int p3), .val (.int p4), .val (.int p5), .val (.int (2 : Int32)), .val (.int s0), .val (.int s1), .val (.int s2), .val (.int s3), .val (.ref b30), .val (.int mm), .val (.int cc), .val (.ref b38), .unset, .unset] [(.int (2 : Int32))])) _
      refine XS.ifNo X38.here hx rfl (hb hby at_132) rfl ((if0 _ _).trans (tlt (by decide : ((0 : Int32) < (2 : Int32)))).2.2.2) ?_
      show Steps p.tables e below (T38.setTop (mkF m 135 #[.val (.int p1), .val (.int p2), .val (.int p3), .val (.int p4), .val (.int p5), .val (.int (2 : Int32)), .val (.int s0), .val (.int s1), .val (.int s2), .val (.int s3), .val (.ref b30), .val (.int mm), .val (.int cc), .val (.ref b38), .unset, .unset] [])) _
      refine XS.aload X38.here hx rfl (hb hby at_135) rfl rfl ?_
      show Steps p.tables e below (T38.setTop (mkF m 137 #[.val (.int p1), .val (.int p2), .val (.int p3), .val (.int p4), .val (.int p5), .val (.int (2 : Int32)), .val (.int s0), .val (.int s1), .val (.int s2), .val (.int s3), .val (.ref b30), .val (.int mm), .val (.int cc), .val (.ref b38), .unset, .unset] [(.ref b38)])) _
      refine XS.iconst X38.here hx rfl (hb hby at_137) ?_
      show Steps p.tables e below (T38.setTop (mkF m 138 #[.val (.int p1), .val (.int p2), .val (.int p3), .val (.int p4), .val (.int p5), .val (.int (2 : Int32)), .val (.int s0), .val (.int s1), .val (.int s2), .val (.int s3), .val (.ref b30), .val (.int mm), .val (.int cc), .val (.ref b38), .unset, .unset] [(.int (0 : Int32)), (.ref b38)])) _
      refine XS.iconst X38.here hx rfl (hb hby at_138) ?_
      show Steps p.tables e below (T38.setTop (mkF m 139 #[.val (.int p1), .val (.int p2), .val (.int p3), .val (.int p4), .val (.int p5), .val (.int (2 : Int32)), .val (.int s0), .val (.int s1), .val (.int s2), .val (.int s3), .val (.ref b30), .val (.int mm), .val (.int cc), .val (.ref b38), .unset, .unset] [(.int (0 : Int32)), (.int (0 : Int32)), (.ref b38)])) _
      refine XS.iload X38.here hx rfl (hb hby at_139) rfl ?_
      show Steps p.tables e below (T38.setTop (mkF m 141 #[.val (.int p1), .val (.int p2), .val (.int p3), .val (.int p4), .val (.int p5), .val (.int (2 : Int32)), .val (.int s0), .val (.int s1), .val (.int s2), .val (.int s3), .val (.ref b30), .val (.int mm), .val (.int cc), .val (.ref b38), .unset, .unset] [(.int mm), (.int (0 : Int32)), (.int (0 : Int32)), (.ref b38)])) _
      exact kt)
    have ch43 : Goes p e below s₁ (entryFrame m #[(.int p1), (.int p2), (.int p3), (.int p4), (.int p5)] maxLocals) T38 (mkF m 150 #[.val (.int p1), .val (.int p2), .val (.int p3), .val (.int p4), .val (.int p5), .val (.int (2 : Int32)), .val (.int s0), .val (.int s1), .val (.int s2), .val (.int s3), .val (.ref b30), .val (.int mm), .val (.int cc), .val (.ref b38), .unset, .unset] [(.int (if (0 : Int32) < mm then (0 : Int32) else p5)), (.int (0 : Int32)), (.ref b38)]) := fun t kt => ch41 t (by
      by_cases hc42 : (0 : Int32) < mm
      · show Steps p.tables e below (T38.setTop (mkF m 141 #[.val (.int p1), .val (.int p2), .val (.int p3), .val (.int p4), .val (.int p5), .val (.int (2 : Int32)), .val (.int s0), .val (.int s1), .val (.int s2), .val (.int s3), .val (.ref b30), .val (.int mm), .val (.int cc), .val (.ref b38), .unset, .unset] [(.int mm), (.int (0 : Int32)), (.int (0 : Int32)), (.ref b38)])) _
        refine XS.icmpNo X38.here hx rfl (hb hby at_141) rfl (tlt hc42).2.1 ?_
        show Steps p.tables e below (T38.setTop (mkF m 144 #[.val (.int p1), .val (.int p2), .val (.int p3), .val (.int p4), .val (.int p5), .val (.int (2 : Int32)), .val (.int s0), .val (.int s1), .val (.int s2), .val (.int s3), .val (.ref b30), .val (.int mm), .val (.int cc), .val (.ref b38), .unset, .unset] [(.int (0 : Int32)), (.ref b38)])) _
        refine XS.iconst X38.here hx rfl (hb hby at_144) ?_
        show Steps p.tables e below (T38.setTop (mkF m 145 #[.val (.int p1), .val (.int p2), .val (.int p3), .val (.int p4), .val (.int p5), .val (.int (2 : Int32)), .val (.int s0), .val (.int s1), .val (.int s2), .val (.int s3), .val (.ref b30), .val (.int mm), .val (.int cc), .val (.ref b38), .unset, .unset] [(.int (0 : Int32)), (.int (0 : Int32)), (.ref b38)])) _
        refine XS.goto X38.here hx rfl (pc0 := 145) (pc' := 150) rfl (hb hby at_145) (by decide) (by decide) ?_
        show Steps p.tables e below (T38.setTop (mkF m 150 #[.val (.int p1), .val (.int p2), .val (.int p3), .val (.int p4), .val (.int p5), .val (.int (2 : Int32)), .val (.int s0), .val (.int s1), .val (.int s2), .val (.int s3), .val (.ref b30), .val (.int mm), .val (.int cc), .val (.ref b38), .unset, .unset] [(.int (0 : Int32)), (.int (0 : Int32)), (.ref b38)])) _
        simpa only [if_pos hc42] using kt
      · show Steps p.tables e below (T38.setTop (mkF m 141 #[.val (.int p1), .val (.int p2), .val (.int p3), .val (.int p4), .val (.int p5), .val (.int (2 : Int32)), .val (.int s0), .val (.int s1), .val (.int s2), .val (.int s3), .val (.ref b30), .val (.int mm), .val (.int cc), .val (.ref b38), .unset, .unset] [(.int mm), (.int (0 : Int32)), (.int (0 : Int32)), (.ref b38)])) _
        refine XS.icmpYes X38.here hx rfl (pc0 := 141) (pc' := 148) rfl (hb hby at_141) rfl (flt hc42).2.1 (by decide) (by decide) ?_
        show Steps p.tables e below (T38.setTop (mkF m 148 #[.val (.int p1), .val (.int p2), .val (.int p3), .val (.int p4), .val (.int p5), .val (.int (2 : Int32)), .val (.int s0), .val (.int s1), .val (.int s2), .val (.int s3), .val (.ref b30), .val (.int mm), .val (.int cc), .val (.ref b38), .unset, .unset] [(.int (0 : Int32)), (.ref b38)])) _
        refine XS.iload X38.here hx rfl (hb hby at_148) rfl ?_
        show Steps p.tables e below (T38.setTop (mkF m 150 #[.val (.int p1), .val (.int p2), .val (.int p3), .val (.int p4), .val (.int p5), .val (.int (2 : Int32)), .val (.int s0), .val (.int s1), .val (.int s2), .val (.int s3), .val (.ref b30), .val (.int mm), .val (.int cc), .val (.ref b38), .unset, .unset] [(.int p5), (.int (0 : Int32)), (.ref b38)])) _
        simpa only [if_neg hc42] using kt)
    obtain ⟨v0, hv0⟩ : ∃ z : Int32, z = (if (0 : Int32) < mm then (0 : Int32) else p5) := ⟨_, rfl⟩
    obtain ⟨cl44, Ar44, q44, S44, M44, H44, G44⟩ := id V38
    have hin44 : ¬ ((0 : Int32) < 0 ∨ cl44.slots.size ≤ ((0 : Int32)).toNatClampNeg) := inb_of S44 ⟨by decide, by decide⟩
    obtain ⟨T44, h44, X44, e44, W44, st44⟩ := stI X38 hx hZ e38 Ar44 (j := (0 : Int32)) hin44 (g := (mkF m 150 #[.val (.int p1), .val (.int p2), .val (.int p3), .val (.int p4), .val (.int p5), .val (.int (2 : Int32)), .val (.int s0), .val (.int s1), .val (.int s2), .val (.int s3), .val (.ref b30), .val (.int mm), .val (.int cc), .val (.ref b38), .unset, .unset] [(.int v0), (.int (0 : Int32)), (.ref b38)])) rfl rfl (hb hby at_150)
    have V44 := Arv.set Ar44 q44 S44 M44 H44 G44 rfl W44 0 rfl (Nat.le_of_ble_eq_true rfl)
    have f45 := f40.other W44 ne39
    have K44 : Keep h0 h44 [] := K38.wr W44 (Or.inr sz_b38)
    have N44 := Fr.snoc X44 N33 g_b38
    have Z44 : n0 ≤ h44.size := Nat.le_trans Z38 (Keep.of_wr W44).1
    have U44 : Arv Z h44 b38 k38 .int (2 : Int32) [(.int v0), (.int (0 : Int32)), (.int (0 : Int32)), (.int (0 : Int32))] (.int (0 : Int32)) := V44
    have ch47 : Goes p e below s₁ (entryFrame m #[(.int p1), (.int p2), (.int p3), (.int p4), (.int p5)] maxLocals) T44 (mkF m 160 #[.val (.int p1), .val (.int p2), .val (.int p3), .val (.int p4), .val (.int p5), .val (.int (2 : Int32)), .val (.int s0), .val (.int s1), .val (.int s2), .val (.int s3), .val (.ref b30), .val (.int mm), .val (.int cc), .val (.ref b38), .unset, .unset] [(.int (1 : Int32)), (.ref b38)]) := fun t kt => ch43 t (by
      show Steps p.tables e below (T38.setTop (mkF m 150 #[.val (.int p1), .val (.int p2), .val (.int p3), .val (.int p4), .val (.int p5), .val (.int (2 : Int32)), .val (.int s0), .val (.int s1), .val (.int s2), .val (.int s3), .val (.ref b30), .val (.int mm), .val (.int cc), .val (.ref b38), .unset, .unset] [(.int (if (0 : Int32) < mm then (0 : Int32) else p5)), (.int (0 : Int32)), (.ref b38)])) _
      rw [← hv0]
      show Steps p.tables e below (T38.setTop (mkF m 150 #[.val (.int p1), .val (.int p2), .val (.int p3), .val (.int p4), .val (.int p5), .val (.int (2 : Int32)), .val (.int s0), .val (.int s1), .val (.int s2), .val (.int s3), .val (.ref b30), .val (.int mm), .val (.int cc), .val (.ref b38), .unset, .unset] [(.int v0), (.int (0 : Int32)), (.ref b38)])) _
      refine st44 _ ?_
      show Steps p.tables e below (T44.setTop (mkF m 151 #[.val (.int p1), .val (.int p2), .val (.int p3), .val (.int p4), .val (.int p5), .val (.int (2 : Int32)), .val (.int s0), .val (.int s1), .val (.int s2), .val (.int s3), .val (.ref b30), .val (.int mm), .val (.int cc), .val (.ref b38), .unset, .unset] [])) _
      refine XS.iload X44.here hx rfl (hb hby at_151) rfl ?_
      show Steps p.tables e below (T44.setTop (mkF m 153 #[.val (.int p1), .val (.int p2), .val (.int p3), .val (.int p4), .val (.int p5), .val (.int (2 : Int32)), .val (.int s0), .val (.int s1), .val (.int s2), .val (.int s3), .val (.ref b30), .val (.int mm), .val (.int cc), .val (.ref b38), .unset, .unset] [(.int (2 : Int32))])) _
      refine XS.iconst X44.here hx rfl (hb hby at_153) ?_
      show Steps p.tables e below (T44.setTop (mkF m 154 #[.val (.int p1), .val (.int p2), .val (.int p3), .val (.int p4), .val (.int p5), .val (.int (2 : Int32)), .val (.int s0), .val (.int s1), .val (.int s2), .val (.int s3), .val (.ref b30), .val (.int mm), .val (.int cc), .val (.ref b38), .unset, .unset] [(.int (1 : Int32)), (.int (2 : Int32))])) _
      refine XS.icmpNo X44.here hx rfl (hb hby at_154) rfl (tlt (by decide : ((1 : Int32) < (2 : Int32)))).2.2.2 ?_
      show Steps p.tables e below (T44.setTop (mkF m 157 #[.val (.int p1), .val (.int p2), .val (.int p3), .val (.int p4), .val (.int p5), .val (.int (2 : Int32)), .val (.int s0), .val (.int s1), .val (.int s2), .val (.int s3), .val (.ref b30), .val (.int mm), .val (.int cc), .val (.ref b38), .unset, .unset] [])) _
      refine XS.aload X44.here hx rfl (hb hby at_157) rfl rfl ?_
      show Steps p.tables e below (T44.setTop (mkF m 159 #[.val (.int p1), .val (.int p2), .val (.int p3), .val (.int p4), .val (.int p5), .val (.int (2 : Int32)), .val (.int s0), .val (.int s1), .val (.int s2), .val (.int s3), .val (.ref b30), .val (.int mm), .val (.int cc), .val (.ref b38), .unset, .unset] [(.ref b38)])) _
      refine XS.iconst X44.here hx rfl (hb hby at_159) ?_
      show Steps p.tables e below (T44.setTop (mkF m 160 #[.val (.int p1), .val (.int p2), .val (.int p3), .val (.int p4), .val (.int p5), .val (.int (2 : Int32)), .val (.int s0), .val (.int s1), .val (.int s2), .val (.int s3), .val (.ref b30), .val (.int mm), .val (.int cc), .val (.ref b38), .unset, .unset] [(.int (1 : Int32)), (.ref b38)])) _
      exact kt)
    refine cps (A := ∃ (T' : State) (locs' : List Loc) (v1 : Int32), Stand p l e room_1 s m #[(.int p1), (.int p2), (.int p3), (.int p4), (.int p5)] below meth c T' locs' 2 4 ∧ T'.heap = h44 ∧ Fr n0 locs' ∧ (v1 = (if (1 : Int32) < mm then (own_b4 (own_f s0 s1 (0 : Int32) (0 : Int32)) (1 : Int32) s1 (1 : Int32)) else p5)) ∧ Goes p e below s₁ (entryFrame m #[(.int p1), (.int p2), (.int p3), (.int p4), (.int p5)] maxLocals) T' (mkF m 182 #[.val (.int p1), .val (.int p2), .val (.int p3), .val (.int p4), .val (.int p5), .val (.int (2 : Int32)), .val (.int s0), .val (.int s1), .val (.int s2), .val (.int s3), .val (.ref b30), .val (.int mm), .val (.int cc), .val (.ref b38), .unset, .unset] [(.int v1), (.int (1 : Int32)), (.ref b38)])) ?_ ?_
    · intro kk48
      have ch49 : Goes p e below s₁ (entryFrame m #[(.int p1), (.int p2), (.int p3), (.int p4), (.int p5)] maxLocals) T44 (mkF m 163 #[.val (.int p1), .val (.int p2), .val (.int p3), .val (.int p4), .val (.int p5), .val (.int (2 : Int32)), .val (.int s0), .val (.int s1), .val (.int s2), .val (.int s3), .val (.ref b30), .val (.int mm), .val (.int cc), .val (.ref b38), .unset, .unset] [(.int mm), (.int (1 : Int32)), (.int (1 : Int32)), (.ref b38)]) := fun t kt => ch47 t (by
        show Steps p.tables e below (T44.setTop (mkF m 160 #[.val (.int p1), .val (.int p2), .val (.int p3), .val (.int p4), .val (.int p5), .val (.int (2 : Int32)), .val (.int s0), .val (.int s1), .val (.int s2), .val (.int s3), .val (.ref b30), .val (.int mm), .val (.int cc), .val (.ref b38), .unset, .unset] [(.int (1 : Int32)), (.ref b38)])) _
        refine XS.iconst X44.here hx rfl (hb hby at_160) ?_
        show Steps p.tables e below (T44.setTop (mkF m 161 #[.val (.int p1), .val (.int p2), .val (.int p3), .val (.int p4), .val (.int p5), .val (.int (2 : Int32)), .val (.int s0), .val (.int s1), .val (.int s2), .val (.int s3), .val (.ref b30), .val (.int mm), .val (.int cc), .val (.ref b38), .unset, .unset] [(.int (1 : Int32)), (.int (1 : Int32)), (.ref b38)])) _
        refine XS.iload X44.here hx rfl (hb hby at_161) rfl ?_
        show Steps p.tables e below (T44.setTop (mkF m 163 #[.val (.int p1), .val (.int p2), .val (.int p3), .val (.int p4), .val (.int p5), .val (.int (2 : Int32)), .val (.int s0), .val (.int s1), .val (.int s2), .val (.int s3), .val (.ref b30), .val (.int mm), .val (.int cc), .val (.ref b38), .unset, .unset] [(.int mm), (.int (1 : Int32)), (.int (1 : Int32)), (.ref b38)])) _
        exact kt)
      by_cases hc50 : (1 : Int32) < mm
      · obtain ⟨cl51, Ar51, -, S51, M51, H51, G51⟩ := id f45
        have hin51 : ¬ ((1 : Int32) < 0 ∨ cl51.slots.size ≤ ((1 : Int32)).toNatClampNeg) := inb_of S51 ⟨by decide, by decide⟩
        have hat51 : cl51.slots[((1 : Int32)).toNatClampNeg]? = some (.int s1) := Has.at H51 hin51 rfl
        obtain ⟨_, _, ⟨T52, L52, k52, n52⟩, -, X52, ⟨Lc52, hQ52, l52, y52, z52⟩, st52⟩ := Jvm.LawKit.callS X44 hx (y := (⟨"com/example/humble_match/humblematch/PartialMatchTableAdvancePinLaw", "best", "([IIII)I"⟩ : MethodName)) hown (mvT hZ (hw _ (List.mem_of_getElem? (i := 6) rfl))) (mvT hZ (hw _ (List.mem_of_getElem? (i := 7) rfl))) (mvT hZ (hw _ (List.mem_of_getElem? (i := 8) rfl))) (mvT hZ (hw _ (List.mem_of_getElem? (i := 9) rfl))) (by decide) (backOf (W := 2) (rm2 l Z a0 hw [] b30 (1 : Int32) s1 (1 : Int32) k30 (2 : Int32) (own_f s0 s1 (0 : Int32) (0 : Int32)) h44 n0 Z44 f45 (by unfold own_B; decide) ⟨by decide, by decide⟩) hZ (hw _ (List.mem_of_getElem? (i := 9) rfl)) (hw _ (List.mem_of_getElem? (i := 8) rfl)) (by decide) (by decide)) (g := (mkF m 174 #[.val (.int p1), .val (.int p2), .val (.int p3), .val (.int p4), .val (.int p5), .val (.int (2 : Int32)), .val (.int s0), .val (.int s1), .val (.int s2), .val (.int s3), .val (.ref b30), .val (.int mm), .val (.int cc), .val (.ref b38), .unset, .unset] [(.int (1 : Int32)), (.int s1), (.int (1 : Int32)), (.ref b30), (.int (1 : Int32)), (.ref b38)])) rfl (by rw [hml]; rfl) (argsL := [(.ref b30), (.int (1 : Int32)), (.int s1), (.int (1 : Int32))]) (rest := [(.int (1 : Int32)), (.ref b38)]) (lenOf pd_1 rfl) rfl (by show 2 * 0 + _ ≤ _; exact Nat.le_of_eq rfl) (hb hby at_174) (fun _ _ => ⟨rfl, e44, (by decide : 2 + 0 ≤ _), (by decide : 4 + 0 ≤ _)⟩)
        dsimp only [Pt.U, Pt.locs, Pt.cells, Pt.slots] at X52 l52 y52 z52 st52 hQ52
        subst l52 y52 z52
        obtain ⟨rfl, N52q, r52_0⟩ := hQ52
        have N52 := Fr.app N44 N52q
        have ch53 : Goes p e below s₁ (entryFrame m #[(.int p1), (.int p2), (.int p3), (.int p4), (.int p5)] maxLocals) T52 (mkF m 182 #[.val (.int p1), .val (.int p2), .val (.int p3), .val (.int p4), .val (.int p5), .val (.int (2 : Int32)), .val (.int s0), .val (.int s1), .val (.int s2), .val (.int s3), .val (.ref b30), .val (.int mm), .val (.int cc), .val (.ref b38), .unset, .unset] [(.int (own_b4 (own_f s0 s1 (0 : Int32) (0 : Int32)) (1 : Int32) s1 (1 : Int32))), (.int (1 : Int32)), (.ref b38)]) := fun t kt => ch49 t (by
          show Steps p.tables e below (T44.setTop (mkF m 163 #[.val (.int p1), .val (.int p2), .val (.int p3), .val (.int p4), .val (.int p5), .val (.int (2 : Int32)), .val (.int s0), .val (.int s1), .val (.int s2), .val (.int s3), .val (.ref b30), .val (.int mm), .val (.int cc), .val (.ref b38), .unset, .unset] [(.int mm), (.int (1 : Int32)), (.int (1 : Int32)), (.ref b38)])) _
          refine XS.icmpNo X44.here hx rfl (hb hby at_163) rfl (tlt hc50).2.1 ?_
          show Steps p.tables e below (T44.setTop (mkF m 166 #[.val (.int p1), .val (.int p2), .val (.int p3), .val (.int p4), .val (.int p5), .val (.int (2 : Int32)), .val (.int s0), .val (.int s1), .val (.int s2), .val (.int s3), .val (.ref b30), .val (.int mm), .val (.int cc), .val (.ref b38), .unset, .unset] [(.int (1 : Int32)), (.ref b38)])) _
          refine XS.aload X44.here hx rfl (hb hby at_166) rfl rfl ?_
          show Steps p.tables e below (T44.setTop (mkF m 168 #[.val (.int p1), .val (.int p2), .val (.int p3), .val (.int p4), .val (.int p5), .val (.int (2 : Int32)), .val (.int s0), .val (.int s1), .val (.int s2), .val (.int s3), .val (.ref b30), .val (.int mm), .val (.int cc), .val (.ref b38), .unset, .unset] [(.ref b30), (.int (1 : Int32)), (.ref b38)])) _
          refine XS.iconst X44.here hx rfl (hb hby at_168) ?_
          show Steps p.tables e below (T44.setTop (mkF m 169 #[.val (.int p1), .val (.int p2), .val (.int p3), .val (.int p4), .val (.int p5), .val (.int (2 : Int32)), .val (.int s0), .val (.int s1), .val (.int s2), .val (.int s3), .val (.ref b30), .val (.int mm), .val (.int cc), .val (.ref b38), .unset, .unset] [(.int (1 : Int32)), (.ref b30), (.int (1 : Int32)), (.ref b38)])) _
          refine XS.aload X44.here hx rfl (hb hby at_169) rfl rfl ?_
          show Steps p.tables e below (T44.setTop (mkF m 171 #[.val (.int p1), .val (.int p2), .val (.int p3), .val (.int p4), .val (.int p5), .val (.int (2 : Int32)), .val (.int s0), .val (.int s1), .val (.int s2), .val (.int s3), .val (.ref b30), .val (.int mm), .val (.int cc), .val (.ref b38), .unset, .unset] [(.ref b30), (.int (1 : Int32)), (.ref b30), (.int (1 : Int32)), (.ref b38)])) _
          refine XS.iconst X44.here hx rfl (hb hby at_171) ?_
          show Steps p.tables e below (T44.setTop (mkF m 172 #[.val (.int p1), .val (.int p2), .val (.int p3), .val (.int p4), .val (.int p5), .val (.int (2 : Int32)), .val (.int s0), .val (.int s1), .val (.int s2), .val (.int s3), .val (.ref b30), .val (.int mm), .val (.int cc), .val (.ref b38), .unset, .unset] [(.int (1 : Int32)), (.ref b30), (.int (1 : Int32)), (.ref b30), (.int (1 : Int32)), (.ref b38)])) _
          refine X44.iaload hx (j := (1 : Int32)) (v := (.int s1)) (by rw [e44]; exact Ar51.1) (State.isArrayOf_alike hZ.alike Ar51.2.1) Ar51.2.2 hin51 hat51 (g := (mkF m 172 #[.val (.int p1), .val (.int p2), .val (.int p3), .val (.int p4), .val (.int p5), .val (.int (2 : Int32)), .val (.int s0), .val (.int s1), .val (.int s2), .val (.int s3), .val (.ref b30), .val (.int mm), .val (.int cc), .val (.ref b38), .unset, .unset] [(.int (1 : Int32)), (.ref b30), (.int (1 : Int32)), (.ref b30), (.int (1 : Int32)), (.ref b38)])) rfl rfl (hb hby at_172) _ ?_
          show Steps p.tables e below (T44.setTop (mkF m 173 #[.val (.int p1), .val (.int p2), .val (.int p3), .val (.int p4), .val (.int p5), .val (.int (2 : Int32)), .val (.int s0), .val (.int s1), .val (.int s2), .val (.int s3), .val (.ref b30), .val (.int mm), .val (.int cc), .val (.ref b38), .unset, .unset] [(.int s1), (.int (1 : Int32)), (.ref b30), (.int (1 : Int32)), (.ref b38)])) _
          refine XS.iconst X44.here hx rfl (hb hby at_173) ?_
          show Steps p.tables e below (T44.setTop (mkF m 174 #[.val (.int p1), .val (.int p2), .val (.int p3), .val (.int p4), .val (.int p5), .val (.int (2 : Int32)), .val (.int s0), .val (.int s1), .val (.int s2), .val (.int s3), .val (.ref b30), .val (.int mm), .val (.int cc), .val (.ref b38), .unset, .unset] [(.int (1 : Int32)), (.int s1), (.int (1 : Int32)), (.ref b30), (.int (1 : Int32)), (.ref b38)])) _
          refine st52 _ ?_
          show Steps p.tables e below (T52.setTop (mkF m 177 #[.val (.int p1), .val (.int p2), .val (.int p3), .val (.int p4), .val (.int p5), .val (.int (2 : Int32)), .val (.int s0), .val (.int s1), .val (.int s2), .val (.int s3), .val (.ref b30), .val (.int mm), .val (.int cc), .val (.ref b38), .unset, .unset] [(.int (own_b4 (own_f s0 s1 (0 : Int32) (0 : Int32)) (1 : Int32) s1 (1 : Int32))), (.int (1 : Int32)), (.ref b38)])) _
          refine XS.goto X52.here hx rfl (pc0 := 177) (pc' := 182) rfl (hb hby at_177) (by decide) (by decide) ?_
          show Steps p.tables e below (T52.setTop (mkF m 182 #[.val (.int p1), .val (.int p2), .val (.int p3), .val (.int p4), .val (.int p5), .val (.int (2 : Int32)), .val (.int s0), .val (.int s1), .val (.int s2), .val (.int s3), .val (.ref b30), .val (.int mm), .val (.int cc), .val (.ref b38), .unset, .unset] [(.int (own_b4 (own_f s0 s1 (0 : Int32) (0 : Int32)) (1 : Int32) s1 (1 : Int32))), (.int (1 : Int32)), (.ref b38)])) _
          exact kt)
        exact kk48 ⟨T52, _, (own_b4 (own_f s0 s1 (0 : Int32) (0 : Int32)) (1 : Int32) s1 (1 : Int32)), X52, r52_0, N52, (if_pos hc50).symm, ch53⟩
      · have ch54 : Goes p e below s₁ (entryFrame m #[(.int p1), (.int p2), (.int p3), (.int p4), (.int p5)] maxLocals) T44 (mkF m 182 #[.val (.int p1), .val (.int p2), .val (.int p3), .val (.int p4), .val (.int p5), .val (.int (2 : Int32)), .val (.int s0), .val (.int s1), .val (.int s2), .val (.int s3), .val (.ref b30), .val (.int mm), .val (.int cc), .val (.ref b38), .unset, .unset] [(.int p5), (.int (1 : Int32)), (.ref b38)]) := fun t kt => ch49 t (by
          show Steps p.tables e below (T44.setTop (mkF m 163 #[.val (.int p1), .val (.int p2), .val (.int p3), .val (.int p4), .val (.int p5), .val (.int (2 : Int32)), .val (.int s0), .val (.int s1), .val (.int s2), .val (.int s3), .val (.ref b30), .val (.int mm), .val (.int cc), .val (.ref b38), .unset, .unset] [(.int mm), (.int (1 : Int32)), (.int (1 : Int32)), (.ref b38)])) _
          refine XS.icmpYes X44.here hx rfl (pc0 := 163) (pc' := 180) rfl (hb hby at_163) rfl (flt hc50).2.1 (by decide) (by decide) ?_
          show Steps p.tables e below (T44.setTop (mkF m 180 #[.val (.int p1), .val (.int p2), .val (.int p3), .val (.int p4), .val (.int p5), .val (.int (2 : Int32)), .val (.int s0), .val (.int s1), .val (.int s2), .val (.int s3), .val (.ref b30), .val (.int mm), .val (.int cc), .val (.ref b38), .unset, .unset] [(.int (1 : Int32)), (.ref b38)])) _
          refine XS.iload X44.here hx rfl (hb hby at_180) rfl ?_
          show Steps p.tables e below (T44.setTop (mkF m 182 #[.val (.int p1), .val (.int p2), .val (.int p3), .val (.int p4), .val (.int p5), .val (.int (2 : Int32)), .val (.int s0), .val (.int s1), .val (.int s2), .val (.int s3), .val (.ref b30), .val (.int mm), .val (.int cc), .val (.ref b38), .unset, .unset] [(.int p5), (.int (1 : Int32)), (.ref b38)])) _
          exact kt)
        exact kk48 ⟨T44, _, p5, X44, e44, N44, (if_neg hc50).symm, ch54⟩
    · rintro ⟨T48, lo48, v1, X48, e48, N48, i48, ch48⟩
      obtain ⟨cl55, Ar55, q55, S55, M55, H55, G55⟩ := id U44
      have hin55 : ¬ ((1 : Int32) < 0 ∨ cl55.slots.size ≤ ((1 : Int32)).toNatClampNeg) := inb_of S55 ⟨by decide, by decide⟩
      obtain ⟨T55, h55, X55, e55, W55, st55⟩ := stI X48 hx hZ e48 Ar55 (j := (1 : Int32)) hin55 (g := (mkF m 182 #[.val (.int p1), .val (.int p2), .val (.int p3), .val (.int p4), .val (.int p5), .val (.int (2 : Int32)), .val (.int s0), .val (.int s1), .val (.int s2), .val (.int s3), .val (.ref b30), .val (.int mm), .val (.int cc), .val (.ref b38), .unset, .unset] [(.int v1), (.int (1 : Int32)), (.ref b38)])) rfl rfl (hb hby at_182)
      have V55 := Arv.set Ar55 q55 S55 M55 H55 G55 rfl W55 1 rfl (Nat.le_of_ble_eq_true rfl)
      have f56 := f45.other W55 ne39
      have K55 : Keep h0 h55 [] := K44.wr W55 (Or.inr sz_b38)
      have N55 := Fr.snoc X55 N48 g_b38
      have Z55 : n0 ≤ h55.size := Nat.le_trans Z44 (Keep.of_wr W55).1
      have U55 : Arv Z h55 b38 k38 .int (2 : Int32) [(.int v0), (.int v1), (.int (0 : Int32)), (.int (0 : Int32))] (.int (0 : Int32)) := V55
      obtain ⟨_, _, ⟨T58, L58, k58, n58⟩, -, X58, ⟨Lc58, hQ58, l58, y58, z58⟩, st58⟩ := Jvm.LawKit.callS X55 hx (y := (⟨"java/lang/Math", "min", "(II)I"⟩ : MethodName)) hown (mvT hZ (hw _ (List.mem_of_getElem? (i := 2) rfl))) (mvT hZ (hw _ (List.mem_of_getElem? (i := 3) rfl))) (mvT hZ (hw _ (List.mem_of_getElem? (i := 4) rfl))) (mvT hZ (hw _ (List.mem_of_getElem? (i := 5) rfl))) (by decide) (backOf (W := 3) (rm1 l Z a0 hw [] (2 : Int32) (mm + (1 : Int32)) h55 n0 Z55) hZ (hw _ (List.mem_of_getElem? (i := 5) rfl)) (hw _ (List.mem_of_getElem? (i := 4) rfl)) (by decide) (by decide)) (g := (mkF m 259 #[.val (.int p1), .val (.int p2), .val (.int p3), .val (.int p4), .val (.int p5), .val (.int (2 : Int32)), .val (.int s0), .val (.int s1), .val (.int s2), .val (.int s3), .val (.ref b30), .val (.int mm), .val (.int cc), .val (.ref b38), .unset, .unset] [(.int (mm + (1 : Int32))), (.int (2 : Int32)), (.int cc), (.int mm), (.ref b30)])) rfl (by rw [hml]; rfl) (argsL := [(.int (2 : Int32)), (.int (mm + (1 : Int32)))]) (rest := [(.int cc), (.int mm), (.ref b30)]) (lenOf pd_0 rfl) rfl (by show 2 * 0 + _ ≤ _; exact Nat.le_of_eq rfl) (hb hby at_259) (fun _ _ => ⟨rfl, e55, (by decide : 2 + 0 ≤ _), (by decide : 4 + 0 ≤ _)⟩)
      dsimp only [Pt.U, Pt.locs, Pt.cells, Pt.slots] at X58 l58 y58 z58 st58 hQ58
      subst l58 y58 z58
      obtain ⟨rfl, N58q, r58_0⟩ := hQ58
      have N58 := Fr.app N55 N58q
      obtain ⟨_, _, ⟨T59, L59, k59, n59⟩, -, X59, ⟨Lc59, hQ59, l59, y59, z59⟩, st59⟩ := Jvm.LawKit.callS X58 hx (y := (⟨"com/example/humble_match/humblematch/PartialMatchTableAdvancePinLaw", "best", "([IIII)I"⟩ : MethodName)) hown (mvT hZ (hw _ (List.mem_of_getElem? (i := 6) rfl))) (mvT hZ (hw _ (List.mem_of_getElem? (i := 7) rfl))) (mvT hZ (hw _ (List.mem_of_getElem? (i := 8) rfl))) (mvT hZ (hw _ (List.mem_of_getElem? (i := 9) rfl))) (by decide) (backOf (W := 0) (rm2 l Z a0 hw [] b30 mm cc (own_min (2 : Int32) (mm + (1 : Int32))) k30 (2 : Int32) (own_f s0 s1 (0 : Int32) (0 : Int32)) h55 n0 Z55 f56 hB (own_mink (2 : Int32) mm hB)) hZ (hw _ (List.mem_of_getElem? (i := 9) rfl)) (hw _ (List.mem_of_getElem? (i := 8) rfl)) (by decide) (by decide)) (g := (mkF m 262 #[.val (.int p1), .val (.int p2), .val (.int p3), .val (.int p4), .val (.int p5), .val (.int (2 : Int32)), .val (.int s0), .val (.int s1), .val (.int s2), .val (.int s3), .val (.ref b30), .val (.int mm), .val (.int cc), .val (.ref b38), .unset, .unset] [(.int (own_min (2 : Int32) (mm + (1 : Int32)))), (.int cc), (.int mm), (.ref b30)])) rfl (by rw [hml]; rfl) (argsL := [(.ref b30), (.int mm), (.int cc), (.int (own_min (2 : Int32) (mm + (1 : Int32))))]) (rest := []) (lenOf pd_1 rfl) rfl (by show 2 * 0 + _ ≤ _; exact Nat.le_of_eq rfl) (hb hby at_262) (fun _ _ => ⟨rfl, r58_0, (by decide : 2 + 0 ≤ _), (by decide : 4 + 0 ≤ _)⟩)
      dsimp only [Pt.U, Pt.locs, Pt.cells, Pt.slots] at X59 l59 y59 z59 st59 hQ59
      subst l59 y59 z59
      obtain ⟨rfl, N59q, r59_0⟩ := hQ59
      have N59 := Fr.app N58 N59q
      obtain ⟨_, _, ⟨T60, L60, k60, n60⟩, -, X60, ⟨Lc60, hQ60, l60, y60, z60⟩, st60⟩ := Jvm.LawKit.callS X59 hx (y := (⟨"com/example/humble_match/humblematch/PartialMatchTable", "advance", "([I[III)I"⟩ : MethodName)) hown (mvT hZ (hw _ (List.mem_of_getElem? (i := 10) rfl))) (mvT hZ (hw _ (List.mem_of_getElem? (i := 11) rfl))) (mvT hZ (hw _ (List.mem_of_getElem? (i := 12) rfl))) (mvT hZ (hw _ (List.mem_of_getElem? (i := 13) rfl))) (by decide) (backOf (W := 0) (rm3 l Z a0 hw [] b30 b38 mm cc k30 k38 (2 : Int32) (own_f s0 s1 (0 : Int32) (0 : Int32)) (own_f v0 v1 (0 : Int32) (0 : Int32)) h55 n0 Z55 f56 U55 hB (own_hg (own_f s0 s1 (0 : Int32) (0 : Int32)) mm (2 : Int32) v0 v1 (0 : Int32) (0 : Int32) hB (fun q => hv0.trans (if_pos q)) (fun q => i48.trans (if_pos q)) (fun q => absurd q (own_no _ _ _ hB.2.1 (by decide))) (fun q => absurd q (own_no _ _ _ hB.2.1 (by decide))))) hZ (hw _ (List.mem_of_getElem? (i := 13) rfl)) (hw _ (List.mem_of_getElem? (i := 12) rfl)) (by decide) (by decide)) (g := (mkF m 275 #[.val (.int p1), .val (.int p2), .val (.int p3), .val (.int p4), .val (.int p5), .val (.int (2 : Int32)), .val (.int s0), .val (.int s1), .val (.int s2), .val (.int s3), .val (.ref b30), .val (.int mm), .val (.int cc), .val (.ref b38), .val (.int (own_b4 (own_f s0 s1 (0 : Int32) (0 : Int32)) mm cc (own_min (2 : Int32) (mm + (1 : Int32))))), .unset] [(.int cc), (.int mm), (.ref b38), (.ref b30)])) rfl (by rw [hml]; rfl) (argsL := [(.ref b30), (.ref b38), (.int mm), (.int cc)]) (rest := []) (lenOf pd_2 rfl) rfl (by show 2 * 0 + _ ≤ _; exact Nat.le_of_eq rfl) (hb hby at_275) (fun _ _ => ⟨rfl, r59_0, (by decide : 2 + 0 ≤ _), (by decide : 4 + 0 ≤ _)⟩)
      dsimp only [Pt.U, Pt.locs, Pt.cells, Pt.slots] at X60 l60 y60 z60 st60 hQ60
      subst l60 y60 z60
      obtain ⟨rfl, N60q, r60_0⟩ := hQ60
      have N60 := Fr.app N59 N60q
      obtain ⟨fs, hr, hrun, hended, hW, hsame⟩ := X60.leave (v := some (.int (1 : Int32))) (fun h => by rw [Bd.returns] at h; cases h)
      refine ⟨_, _, ch48 _ ?_, hrun, hended, _, _, rfl, ?_, ⟨_, rfl⟩, hW, hsame.mono (by decide) (by decide)⟩
      · show Steps p.tables e below (T48.setTop (mkF m 182 #[.val (.int p1), .val (.int p2), .val (.int p3), .val (.int p4), .val (.int p5), .val (.int (2 : Int32)), .val (.int s0), .val (.int s1), .val (.int s2), .val (.int s3), .val (.ref b30), .val (.int mm), .val (.int cc), .val (.ref b38), .unset, .unset] [(.int v1), (.int (1 : Int32)), (.ref b38)])) _
        refine st55 _ ?_
        show Steps p.tables e below (T55.setTop (mkF m 183 #[.val (.int p1), .val (.int p2), .val (.int p3), .val (.int p4), .val (.int p5), .val (.int (2 : Int32)), .val (.int s0), .val (.int s1), .val (.int s2), .val (.int s3), .val (.ref b30), .val (.int mm), .val (.int cc), .val (.ref b38), .unset, .unset] [])) _
        refine XS.iload X55.here hx rfl (hb hby at_183) rfl ?_
        show Steps p.tables e below (T55.setTop (mkF m 185 #[.val (.int p1), .val (.int p2), .val (.int p3), .val (.int p4), .val (.int p5), .val (.int (2 : Int32)), .val (.int s0), .val (.int s1), .val (.int s2), .val (.int s3), .val (.ref b30), .val (.int mm), .val (.int cc), .val (.ref b38), .unset, .unset] [(.int (2 : Int32))])) _
        refine XS.iconst X55.here hx rfl (hb hby at_185) ?_
        show Steps p.tables e below (T55.setTop (mkF m 186 #[.val (.int p1), .val (.int p2), .val (.int p3), .val (.int p4), .val (.int p5), .val (.int (2 : Int32)), .val (.int s0), .val (.int s1), .val (.int s2), .val (.int s3), .val (.ref b30), .val (.int mm), .val (.int cc), .val (.ref b38), .unset, .unset] [(.int (2 : Int32)), (.int (2 : Int32))])) _
        refine XS.icmpYes X55.here hx rfl (pc0 := 186) (pc' := 215) rfl (hb hby at_186) rfl (flt (by decide : ¬ ((2 : Int32) < (2 : Int32)))).2.2.2 (by decide) (by decide) ?_
        show Steps p.tables e below (T55.setTop (mkF m 215 #[.val (.int p1), .val (.int p2), .val (.int p3), .val (.int p4), .val (.int p5), .val (.int (2 : Int32)), .val (.int s0), .val (.int s1), .val (.int s2), .val (.int s3), .val (.ref b30), .val (.int mm), .val (.int cc), .val (.ref b38), .unset, .unset] [])) _
        refine XS.iload X55.here hx rfl (hb hby at_215) rfl ?_
        show Steps p.tables e below (T55.setTop (mkF m 217 #[.val (.int p1), .val (.int p2), .val (.int p3), .val (.int p4), .val (.int p5), .val (.int (2 : Int32)), .val (.int s0), .val (.int s1), .val (.int s2), .val (.int s3), .val (.ref b30), .val (.int mm), .val (.int cc), .val (.ref b38), .unset, .unset] [(.int (2 : Int32))])) _
        refine XS.iconst X55.here hx rfl (hb hby at_217) ?_
        show Steps p.tables e below (T55.setTop (mkF m 218 #[.val (.int p1), .val (.int p2), .val (.int p3), .val (.int p4), .val (.int p5), .val (.int (2 : Int32)), .val (.int s0), .val (.int s1), .val (.int s2), .val (.int s3), .val (.ref b30), .val (.int mm), .val (.int cc), .val (.ref b38), .unset, .unset] [(.int (3 : Int32)), (.int (2 : Int32))])) _
        refine XS.icmpYes X55.here hx rfl (pc0 := 218) (pc' := 247) rfl (hb hby at_218) rfl (flt (by decide : ¬ ((3 : Int32) < (2 : Int32)))).2.2.2 (by decide) (by decide) ?_
        show Steps p.tables e below (T55.setTop (mkF m 247 #[.val (.int p1), .val (.int p2), .val (.int p3), .val (.int p4), .val (.int p5), .val (.int (2 : Int32)), .val (.int s0), .val (.int s1), .val (.int s2), .val (.int s3), .val (.ref b30), .val (.int mm), .val (.int cc), .val (.ref b38), .unset, .unset] [])) _
        refine XS.aload X55.here hx rfl (hb hby at_247) rfl rfl ?_
        show Steps p.tables e below (T55.setTop (mkF m 249 #[.val (.int p1), .val (.int p2), .val (.int p3), .val (.int p4), .val (.int p5), .val (.int (2 : Int32)), .val (.int s0), .val (.int s1), .val (.int s2), .val (.int s3), .val (.ref b30), .val (.int mm), .val (.int cc), .val (.ref b38), .unset, .unset] [(.ref b30)])) _
        refine XS.iload X55.here hx rfl (hb hby at_249) rfl ?_
        show Steps p.tables e below (T55.setTop (mkF m 251 #[.val (.int p1), .val (.int p2), .val (.int p3), .val (.int p4), .val (.int p5), .val (.int (2 : Int32)), .val (.int s0), .val (.int s1), .val (.int s2), .val (.int s3), .val (.ref b30), .val (.int mm), .val (.int cc), .val (.ref b38), .unset, .unset] [(.int mm), (.ref b30)])) _
        refine XS.iload X55.here hx rfl (hb hby at_251) rfl ?_
        show Steps p.tables e below (T55.setTop (mkF m 253 #[.val (.int p1), .val (.int p2), .val (.int p3), .val (.int p4), .val (.int p5), .val (.int (2 : Int32)), .val (.int s0), .val (.int s1), .val (.int s2), .val (.int s3), .val (.ref b30), .val (.int mm), .val (.int cc), .val (.ref b38), .unset, .unset] [(.int cc), (.int mm), (.ref b30)])) _
        refine XS.iload X55.here hx rfl (hb hby at_253) rfl ?_
        show Steps p.tables e below (T55.setTop (mkF m 255 #[.val (.int p1), .val (.int p2), .val (.int p3), .val (.int p4), .val (.int p5), .val (.int (2 : Int32)), .val (.int s0), .val (.int s1), .val (.int s2), .val (.int s3), .val (.ref b30), .val (.int mm), .val (.int cc), .val (.ref b38), .unset, .unset] [(.int (2 : Int32)), (.int cc), (.int mm), (.ref b30)])) _
        refine XS.iload X55.here hx rfl (hb hby at_255) rfl ?_
        show Steps p.tables e below (T55.setTop (mkF m 257 #[.val (.int p1), .val (.int p2), .val (.int p3), .val (.int p4), .val (.int p5), .val (.int (2 : Int32)), .val (.int s0), .val (.int s1), .val (.int s2), .val (.int s3), .val (.ref b30), .val (.int mm), .val (.int cc), .val (.ref b38), .unset, .unset] [(.int mm), (.int (2 : Int32)), (.int cc), (.int mm), (.ref b30)])) _
        refine XS.iconst X55.here hx rfl (hb hby at_257) ?_
        show Steps p.tables e below (T55.setTop (mkF m 258 #[.val (.int p1), .val (.int p2), .val (.int p3), .val (.int p4), .val (.int p5), .val (.int (2 : Int32)), .val (.int s0), .val (.int s1), .val (.int s2), .val (.int s3), .val (.ref b30), .val (.int mm), .val (.int cc), .val (.ref b38), .unset, .unset] [(.int (1 : Int32)), (.int mm), (.int (2 : Int32)), (.int cc), (.int mm), (.ref b30)])) _
        refine XS.iadd X55.here hx rfl (hb hby at_258) rfl ?_
        show Steps p.tables e below (T55.setTop (mkF m 259 #[.val (.int p1), .val (.int p2), .val (.int p3), .val (.int p4), .val (.int p5), .val (.int (2 : Int32)), .val (.int s0), .val (.int s1), .val (.int s2), .val (.int s3), .val (.ref b30), .val (.int mm), .val (.int cc), .val (.ref b38), .unset, .unset] [(.int (mm + (1 : Int32))), (.int (2 : Int32)), (.int cc), (.int mm), (.ref b30)])) _
        refine st58 _ ?_
        show Steps p.tables e below (T58.setTop (mkF m 262 #[.val (.int p1), .val (.int p2), .val (.int p3), .val (.int p4), .val (.int p5), .val (.int (2 : Int32)), .val (.int s0), .val (.int s1), .val (.int s2), .val (.int s3), .val (.ref b30), .val (.int mm), .val (.int cc), .val (.ref b38), .unset, .unset] [(.int (own_min (2 : Int32) (mm + (1 : Int32)))), (.int cc), (.int mm), (.ref b30)])) _
        refine st59 _ ?_
        show Steps p.tables e below (T59.setTop (mkF m 265 #[.val (.int p1), .val (.int p2), .val (.int p3), .val (.int p4), .val (.int p5), .val (.int (2 : Int32)), .val (.int s0), .val (.int s1), .val (.int s2), .val (.int s3), .val (.ref b30), .val (.int mm), .val (.int cc), .val (.ref b38), .unset, .unset] [(.int (own_b4 (own_f s0 s1 (0 : Int32) (0 : Int32)) mm cc (own_min (2 : Int32) (mm + (1 : Int32)))))])) _
        refine XS.istore X59.here hx rfl (hb hby at_265) rfl (l' := #[.val (.int p1), .val (.int p2), .val (.int p3), .val (.int p4), .val (.int p5), .val (.int (2 : Int32)), .val (.int s0), .val (.int s1), .val (.int s2), .val (.int s3), .val (.ref b30), .val (.int mm), .val (.int cc), .val (.ref b38), .val (.int (own_b4 (own_f s0 s1 (0 : Int32) (0 : Int32)) mm cc (own_min (2 : Int32) (mm + (1 : Int32))))), .unset]) rfl ?_
        show Steps p.tables e below (T59.setTop (mkF m 267 #[.val (.int p1), .val (.int p2), .val (.int p3), .val (.int p4), .val (.int p5), .val (.int (2 : Int32)), .val (.int s0), .val (.int s1), .val (.int s2), .val (.int s3), .val (.ref b30), .val (.int mm), .val (.int cc), .val (.ref b38), .val (.int (own_b4 (own_f s0 s1 (0 : Int32) (0 : Int32)) mm cc (own_min (2 : Int32) (mm + (1 : Int32))))), .unset] [])) _
        refine XS.aload X59.here hx rfl (hb hby at_267) rfl rfl ?_
        show Steps p.tables e below (T59.setTop (mkF m 269 #[.val (.int p1), .val (.int p2), .val (.int p3), .val (.int p4), .val (.int p5), .val (.int (2 : Int32)), .val (.int s0), .val (.int s1), .val (.int s2), .val (.int s3), .val (.ref b30), .val (.int mm), .val (.int cc), .val (.ref b38), .val (.int (own_b4 (own_f s0 s1 (0 : Int32) (0 : Int32)) mm cc (own_min (2 : Int32) (mm + (1 : Int32))))), .unset] [(.ref b30)])) _
        refine XS.aload X59.here hx rfl (hb hby at_269) rfl rfl ?_
        show Steps p.tables e below (T59.setTop (mkF m 271 #[.val (.int p1), .val (.int p2), .val (.int p3), .val (.int p4), .val (.int p5), .val (.int (2 : Int32)), .val (.int s0), .val (.int s1), .val (.int s2), .val (.int s3), .val (.ref b30), .val (.int mm), .val (.int cc), .val (.ref b38), .val (.int (own_b4 (own_f s0 s1 (0 : Int32) (0 : Int32)) mm cc (own_min (2 : Int32) (mm + (1 : Int32))))), .unset] [(.ref b38), (.ref b30)])) _
        refine XS.iload X59.here hx rfl (hb hby at_271) rfl ?_
        show Steps p.tables e below (T59.setTop (mkF m 273 #[.val (.int p1), .val (.int p2), .val (.int p3), .val (.int p4), .val (.int p5), .val (.int (2 : Int32)), .val (.int s0), .val (.int s1), .val (.int s2), .val (.int s3), .val (.ref b30), .val (.int mm), .val (.int cc), .val (.ref b38), .val (.int (own_b4 (own_f s0 s1 (0 : Int32) (0 : Int32)) mm cc (own_min (2 : Int32) (mm + (1 : Int32))))), .unset] [(.int mm), (.ref b38), (.ref b30)])) _
        refine XS.iload X59.here hx rfl (hb hby at_273) rfl ?_
        show Steps p.tables e below (T59.setTop (mkF m 275 #[.val (.int p1), .val (.int p2), .val (.int p3), .val (.int p4), .val (.int p5), .val (.int (2 : Int32)), .val (.int s0), .val (.int s1), .val (.int s2), .val (.int s3), .val (.ref b30), .val (.int mm), .val (.int cc), .val (.ref b38), .val (.int (own_b4 (own_f s0 s1 (0 : Int32) (0 : Int32)) mm cc (own_min (2 : Int32) (mm + (1 : Int32))))), .unset] [(.int cc), (.int mm), (.ref b38), (.ref b30)])) _
        refine st60 _ ?_
        show Steps p.tables e below (T60.setTop (mkF m 278 #[.val (.int p1), .val (.int p2), .val (.int p3), .val (.int p4), .val (.int p5), .val (.int (2 : Int32)), .val (.int s0), .val (.int s1), .val (.int s2), .val (.int s3), .val (.ref b30), .val (.int mm), .val (.int cc), .val (.ref b38), .val (.int (own_b4 (own_f s0 s1 (0 : Int32) (0 : Int32)) mm cc (own_min (2 : Int32) (mm + (1 : Int32))))), .unset] [(.int (own_adv (own_f s0 s1 (0 : Int32) (0 : Int32)) (own_f v0 v1 (0 : Int32) (0 : Int32)) (2 : Int32) mm cc))])) _
        refine XS.istore X60.here hx rfl (hb hby at_278) rfl (l' := #[.val (.int p1), .val (.int p2), .val (.int p3), .val (.int p4), .val (.int p5), .val (.int (2 : Int32)), .val (.int s0), .val (.int s1), .val (.int s2), .val (.int s3), .val (.ref b30), .val (.int mm), .val (.int cc), .val (.ref b38), .val (.int (own_b4 (own_f s0 s1 (0 : Int32) (0 : Int32)) mm cc (own_min (2 : Int32) (mm + (1 : Int32))))), .val (.int (own_adv (own_f s0 s1 (0 : Int32) (0 : Int32)) (own_f v0 v1 (0 : Int32) (0 : Int32)) (2 : Int32) mm cc))]) rfl ?_
        show Steps p.tables e below (T60.setTop (mkF m 280 #[.val (.int p1), .val (.int p2), .val (.int p3), .val (.int p4), .val (.int p5), .val (.int (2 : Int32)), .val (.int s0), .val (.int s1), .val (.int s2), .val (.int s3), .val (.ref b30), .val (.int mm), .val (.int cc), .val (.ref b38), .val (.int (own_b4 (own_f s0 s1 (0 : Int32) (0 : Int32)) mm cc (own_min (2 : Int32) (mm + (1 : Int32))))), .val (.int (own_adv (own_f s0 s1 (0 : Int32) (0 : Int32)) (own_f v0 v1 (0 : Int32) (0 : Int32)) (2 : Int32) mm cc))] [])) _
        refine XS.iload X60.here hx rfl (hb hby at_280) rfl ?_
        show Steps p.tables e below (T60.setTop (mkF m 282 #[.val (.int p1), .val (.int p2), .val (.int p3), .val (.int p4), .val (.int p5), .val (.int (2 : Int32)), .val (.int s0), .val (.int s1), .val (.int s2), .val (.int s3), .val (.ref b30), .val (.int mm), .val (.int cc), .val (.ref b38), .val (.int (own_b4 (own_f s0 s1 (0 : Int32) (0 : Int32)) mm cc (own_min (2 : Int32) (mm + (1 : Int32))))), .val (.int (own_adv (own_f s0 s1 (0 : Int32) (0 : Int32)) (own_f v0 v1 (0 : Int32) (0 : Int32)) (2 : Int32) mm cc))] [(.int (own_adv (own_f s0 s1 (0 : Int32) (0 : Int32)) (own_f v0 v1 (0 : Int32) (0 : Int32)) (2 : Int32) mm cc))])) _
        refine XS.iload X60.here hx rfl (hb hby at_282) rfl ?_
        show Steps p.tables e below (T60.setTop (mkF m 284 #[.val (.int p1), .val (.int p2), .val (.int p3), .val (.int p4), .val (.int p5), .val (.int (2 : Int32)), .val (.int s0), .val (.int s1), .val (.int s2), .val (.int s3), .val (.ref b30), .val (.int mm), .val (.int cc), .val (.ref b38), .val (.int (own_b4 (own_f s0 s1 (0 : Int32) (0 : Int32)) mm cc (own_min (2 : Int32) (mm + (1 : Int32))))), .val (.int (own_adv (own_f s0 s1 (0 : Int32) (0 : Int32)) (own_f v0 v1 (0 : Int32) (0 : Int32)) (2 : Int32) mm cc))] [(.int (own_b4 (own_f s0 s1 (0 : Int32) (0 : Int32)) mm cc (own_min (2 : Int32) (mm + (1 : Int32))))), (.int (own_adv (own_f s0 s1 (0 : Int32) (0 : Int32)) (own_f v0 v1 (0 : Int32) (0 : Int32)) (2 : Int32) mm cc))])) _
        refine XS.icmpNo X60.here hx rfl (hb hby at_284) rfl (teq (own_main s0 s1 (0 : Int32) (0 : Int32) cc mm (2 : Int32) v0 v1 (0 : Int32) (0 : Int32) hB (by decide) (fun q => hv0.trans (if_pos q)) (fun q => i48.trans (if_pos q)) (fun q => absurd q (own_no _ _ _ hB.2.1 (by decide))) (fun q => absurd q (own_no _ _ _ hB.2.1 (by decide))) : ((own_adv (own_f s0 s1 (0 : Int32) (0 : Int32)) (own_f v0 v1 (0 : Int32) (0 : Int32)) (2 : Int32) mm cc) = (own_b4 (own_f s0 s1 (0 : Int32) (0 : Int32)) mm cc (own_min (2 : Int32) (mm + (1 : Int32))))))).2 ?_
        show Steps p.tables e below (T60.setTop (mkF m 287 #[.val (.int p1), .val (.int p2), .val (.int p3), .val (.int p4), .val (.int p5), .val (.int (2 : Int32)), .val (.int s0), .val (.int s1), .val (.int s2), .val (.int s3), .val (.ref b30), .val (.int mm), .val (.int cc), .val (.ref b38), .val (.int (own_b4 (own_f s0 s1 (0 : Int32) (0 : Int32)) mm cc (own_min (2 : Int32) (mm + (1 : Int32))))), .val (.int (own_adv (own_f s0 s1 (0 : Int32) (0 : Int32)) (own_f v0 v1 (0 : Int32) (0 : Int32)) (2 : Int32) mm cc))] [])) _
        refine XS.iconst X60.here hx rfl (hb hby at_287) ?_
        show Steps p.tables e below (T60.setTop (mkF m 288 #[.val (.int p1), .val (.int p2), .val (.int p3), .val (.int p4), .val (.int p5), .val (.int (2 : Int32)), .val (.int s0), .val (.int s1), .val (.int s2), .val (.int s3), .val (.ref b30), .val (.int mm), .val (.int cc), .val (.ref b38), .val (.int (own_b4 (own_f s0 s1 (0 : Int32) (0 : Int32)) mm cc (own_min (2 : Int32) (mm + (1 : Int32))))), .val (.int (own_adv (own_f s0 s1 (0 : Int32) (0 : Int32)) (own_f v0 v1 (0 : Int32) (0 : Int32)) (2 : Int32) mm cc))] [(.int (1 : Int32))])) _
        refine XS.goto X60.here hx rfl (pc0 := 288) (pc' := 292) rfl (hb hby at_288) (by decide) (by decide) ?_
        show Steps p.tables e below (T60.setTop (mkF m 292 #[.val (.int p1), .val (.int p2), .val (.int p3), .val (.int p4), .val (.int p5), .val (.int (2 : Int32)), .val (.int s0), .val (.int s1), .val (.int s2), .val (.int s3), .val (.ref b30), .val (.int mm), .val (.int cc), .val (.ref b38), .val (.int (own_b4 (own_f s0 s1 (0 : Int32) (0 : Int32)) mm cc (own_min (2 : Int32) (mm + (1 : Int32))))), .val (.int (own_adv (own_f s0 s1 (0 : Int32) (0 : Int32)) (own_f v0 v1 (0 : Int32) (0 : Int32)) (2 : Int32) mm cc))] [(.int (1 : Int32))])) _
        exact retN X60 hx (t := .boolean) Bd.returns (by simp) (hb hby at_292) hr
      · show Q0 Z p1 p2 p3 p4 p5 h0 n0 _ T60.heap _
        rw [r60_0]
        exact ⟨rfl, N60⟩
  · obtain ⟨T61, h61, k61, X61, e61, E61, A61, st61⟩ := newP X0 hx hZ (hw _ (List.mem_of_getElem? (i := 0) rfl)) e0 (g := (mkF m 45 #[.val (.int p1), .val (.int p2), .val (.int p3), .val (.int p4), .val (.int p5), .val (.int (3 : Int32)), .val (.int s0), .val (.int s1), .val (.int s2), .val (.int s3), .unset, .unset, .unset, .unset, .unset, .unset] [(.int (3 : Int32))])) rfl (hb hby at_45) rfl (by decide) (cap := 3) (by decide) (by decide) (by decide) (by decide)
    obtain ⟨b61, g61⟩ : ∃ z, z = h0.size := ⟨_, rfl⟩
    rw [← g61] at A61 st61
    have g_b61 : n0 ≤ b61 := Nat.le_trans Z0 (Nat.le_of_eq g61.symm)
    have sz_b61 : h0.size ≤ b61 := Nat.le_trans K0.1 (Nat.le_of_eq g61.symm)
    have K61 : Keep h0 h61 [] := K0.ext E61
    have Z61 : n0 ≤ h61.size := Nat.le_trans Z0 E61.1
    have V61 : Arv Z h61 b61 k61 .int (3 : Int32) [(.int (0 : Int32)), (.int (0 : Int32)), (.int (0 : Int32)), (.int (0 : Int32))] (.int (0 : Int32)) := (Arv.new A61 (by decide)).pad (pad_rep [] (.int (0 : Int32)) 4)
    obtain ⟨cl62, Ar62, q62, S62, M62, H62, G62⟩ := id V61
    have hin62 : ¬ ((0 : Int32) < 0 ∨ cl62.slots.size ≤ ((0 : Int32)).toNatClampNeg) := inb_of S62 ⟨by decide, by decide⟩
    obtain ⟨T62, h62, X62, e62, W62, st62⟩ := stI X61 hx hZ e61 Ar62 (j := (0 : Int32)) hin62 (g := (mkF m 59 #[.val (.int p1), .val (.int p2), .val (.int p3), .val (.int p4), .val (.int p5), .val (.int (3 : Int32)), .val (.int s0), .val (.int s1), .val (.int s2), .val (.int s3), .val (.ref b61), .unset, .unset, .unset, .unset, .unset] [(.int s0), (.int (0 : Int32)), (.ref b61)])) rfl rfl (hb hby at_59)
    have V62 := Arv.set Ar62 q62 S62 M62 H62 G62 rfl W62 0 rfl (Nat.le_of_ble_eq_true rfl)
    have K62 : Keep h0 h62 [] := K61.wr W62 (Or.inr sz_b61)
    have N62 := Fr.snoc X62 N0 g_b61
    have Z62 : n0 ≤ h62.size := Nat.le_trans Z61 (Keep.of_wr W62).1
    have U62 : Arv Z h62 b61 k61 .int (3 : Int32) [(.int s0), (.int (0 : Int32)), (.int (0 : Int32)), (.int (0 : Int32))] (.int (0 : Int32)) := V62
    obtain ⟨cl64, Ar64, q64, S64, M64, H64, G64⟩ := id U62
    have hin64 : ¬ ((1 : Int32) < 0 ∨ cl64.slots.size ≤ ((1 : Int32)).toNatClampNeg) := inb_of S64 ⟨by decide, by decide⟩
    obtain ⟨T64, h64, X64, e64, W64, st64⟩ := stI X62 hx hZ e62 Ar64 (j := (1 : Int32)) hin64 (g := (mkF m 71 #[.val (.int p1), .val (.int p2), .val (.int p3), .val (.int p4), .val (.int p5), .val (.int (3 : Int32)), .val (.int s0), .val (.int s1), .val (.int s2), .val (.int s3), .val (.ref b61), .unset, .unset, .unset, .unset, .unset] [(.int s1), (.int (1 : Int32)), (.ref b61)])) rfl rfl (hb hby at_71)
    have V64 := Arv.set Ar64 q64 S64 M64 H64 G64 rfl W64 1 rfl (Nat.le_of_ble_eq_true rfl)
    have K64 : Keep h0 h64 [] := K62.wr W64 (Or.inr sz_b61)
    have N64 := Fr.snoc X64 N62 g_b61
    have Z64 : n0 ≤ h64.size := Nat.le_trans Z62 (Keep.of_wr W64).1
    have U64 : Arv Z h64 b61 k61 .int (3 : Int32) [(.int s0), (.int s1), (.int (0 : Int32)), (.int (0 : Int32))] (.int (0 : Int32)) := V64
    obtain ⟨cl66, Ar66, q66, S66, M66, H66, G66⟩ := id U64
    have hin66 : ¬ ((2 : Int32) < 0 ∨ cl66.slots.size ≤ ((2 : Int32)).toNatClampNeg) := inb_of S66 ⟨by decide, by decide⟩
    obtain ⟨T66, h66, X66, e66, W66, st66⟩ := stI X64 hx hZ e64 Ar66 (j := (2 : Int32)) hin66 (g := (mkF m 83 #[.val (.int p1), .val (.int p2), .val (.int p3), .val (.int p4), .val (.int p5), .val (.int (3 : Int32)), .val (.int s0), .val (.int s1), .val (.int s2), .val (.int s3), .val (.ref b61), .unset, .unset, .unset, .unset, .unset] [(.int s2), (.int (2 : Int32)), (.ref b61)])) rfl rfl (hb hby at_83)
    have V66 := Arv.set Ar66 q66 S66 M66 H66 G66 rfl W66 2 rfl (Nat.le_of_ble_eq_true rfl)
    have K66 : Keep h0 h66 [] := K64.wr W66 (Or.inr sz_b61)
    have N66 := Fr.snoc X66 N64 g_b61
    have Z66 : n0 ≤ h66.size := Nat.le_trans Z64 (Keep.of_wr W66).1
    have U66 : Arv Z h66 b61 k61 .int (3 : Int32) [(.int s0), (.int s1), (.int s2), (.int (0 : Int32))] (.int (0 : Int32)) := V66
    obtain ⟨mm, hmm⟩ : ∃ z : Int32, z = ((p3 &&& (2147483647 : Int32)) % (4 : Int32)) := ⟨_, rfl⟩
    have hB : own_B mm (3 : Int32) := by rw [hmm]; exact own_mb _ _ _ (by decide) (by decide)
    have ch68 : Goes p e below s₁ (entryFrame m #[(.int p1), (.int p2), (.int p3), (.int p4), (.int p5)] maxLocals) T66 (mkF m 110 #[.val (.int p1), .val (.int p2), .val (.int p3), .val (.int p4), .val (.int p5), .val (.int (3 : Int32)), .val (.int s0), .val (.int s1), .val (.int s2), .val (.int s3), .val (.ref b61), .val (.int mm), .unset, .unset, .unset, .unset] [(.int (p4 &&& (4 : Int32)))]) := fun t kt => ch1 t (by
      show Steps p.tables e below (s₁.setTop (mkF m 43 #[.val (.int p1), .val (.int p2), .val (.int p3), .val (.int p4), .val (.int p5), .val (.int (((p2.toUInt32 >>> ((8 : Int32) &&& 31).toUInt32).toInt32) % (5 : Int32))), .val (.int s0), .val (.int s1), .val (.int s2), .val (.int s3), .unset, .unset, .unset, .unset, .unset, .unset] [])) _
      rw [hn]
      show Steps p.tables e below (s₁.setTop (mkF m 43 #[.val (.int p1), .val (.int p2), .val (.int p3), .val (.int p4), .val (.int p5), .val (.int (3 : Int32)), .val (.int s0), .val (.int s1), .val (.int s2), .val (.int s3), .unset, .unset, .unset, .unset, .unset, .unset] [])) _
      refine XS.iload X0.here hx rfl (hb hby at_43) rfl ?_
      show Steps p.tables e below (s₁.setTop (mkF m 45 #[.val (.int p1), .val (.int p2), .val (.int p3), .val (.int p4), .val (.int p5), .val (.int (3 : Int32)), .val (.int s0), .val (.int s1), .val (.int s2), .val (.int s3), .unset, .unset, .unset, .unset, .unset, .unset] [(.int (3 : Int32))])) _
      refine st61 _ ?_
      show Steps p.tables e below (T61.setTop (mkF m 47 #[.val (.int p1), .val (.int p2), .val (.int p3), .val (.int p4), .val (.int p5), .val (.int (3 : Int32)), .val (.int s0), .val (.int s1), .val (.int s2), .val (.int s3), .unset, .unset, .unset, .unset, .unset, .unset] [(.ref b61)])) _
      refine XS.astore X61.here hx rfl (hb hby at_47) rfl rfl (l' := #[.val (.int p1), .val (.int p2), .val (.int p3), .val (.int p4), .val (.int p5), .val (.int (3 : Int32)), .val (.int s0), .val (.int s1), .val (.int s2), .val (.int s3), .val (.ref b61), .unset, .unset, .unset, .unset, .unset]) rfl ?_
      show Steps p.tables e below (T61.setTop (mkF m 49 #[.val (.int p1), .val (.int p2), .val (.int p3), .val (.int p4), .val (.int p5), .val (.int (3 : Int32)), .val (.int s0), .val (.int s1), .val (.int s2), .val (.int s3), .val (.ref b61), .unset, .unset, .unset, .unset, .unset] [])) _
      refine XS.iload X61.here hx rfl (hb hby at_49) rfl ?_
      show Steps p.tables e below (T61.setTop (mkF m 51 #[.val (.int p1), .val (.int p2), .val (.int p3), .val (.int p4), .val (.int p5), .val (.int (3 : Int32)), .val (.int s0), .val (.int s1), .val (.int s2), .val (.int s3), .val (.ref b61), .unset, .unset, .unset, .unset, .unset] [(.int (3 : Int32))])) _
      refine XS.ifNo X61.here hx rfl (hb hby at_51) rfl ((if0 _ _).trans (tlt (by decide : ((0 : Int32) < (3 : Int32)))).2.2.2) ?_
      show Steps p.tables e below (T61.setTop (mkF m 54 #[.val (.int p1), .val (.int p2), .val (.int p3), .val (.int p4), .val (.int p5), .val (.int (3 : Int32)), .val (.int s0), .val (.int s1), .val (.int s2), .val (.int s3), .val (.ref b61), .unset, .unset, .unset, .unset, .unset] [])) _
      refine XS.aload X61.here hx rfl (hb hby at_54) rfl rfl ?_
      show Steps p.tables e below (T61.setTop (mkF m 56 #[.val (.int p1), .val (.int p2), .val (.int p3), .val (.int p4), .val (.int p5), .val (.int (3 : Int32)), .val (.int s0), .val (.int s1), .val (.int s2), .val (.int s3), .val (.ref b61), .unset, .unset, .unset, .unset, .unset] [(.ref b61)])) _
      refine XS.iconst X61.here hx rfl (hb hby at_56) ?_
      show Steps p.tables e below (T61.setTop (mkF m 57 #[.val (.int p1), .val (.int p2), .val (.int p3), .val (.int p4), .val (.int p5), .val (.int (3 : Int32)), .val (.int s0), .val (.int s1), .val (.int s2), .val (.int s3), .val (.ref b61), .unset, .unset, .unset, .unset, .unset] [(.int (0 : Int32)), (.ref b61)])) _
      refine XS.iload X61.here hx rfl (hb hby at_57) rfl ?_
      show Steps p.tables e below (T61.setTop (mkF m 59 #[.val (.int p1), .val (.int p2), .val (.int p3), .val (.int p4), .val (.int p5), .val (.int (3 : Int32)), .val (.int s0), .val (.int s1), .val (.int s2), .val (.int s3), .val (.ref b61), .unset, .unset, .unset, .unset, .unset] [(.int s0), (.int (0 : Int32)), (.ref b61)])) _
      refine st62 _ ?_
      show Steps p.tables e below (T62.setTop (mkF m 60 #[.val (.int p1), .val (.int p2), .val (.int p3), .val (.int p4), .val (.int p5), .val (.int (3 : Int32)), .val (.int s0), .val (.int s1), .val (.int s2), .val (.int s3), .val (.ref b61), .unset, .unset, .unset, .unset, .unset] [])) _
      refine XS.iload X62.here hx rfl (hb hby at_60) rfl ?_
      show Steps p.tables e below (T62.setTop (mkF m 62 #[.val (.int p1), .val (.int p2), .val (.int p3), .val (.int p4), .val (.int p5), .val (.int (3 : Int32)), .val (.int s0), .val (.int s1), .val (.int s2), .val (.int s3), .val (.ref b61), .unset, .unset, .unset, .unset, .unset] [(.int (3 : Int32))])) _
      refine XS.iconst X62.here hx rfl (hb hby at_62) ?_
      show Steps p.tables e below (T62.setTop (mkF m 63 #[.val (.int p1), .val (.int p2), .val (.int p3), .val (.int p4), .val (.int p5), .val (.int (3 : Int32)), .val (.int s0), .val (.int s1), .val (.int s2), .val (.int s3), .val (.ref b61), .unset, .unset, .unset, .unset, .unset] [(.int (1 : Int32)), (.int (3 : Int32))])) _
      refine XS.icmpNo X62.here hx rfl (hb hby at_63) rfl (tlt (by decide : ((1 : Int32) < (3 : Int32)))).2.2.2 ?_
      show Steps p.tables e below (T62.setTop (mkF m 66 #[.val (.int p1), .val (.int p2), .val (.int p3), .val (.int p4), .val (.int p5), .val (.int (3 : Int32)), .val (.int s0), .val (.int s1), .val (.int s2), .val (.int s3), .val (.ref b61), .unset, .unset, .unset, .unset, .unset] [])) _
      refine XS.aload X62.here hx rfl (hb hby at_66) rfl rfl ?_
      show Steps p.tables e below (T62.setTop (mkF m 68 #[.val (.int p1), .val (.int p2), .val (.int p3), .val (.int p4), .val (.int p5), .val (.int (3 : Int32)), .val (.int s0), .val (.int s1), .val (.int s2), .val (.int s3), .val (.ref b61), .unset, .unset, .unset, .unset, .unset] [(.ref b61)])) _
      refine XS.iconst X62.here hx rfl (hb hby at_68) ?_
      show Steps p.tables e below (T62.setTop (mkF m 69 #[.val (.int p1), .val (.int p2), .val (.int p3), .val (.int p4), .val (.int p5), .val (.int (3 : Int32)), .val (.int s0), .val (.int s1), .val (.int s2), .val (.int s3), .val (.ref b61), .unset, .unset, .unset, .unset, .unset] [(.int (1 : Int32)), (.ref b61)])) _
      refine XS.iload X62.here hx rfl (hb hby at_69) rfl ?_
      show Steps p.tables e below (T62.setTop (mkF m 71 #[.val (.int p1), .val (.int p2), .val (.int p3), .val (.int p4), .val (.int p5), .val (.int (3 : Int32)), .val (.int s0), .val (.int s1), .val (.int s2), .val (.int s3), .val (.ref b61), .unset, .unset, .unset, .unset, .unset] [(.int s1), (.int (1 : Int32)), (.ref b61)])) _
      refine st64 _ ?_
      show Steps p.tables e below (T64.setTop (mkF m 72 #[.val (.int p1), .val (.int p2), .val (.int p3), .val (.int p4), .val (.int p5), .val (.int (3 : Int32)), .val (.int s0), .val (.int s1), .val (.int s2), .val (.int s3), .val (.ref b61), .unset, .unset, .unset, .unset, .unset] [])) _
      refine XS.iload X64.here hx rfl (hb hby at_72) rfl ?_
      show Steps p.tables e below (T64.setTop (mkF m 74 #[.val (.int p1), .val (.int p2), .val (.int p3), .val (.int p4), .val (.int p5), .val (.int (3 : Int32)), .val (.int s0), .val (.int s1), .val (.int s2), .val (.int s3), .val (.ref b61), .unset, .unset, .unset, .unset, .unset] [(.int (3 : Int32))])) _
      refine XS.iconst X64.here hx rfl (hb hby at_74) ?_
      show Steps p.tables e below (T64.setTop (mkF m 75 #[.val (.int p1), .val (.int p2), .val (.int p3), .val (.int p4), .val (.int p5), .val (.int (3 : Int32)), .val (.int s0), .val (.int s1), .val (.int s2), .val (.int s3), .val (.ref b61), .unset, .unset, .unset, .unset, .unset] [(.int (2 : Int32)), (.int (3 : Int32))])) _
      refine XS.icmpNo X64.here hx rfl (hb hby at_75) rfl (tlt (by decide : ((2 : Int32) < (3 : Int32)))).2.2.2 ?_
      show Steps p.tables e below (T64.setTop (mkF m 78 #[.val (.int p1), .val (.int p2), .val (.int p3), .val (.int p4), .val (.int p5), .val (.int (3 : Int32)), .val (.int s0), .val (.int s1), .val (.int s2), .val (.int s3), .val (.ref b61), .unset, .unset, .unset, .unset, .unset] [])) _
      refine XS.aload X64.here hx rfl (hb hby at_78) rfl rfl ?_
      show Steps p.tables e below (T64.setTop (mkF m 80 #[.val (.int p1), .val (.int p2), .val (.int p3), .val (.int p4), .val (.int p5), .val (.int (3 : Int32)), .val (.int s0), .val (.int s1), .val (.int s2), .val (.int s3), .val (.ref b61), .unset, .unset, .unset, .unset, .unset] [(.ref b61)])) _
      refine XS.iconst X64.here hx rfl (hb hby at_80) ?_
      show Steps p.tables e below (T64.setTop (mkF m 81 #[.val (.int p1), .val (.int p2), .val (.int p3), .val (.int p4), .val (.int p5), .val (.int (3 : Int32)), .val (.int s0), .val (.int s1), .val (.int s2), .val (.int s3), .val (.ref b61), .unset, .unset, .unset, .unset, .unset] [(.int (2 : Int32)), (.ref b61)])) _
      refine XS.iload X64.here hx rfl (hb hby at_81) rfl ?_
      show Steps p.tables e below (T64.setTop (mkF m 83 #[.val (.int p1), .val (.int p2), .val (.int p3), .val (.int p4), .val (.int p5), .val (.int (3 : Int32)), .val (.int s0), .val (.int s1), .val (.int s2), .val (.int s3), .val (.ref b61), .unset, .unset, .unset, .unset, .unset] [(.int s2), (.int (2 : Int32)), (.ref b61)])) _
      refine st66 _ ?_
      show Steps p.tables e below (T66.setTop (mkF m 84 #[.val (.int p1), .val (.int p2), .val (.int p3), .val (.int p4), .val (.int p5), .val (.int (3 : Int32)), .val (.int s0), .val (.int s1), .val (.int s2), .val (.int s3), .val (.ref b61), .unset, .unset, .unset, .unset, .unset] [])) _
      refine XS.iload X66.here hx rfl (hb hby at_84) rfl ?_
      show Steps p.tables e below (T66.setTop (mkF m 86 #[.val (.int p1), .val (.int p2), .val (.int p3), .val (.int p4), .val (.int p5), .val (.int (3 : Int32)), .val (.int s0), .val (.int s1), .val (.int s2), .val (.int s3), .val (.ref b61), .unset, .unset, .unset, .unset, .unset] [(.int (3 : Int32))])) _
      refine XS.iconst X66.here hx rfl (hb hby at_86) ?_
      show Steps p.tables e below (T66.setTop (mkF m 87 #[.val (.int p1), .val (.int p2), .val (.int p3), .val (.int p4), .val (.int p5), .val (.int (3 : Int32)), .val (.int s0), .val (.int s1), .val (.int s2), .val (.int s3), .val (.ref b61), .unset, .unset, .unset, .unset, .unset] [(.int (3 : Int32)), (.int (3 : Int32))])) _
      refine XS.icmpYes X66.here hx rfl (pc0 := 87) (pc' := 96) rfl (hb hby at_87) rfl (flt (by decide : ¬ ((3 : Int32) < (3 : Int32)))).2.2.2 (by decide) (by decide) ?_
      show Steps p.tables e below (T66.setTop (mkF m 96 #[.val (.int p1), .val (.int p2), .val (.int p3), .val (.int p4), .val (.int p5), .val (.int (3 : Int32)), .val (.int s0), .val (.int s1), .val (.int s2), .val (.int s3), .val (.ref b61), .unset, .unset, .unset, .unset, .unset] [])) _
      refine XS.iloadN X66.here hx rfl (hb hby at_96) rfl ?_
      show Steps p.tables e below (T66.setTop (mkF m 97 #[.val (.int p1), .val (.int p2), .val (.int p3), .val (.int p4), .val (.int p5), .val (.int (3 : Int32)), .val (.int s0), .val (.int s1), .val (.int s2), .val (.int s3), .val (.ref b61), .unset, .unset, .unset, .unset, .unset] [(.int p3)])) _
      refine X66.ldcInt hx hown (mvT hZ (hw _ (List.mem_of_getElem? (i := 1) rfl))) (g := (mkF m 97 #[.val (.int p1), .val (.int p2), .val (.int p3), .val (.int p4), .val (.int p5), .val (.int (3 : Int32)), .val (.int s0), .val (.int s1), .val (.int s2), .val (.int s3), .val (.ref b61), .unset, .unset, .unset, .unset, .unset] [(.int p3)])) rfl (hb hby at_97) _ ?_
      show Steps p.tables e below (T66.setTop (mkF m 99 #[.val (.int p1), .val (.int p2), .val (.int p3), .val (.int p4), .val (.int p5), .val (.int (3 : Int32)), .val (.int s0), .val (.int s1), .val (.int s2), .val (.int s3), .val (.ref b61), .unset, .unset, .unset, .unset, .unset] [(.int (2147483647 : Int32)), (.int p3)])) _
      refine XS.iand X66.here hx rfl (hb hby at_99) rfl ?_
      show Steps p.tables e below (T66.setTop (mkF m 100 #[.val (.int p1), .val (.int p2), .val (.int p3), .val (.int p4), .val (.int p5), .val (.int (3 : Int32)), .val (.int s0), .val (.int s1), .val (.int s2), .val (.int s3), .val (.ref b61), .unset, .unset, .unset, .unset, .unset] [(.int (p3 &&& (2147483647 : Int32)))])) _
      refine XS.iload X66.here hx rfl (hb hby at_100) rfl ?_
      show Steps p.tables e below (T66.setTop (mkF m 102 #[.val (.int p1), .val (.int p2), .val (.int p3), .val (.int p4), .val (.int p5), .val (.int (3 : Int32)), .val (.int s0), .val (.int s1), .val (.int s2), .val (.int s3), .val (.ref b61), .unset, .unset, .unset, .unset, .unset] [(.int (3 : Int32)), (.int (p3 &&& (2147483647 : Int32)))])) _
      refine XS.iconst X66.here hx rfl (hb hby at_102) ?_
      show Steps p.tables e below (T66.setTop (mkF m 103 #[.val (.int p1), .val (.int p2), .val (.int p3), .val (.int p4), .val (.int p5), .val (.int (3 : Int32)), .val (.int s0), .val (.int s1), .val (.int s2), .val (.int s3), .val (.ref b61), .unset, .unset, .unset, .unset, .unset] [(.int (1 : Int32)), (.int (3 : Int32)), (.int (p3 &&& (2147483647 : Int32)))])) _
      refine XS.iadd X66.here hx rfl (hb hby at_103) rfl ?_
      show Steps p.tables e below (T66.setTop (mkF m 104 #[.val (.int p1), .val (.int p2), .val (.int p3), .val (.int p4), .val (.int p5), .val (.int (3 : Int32)), .val (.int s0), .val (.int s1), .val (.int s2), .val (.int s3), .val (.ref b61), .unset, .unset, .unset, .unset, .unset] [(.int (4 : Int32)), (.int (p3 &&& (2147483647 : Int32)))])) _
      refine iremM X66 hx rfl (hb hby at_104) rfl (by decide) ?_
      show Steps p.tables e below (T66.setTop (mkF m 105 #[.val (.int p1), .val (.int p2), .val (.int p3), .val (.int p4), .val (.int p5), .val (.int (3 : Int32)), .val (.int s0), .val (.int s1), .val (.int s2), .val (.int s3), .val (.ref b61), .unset, .unset, .unset, .unset, .unset] [(.int ((p3 &&& (2147483647 : Int32)) % (4 : Int32)))])) _
      refine XS.istore X66.here hx rfl (hb hby at_105) rfl (l' := #[.val (.int p1), .val (.int p2), .val (.int p3), .val (.int p4), .val (.int p5), .val (.int (3 : Int32)), .val (.int s0), .val (.int s1), .val (.int s2), .val (.int s3), .val (.ref b61), .val (.int ((p3 &&& (2147483647 : Int32)) % (4 : Int32))), .unset, .unset, .unset, .unset]) rfl ?_
      show Steps p.tables e below (T66.setTop (mkF m 107 #[.val (.int p1), .val (.int p2), .val (.int p3), .val (.int p4), .val (.int p5), .val (.int (3 : Int32)), .val (.int s0), .val (.int s1), .val (.int s2), .val (.int s3), .val (.ref b61), .val (.int ((p3 &&& (2147483647 : Int32)) % (4 : Int32))), .unset, .unset, .unset, .unset] [])) _
      rw [← hmm]
      show Steps p.tables e below (T66.setTop (mkF m 107 #[.val (.int p1), .val (.int p2), .val (.int p3), .val (.int p4), .val (.int p5), .val (.int (3 : Int32)), .val (.int s0), .val (.int s1), .val (.int s2), .val (.int s3), .val (.ref b61), .val (.int mm), .unset, .unset, .unset, .unset] [])) _
      refine XS.iloadN X66.here hx rfl (hb hby at_107) rfl ?_
      show Steps p.tables e below (T66.setTop (mkF m 108 #[.val (.int p1), .val (.int p2), .val (.int p3), .val (.int p4), .val (.int p5), .val (.int (3 : Int32)), .val (.int s0), .val (.int s1), .val (.int s2), .val (.int s3), .val (.ref b61), .val (.int mm), .unset, .unset, .unset, .unset] [(.int p4)])) _
      refine XS.iconst X66.here hx rfl (hb hby at_108) ?_
      show Steps p.tables e below (T66.setTop (mkF m 109 #[.val (.int p1), .val (.int p2), .val (.int p3), .val (.int p4), .val (.int p5), .val (.int (3 : Int32)), .val (.int s0), .val (.int s1), .val (.int s2), .val (.int s3), .val (.ref b61), .val (.int mm), .unset, .unset, .unset, .unset] [(.int (4 : Int32)), (.int p4)])) _
      refine XS.iand X66.here hx rfl (hb hby at_109) rfl ?_
      show Steps p.tables e below (T66.setTop (mkF m 110 #[.val (.int p1), .val (.int p2), .val (.int p3), .val (.int p4), .val (.int p5), .val (.int (3 : Int32)), .val (.int s0), .val (.int s1), .val (.int s2), .val (.int s3), .val (.ref b61), .val (.int mm), .unset, .unset, .unset, .unset] [(.int (p4 &&& (4 : Int32)))])) _
      exact kt)
    have ch70 : Goes p e below s₁ (entryFrame m #[(.int p1), (.int p2), (.int p3), (.int p4), (.int p5)] maxLocals) T66 (mkF m 122 #[.val (.int p1), .val (.int p2), .val (.int p3), .val (.int p4), .val (.int p5), .val (.int (3 : Int32)), .val (.int s0), .val (.int s1), .val (.int s2), .val (.int s3), .val (.ref b61), .val (.int mm), .unset, .unset, .unset, .unset] [(.int (if (p4 &&& (4 : Int32)) = (0 : Int32) then (p1 + (p4 &&& (3 : Int32))) else p4))]) := fun t kt => ch68 t (by
      by_cases hc69 : (p4 &&& (4 : Int32)) = (0 : Int32)
      · show Steps p.tables e below (T66.setTop (mkF m 110 #[.val (.int p1), .val (.int p2), .val (.int p3), .val (.int p4), .val (.int p5), .val (.int (3 : Int32)), .val (.int s0), .val (.int s1), .val (.int s2), .val (.int s3), .val (.ref b61), .val (.int mm), .unset, .unset, .unset, .unset] [(.int (p4 &&& (4 : Int32)))])) _
        refine XS.ifYes X66.here hx rfl (pc0 := 110) (pc' := 117) rfl (hb hby at_110) rfl ((if0 _ _).trans (teq hc69).1) (by decide) (by decide) ?_
        show Steps p.tables e below (T66.setTop (mkF m 117 #[.val (.int p1), .val (.int p2), .val (.int p3), .val (.int p4), .val (.int p5), .val (.int (3 : Int32)), .val (.int s0), .val (.int s1), .val (.int s2), .val (.int s3), .val (.ref b61), .val (.int mm), .unset, .unset, .unset, .unset] [])) _
        refine XS.iloadN X66.here hx rfl (hb hby at_117) rfl ?_
        show Steps p.tables e below (T66.setTop (mkF m 118 #[.val (.int p1), .val (.int p2), .val (.int p3), .val (.int p4), .val (.int p5), .val (.int (3 : Int32)), .val (.int s0), .val (.int s1), .val (.int s2), .val (.int s3), .val (.ref b61), .val (.int mm), .unset, .unset, .unset, .unset] [(.int p1)])) _
        refine XS.iloadN X66.here hx rfl (hb hby at_118) rfl ?_
        show Steps p.tables e below (T66.setTop (mkF m 119 #[.val (.int p1), .val (.int p2), .val (.int p3), .val (.int p4), .val (.int p5), .val (.int (3 : Int32)), .val (.int s0), .val (.int s1), .val (.int s2), .val (.int s3), .val (.ref b61), .val (.int mm), .unset, .unset, .unset, .unset] [(.int p4), (.int p1)])) _
        refine XS.iconst X66.here hx rfl (hb hby at_119) ?_
        show Steps p.tables e below (T66.setTop (mkF m 120 #[.val (.int p1), .val (.int p2), .val (.int p3), .val (.int p4), .val (.int p5), .val (.int (3 : Int32)), .val (.int s0), .val (.int s1), .val (.int s2), .val (.int s3), .val (.ref b61), .val (.int mm), .unset, .unset, .unset, .unset] [(.int (3 : Int32)), (.int p4), (.int p1)])) _
        refine XS.iand X66.here hx rfl (hb hby at_120) rfl ?_
        show Steps p.tables e below (T66.setTop (mkF m 121 #[.val (.int p1), .val (.int p2), .val (.int p3), .val (.int p4), .val (.int p5), .val (.int (3 : Int32)), .val (.int s0), .val (.int s1), .val (.int s2), .val (.int s3), .val (.ref b61), .val (.int mm), .unset, .unset, .unset, .unset] [(.int (p4 &&& (3 : Int32))), (.int p1)])) _
        refine XS.iadd X66.here hx rfl (hb hby at_121) rfl ?_
        show Steps p.tables e below (T66.setTop (mkF m 122 #[.val (.int p1), .val (.int p2), .val (.int p3), .val (.int p4), .val (.int p5), .val (.int (3 : Int32)), .val (.int s0), .val (.int s1), .val (.int s2), .val (.int s3), .val (.ref b61), .val (.int mm), .unset, .unset, .unset, .unset] [(.int (p1 + (p4 &&& (3 : Int32))))])) _
        simpa only [if_pos hc69] using kt
      · show Steps p.tables e below (T66.setTop (mkF m 110 #[.val (.int p1), .val (.int p2), .val (.int p3), .val (.int p4), .val (.int p5), .val (.int (3 : Int32)), .val (.int s0), .val (.int s1), .val (.int s2), .val (.int s3), .val (.ref b61), .val (.int mm), .unset, .unset, .unset, .unset] [(.int (p4 &&& (4 : Int32)))])) _
        refine XS.ifNo X66.here hx rfl (hb hby at_110) rfl ((if0 _ _).trans (feq hc69).1) ?_
        show Steps p.tables e below (T66.setTop (mkF m 113 #[.val (.int p1), .val (.int p2), .val (.int p3), .val (.int p4), .val (.int p5), .val (.int (3 : Int32)), .val (.int s0), .val (.int s1), .val (.int s2), .val (.int s3), .val (.ref b61), .val (.int mm), .unset, .unset, .unset, .unset] [])) _
        refine XS.iloadN X66.here hx rfl (hb hby at_113) rfl ?_
        show Steps p.tables e below (T66.setTop (mkF m 114 #[.val (.int p1), .val (.int p2), .val (.int p3), .val (.int p4), .val (.int p5), .val (.int (3 : Int32)), .val (.int s0), .val (.int s1), .val (.int s2), .val (.int s3), .val (.ref b61), .val (.int mm), .unset, .unset, .unset, .unset] [(.int p4)])) _
        refine XS.goto X66.here hx rfl (pc0 := 114) (pc' := 122) rfl (hb hby at_114) (by decide) (by decide) ?_
        show Steps p.tables e below (T66.setTop (mkF m 122 #[.val (.int p1), .val (.int p2), .val (.int p3), .val (.int p4), .val (.int p5), .val (.int (3 : Int32)), .val (.int s0), .val (.int s1), .val (.int s2), .val (.int s3), .val (.ref b61), .val (.int mm), .unset, .unset, .unset, .unset] [(.int p4)])) _
        simpa only [if_neg hc69] using kt)
    obtain ⟨cc, hcc⟩ : ∃ z : Int32, z = (if (p4 &&& (4 : Int32)) = (0 : Int32) then (p1 + (p4 &&& (3 : Int32))) else p4) := ⟨_, rfl⟩
    obtain ⟨T71, h71, k71, X71, e71, E71, A71, st71⟩ := newP X66 hx hZ (hw _ (List.mem_of_getElem? (i := 0) rfl)) e66 (g := (mkF m 126 #[.val (.int p1), .val (.int p2), .val (.int p3), .val (.int p4), .val (.int p5), .val (.int (3 : Int32)), .val (.int s0), .val (.int s1), .val (.int s2), .val (.int s3), .val (.ref b61), .val (.int mm), .val (.int cc), .unset, .unset, .unset] [(.int (3 : Int32))])) rfl (hb hby at_126) rfl (by decide) (cap := 3) (by decide) (by decide) (by decide) (by decide)
    obtain ⟨b71, g71⟩ : ∃ z, z = h66.size := ⟨_, rfl⟩
    rw [← g71] at A71 st71
    have g_b71 : n0 ≤ b71 := Nat.le_trans Z66 (Nat.le_of_eq g71.symm)
    have sz_b71 : h0.size ≤ b71 := Nat.le_trans K66.1 (Nat.le_of_eq g71.symm)
    have ne72 : b61 ≠ b71 := Nat.ne_of_lt (Nat.lt_of_lt_of_le U66.lt (Nat.le_of_eq g71.symm))
    have f73 := U66.ext E71
    have K71 : Keep h0 h71 [] := K66.ext E71
    have Z71 : n0 ≤ h71.size := Nat.le_trans Z66 E71.1
    have V71 : Arv Z h71 b71 k71 .int (3 : Int32) [(.int (0 : Int32)), (.int (0 : Int32)), (.int (0 : Int32)), (.int (0 : Int32))] (.int (0 : Int32)) := (Arv.new A71 (by decide)).pad (pad_rep [] (.int (0 : Int32)) 4)
    have ch74 : Goes p e below s₁ (entryFrame m #[(.int p1), (.int p2), (.int p3), (.int p4), (.int p5)] maxLocals) T71 (mkF m 141 #[.val (.int p1), .val (.int p2), .val (.int p3), .val (.int p4), .val (.int p5), .val (.int (3 : Int32)), .val (.int s0), .val (.int s1), .val (.int s2), .val (.int s3), .val (.ref b61), .val (.int mm), .val (.int cc), .val (.ref b71), .unset, .unset] [(.int mm), (.int (0 : Int32)), (.int (0 : Int32)), (.ref b71)]) := fun t kt => ch70 t (by
      show Steps p.tables e below (T66.setTop (mkF m 122 #[.val (.int p1), .val (.int p2), .val (.int p3), .val (.int p4), .val (.int p5), .val (.int (3 : Int32)), .val (.int s0), .val (.int s1), .val (.int s2), .val (.int s3), .val (.ref b61), .val (.int mm), .unset, .unset, .unset, .unset] [(.int (if (p4 &&& (4 : Int32)) = (0 : Int32) then (p1 + (p4 &&& (3 : Int32))) else p4))])) _
      refine XS.istore X66.here hx rfl (hb hby at_122) rfl (l' := #[.val (.int p1), .val (.int p2), .val (.int p3), .val (.int p4), .val (.int p5), .val (.int (3 : Int32)), .val (.int s0), .val (.int s1), .val (.int s2), .val (.int s3), .val (.ref b61), .val (.int mm), .val (.int (if (p4 &&& (4 : Int32)) = (0 : Int32) then (p1 + (p4 &&& (3 : Int32))) else p4)), .unset, .unset, .unset]) rfl ?_
      show Steps p.tables e below (T66.setTop (mkF m 124 #[.val (.int p1), .val (.int p2), .val (.int p3), .val (.int p4), .val (.int p5), .val (.int (3 : Int32)), .val (.int s0), .val (.int s1), .val (.int s2), .val (.int s3), .val (.ref b61), .val (.int mm), .val (.int (if (p4 &&& (4 : Int32)) = (0 : Int32) then (p1 + (p4 &&& (3 : Int32))) else p4)), .unset, .unset, .unset] [])) _
      rw [← hcc]
      show Steps p.tables e below (T66.setTop (mkF m 124 #[.val (.int p1), .val (.int p2), .val (.int p3), .val (.int p4), .val (.int p5), .val (.int (3 : Int32)), .val (.int s0), .val (.int s1), .val (.int s2), .val (.int s3), .val (.ref b61), .val (.int mm), .val (.int cc), .unset, .unset, .unset] [])) _
      refine XS.iload X66.here hx rfl (hb hby at_124) rfl ?_
      show Steps p.tables e below (T66.setTop (mkF m 126 #[.val (.int p1), .val (.int p2), .val (.int p3), .val (.int p4), .val (.int p5), .val (.int (3 : Int32)), .val (.int s0), .val (.int s1), .val (.int s2), .val (.int s3), .val (.ref b61), .val (.int mm), .val (.int cc), .unset, .unset, .unset] [(.int (3 : Int32))])) _
      refine st71 _ ?_
      show Steps p.tables e below (T71.setTop (mkF m 128 #[.val (.int p1), .val (.int p2), .val (.int p3), .val (.int p4), .val (.int p5), .val (.int (3 : Int32)), .val (.int s0), .val (.int s1), .val (.int s2), .val (.int s3), .val (.ref b61), .val (.int mm), .val (.int cc), .unset, .unset, .unset] [(.ref b71)])) _
      refine XS.astore X71.here hx rfl (hb hby at_128) rfl rfl (l' := #[.val (.int p1), .val (.int p2), .val (.int p3), .val (.int p4), .val (.int p5), .val (.int (3 : Int32)), .val (.int s0), .val (.int s1), .val (.int s2), .val (.int s3), .val (.ref b61), .val (.int mm), .val (.int cc), .val (.ref b71), .unset, .unset]) rfl ?_
      show Steps p.tables e below (T71.setTop (mkF m 130 #[.val (.int p1), .val (.int p2), .val (.int p3), .val (.int p4), .val (.int p5), .val (.int (3 : Int32)), .val (.int s0), .val (.int s1), .val (.int s2), .val (.int s3), .val (.ref b61), .val (.int mm), .val (.int cc), .val (.ref b71), .unset, .unset] [])) _
      refine XS.iload X71.here hx rfl (hb hby at_130) rfl ?_
      show Steps p.tables e below (T71.setTop (mkF m 132 #[.val (.int p1), .val (.int p2), .val (.int p3), .val (.int p4), .val (.int p5), .val (.int (3 : Int32)), .val (.int s0), .val (.int s1), .val (.int s2), .val (.int s3), .val (.ref b61), .val (.int mm), .val (.int cc), .val (.ref b71), .unset, .unset] [(.int (3 : Int32))])) _
      refine XS.ifNo X71.here hx rfl (hb hby at_132) rfl ((if0 _ _).trans (tlt (by decide : ((0 : Int32) < (3 : Int32)))).2.2.2) ?_
      show Steps p.tables e below (T71.setTop (mkF m 135 #[.val (.int p1), .val (.int p2), .val (.int p3), .val (.int p4), .val (.int p5), .val (.int (3 : Int32)), .val (.int s0), .val (.int s1), .val (.int s2), .val (.int s3), .val (.ref b61), .val (.int mm), .val (.int cc), .val (.ref b71), .unset, .unset] [])) _
      refine XS.aload X71.here hx rfl (hb hby at_135) rfl rfl ?_
      show Steps p.tables e below (T71.setTop (mkF m 137 #[.val (.int p1), .val (.int p2), .val (.int p3), .val (.int p4), .val (.int p5), .val (.int (3 : Int32)), .val (.int s0), .val (.int s1), .val (.int s2), .val (.int s3), .val (.ref b61), .val (.int mm), .val (.int cc), .val (.ref b71), .unset, .unset] [(.ref b71)])) _
      refine XS.iconst X71.here hx rfl (hb hby at_137) ?_
      show Steps p.tables e below (T71.setTop (mkF m 138 #[.val (.int p1), .val (.int p2), .val (.int p3), .val (.int p4), .val (.int p5), .val (.int (3 : Int32)), .val (.int s0), .val (.int s1), .val (.int s2), .val (.int s3), .val (.ref b61), .val (.int mm), .val (.int cc), .val (.ref b71), .unset, .unset] [(.int (0 : Int32)), (.ref b71)])) _
      refine XS.iconst X71.here hx rfl (hb hby at_138) ?_
      show Steps p.tables e below (T71.setTop (mkF m 139 #[.val (.int p1), .val (.int p2), .val (.int p3), .val (.int p4), .val (.int p5), .val (.int (3 : Int32)), .val (.int s0), .val (.int s1), .val (.int s2), .val (.int s3), .val (.ref b61), .val (.int mm), .val (.int cc), .val (.ref b71), .unset, .unset] [(.int (0 : Int32)), (.int (0 : Int32)), (.ref b71)])) _
      refine XS.iload X71.here hx rfl (hb hby at_139) rfl ?_
      show Steps p.tables e below (T71.setTop (mkF m 141 #[.val (.int p1), .val (.int p2), .val (.int p3), .val (.int p4), .val (.int p5), .val (.int (3 : Int32)), .val (.int s0), .val (.int s1), .val (.int s2), .val (.int s3), .val (.ref b61), .val (.int mm), .val (.int cc), .val (.ref b71), .unset, .unset] [(.int mm), (.int (0 : Int32)), (.int (0 : Int32)), (.ref b71)])) _
      exact kt)
    have ch76 : Goes p e below s₁ (entryFrame m #[(.int p1), (.int p2), (.int p3), (.int p4), (.int p5)] maxLocals) T71 (mkF m 150 #[.val (.int p1), .val (.int p2), .val (.int p3), .val (.int p4), .val (.int p5), .val (.int (3 : Int32)), .val (.int s0), .val (.int s1), .val (.int s2), .val (.int s3), .val (.ref b61), .val (.int mm), .val (.int cc), .val (.ref b71), .unset, .unset] [(.int (if (0 : Int32) < mm then (0 : Int32) else p5)), (.int (0 : Int32)), (.ref b71)]) := fun t kt => ch74 t (by
      by_cases hc75 : (0 : Int32) < mm
      · show Steps p.tables e below (T71.setTop (mkF m 141 #[.val (.int p1), .val (.int p2), .val (.int p3), .val (.int p4), .val (.int p5), .val (.int (3 : Int32)), .val (.int s0), .val (.int s1), .val (.int s2), .val (.int s3), .val (.ref b61), .val (.int mm), .val (.int cc), .val (.ref b71), .unset, .unset] [(.int mm), (.int (0 : Int32)), (.int (0 : Int32)), (.ref b71)])) _
        refine XS.icmpNo X71.here hx rfl (hb hby at_141) rfl (tlt hc75).2.1 ?_
        show Steps p.tables e below (T71.setTop (mkF m 144 #[.val (.int p1), .val (.int p2), .val (.int p3), .val (.int p4), .val (.int p5), .val (.int (3 : Int32)), .val (.int s0), .val (.int s1), .val (.int s2), .val (.int s3), .val (.ref b61), .val (.int mm), .val (.int cc), .val (.ref b71), .unset, .unset] [(.int (0 : Int32)), (.ref b71)])) _
        refine XS.iconst X71.here hx rfl (hb hby at_144) ?_
        show Steps p.tables e below (T71.setTop (mkF m 145 #[.val (.int p1), .val (.int p2), .val (.int p3), .val (.int p4), .val (.int p5), .val (.int (3 : Int32)), .val (.int s0), .val (.int s1), .val (.int s2), .val (.int s3), .val (.ref b61), .val (.int mm), .val (.int cc), .val (.ref b71), .unset, .unset] [(.int (0 : Int32)), (.int (0 : Int32)), (.ref b71)])) _
        refine XS.goto X71.here hx rfl (pc0 := 145) (pc' := 150) rfl (hb hby at_145) (by decide) (by decide) ?_
        show Steps p.tables e below (T71.setTop (mkF m 150 #[.val (.int p1), .val (.int p2), .val (.int p3), .val (.int p4), .val (.int p5), .val (.int (3 : Int32)), .val (.int s0), .val (.int s1), .val (.int s2), .val (.int s3), .val (.ref b61), .val (.int mm), .val (.int cc), .val (.ref b71), .unset, .unset] [(.int (0 : Int32)), (.int (0 : Int32)), (.ref b71)])) _
        simpa only [if_pos hc75] using kt
      · show Steps p.tables e below (T71.setTop (mkF m 141 #[.val (.int p1), .val (.int p2), .val (.int p3), .val (.int p4), .val (.int p5), .val (.int (3 : Int32)), .val (.int s0), .val (.int s1), .val (.int s2), .val (.int s3), .val (.ref b61), .val (.int mm), .val (.int cc), .val (.ref b71), .unset, .unset] [(.int mm), (.int (0 : Int32)), (.int (0 : Int32)), (.ref b71)])) _
        refine XS.icmpYes X71.here hx rfl (pc0 := 141) (pc' := 148) rfl (hb hby at_141) rfl (flt hc75).2.1 (by decide) (by decide) ?_
        show Steps p.tables e below (T71.setTop (mkF m 148 #[.val (.int p1), .val (.int p2), .val (.int p3), .val (.int p4), .val (.int p5), .val (.int (3 : Int32)), .val (.int s0), .val (.int s1), .val (.int s2), .val (.int s3), .val (.ref b61), .val (.int mm), .val (.int cc), .val (.ref b71), .unset, .unset] [(.int (0 : Int32)), (.ref b71)])) _
        refine XS.iload X71.here hx rfl (hb hby at_148) rfl ?_
        show Steps p.tables e below (T71.setTop (mkF m 150 #[.val (.int p1), .val (.int p2), .val (.int p3), .val (.int p4), .val (.int p5), .val (.int (3 : Int32)), .val (.int s0), .val (.int s1), .val (.int s2), .val (.int s3), .val (.ref b61), .val (.int mm), .val (.int cc), .val (.ref b71), .unset, .unset] [(.int p5), (.int (0 : Int32)), (.ref b71)])) _
        simpa only [if_neg hc75] using kt)
    obtain ⟨v0, hv0⟩ : ∃ z : Int32, z = (if (0 : Int32) < mm then (0 : Int32) else p5) := ⟨_, rfl⟩
    obtain ⟨cl77, Ar77, q77, S77, M77, H77, G77⟩ := id V71
    have hin77 : ¬ ((0 : Int32) < 0 ∨ cl77.slots.size ≤ ((0 : Int32)).toNatClampNeg) := inb_of S77 ⟨by decide, by decide⟩
    obtain ⟨T77, h77, X77, e77, W77, st77⟩ := stI X71 hx hZ e71 Ar77 (j := (0 : Int32)) hin77 (g := (mkF m 150 #[.val (.int p1), .val (.int p2), .val (.int p3), .val (.int p4), .val (.int p5), .val (.int (3 : Int32)), .val (.int s0), .val (.int s1), .val (.int s2), .val (.int s3), .val (.ref b61), .val (.int mm), .val (.int cc), .val (.ref b71), .unset, .unset] [(.int v0), (.int (0 : Int32)), (.ref b71)])) rfl rfl (hb hby at_150)
    have V77 := Arv.set Ar77 q77 S77 M77 H77 G77 rfl W77 0 rfl (Nat.le_of_ble_eq_true rfl)
    have f78 := f73.other W77 ne72
    have K77 : Keep h0 h77 [] := K71.wr W77 (Or.inr sz_b71)
    have N77 := Fr.snoc X77 N66 g_b71
    have Z77 : n0 ≤ h77.size := Nat.le_trans Z71 (Keep.of_wr W77).1
    have U77 : Arv Z h77 b71 k71 .int (3 : Int32) [(.int v0), (.int (0 : Int32)), (.int (0 : Int32)), (.int (0 : Int32))] (.int (0 : Int32)) := V77
    have ch80 : Goes p e below s₁ (entryFrame m #[(.int p1), (.int p2), (.int p3), (.int p4), (.int p5)] maxLocals) T77 (mkF m 160 #[.val (.int p1), .val (.int p2), .val (.int p3), .val (.int p4), .val (.int p5), .val (.int (3 : Int32)), .val (.int s0), .val (.int s1), .val (.int s2), .val (.int s3), .val (.ref b61), .val (.int mm), .val (.int cc), .val (.ref b71), .unset, .unset] [(.int (1 : Int32)), (.ref b71)]) := fun t kt => ch76 t (by
      show Steps p.tables e below (T71.setTop (mkF m 150 #[.val (.int p1), .val (.int p2), .val (.int p3), .val (.int p4), .val (.int p5), .val (.int (3 : Int32)), .val (.int s0), .val (.int s1), .val (.int s2), .val (.int s3), .val (.ref b61), .val (.int mm), .val (.int cc), .val (.ref b71), .unset, .unset] [(.int (if (0 : Int32) < mm then (0 : Int32) else p5)), (.int (0 : Int32)), (.ref b71)])) _
      rw [← hv0]
      show Steps p.tables e below (T71.setTop (mkF m 150 #[.val (.int p1), .val (.int p2), .val (.int p3), .val (.int p4), .val (.int p5), .val (.int (3 : Int32)), .val (.int s0), .val (.int s1), .val (.int s2), .val (.int s3), .val (.ref b61), .val (.int mm), .val (.int cc), .val (.ref b71), .unset, .unset] [(.int v0), (.int (0 : Int32)), (.ref b71)])) _
      refine st77 _ ?_
      show Steps p.tables e below (T77.setTop (mkF m 151 #[.val (.int p1), .val (.int p2), .val (.int p3), .val (.int p4), .val (.int p5), .val (.int (3 : Int32)), .val (.int s0), .val (.int s1), .val (.int s2), .val (.int s3), .val (.ref b61), .val (.int mm), .val (.int cc), .val (.ref b71), .unset, .unset] [])) _
      refine XS.iload X77.here hx rfl (hb hby at_151) rfl ?_
      show Steps p.tables e below (T77.setTop (mkF m 153 #[.val (.int p1), .val (.int p2), .val (.int p3), .val (.int p4), .val (.int p5), .val (.int (3 : Int32)), .val (.int s0), .val (.int s1), .val (.int s2), .val (.int s3), .val (.ref b61), .val (.int mm), .val (.int cc), .val (.ref b71), .unset, .unset] [(.int (3 : Int32))])) _
      refine XS.iconst X77.here hx rfl (hb hby at_153) ?_
      show Steps p.tables e below (T77.setTop (mkF m 154 #[.val (.int p1), .val (.int p2), .val (.int p3), .val (.int p4), .val (.int p5), .val (.int (3 : Int32)), .val (.int s0), .val (.int s1), .val (.int s2), .val (.int s3), .val (.ref b61), .val (.int mm), .val (.int cc), .val (.ref b71), .unset, .unset] [(.int (1 : Int32)), (.int (3 : Int32))])) _
      refine XS.icmpNo X77.here hx rfl (hb hby at_154) rfl (tlt (by decide : ((1 : Int32) < (3 : Int32)))).2.2.2 ?_
      show Steps p.tables e below (T77.setTop (mkF m 157 #[.val (.int p1), .val (.int p2), .val (.int p3), .val (.int p4), .val (.int p5), .val (.int (3 : Int32)), .val (.int s0), .val (.int s1), .val (.int s2), .val (.int s3), .val (.ref b61), .val (.int mm), .val (.int cc), .val (.ref b71), .unset, .unset] [])) _
      refine XS.aload X77.here hx rfl (hb hby at_157) rfl rfl ?_
      show Steps p.tables e below (T77.setTop (mkF m 159 #[.val (.int p1), .val (.int p2), .val (.int p3), .val (.int p4), .val (.int p5), .val (.int (3 : Int32)), .val (.int s0), .val (.int s1), .val (.int s2), .val (.int s3), .val (.ref b61), .val (.int mm), .val (.int cc), .val (.ref b71), .unset, .unset] [(.ref b71)])) _
      refine XS.iconst X77.here hx rfl (hb hby at_159) ?_
      show Steps p.tables e below (T77.setTop (mkF m 160 #[.val (.int p1), .val (.int p2), .val (.int p3), .val (.int p4), .val (.int p5), .val (.int (3 : Int32)), .val (.int s0), .val (.int s1), .val (.int s2), .val (.int s3), .val (.ref b61), .val (.int mm), .val (.int cc), .val (.ref b71), .unset, .unset] [(.int (1 : Int32)), (.ref b71)])) _
      exact kt)
    refine cps (A := ∃ (T' : State) (locs' : List Loc) (v1 : Int32), Stand p l e room_1 s m #[(.int p1), (.int p2), (.int p3), (.int p4), (.int p5)] below meth c T' locs' 2 6 ∧ T'.heap = h77 ∧ Fr n0 locs' ∧ (v1 = (if (1 : Int32) < mm then (own_b4 (own_f s0 s1 s2 (0 : Int32)) (1 : Int32) s1 (1 : Int32)) else p5)) ∧ Goes p e below s₁ (entryFrame m #[(.int p1), (.int p2), (.int p3), (.int p4), (.int p5)] maxLocals) T' (mkF m 182 #[.val (.int p1), .val (.int p2), .val (.int p3), .val (.int p4), .val (.int p5), .val (.int (3 : Int32)), .val (.int s0), .val (.int s1), .val (.int s2), .val (.int s3), .val (.ref b61), .val (.int mm), .val (.int cc), .val (.ref b71), .unset, .unset] [(.int v1), (.int (1 : Int32)), (.ref b71)])) ?_ ?_
    · intro kk81
      have ch82 : Goes p e below s₁ (entryFrame m #[(.int p1), (.int p2), (.int p3), (.int p4), (.int p5)] maxLocals) T77 (mkF m 163 #[.val (.int p1), .val (.int p2), .val (.int p3), .val (.int p4), .val (.int p5), .val (.int (3 : Int32)), .val (.int s0), .val (.int s1), .val (.int s2), .val (.int s3), .val (.ref b61), .val (.int mm), .val (.int cc), .val (.ref b71), .unset, .unset] [(.int mm), (.int (1 : Int32)), (.int (1 : Int32)), (.ref b71)]) := fun t kt => ch80 t (by
        show Steps p.tables e below (T77.setTop (mkF m 160 #[.val (.int p1), .val (.int p2), .val (.int p3), .val (.int p4), .val (.int p5), .val (.int (3 : Int32)), .val (.int s0), .val (.int s1), .val (.int s2), .val (.int s3), .val (.ref b61), .val (.int mm), .val (.int cc), .val (.ref b71), .unset, .unset] [(.int (1 : Int32)), (.ref b71)])) _
        refine XS.iconst X77.here hx rfl (hb hby at_160) ?_
        show Steps p.tables e below (T77.setTop (mkF m 161 #[.val (.int p1), .val (.int p2), .val (.int p3), .val (.int p4), .val (.int p5), .val (.int (3 : Int32)), .val (.int s0), .val (.int s1), .val (.int s2), .val (.int s3), .val (.ref b61), .val (.int mm), .val (.int cc), .val (.ref b71), .unset, .unset] [(.int (1 : Int32)), (.int (1 : Int32)), (.ref b71)])) _
        refine XS.iload X77.here hx rfl (hb hby at_161) rfl ?_
        show Steps p.tables e below (T77.setTop (mkF m 163 #[.val (.int p1), .val (.int p2), .val (.int p3), .val (.int p4), .val (.int p5), .val (.int (3 : Int32)), .val (.int s0), .val (.int s1), .val (.int s2), .val (.int s3), .val (.ref b61), .val (.int mm), .val (.int cc), .val (.ref b71), .unset, .unset] [(.int mm), (.int (1 : Int32)), (.int (1 : Int32)), (.ref b71)])) _
        exact kt)
      by_cases hc83 : (1 : Int32) < mm
      · obtain ⟨cl84, Ar84, -, S84, M84, H84, G84⟩ := id f78
        have hin84 : ¬ ((1 : Int32) < 0 ∨ cl84.slots.size ≤ ((1 : Int32)).toNatClampNeg) := inb_of S84 ⟨by decide, by decide⟩
        have hat84 : cl84.slots[((1 : Int32)).toNatClampNeg]? = some (.int s1) := Has.at H84 hin84 rfl
        obtain ⟨_, _, ⟨T85, L85, k85, n85⟩, -, X85, ⟨Lc85, hQ85, l85, y85, z85⟩, st85⟩ := Jvm.LawKit.callS X77 hx (y := (⟨"com/example/humble_match/humblematch/PartialMatchTableAdvancePinLaw", "best", "([IIII)I"⟩ : MethodName)) hown (mvT hZ (hw _ (List.mem_of_getElem? (i := 6) rfl))) (mvT hZ (hw _ (List.mem_of_getElem? (i := 7) rfl))) (mvT hZ (hw _ (List.mem_of_getElem? (i := 8) rfl))) (mvT hZ (hw _ (List.mem_of_getElem? (i := 9) rfl))) (by decide) (backOf (W := 2) (rm2 l Z a0 hw [] b61 (1 : Int32) s1 (1 : Int32) k61 (3 : Int32) (own_f s0 s1 s2 (0 : Int32)) h77 n0 Z77 f78 (by unfold own_B; decide) ⟨by decide, by decide⟩) hZ (hw _ (List.mem_of_getElem? (i := 9) rfl)) (hw _ (List.mem_of_getElem? (i := 8) rfl)) (by decide) (by decide)) (g := (mkF m 174 #[.val (.int p1), .val (.int p2), .val (.int p3), .val (.int p4), .val (.int p5), .val (.int (3 : Int32)), .val (.int s0), .val (.int s1), .val (.int s2), .val (.int s3), .val (.ref b61), .val (.int mm), .val (.int cc), .val (.ref b71), .unset, .unset] [(.int (1 : Int32)), (.int s1), (.int (1 : Int32)), (.ref b61), (.int (1 : Int32)), (.ref b71)])) rfl (by rw [hml]; rfl) (argsL := [(.ref b61), (.int (1 : Int32)), (.int s1), (.int (1 : Int32))]) (rest := [(.int (1 : Int32)), (.ref b71)]) (lenOf pd_1 rfl) rfl (by show 2 * 0 + _ ≤ _; exact Nat.le_of_eq rfl) (hb hby at_174) (fun _ _ => ⟨rfl, e77, (by decide : 2 + 0 ≤ _), (by decide : 6 + 0 ≤ _)⟩)
        dsimp only [Pt.U, Pt.locs, Pt.cells, Pt.slots] at X85 l85 y85 z85 st85 hQ85
        subst l85 y85 z85
        obtain ⟨rfl, N85q, r85_0⟩ := hQ85
        have N85 := Fr.app N77 N85q
        have ch86 : Goes p e below s₁ (entryFrame m #[(.int p1), (.int p2), (.int p3), (.int p4), (.int p5)] maxLocals) T85 (mkF m 182 #[.val (.int p1), .val (.int p2), .val (.int p3), .val (.int p4), .val (.int p5), .val (.int (3 : Int32)), .val (.int s0), .val (.int s1), .val (.int s2), .val (.int s3), .val (.ref b61), .val (.int mm), .val (.int cc), .val (.ref b71), .unset, .unset] [(.int (own_b4 (own_f s0 s1 s2 (0 : Int32)) (1 : Int32) s1 (1 : Int32))), (.int (1 : Int32)), (.ref b71)]) := fun t kt => ch82 t (by
          show Steps p.tables e below (T77.setTop (mkF m 163 #[.val (.int p1), .val (.int p2), .val (.int p3), .val (.int p4), .val (.int p5), .val (.int (3 : Int32)), .val (.int s0), .val (.int s1), .val (.int s2), .val (.int s3), .val (.ref b61), .val (.int mm), .val (.int cc), .val (.ref b71), .unset, .unset] [(.int mm), (.int (1 : Int32)), (.int (1 : Int32)), (.ref b71)])) _
          refine XS.icmpNo X77.here hx rfl (hb hby at_163) rfl (tlt hc83).2.1 ?_
          show Steps p.tables e below (T77.setTop (mkF m 166 #[.val (.int p1), .val (.int p2), .val (.int p3), .val (.int p4), .val (.int p5), .val (.int (3 : Int32)), .val (.int s0), .val (.int s1), .val (.int s2), .val (.int s3), .val (.ref b61), .val (.int mm), .val (.int cc), .val (.ref b71), .unset, .unset] [(.int (1 : Int32)), (.ref b71)])) _
          refine XS.aload X77.here hx rfl (hb hby at_166) rfl rfl ?_
          show Steps p.tables e below (T77.setTop (mkF m 168 #[.val (.int p1), .val (.int p2), .val (.int p3), .val (.int p4), .val (.int p5), .val (.int (3 : Int32)), .val (.int s0), .val (.int s1), .val (.int s2), .val (.int s3), .val (.ref b61), .val (.int mm), .val (.int cc), .val (.ref b71), .unset, .unset] [(.ref b61), (.int (1 : Int32)), (.ref b71)])) _
          refine XS.iconst X77.here hx rfl (hb hby at_168) ?_
          show Steps p.tables e below (T77.setTop (mkF m 169 #[.val (.int p1), .val (.int p2), .val (.int p3), .val (.int p4), .val (.int p5), .val (.int (3 : Int32)), .val (.int s0), .val (.int s1), .val (.int s2), .val (.int s3), .val (.ref b61), .val (.int mm), .val (.int cc), .val (.ref b71), .unset, .unset] [(.int (1 : Int32)), (.ref b61), (.int (1 : Int32)), (.ref b71)])) _
          refine XS.aload X77.here hx rfl (hb hby at_169) rfl rfl ?_
          show Steps p.tables e below (T77.setTop (mkF m 171 #[.val (.int p1), .val (.int p2), .val (.int p3), .val (.int p4), .val (.int p5), .val (.int (3 : Int32)), .val (.int s0), .val (.int s1), .val (.int s2), .val (.int s3), .val (.ref b61), .val (.int mm), .val (.int cc), .val (.ref b71), .unset, .unset] [(.ref b61), (.int (1 : Int32)), (.ref b61), (.int (1 : Int32)), (.ref b71)])) _
          refine XS.iconst X77.here hx rfl (hb hby at_171) ?_
          show Steps p.tables e below (T77.setTop (mkF m 172 #[.val (.int p1), .val (.int p2), .val (.int p3), .val (.int p4), .val (.int p5), .val (.int (3 : Int32)), .val (.int s0), .val (.int s1), .val (.int s2), .val (.int s3), .val (.ref b61), .val (.int mm), .val (.int cc), .val (.ref b71), .unset, .unset] [(.int (1 : Int32)), (.ref b61), (.int (1 : Int32)), (.ref b61), (.int (1 : Int32)), (.ref b71)])) _
          refine X77.iaload hx (j := (1 : Int32)) (v := (.int s1)) (by rw [e77]; exact Ar84.1) (State.isArrayOf_alike hZ.alike Ar84.2.1) Ar84.2.2 hin84 hat84 (g := (mkF m 172 #[.val (.int p1), .val (.int p2), .val (.int p3), .val (.int p4), .val (.int p5), .val (.int (3 : Int32)), .val (.int s0), .val (.int s1), .val (.int s2), .val (.int s3), .val (.ref b61), .val (.int mm), .val (.int cc), .val (.ref b71), .unset, .unset] [(.int (1 : Int32)), (.ref b61), (.int (1 : Int32)), (.ref b61), (.int (1 : Int32)), (.ref b71)])) rfl rfl (hb hby at_172) _ ?_
          show Steps p.tables e below (T77.setTop (mkF m 173 #[.val (.int p1), .val (.int p2), .val (.int p3), .val (.int p4), .val (.int p5), .val (.int (3 : Int32)), .val (.int s0), .val (.int s1), .val (.int s2), .val (.int s3), .val (.ref b61), .val (.int mm), .val (.int cc), .val (.ref b71), .unset, .unset] [(.int s1), (.int (1 : Int32)), (.ref b61), (.int (1 : Int32)), (.ref b71)])) _
          refine XS.iconst X77.here hx rfl (hb hby at_173) ?_
          show Steps p.tables e below (T77.setTop (mkF m 174 #[.val (.int p1), .val (.int p2), .val (.int p3), .val (.int p4), .val (.int p5), .val (.int (3 : Int32)), .val (.int s0), .val (.int s1), .val (.int s2), .val (.int s3), .val (.ref b61), .val (.int mm), .val (.int cc), .val (.ref b71), .unset, .unset] [(.int (1 : Int32)), (.int s1), (.int (1 : Int32)), (.ref b61), (.int (1 : Int32)), (.ref b71)])) _
          refine st85 _ ?_
          show Steps p.tables e below (T85.setTop (mkF m 177 #[.val (.int p1), .val (.int p2), .val (.int p3), .val (.int p4), .val (.int p5), .val (.int (3 : Int32)), .val (.int s0), .val (.int s1), .val (.int s2), .val (.int s3), .val (.ref b61), .val (.int mm), .val (.int cc), .val (.ref b71), .unset, .unset] [(.int (own_b4 (own_f s0 s1 s2 (0 : Int32)) (1 : Int32) s1 (1 : Int32))), (.int (1 : Int32)), (.ref b71)])) _
          refine XS.goto X85.here hx rfl (pc0 := 177) (pc' := 182) rfl (hb hby at_177) (by decide) (by decide) ?_
          show Steps p.tables e below (T85.setTop (mkF m 182 #[.val (.int p1), .val (.int p2), .val (.int p3), .val (.int p4), .val (.int p5), .val (.int (3 : Int32)), .val (.int s0), .val (.int s1), .val (.int s2), .val (.int s3), .val (.ref b61), .val (.int mm), .val (.int cc), .val (.ref b71), .unset, .unset] [(.int (own_b4 (own_f s0 s1 s2 (0 : Int32)) (1 : Int32) s1 (1 : Int32))), (.int (1 : Int32)), (.ref b71)])) _
          exact kt)
        exact kk81 ⟨T85, _, (own_b4 (own_f s0 s1 s2 (0 : Int32)) (1 : Int32) s1 (1 : Int32)), X85, r85_0, N85, (if_pos hc83).symm, ch86⟩
      · have ch87 : Goes p e below s₁ (entryFrame m #[(.int p1), (.int p2), (.int p3), (.int p4), (.int p5)] maxLocals) T77 (mkF m 182 #[.val (.int p1), .val (.int p2), .val (.int p3), .val (.int p4), .val (.int p5), .val (.int (3 : Int32)), .val (.int s0), .val (.int s1), .val (.int s2), .val (.int s3), .val (.ref b61), .val (.int mm), .val (.int cc), .val (.ref b71), .unset, .unset] [(.int p5), (.int (1 : Int32)), (.ref b71)]) := fun t kt => ch82 t (by
          show Steps p.tables e below (T77.setTop (mkF m 163 #[.val (.int p1), .val (.int p2), .val (.int p3), .val (.int p4), .val (.int p5), .val (.int (3 : Int32)), .val (.int s0), .val (.int s1), .val (.int s2), .val (.int s3), .val (.ref b61), .val (.int mm), .val (.int cc), .val (.ref b71), .unset, .unset] [(.int mm), (.int (1 : Int32)), (.int (1 : Int32)), (.ref b71)])) _
          refine XS.icmpYes X77.here hx rfl (pc0 := 163) (pc' := 180) rfl (hb hby at_163) rfl (flt hc83).2.1 (by decide) (by decide) ?_
          show Steps p.tables e below (T77.setTop (mkF m 180 #[.val (.int p1), .val (.int p2), .val (.int p3), .val (.int p4), .val (.int p5), .val (.int (3 : Int32)), .val (.int s0), .val (.int s1), .val (.int s2), .val (.int s3), .val (.ref b61), .val (.int mm), .val (.int cc), .val (.ref b71), .unset, .unset] [(.int (1 : Int32)), (.ref b71)])) _
          refine XS.iload X77.here hx rfl (hb hby at_180) rfl ?_
          show Steps p.tables e below (T77.setTop (mkF m 182 #[.val (.int p1), .val (.int p2), .val (.int p3), .val (.int p4), .val (.int p5), .val (.int (3 : Int32)), .val (.int s0), .val (.int s1), .val (.int s2), .val (.int s3), .val (.ref b61), .val (.int mm), .val (.int cc), .val (.ref b71), .unset, .unset] [(.int p5), (.int (1 : Int32)), (.ref b71)])) _
          exact kt)
        exact kk81 ⟨T77, _, p5, X77, e77, N77, (if_neg hc83).symm, ch87⟩
    · rintro ⟨T81, lo81, v1, X81, e81, N81, i81, ch81⟩
      obtain ⟨cl88, Ar88, q88, S88, M88, H88, G88⟩ := id U77
      have hin88 : ¬ ((1 : Int32) < 0 ∨ cl88.slots.size ≤ ((1 : Int32)).toNatClampNeg) := inb_of S88 ⟨by decide, by decide⟩
      obtain ⟨T88, h88, X88, e88, W88, st88⟩ := stI X81 hx hZ e81 Ar88 (j := (1 : Int32)) hin88 (g := (mkF m 182 #[.val (.int p1), .val (.int p2), .val (.int p3), .val (.int p4), .val (.int p5), .val (.int (3 : Int32)), .val (.int s0), .val (.int s1), .val (.int s2), .val (.int s3), .val (.ref b61), .val (.int mm), .val (.int cc), .val (.ref b71), .unset, .unset] [(.int v1), (.int (1 : Int32)), (.ref b71)])) rfl rfl (hb hby at_182)
      have V88 := Arv.set Ar88 q88 S88 M88 H88 G88 rfl W88 1 rfl (Nat.le_of_ble_eq_true rfl)
      have f89 := f78.other W88 ne72
      have K88 : Keep h0 h88 [] := K77.wr W88 (Or.inr sz_b71)
      have N88 := Fr.snoc X88 N81 g_b71
      have Z88 : n0 ≤ h88.size := Nat.le_trans Z77 (Keep.of_wr W88).1
      have U88 : Arv Z h88 b71 k71 .int (3 : Int32) [(.int v0), (.int v1), (.int (0 : Int32)), (.int (0 : Int32))] (.int (0 : Int32)) := V88
      have ch91 : Goes p e below s₁ (entryFrame m #[(.int p1), (.int p2), (.int p3), (.int p4), (.int p5)] maxLocals) T88 (mkF m 192 #[.val (.int p1), .val (.int p2), .val (.int p3), .val (.int p4), .val (.int p5), .val (.int (3 : Int32)), .val (.int s0), .val (.int s1), .val (.int s2), .val (.int s3), .val (.ref b61), .val (.int mm), .val (.int cc), .val (.ref b71), .unset, .unset] [(.int (2 : Int32)), (.ref b71)]) := fun t kt => ch81 t (by
        show Steps p.tables e below (T81.setTop (mkF m 182 #[.val (.int p1), .val (.int p2), .val (.int p3), .val (.int p4), .val (.int p5), .val (.int (3 : Int32)), .val (.int s0), .val (.int s1), .val (.int s2), .val (.int s3), .val (.ref b61), .val (.int mm), .val (.int cc), .val (.ref b71), .unset, .unset] [(.int v1), (.int (1 : Int32)), (.ref b71)])) _
        refine st88 _ ?_
        show Steps p.tables e below (T88.setTop (mkF m 183 #[.val (.int p1), .val (.int p2), .val (.int p3), .val (.int p4), .val (.int p5), .val (.int (3 : Int32)), .val (.int s0), .val (.int s1), .val (.int s2), .val (.int s3), .val (.ref b61), .val (.int mm), .val (.int cc), .val (.ref b71), .unset, .unset] [])) _
        refine XS.iload X88.here hx rfl (hb hby at_183) rfl ?_
        show Steps p.tables e below (T88.setTop (mkF m 185 #[.val (.int p1), .val (.int p2), .val (.int p3), .val (.int p4), .val (.int p5), .val (.int (3 : Int32)), .val (.int s0), .val (.int s1), .val (.int s2), .val (.int s3), .val (.ref b61), .val (.int mm), .val (.int cc), .val (.ref b71), .unset, .unset] [(.int (3 : Int32))])) _
        refine XS.iconst X88.here hx rfl (hb hby at_185) ?_
        show Steps p.tables e below (T88.setTop (mkF m 186 #[.val (.int p1), .val (.int p2), .val (.int p3), .val (.int p4), .val (.int p5), .val (.int (3 : Int32)), .val (.int s0), .val (.int s1), .val (.int s2), .val (.int s3), .val (.ref b61), .val (.int mm), .val (.int cc), .val (.ref b71), .unset, .unset] [(.int (2 : Int32)), (.int (3 : Int32))])) _
        refine XS.icmpNo X88.here hx rfl (hb hby at_186) rfl (tlt (by decide : ((2 : Int32) < (3 : Int32)))).2.2.2 ?_
        show Steps p.tables e below (T88.setTop (mkF m 189 #[.val (.int p1), .val (.int p2), .val (.int p3), .val (.int p4), .val (.int p5), .val (.int (3 : Int32)), .val (.int s0), .val (.int s1), .val (.int s2), .val (.int s3), .val (.ref b61), .val (.int mm), .val (.int cc), .val (.ref b71), .unset, .unset] [])) _
        refine XS.aload X88.here hx rfl (hb hby at_189) rfl rfl ?_
        show Steps p.tables e below (T88.setTop (mkF m 191 #[.val (.int p1), .val (.int p2), .val (.int p3), .val (.int p4), .val (.int p5), .val (.int (3 : Int32)), .val (.int s0), .val (.int s1), .val (.int s2), .val (.int s3), .val (.ref b61), .val (.int mm), .val (.int cc), .val (.ref b71), .unset, .unset] [(.ref b71)])) _
        refine XS.iconst X88.here hx rfl (hb hby at_191) ?_
        show Steps p.tables e below (T88.setTop (mkF m 192 #[.val (.int p1), .val (.int p2), .val (.int p3), .val (.int p4), .val (.int p5), .val (.int (3 : Int32)), .val (.int s0), .val (.int s1), .val (.int s2), .val (.int s3), .val (.ref b61), .val (.int mm), .val (.int cc), .val (.ref b71), .unset, .unset] [(.int (2 : Int32)), (.ref b71)])) _
        exact kt)
      refine cps (A := ∃ (T' : State) (locs' : List Loc) (v2 : Int32), Stand p l e room_1 s m #[(.int p1), (.int p2), (.int p3), (.int p4), (.int p5)] below meth c T' locs' 2 6 ∧ T'.heap = h88 ∧ Fr n0 locs' ∧ (v2 = (if (2 : Int32) < mm then (own_b4 (own_f s0 s1 s2 (0 : Int32)) (2 : Int32) s2 (2 : Int32)) else p5)) ∧ Goes p e below s₁ (entryFrame m #[(.int p1), (.int p2), (.int p3), (.int p4), (.int p5)] maxLocals) T' (mkF m 214 #[.val (.int p1), .val (.int p2), .val (.int p3), .val (.int p4), .val (.int p5), .val (.int (3 : Int32)), .val (.int s0), .val (.int s1), .val (.int s2), .val (.int s3), .val (.ref b61), .val (.int mm), .val (.int cc), .val (.ref b71), .unset, .unset] [(.int v2), (.int (2 : Int32)), (.ref b71)])) ?_ ?_
      · intro kk92
        have ch93 : Goes p e below s₁ (entryFrame m #[(.int p1), (.int p2), (.int p3), (.int p4), (.int p5)] maxLocals) T88 (mkF m 195 #[.val (.int p1), .val (.int p2), .val (.int p3), .val (.int p4), .val (.int p5), .val (.int (3 : Int32)), .val (.int s0), .val (.int s1), .val (.int s2), .val (.int s3), .val (.ref b61), .val (.int mm), .val (.int cc), .val (.ref b71), .unset, .unset] [(.int mm), (.int (2 : Int32)), (.int (2 : Int32)), (.ref b71)]) := fun t kt => ch91 t (by
          show Steps p.tables e below (T88.setTop (mkF m 192 #[.val (.int p1), .val (.int p2), .val (.int p3), .val (.int p4), .val (.int p5), .val (.int (3 : Int32)), .val (.int s0), .val (.int s1), .val (.int s2), .val (.int s3), .val (.ref b61), .val (.int mm), .val (.int cc), .val (.ref b71), .unset, .unset] [(.int (2 : Int32)), (.ref b71)])) _
          refine XS.iconst X88.here hx rfl (hb hby at_192) ?_
          show Steps p.tables e below (T88.setTop (mkF m 193 #[.val (.int p1), .val (.int p2), .val (.int p3), .val (.int p4), .val (.int p5), .val (.int (3 : Int32)), .val (.int s0), .val (.int s1), .val (.int s2), .val (.int s3), .val (.ref b61), .val (.int mm), .val (.int cc), .val (.ref b71), .unset, .unset] [(.int (2 : Int32)), (.int (2 : Int32)), (.ref b71)])) _
          refine XS.iload X88.here hx rfl (hb hby at_193) rfl ?_
          show Steps p.tables e below (T88.setTop (mkF m 195 #[.val (.int p1), .val (.int p2), .val (.int p3), .val (.int p4), .val (.int p5), .val (.int (3 : Int32)), .val (.int s0), .val (.int s1), .val (.int s2), .val (.int s3), .val (.ref b61), .val (.int mm), .val (.int cc), .val (.ref b71), .unset, .unset] [(.int mm), (.int (2 : Int32)), (.int (2 : Int32)), (.ref b71)])) _
          exact kt)
        by_cases hc94 : (2 : Int32) < mm
        · obtain ⟨cl95, Ar95, -, S95, M95, H95, G95⟩ := id f89
          have hin95 : ¬ ((2 : Int32) < 0 ∨ cl95.slots.size ≤ ((2 : Int32)).toNatClampNeg) := inb_of S95 ⟨by decide, by decide⟩
          have hat95 : cl95.slots[((2 : Int32)).toNatClampNeg]? = some (.int s2) := Has.at H95 hin95 rfl
          obtain ⟨_, _, ⟨T96, L96, k96, n96⟩, -, X96, ⟨Lc96, hQ96, l96, y96, z96⟩, st96⟩ := Jvm.LawKit.callS X88 hx (y := (⟨"com/example/humble_match/humblematch/PartialMatchTableAdvancePinLaw", "best", "([IIII)I"⟩ : MethodName)) hown (mvT hZ (hw _ (List.mem_of_getElem? (i := 6) rfl))) (mvT hZ (hw _ (List.mem_of_getElem? (i := 7) rfl))) (mvT hZ (hw _ (List.mem_of_getElem? (i := 8) rfl))) (mvT hZ (hw _ (List.mem_of_getElem? (i := 9) rfl))) (by decide) (backOf (W := 2) (rm2 l Z a0 hw [] b61 (2 : Int32) s2 (2 : Int32) k61 (3 : Int32) (own_f s0 s1 s2 (0 : Int32)) h88 n0 Z88 f89 (by unfold own_B; decide) ⟨by decide, by decide⟩) hZ (hw _ (List.mem_of_getElem? (i := 9) rfl)) (hw _ (List.mem_of_getElem? (i := 8) rfl)) (by decide) (by decide)) (g := (mkF m 206 #[.val (.int p1), .val (.int p2), .val (.int p3), .val (.int p4), .val (.int p5), .val (.int (3 : Int32)), .val (.int s0), .val (.int s1), .val (.int s2), .val (.int s3), .val (.ref b61), .val (.int mm), .val (.int cc), .val (.ref b71), .unset, .unset] [(.int (2 : Int32)), (.int s2), (.int (2 : Int32)), (.ref b61), (.int (2 : Int32)), (.ref b71)])) rfl (by rw [hml]; rfl) (argsL := [(.ref b61), (.int (2 : Int32)), (.int s2), (.int (2 : Int32))]) (rest := [(.int (2 : Int32)), (.ref b71)]) (lenOf pd_1 rfl) rfl (by show 2 * 0 + _ ≤ _; exact Nat.le_of_eq rfl) (hb hby at_206) (fun _ _ => ⟨rfl, e88, (by decide : 2 + 0 ≤ _), (by decide : 6 + 0 ≤ _)⟩)
          dsimp only [Pt.U, Pt.locs, Pt.cells, Pt.slots] at X96 l96 y96 z96 st96 hQ96
          subst l96 y96 z96
          obtain ⟨rfl, N96q, r96_0⟩ := hQ96
          have N96 := Fr.app N88 N96q
          have ch97 : Goes p e below s₁ (entryFrame m #[(.int p1), (.int p2), (.int p3), (.int p4), (.int p5)] maxLocals) T96 (mkF m 214 #[.val (.int p1), .val (.int p2), .val (.int p3), .val (.int p4), .val (.int p5), .val (.int (3 : Int32)), .val (.int s0), .val (.int s1), .val (.int s2), .val (.int s3), .val (.ref b61), .val (.int mm), .val (.int cc), .val (.ref b71), .unset, .unset] [(.int (own_b4 (own_f s0 s1 s2 (0 : Int32)) (2 : Int32) s2 (2 : Int32))), (.int (2 : Int32)), (.ref b71)]) := fun t kt => ch93 t (by
            show Steps p.tables e below (T88.setTop (mkF m 195 #[.val (.int p1), .val (.int p2), .val (.int p3), .val (.int p4), .val (.int p5), .val (.int (3 : Int32)), .val (.int s0), .val (.int s1), .val (.int s2), .val (.int s3), .val (.ref b61), .val (.int mm), .val (.int cc), .val (.ref b71), .unset, .unset] [(.int mm), (.int (2 : Int32)), (.int (2 : Int32)), (.ref b71)])) _
            refine XS.icmpNo X88.here hx rfl (hb hby at_195) rfl (tlt hc94).2.1 ?_
            show Steps p.tables e below (T88.setTop (mkF m 198 #[.val (.int p1), .val (.int p2), .val (.int p3), .val (.int p4), .val (.int p5), .val (.int (3 : Int32)), .val (.int s0), .val (.int s1), .val (.int s2), .val (.int s3), .val (.ref b61), .val (.int mm), .val (.int cc), .val (.ref b71), .unset, .unset] [(.int (2 : Int32)), (.ref b71)])) _
            refine XS.aload X88.here hx rfl (hb hby at_198) rfl rfl ?_
            show Steps p.tables e below (T88.setTop (mkF m 200 #[.val (.int p1), .val (.int p2), .val (.int p3), .val (.int p4), .val (.int p5), .val (.int (3 : Int32)), .val (.int s0), .val (.int s1), .val (.int s2), .val (.int s3), .val (.ref b61), .val (.int mm), .val (.int cc), .val (.ref b71), .unset, .unset] [(.ref b61), (.int (2 : Int32)), (.ref b71)])) _
            refine XS.iconst X88.here hx rfl (hb hby at_200) ?_
            show Steps p.tables e below (T88.setTop (mkF m 201 #[.val (.int p1), .val (.int p2), .val (.int p3), .val (.int p4), .val (.int p5), .val (.int (3 : Int32)), .val (.int s0), .val (.int s1), .val (.int s2), .val (.int s3), .val (.ref b61), .val (.int mm), .val (.int cc), .val (.ref b71), .unset, .unset] [(.int (2 : Int32)), (.ref b61), (.int (2 : Int32)), (.ref b71)])) _
            refine XS.aload X88.here hx rfl (hb hby at_201) rfl rfl ?_
            show Steps p.tables e below (T88.setTop (mkF m 203 #[.val (.int p1), .val (.int p2), .val (.int p3), .val (.int p4), .val (.int p5), .val (.int (3 : Int32)), .val (.int s0), .val (.int s1), .val (.int s2), .val (.int s3), .val (.ref b61), .val (.int mm), .val (.int cc), .val (.ref b71), .unset, .unset] [(.ref b61), (.int (2 : Int32)), (.ref b61), (.int (2 : Int32)), (.ref b71)])) _
            refine XS.iconst X88.here hx rfl (hb hby at_203) ?_
            show Steps p.tables e below (T88.setTop (mkF m 204 #[.val (.int p1), .val (.int p2), .val (.int p3), .val (.int p4), .val (.int p5), .val (.int (3 : Int32)), .val (.int s0), .val (.int s1), .val (.int s2), .val (.int s3), .val (.ref b61), .val (.int mm), .val (.int cc), .val (.ref b71), .unset, .unset] [(.int (2 : Int32)), (.ref b61), (.int (2 : Int32)), (.ref b61), (.int (2 : Int32)), (.ref b71)])) _
            refine X88.iaload hx (j := (2 : Int32)) (v := (.int s2)) (by rw [e88]; exact Ar95.1) (State.isArrayOf_alike hZ.alike Ar95.2.1) Ar95.2.2 hin95 hat95 (g := (mkF m 204 #[.val (.int p1), .val (.int p2), .val (.int p3), .val (.int p4), .val (.int p5), .val (.int (3 : Int32)), .val (.int s0), .val (.int s1), .val (.int s2), .val (.int s3), .val (.ref b61), .val (.int mm), .val (.int cc), .val (.ref b71), .unset, .unset] [(.int (2 : Int32)), (.ref b61), (.int (2 : Int32)), (.ref b61), (.int (2 : Int32)), (.ref b71)])) rfl rfl (hb hby at_204) _ ?_
            show Steps p.tables e below (T88.setTop (mkF m 205 #[.val (.int p1), .val (.int p2), .val (.int p3), .val (.int p4), .val (.int p5), .val (.int (3 : Int32)), .val (.int s0), .val (.int s1), .val (.int s2), .val (.int s3), .val (.ref b61), .val (.int mm), .val (.int cc), .val (.ref b71), .unset, .unset] [(.int s2), (.int (2 : Int32)), (.ref b61), (.int (2 : Int32)), (.ref b71)])) _
            refine XS.iconst X88.here hx rfl (hb hby at_205) ?_
            show Steps p.tables e below (T88.setTop (mkF m 206 #[.val (.int p1), .val (.int p2), .val (.int p3), .val (.int p4), .val (.int p5), .val (.int (3 : Int32)), .val (.int s0), .val (.int s1), .val (.int s2), .val (.int s3), .val (.ref b61), .val (.int mm), .val (.int cc), .val (.ref b71), .unset, .unset] [(.int (2 : Int32)), (.int s2), (.int (2 : Int32)), (.ref b61), (.int (2 : Int32)), (.ref b71)])) _
            refine st96 _ ?_
            show Steps p.tables e below (T96.setTop (mkF m 209 #[.val (.int p1), .val (.int p2), .val (.int p3), .val (.int p4), .val (.int p5), .val (.int (3 : Int32)), .val (.int s0), .val (.int s1), .val (.int s2), .val (.int s3), .val (.ref b61), .val (.int mm), .val (.int cc), .val (.ref b71), .unset, .unset] [(.int (own_b4 (own_f s0 s1 s2 (0 : Int32)) (2 : Int32) s2 (2 : Int32))), (.int (2 : Int32)), (.ref b71)])) _
            refine XS.goto X96.here hx rfl (pc0 := 209) (pc' := 214) rfl (hb hby at_209) (by decide) (by decide) ?_
            show Steps p.tables e below (T96.setTop (mkF m 214 #[.val (.int p1), .val (.int p2), .val (.int p3), .val (.int p4), .val (.int p5), .val (.int (3 : Int32)), .val (.int s0), .val (.int s1), .val (.int s2), .val (.int s3), .val (.ref b61), .val (.int mm), .val (.int cc), .val (.ref b71), .unset, .unset] [(.int (own_b4 (own_f s0 s1 s2 (0 : Int32)) (2 : Int32) s2 (2 : Int32))), (.int (2 : Int32)), (.ref b71)])) _
            exact kt)
          exact kk92 ⟨T96, _, (own_b4 (own_f s0 s1 s2 (0 : Int32)) (2 : Int32) s2 (2 : Int32)), X96, r96_0, N96, (if_pos hc94).symm, ch97⟩
        · have ch98 : Goes p e below s₁ (entryFrame m #[(.int p1), (.int p2), (.int p3), (.int p4), (.int p5)] maxLocals) T88 (mkF m 214 #[.val (.int p1), .val (.int p2), .val (.int p3), .val (.int p4), .val (.int p5), .val (.int (3 : Int32)), .val (.int s0), .val (.int s1), .val (.int s2), .val (.int s3), .val (.ref b61), .val (.int mm), .val (.int cc), .val (.ref b71), .unset, .unset] [(.int p5), (.int (2 : Int32)), (.ref b71)]) := fun t kt => ch93 t (by
            show Steps p.tables e below (T88.setTop (mkF m 195 #[.val (.int p1), .val (.int p2), .val (.int p3), .val (.int p4), .val (.int p5), .val (.int (3 : Int32)), .val (.int s0), .val (.int s1), .val (.int s2), .val (.int s3), .val (.ref b61), .val (.int mm), .val (.int cc), .val (.ref b71), .unset, .unset] [(.int mm), (.int (2 : Int32)), (.int (2 : Int32)), (.ref b71)])) _
            refine XS.icmpYes X88.here hx rfl (pc0 := 195) (pc' := 212) rfl (hb hby at_195) rfl (flt hc94).2.1 (by decide) (by decide) ?_
            show Steps p.tables e below (T88.setTop (mkF m 212 #[.val (.int p1), .val (.int p2), .val (.int p3), .val (.int p4), .val (.int p5), .val (.int (3 : Int32)), .val (.int s0), .val (.int s1), .val (.int s2), .val (.int s3), .val (.ref b61), .val (.int mm), .val (.int cc), .val (.ref b71), .unset, .unset] [(.int (2 : Int32)), (.ref b71)])) _
            refine XS.iload X88.here hx rfl (hb hby at_212) rfl ?_
            show Steps p.tables e below (T88.setTop (mkF m 214 #[.val (.int p1), .val (.int p2), .val (.int p3), .val (.int p4), .val (.int p5), .val (.int (3 : Int32)), .val (.int s0), .val (.int s1), .val (.int s2), .val (.int s3), .val (.ref b61), .val (.int mm), .val (.int cc), .val (.ref b71), .unset, .unset] [(.int p5), (.int (2 : Int32)), (.ref b71)])) _
            exact kt)
          exact kk92 ⟨T88, _, p5, X88, e88, N88, (if_neg hc94).symm, ch98⟩
      · rintro ⟨T92, lo92, v2, X92, e92, N92, i92, ch92⟩
        obtain ⟨cl99, Ar99, q99, S99, M99, H99, G99⟩ := id U88
        have hin99 : ¬ ((2 : Int32) < 0 ∨ cl99.slots.size ≤ ((2 : Int32)).toNatClampNeg) := inb_of S99 ⟨by decide, by decide⟩
        obtain ⟨T99, h99, X99, e99, W99, st99⟩ := stI X92 hx hZ e92 Ar99 (j := (2 : Int32)) hin99 (g := (mkF m 214 #[.val (.int p1), .val (.int p2), .val (.int p3), .val (.int p4), .val (.int p5), .val (.int (3 : Int32)), .val (.int s0), .val (.int s1), .val (.int s2), .val (.int s3), .val (.ref b61), .val (.int mm), .val (.int cc), .val (.ref b71), .unset, .unset] [(.int v2), (.int (2 : Int32)), (.ref b71)])) rfl rfl (hb hby at_214)
        have V99 := Arv.set Ar99 q99 S99 M99 H99 G99 rfl W99 2 rfl (Nat.le_of_ble_eq_true rfl)
        have f100 := f89.other W99 ne72
        have K99 : Keep h0 h99 [] := K88.wr W99 (Or.inr sz_b71)
        have N99 := Fr.snoc X99 N92 g_b71
        have Z99 : n0 ≤ h99.size := Nat.le_trans Z88 (Keep.of_wr W99).1
        have U99 : Arv Z h99 b71 k71 .int (3 : Int32) [(.int v0), (.int v1), (.int v2), (.int (0 : Int32))] (.int (0 : Int32)) := V99
        obtain ⟨_, _, ⟨T102, L102, k102, n102⟩, -, X102, ⟨Lc102, hQ102, l102, y102, z102⟩, st102⟩ := Jvm.LawKit.callS X99 hx (y := (⟨"java/lang/Math", "min", "(II)I"⟩ : MethodName)) hown (mvT hZ (hw _ (List.mem_of_getElem? (i := 2) rfl))) (mvT hZ (hw _ (List.mem_of_getElem? (i := 3) rfl))) (mvT hZ (hw _ (List.mem_of_getElem? (i := 4) rfl))) (mvT hZ (hw _ (List.mem_of_getElem? (i := 5) rfl))) (by decide) (backOf (W := 3) (rm1 l Z a0 hw [] (3 : Int32) (mm + (1 : Int32)) h99 n0 Z99) hZ (hw _ (List.mem_of_getElem? (i := 5) rfl)) (hw _ (List.mem_of_getElem? (i := 4) rfl)) (by decide) (by decide)) (g := (mkF m 259 #[.val (.int p1), .val (.int p2), .val (.int p3), .val (.int p4), .val (.int p5), .val (.int (3 : Int32)), .val (.int s0), .val (.int s1), .val (.int s2), .val (.int s3), .val (.ref b61), .val (.int mm), .val (.int cc), .val (.ref b71), .unset, .unset] [(.int (mm + (1 : Int32))), (.int (3 : Int32)), (.int cc), (.int mm), (.ref b61)])) rfl (by rw [hml]; rfl) (argsL := [(.int (3 : Int32)), (.int (mm + (1 : Int32)))]) (rest := [(.int cc), (.int mm), (.ref b61)]) (lenOf pd_0 rfl) rfl (by show 2 * 0 + _ ≤ _; exact Nat.le_of_eq rfl) (hb hby at_259) (fun _ _ => ⟨rfl, e99, (by decide : 2 + 0 ≤ _), (by decide : 6 + 0 ≤ _)⟩)
        dsimp only [Pt.U, Pt.locs, Pt.cells, Pt.slots] at X102 l102 y102 z102 st102 hQ102
        subst l102 y102 z102
        obtain ⟨rfl, N102q, r102_0⟩ := hQ102
        have N102 := Fr.app N99 N102q
        obtain ⟨_, _, ⟨T103, L103, k103, n103⟩, -, X103, ⟨Lc103, hQ103, l103, y103, z103⟩, st103⟩ := Jvm.LawKit.callS X102 hx (y := (⟨"com/example/humble_match/humblematch/PartialMatchTableAdvancePinLaw", "best", "([IIII)I"⟩ : MethodName)) hown (mvT hZ (hw _ (List.mem_of_getElem? (i := 6) rfl))) (mvT hZ (hw _ (List.mem_of_getElem? (i := 7) rfl))) (mvT hZ (hw _ (List.mem_of_getElem? (i := 8) rfl))) (mvT hZ (hw _ (List.mem_of_getElem? (i := 9) rfl))) (by decide) (backOf (W := 0) (rm2 l Z a0 hw [] b61 mm cc (own_min (3 : Int32) (mm + (1 : Int32))) k61 (3 : Int32) (own_f s0 s1 s2 (0 : Int32)) h99 n0 Z99 f100 hB (own_mink (3 : Int32) mm hB)) hZ (hw _ (List.mem_of_getElem? (i := 9) rfl)) (hw _ (List.mem_of_getElem? (i := 8) rfl)) (by decide) (by decide)) (g := (mkF m 262 #[.val (.int p1), .val (.int p2), .val (.int p3), .val (.int p4), .val (.int p5), .val (.int (3 : Int32)), .val (.int s0), .val (.int s1), .val (.int s2), .val (.int s3), .val (.ref b61), .val (.int mm), .val (.int cc), .val (.ref b71), .unset, .unset] [(.int (own_min (3 : Int32) (mm + (1 : Int32)))), (.int cc), (.int mm), (.ref b61)])) rfl (by rw [hml]; rfl) (argsL := [(.ref b61), (.int mm), (.int cc), (.int (own_min (3 : Int32) (mm + (1 : Int32))))]) (rest := []) (lenOf pd_1 rfl) rfl (by show 2 * 0 + _ ≤ _; exact Nat.le_of_eq rfl) (hb hby at_262) (fun _ _ => ⟨rfl, r102_0, (by decide : 2 + 0 ≤ _), (by decide : 6 + 0 ≤ _)⟩)
        dsimp only [Pt.U, Pt.locs, Pt.cells, Pt.slots] at X103 l103 y103 z103 st103 hQ103
        subst l103 y103 z103
        obtain ⟨rfl, N103q, r103_0⟩ := hQ103
        have N103 := Fr.app N102 N103q
        obtain ⟨_, _, ⟨T104, L104, k104, n104⟩, -, X104, ⟨Lc104, hQ104, l104, y104, z104⟩, st104⟩ := Jvm.LawKit.callS X103 hx (y := (⟨"com/example/humble_match/humblematch/PartialMatchTable", "advance", "([I[III)I"⟩ : MethodName)) hown (mvT hZ (hw _ (List.mem_of_getElem? (i := 10) rfl))) (mvT hZ (hw _ (List.mem_of_getElem? (i := 11) rfl))) (mvT hZ (hw _ (List.mem_of_getElem? (i := 12) rfl))) (mvT hZ (hw _ (List.mem_of_getElem? (i := 13) rfl))) (by decide) (backOf (W := 0) (rm3 l Z a0 hw [] b61 b71 mm cc k61 k71 (3 : Int32) (own_f s0 s1 s2 (0 : Int32)) (own_f v0 v1 v2 (0 : Int32)) h99 n0 Z99 f100 U99 hB (own_hg (own_f s0 s1 s2 (0 : Int32)) mm (3 : Int32) v0 v1 v2 (0 : Int32) hB (fun q => hv0.trans (if_pos q)) (fun q => i81.trans (if_pos q)) (fun q => i92.trans (if_pos q)) (fun q => absurd q (own_no _ _ _ hB.2.1 (by decide))))) hZ (hw _ (List.mem_of_getElem? (i := 13) rfl)) (hw _ (List.mem_of_getElem? (i := 12) rfl)) (by decide) (by decide)) (g := (mkF m 275 #[.val (.int p1), .val (.int p2), .val (.int p3), .val (.int p4), .val (.int p5), .val (.int (3 : Int32)), .val (.int s0), .val (.int s1), .val (.int s2), .val (.int s3), .val (.ref b61), .val (.int mm), .val (.int cc), .val (.ref b71), .val (.int (own_b4 (own_f s0 s1 s2 (0 : Int32)) mm cc (own_min (3 : Int32) (mm + (1 : Int32))))), .unset] [(.int cc), (.int mm), (.ref b71), (.ref b61)])) rfl (by rw [hml]; rfl) (argsL := [(.ref b61), (.ref b71), (.int mm), (.int cc)]) (rest := []) (lenOf pd_2 rfl) rfl (by show 2 * 0 + _ ≤ _; exact Nat.le_of_eq rfl) (hb hby at_275) (fun _ _ => ⟨rfl, r103_0, (by decide : 2 + 0 ≤ _), (by decide : 6 + 0 ≤ _)⟩)
        dsimp only [Pt.U, Pt.locs, Pt.cells, Pt.slots] at X104 l104 y104 z104 st104 hQ104
        subst l104 y104 z104
        obtain ⟨rfl, N104q, r104_0⟩ := hQ104
        have N104 := Fr.app N103 N104q
        obtain ⟨fs, hr, hrun, hended, hW, hsame⟩ := X104.leave (v := some (.int (1 : Int32))) (fun h => by rw [Bd.returns] at h; cases h)
        refine ⟨_, _, ch92 _ ?_, hrun, hended, _, _, rfl, ?_, ⟨_, rfl⟩, hW, hsame.mono (by decide) (by decide)⟩
        · show Steps p.tables e below (T92.setTop (mkF m 214 #[.val (.int p1), .val (.int p2), .val (.int p3), .val (.int p4), .val (.int p5), .val (.int (3 : Int32)), .val (.int s0), .val (.int s1), .val (.int s2), .val (.int s3), .val (.ref b61), .val (.int mm), .val (.int cc), .val (.ref b71), .unset, .unset] [(.int v2), (.int (2 : Int32)), (.ref b71)])) _
          refine st99 _ ?_
          show Steps p.tables e below (T99.setTop (mkF m 215 #[.val (.int p1), .val (.int p2), .val (.int p3), .val (.int p4), .val (.int p5), .val (.int (3 : Int32)), .val (.int s0), .val (.int s1), .val (.int s2), .val (.int s3), .val (.ref b61), .val (.int mm), .val (.int cc), .val (.ref b71), .unset, .unset] [])) _
          refine XS.iload X99.here hx rfl (hb hby at_215) rfl ?_
          show Steps p.tables e below (T99.setTop (mkF m 217 #[.val (.int p1), .val (.int p2), .val (.int p3), .val (.int p4), .val (.int p5), .val (.int (3 : Int32)), .val (.int s0), .val (.int s1), .val (.int s2), .val (.int s3), .val (.ref b61), .val (.int mm), .val (.int cc), .val (.ref b71), .unset, .unset] [(.int (3 : Int32))])) _
          refine XS.iconst X99.here hx rfl (hb hby at_217) ?_
          show Steps p.tables e below (T99.setTop (mkF m 218 #[.val (.int p1), .val (.int p2), .val (.int p3), .val (.int p4), .val (.int p5), .val (.int (3 : Int32)), .val (.int s0), .val (.int s1), .val (.int s2), .val (.int s3), .val (.ref b61), .val (.int mm), .val (.int cc), .val (.ref b71), .unset, .unset] [(.int (3 : Int32)), (.int (3 : Int32))])) _
          refine XS.icmpYes X99.here hx rfl (pc0 := 218) (pc' := 247) rfl (hb hby at_218) rfl (flt (by decide : ¬ ((3 : Int32) < (3 : Int32)))).2.2.2 (by decide) (by decide) ?_
          show Steps p.tables e below (T99.setTop (mkF m 247 #[.val (.int p1), .val (.int p2), .val (.int p3), .val (.int p4), .val (.int p5), .val (.int (3 : Int32)), .val (.int s0), .val (.int s1), .val (.int s2), .val (.int s3), .val (.ref b61), .val (.int mm), .val (.int cc), .val (.ref b71), .unset, .unset] [])) _
          refine XS.aload X99.here hx rfl (hb hby at_247) rfl rfl ?_
          show Steps p.tables e below (T99.setTop (mkF m 249 #[.val (.int p1), .val (.int p2), .val (.int p3), .val (.int p4), .val (.int p5), .val (.int (3 : Int32)), .val (.int s0), .val (.int s1), .val (.int s2), .val (.int s3), .val (.ref b61), .val (.int mm), .val (.int cc), .val (.ref b71), .unset, .unset] [(.ref b61)])) _
          refine XS.iload X99.here hx rfl (hb hby at_249) rfl ?_
          show Steps p.tables e below (T99.setTop (mkF m 251 #[.val (.int p1), .val (.int p2), .val (.int p3), .val (.int p4), .val (.int p5), .val (.int (3 : Int32)), .val (.int s0), .val (.int s1), .val (.int s2), .val (.int s3), .val (.ref b61), .val (.int mm), .val (.int cc), .val (.ref b71), .unset, .unset] [(.int mm), (.ref b61)])) _
          refine XS.iload X99.here hx rfl (hb hby at_251) rfl ?_
          show Steps p.tables e below (T99.setTop (mkF m 253 #[.val (.int p1), .val (.int p2), .val (.int p3), .val (.int p4), .val (.int p5), .val (.int (3 : Int32)), .val (.int s0), .val (.int s1), .val (.int s2), .val (.int s3), .val (.ref b61), .val (.int mm), .val (.int cc), .val (.ref b71), .unset, .unset] [(.int cc), (.int mm), (.ref b61)])) _
          refine XS.iload X99.here hx rfl (hb hby at_253) rfl ?_
          show Steps p.tables e below (T99.setTop (mkF m 255 #[.val (.int p1), .val (.int p2), .val (.int p3), .val (.int p4), .val (.int p5), .val (.int (3 : Int32)), .val (.int s0), .val (.int s1), .val (.int s2), .val (.int s3), .val (.ref b61), .val (.int mm), .val (.int cc), .val (.ref b71), .unset, .unset] [(.int (3 : Int32)), (.int cc), (.int mm), (.ref b61)])) _
          refine XS.iload X99.here hx rfl (hb hby at_255) rfl ?_
          show Steps p.tables e below (T99.setTop (mkF m 257 #[.val (.int p1), .val (.int p2), .val (.int p3), .val (.int p4), .val (.int p5), .val (.int (3 : Int32)), .val (.int s0), .val (.int s1), .val (.int s2), .val (.int s3), .val (.ref b61), .val (.int mm), .val (.int cc), .val (.ref b71), .unset, .unset] [(.int mm), (.int (3 : Int32)), (.int cc), (.int mm), (.ref b61)])) _
          refine XS.iconst X99.here hx rfl (hb hby at_257) ?_
          show Steps p.tables e below (T99.setTop (mkF m 258 #[.val (.int p1), .val (.int p2), .val (.int p3), .val (.int p4), .val (.int p5), .val (.int (3 : Int32)), .val (.int s0), .val (.int s1), .val (.int s2), .val (.int s3), .val (.ref b61), .val (.int mm), .val (.int cc), .val (.ref b71), .unset, .unset] [(.int (1 : Int32)), (.int mm), (.int (3 : Int32)), (.int cc), (.int mm), (.ref b61)])) _
          refine XS.iadd X99.here hx rfl (hb hby at_258) rfl ?_
          show Steps p.tables e below (T99.setTop (mkF m 259 #[.val (.int p1), .val (.int p2), .val (.int p3), .val (.int p4), .val (.int p5), .val (.int (3 : Int32)), .val (.int s0), .val (.int s1), .val (.int s2), .val (.int s3), .val (.ref b61), .val (.int mm), .val (.int cc), .val (.ref b71), .unset, .unset] [(.int (mm + (1 : Int32))), (.int (3 : Int32)), (.int cc), (.int mm), (.ref b61)])) _
          refine st102 _ ?_
          show Steps p.tables e below (T102.setTop (mkF m 262 #[.val (.int p1), .val (.int p2), .val (.int p3), .val (.int p4), .val (.int p5), .val (.int (3 : Int32)), .val (.int s0), .val (.int s1), .val (.int s2), .val (.int s3), .val (.ref b61), .val (.int mm), .val (.int cc), .val (.ref b71), .unset, .unset] [(.int (own_min (3 : Int32) (mm + (1 : Int32)))), (.int cc), (.int mm), (.ref b61)])) _
          refine st103 _ ?_
          show Steps p.tables e below (T103.setTop (mkF m 265 #[.val (.int p1), .val (.int p2), .val (.int p3), .val (.int p4), .val (.int p5), .val (.int (3 : Int32)), .val (.int s0), .val (.int s1), .val (.int s2), .val (.int s3), .val (.ref b61), .val (.int mm), .val (.int cc), .val (.ref b71), .unset, .unset] [(.int (own_b4 (own_f s0 s1 s2 (0 : Int32)) mm cc (own_min (3 : Int32) (mm + (1 : Int32)))))])) _
          refine XS.istore X103.here hx rfl (hb hby at_265) rfl (l' := #[.val (.int p1), .val (.int p2), .val (.int p3), .val (.int p4), .val (.int p5), .val (.int (3 : Int32)), .val (.int s0), .val (.int s1), .val (.int s2), .val (.int s3), .val (.ref b61), .val (.int mm), .val (.int cc), .val (.ref b71), .val (.int (own_b4 (own_f s0 s1 s2 (0 : Int32)) mm cc (own_min (3 : Int32) (mm + (1 : Int32))))), .unset]) rfl ?_
          show Steps p.tables e below (T103.setTop (mkF m 267 #[.val (.int p1), .val (.int p2), .val (.int p3), .val (.int p4), .val (.int p5), .val (.int (3 : Int32)), .val (.int s0), .val (.int s1), .val (.int s2), .val (.int s3), .val (.ref b61), .val (.int mm), .val (.int cc), .val (.ref b71), .val (.int (own_b4 (own_f s0 s1 s2 (0 : Int32)) mm cc (own_min (3 : Int32) (mm + (1 : Int32))))), .unset] [])) _
          refine XS.aload X103.here hx rfl (hb hby at_267) rfl rfl ?_
          show Steps p.tables e below (T103.setTop (mkF m 269 #[.val (.int p1), .val (.int p2), .val (.int p3), .val (.int p4), .val (.int p5), .val (.int (3 : Int32)), .val (.int s0), .val (.int s1), .val (.int s2), .val (.int s3), .val (.ref b61), .val (.int mm), .val (.int cc), .val (.ref b71), .val (.int (own_b4 (own_f s0 s1 s2 (0 : Int32)) mm cc (own_min (3 : Int32) (mm + (1 : Int32))))), .unset] [(.ref b61)])) _
          refine XS.aload X103.here hx rfl (hb hby at_269) rfl rfl ?_
          show Steps p.tables e below (T103.setTop (mkF m 271 #[.val (.int p1), .val (.int p2), .val (.int p3), .val (.int p4), .val (.int p5), .val (.int (3 : Int32)), .val (.int s0), .val (.int s1), .val (.int s2), .val (.int s3), .val (.ref b61), .val (.int mm), .val (.int cc), .val (.ref b71), .val (.int (own_b4 (own_f s0 s1 s2 (0 : Int32)) mm cc (own_min (3 : Int32) (mm + (1 : Int32))))), .unset] [(.ref b71), (.ref b61)])) _
          refine XS.iload X103.here hx rfl (hb hby at_271) rfl ?_
          show Steps p.tables e below (T103.setTop (mkF m 273 #[.val (.int p1), .val (.int p2), .val (.int p3), .val (.int p4), .val (.int p5), .val (.int (3 : Int32)), .val (.int s0), .val (.int s1), .val (.int s2), .val (.int s3), .val (.ref b61), .val (.int mm), .val (.int cc), .val (.ref b71), .val (.int (own_b4 (own_f s0 s1 s2 (0 : Int32)) mm cc (own_min (3 : Int32) (mm + (1 : Int32))))), .unset] [(.int mm), (.ref b71), (.ref b61)])) _
          refine XS.iload X103.here hx rfl (hb hby at_273) rfl ?_
          show Steps p.tables e below (T103.setTop (mkF m 275 #[.val (.int p1), .val (.int p2), .val (.int p3), .val (.int p4), .val (.int p5), .val (.int (3 : Int32)), .val (.int s0), .val (.int s1), .val (.int s2), .val (.int s3), .val (.ref b61), .val (.int mm), .val (.int cc), .val (.ref b71), .val (.int (own_b4 (own_f s0 s1 s2 (0 : Int32)) mm cc (own_min (3 : Int32) (mm + (1 : Int32))))), .unset] [(.int cc), (.int mm), (.ref b71), (.ref b61)])) _
          refine st104 _ ?_
          show Steps p.tables e below (T104.setTop (mkF m 278 #[.val (.int p1), .val (.int p2), .val (.int p3), .val (.int p4), .val (.int p5), .val (.int (3 : Int32)), .val (.int s0), .val (.int s1), .val (.int s2), .val (.int s3), .val (.ref b61), .val (.int mm), .val (.int cc), .val (.ref b71), .val (.int (own_b4 (own_f s0 s1 s2 (0 : Int32)) mm cc (own_min (3 : Int32) (mm + (1 : Int32))))), .unset] [(.int (own_adv (own_f s0 s1 s2 (0 : Int32)) (own_f v0 v1 v2 (0 : Int32)) (3 : Int32) mm cc))])) _
          refine XS.istore X104.here hx rfl (hb hby at_278) rfl (l' := #[.val (.int p1), .val (.int p2), .val (.int p3), .val (.int p4), .val (.int p5), .val (.int (3 : Int32)), .val (.int s0), .val (.int s1), .val (.int s2), .val (.int s3), .val (.ref b61), .val (.int mm), .val (.int cc), .val (.ref b71), .val (.int (own_b4 (own_f s0 s1 s2 (0 : Int32)) mm cc (own_min (3 : Int32) (mm + (1 : Int32))))), .val (.int (own_adv (own_f s0 s1 s2 (0 : Int32)) (own_f v0 v1 v2 (0 : Int32)) (3 : Int32) mm cc))]) rfl ?_
          show Steps p.tables e below (T104.setTop (mkF m 280 #[.val (.int p1), .val (.int p2), .val (.int p3), .val (.int p4), .val (.int p5), .val (.int (3 : Int32)), .val (.int s0), .val (.int s1), .val (.int s2), .val (.int s3), .val (.ref b61), .val (.int mm), .val (.int cc), .val (.ref b71), .val (.int (own_b4 (own_f s0 s1 s2 (0 : Int32)) mm cc (own_min (3 : Int32) (mm + (1 : Int32))))), .val (.int (own_adv (own_f s0 s1 s2 (0 : Int32)) (own_f v0 v1 v2 (0 : Int32)) (3 : Int32) mm cc))] [])) _
          refine XS.iload X104.here hx rfl (hb hby at_280) rfl ?_
          show Steps p.tables e below (T104.setTop (mkF m 282 #[.val (.int p1), .val (.int p2), .val (.int p3), .val (.int p4), .val (.int p5), .val (.int (3 : Int32)), .val (.int s0), .val (.int s1), .val (.int s2), .val (.int s3), .val (.ref b61), .val (.int mm), .val (.int cc), .val (.ref b71), .val (.int (own_b4 (own_f s0 s1 s2 (0 : Int32)) mm cc (own_min (3 : Int32) (mm + (1 : Int32))))), .val (.int (own_adv (own_f s0 s1 s2 (0 : Int32)) (own_f v0 v1 v2 (0 : Int32)) (3 : Int32) mm cc))] [(.int (own_adv (own_f s0 s1 s2 (0 : Int32)) (own_f v0 v1 v2 (0 : Int32)) (3 : Int32) mm cc))])) _
          refine XS.iload X104.here hx rfl (hb hby at_282) rfl ?_
          show Steps p.tables e below (T104.setTop (mkF m 284 #[.val (.int p1), .val (.int p2), .val (.int p3), .val (.int p4), .val (.int p5), .val (.int (3 : Int32)), .val (.int s0), .val (.int s1), .val (.int s2), .val (.int s3), .val (.ref b61), .val (.int mm), .val (.int cc), .val (.ref b71), .val (.int (own_b4 (own_f s0 s1 s2 (0 : Int32)) mm cc (own_min (3 : Int32) (mm + (1 : Int32))))), .val (.int (own_adv (own_f s0 s1 s2 (0 : Int32)) (own_f v0 v1 v2 (0 : Int32)) (3 : Int32) mm cc))] [(.int (own_b4 (own_f s0 s1 s2 (0 : Int32)) mm cc (own_min (3 : Int32) (mm + (1 : Int32))))), (.int (own_adv (own_f s0 s1 s2 (0 : Int32)) (own_f v0 v1 v2 (0 : Int32)) (3 : Int32) mm cc))])) _
          refine XS.icmpNo X104.here hx rfl (hb hby at_284) rfl (teq (own_main s0 s1 s2 (0 : Int32) cc mm (3 : Int32) v0 v1 v2 (0 : Int32) hB (by decide) (fun q => hv0.trans (if_pos q)) (fun q => i81.trans (if_pos q)) (fun q => i92.trans (if_pos q)) (fun q => absurd q (own_no _ _ _ hB.2.1 (by decide))) : ((own_adv (own_f s0 s1 s2 (0 : Int32)) (own_f v0 v1 v2 (0 : Int32)) (3 : Int32) mm cc) = (own_b4 (own_f s0 s1 s2 (0 : Int32)) mm cc (own_min (3 : Int32) (mm + (1 : Int32))))))).2 ?_
          show Steps p.tables e below (T104.setTop (mkF m 287 #[.val (.int p1), .val (.int p2), .val (.int p3), .val (.int p4), .val (.int p5), .val (.int (3 : Int32)), .val (.int s0), .val (.int s1), .val (.int s2), .val (.int s3), .val (.ref b61), .val (.int mm), .val (.int cc), .val (.ref b71), .val (.int (own_b4 (own_f s0 s1 s2 (0 : Int32)) mm cc (own_min (3 : Int32) (mm + (1 : Int32))))), .val (.int (own_adv (own_f s0 s1 s2 (0 : Int32)) (own_f v0 v1 v2 (0 : Int32)) (3 : Int32) mm cc))] [])) _
          refine XS.iconst X104.here hx rfl (hb hby at_287) ?_
          show Steps p.tables e below (T104.setTop (mkF m 288 #[.val (.int p1), .val (.int p2), .val (.int p3), .val (.int p4), .val (.int p5), .val (.int (3 : Int32)), .val (.int s0), .val (.int s1), .val (.int s2), .val (.int s3), .val (.ref b61), .val (.int mm), .val (.int cc), .val (.ref b71), .val (.int (own_b4 (own_f s0 s1 s2 (0 : Int32)) mm cc (own_min (3 : Int32) (mm + (1 : Int32))))), .val (.int (own_adv (own_f s0 s1 s2 (0 : Int32)) (own_f v0 v1 v2 (0 : Int32)) (3 : Int32) mm cc))] [(.int (1 : Int32))])) _
          refine XS.goto X104.here hx rfl (pc0 := 288) (pc' := 292) rfl (hb hby at_288) (by decide) (by decide) ?_
          show Steps p.tables e below (T104.setTop (mkF m 292 #[.val (.int p1), .val (.int p2), .val (.int p3), .val (.int p4), .val (.int p5), .val (.int (3 : Int32)), .val (.int s0), .val (.int s1), .val (.int s2), .val (.int s3), .val (.ref b61), .val (.int mm), .val (.int cc), .val (.ref b71), .val (.int (own_b4 (own_f s0 s1 s2 (0 : Int32)) mm cc (own_min (3 : Int32) (mm + (1 : Int32))))), .val (.int (own_adv (own_f s0 s1 s2 (0 : Int32)) (own_f v0 v1 v2 (0 : Int32)) (3 : Int32) mm cc))] [(.int (1 : Int32))])) _
          exact retN X104 hx (t := .boolean) Bd.returns (by simp) (hb hby at_292) hr
        · show Q0 Z p1 p2 p3 p4 p5 h0 n0 _ T104.heap _
          rw [r104_0]
          exact ⟨rfl, N104⟩
  · obtain ⟨T105, h105, k105, X105, e105, E105, A105, st105⟩ := newP X0 hx hZ (hw _ (List.mem_of_getElem? (i := 0) rfl)) e0 (g := (mkF m 45 #[.val (.int p1), .val (.int p2), .val (.int p3), .val (.int p4), .val (.int p5), .val (.int (4 : Int32)), .val (.int s0), .val (.int s1), .val (.int s2), .val (.int s3), .unset, .unset, .unset, .unset, .unset, .unset] [(.int (4 : Int32))])) rfl (hb hby at_45) rfl (by decide) (cap := 4) (by decide) (by decide) (by decide) (by decide)
    obtain ⟨b105, g105⟩ : ∃ z, z = h0.size := ⟨_, rfl⟩
    rw [← g105] at A105 st105
    have g_b105 : n0 ≤ b105 := Nat.le_trans Z0 (Nat.le_of_eq g105.symm)
    have sz_b105 : h0.size ≤ b105 := Nat.le_trans K0.1 (Nat.le_of_eq g105.symm)
    have K105 : Keep h0 h105 [] := K0.ext E105
    have Z105 : n0 ≤ h105.size := Nat.le_trans Z0 E105.1
    have V105 : Arv Z h105 b105 k105 .int (4 : Int32) [(.int (0 : Int32)), (.int (0 : Int32)), (.int (0 : Int32)), (.int (0 : Int32))] (.int (0 : Int32)) := (Arv.new A105 (by decide)).pad (pad_rep [] (.int (0 : Int32)) 4)
    obtain ⟨cl106, Ar106, q106, S106, M106, H106, G106⟩ := id V105
    have hin106 : ¬ ((0 : Int32) < 0 ∨ cl106.slots.size ≤ ((0 : Int32)).toNatClampNeg) := inb_of S106 ⟨by decide, by decide⟩
    obtain ⟨T106, h106, X106, e106, W106, st106⟩ := stI X105 hx hZ e105 Ar106 (j := (0 : Int32)) hin106 (g := (mkF m 59 #[.val (.int p1), .val (.int p2), .val (.int p3), .val (.int p4), .val (.int p5), .val (.int (4 : Int32)), .val (.int s0), .val (.int s1), .val (.int s2), .val (.int s3), .val (.ref b105), .unset, .unset, .unset, .unset, .unset] [(.int s0), (.int (0 : Int32)), (.ref b105)])) rfl rfl (hb hby at_59)
    have V106 := Arv.set Ar106 q106 S106 M106 H106 G106 rfl W106 0 rfl (Nat.le_of_ble_eq_true rfl)
    have K106 : Keep h0 h106 [] := K105.wr W106 (Or.inr sz_b105)
    have N106 := Fr.snoc X106 N0 g_b105
    have Z106 : n0 ≤ h106.size := Nat.le_trans Z105 (Keep.of_wr W106).1
    have U106 : Arv Z h106 b105 k105 .int (4 : Int32) [(.int s0), (.int (0 : Int32)), (.int (0 : Int32)), (.int (0 : Int32))] (.int (0 : Int32)) := V106
    obtain ⟨cl108, Ar108, q108, S108, M108, H108, G108⟩ := id U106
    have hin108 : ¬ ((1 : Int32) < 0 ∨ cl108.slots.size ≤ ((1 : Int32)).toNatClampNeg) := inb_of S108 ⟨by decide, by decide⟩
    obtain ⟨T108, h108, X108, e108, W108, st108⟩ := stI X106 hx hZ e106 Ar108 (j := (1 : Int32)) hin108 (g := (mkF m 71 #[.val (.int p1), .val (.int p2), .val (.int p3), .val (.int p4), .val (.int p5), .val (.int (4 : Int32)), .val (.int s0), .val (.int s1), .val (.int s2), .val (.int s3), .val (.ref b105), .unset, .unset, .unset, .unset, .unset] [(.int s1), (.int (1 : Int32)), (.ref b105)])) rfl rfl (hb hby at_71)
    have V108 := Arv.set Ar108 q108 S108 M108 H108 G108 rfl W108 1 rfl (Nat.le_of_ble_eq_true rfl)
    have K108 : Keep h0 h108 [] := K106.wr W108 (Or.inr sz_b105)
    have N108 := Fr.snoc X108 N106 g_b105
    have Z108 : n0 ≤ h108.size := Nat.le_trans Z106 (Keep.of_wr W108).1
    have U108 : Arv Z h108 b105 k105 .int (4 : Int32) [(.int s0), (.int s1), (.int (0 : Int32)), (.int (0 : Int32))] (.int (0 : Int32)) := V108
    obtain ⟨cl110, Ar110, q110, S110, M110, H110, G110⟩ := id U108
    have hin110 : ¬ ((2 : Int32) < 0 ∨ cl110.slots.size ≤ ((2 : Int32)).toNatClampNeg) := inb_of S110 ⟨by decide, by decide⟩
    obtain ⟨T110, h110, X110, e110, W110, st110⟩ := stI X108 hx hZ e108 Ar110 (j := (2 : Int32)) hin110 (g := (mkF m 83 #[.val (.int p1), .val (.int p2), .val (.int p3), .val (.int p4), .val (.int p5), .val (.int (4 : Int32)), .val (.int s0), .val (.int s1), .val (.int s2), .val (.int s3), .val (.ref b105), .unset, .unset, .unset, .unset, .unset] [(.int s2), (.int (2 : Int32)), (.ref b105)])) rfl rfl (hb hby at_83)
    have V110 := Arv.set Ar110 q110 S110 M110 H110 G110 rfl W110 2 rfl (Nat.le_of_ble_eq_true rfl)
    have K110 : Keep h0 h110 [] := K108.wr W110 (Or.inr sz_b105)
    have N110 := Fr.snoc X110 N108 g_b105
    have Z110 : n0 ≤ h110.size := Nat.le_trans Z108 (Keep.of_wr W110).1
    have U110 : Arv Z h110 b105 k105 .int (4 : Int32) [(.int s0), (.int s1), (.int s2), (.int (0 : Int32))] (.int (0 : Int32)) := V110
    obtain ⟨cl112, Ar112, q112, S112, M112, H112, G112⟩ := id U110
    have hin112 : ¬ ((3 : Int32) < 0 ∨ cl112.slots.size ≤ ((3 : Int32)).toNatClampNeg) := inb_of S112 ⟨by decide, by decide⟩
    obtain ⟨T112, h112, X112, e112, W112, st112⟩ := stI X110 hx hZ e110 Ar112 (j := (3 : Int32)) hin112 (g := (mkF m 95 #[.val (.int p1), .val (.int p2), .val (.int p3), .val (.int p4), .val (.int p5), .val (.int (4 : Int32)), .val (.int s0), .val (.int s1), .val (.int s2), .val (.int s3), .val (.ref b105), .unset, .unset, .unset, .unset, .unset] [(.int s3), (.int (3 : Int32)), (.ref b105)])) rfl rfl (hb hby at_95)
    have V112 := Arv.set Ar112 q112 S112 M112 H112 G112 rfl W112 3 rfl (Nat.le_of_ble_eq_true rfl)
    have K112 : Keep h0 h112 [] := K110.wr W112 (Or.inr sz_b105)
    have N112 := Fr.snoc X112 N110 g_b105
    have Z112 : n0 ≤ h112.size := Nat.le_trans Z110 (Keep.of_wr W112).1
    have U112 : Arv Z h112 b105 k105 .int (4 : Int32) [(.int s0), (.int s1), (.int s2), (.int s3)] (.int (0 : Int32)) := V112
    obtain ⟨mm, hmm⟩ : ∃ z : Int32, z = ((p3 &&& (2147483647 : Int32)) % (5 : Int32)) := ⟨_, rfl⟩
    have hB : own_B mm (4 : Int32) := by rw [hmm]; exact own_mb _ _ _ (by decide) (by decide)
    have ch114 : Goes p e below s₁ (entryFrame m #[(.int p1), (.int p2), (.int p3), (.int p4), (.int p5)] maxLocals) T112 (mkF m 110 #[.val (.int p1), .val (.int p2), .val (.int p3), .val (.int p4), .val (.int p5), .val (.int (4 : Int32)), .val (.int s0), .val (.int s1), .val (.int s2), .val (.int s3), .val (.ref b105), .val (.int mm), .unset, .unset, .unset, .unset] [(.int (p4 &&& (4 : Int32)))]) := fun t kt => ch1 t (by
      show Steps p.tables e below (s₁.setTop (mkF m 43 #[.val (.int p1), .val (.int p2), .val (.int p3), .val (.int p4), .val (.int p5), .val (.int (((p2.toUInt32 >>> ((8 : Int32) &&& 31).toUInt32).toInt32) % (5 : Int32))), .val (.int s0), .val (.int s1), .val (.int s2), .val (.int s3), .unset, .unset, .unset, .unset, .unset, .unset] [])) _
      rw [hn]
      show Steps p.tables e below (s₁.setTop (mkF m 43 #[.val (.int p1), .val (.int p2), .val (.int p3), .val (.int p4), .val (.int p5), .val (.int (4 : Int32)), .val (.int s0), .val (.int s1), .val (.int s2), .val (.int s3), .unset, .unset, .unset, .unset, .unset, .unset] [])) _
      refine XS.iload X0.here hx rfl (hb hby at_43) rfl ?_
      show Steps p.tables e below (s₁.setTop (mkF m 45 #[.val (.int p1), .val (.int p2), .val (.int p3), .val (.int p4), .val (.int p5), .val (.int (4 : Int32)), .val (.int s0), .val (.int s1), .val (.int s2), .val (.int s3), .unset, .unset, .unset, .unset, .unset, .unset] [(.int (4 : Int32))])) _
      refine st105 _ ?_
      show Steps p.tables e below (T105.setTop (mkF m 47 #[.val (.int p1), .val (.int p2), .val (.int p3), .val (.int p4), .val (.int p5), .val (.int (4 : Int32)), .val (.int s0), .val (.int s1), .val (.int s2), .val (.int s3), .unset, .unset, .unset, .unset, .unset, .unset] [(.ref b105)])) _
      refine XS.astore X105.here hx rfl (hb hby at_47) rfl rfl (l' := #[.val (.int p1), .val (.int p2), .val (.int p3), .val (.int p4), .val (.int p5), .val (.int (4 : Int32)), .val (.int s0), .val (.int s1), .val (.int s2), .val (.int s3), .val (.ref b105), .unset, .unset, .unset, .unset, .unset]) rfl ?_
      show Steps p.tables e below (T105.setTop (mkF m 49 #[.val (.int p1), .val (.int p2), .val (.int p3), .val (.int p4), .val (.int p5), .val (.int (4 : Int32)), .val (.int s0), .val (.int s1), .val (.int s2), .val (.int s3), .val (.ref b105), .unset, .unset, .unset, .unset, .unset] [])) _
      refine XS.iload X105.here hx rfl (hb hby at_49) rfl ?_
      show Steps p.tables e below (T105.setTop (mkF m 51 #[.val (.int p1), .val (.int p2), .val (.int p3), .val (.int p4), .val (.int p5), .val (.int (4 : Int32)), .val (.int s0), .val (.int s1), .val (.int s2), .val (.int s3), .val (.ref b105), .unset, .unset, .unset, .unset, .unset] [(.int (4 : Int32))])) _
      refine XS.ifNo X105.here hx rfl (hb hby at_51) rfl ((if0 _ _).trans (tlt (by decide : ((0 : Int32) < (4 : Int32)))).2.2.2) ?_
      show Steps p.tables e below (T105.setTop (mkF m 54 #[.val (.int p1), .val (.int p2), .val (.int p3), .val (.int p4), .val (.int p5), .val (.int (4 : Int32)), .val (.int s0), .val (.int s1), .val (.int s2), .val (.int s3), .val (.ref b105), .unset, .unset, .unset, .unset, .unset] [])) _
      refine XS.aload X105.here hx rfl (hb hby at_54) rfl rfl ?_
      show Steps p.tables e below (T105.setTop (mkF m 56 #[.val (.int p1), .val (.int p2), .val (.int p3), .val (.int p4), .val (.int p5), .val (.int (4 : Int32)), .val (.int s0), .val (.int s1), .val (.int s2), .val (.int s3), .val (.ref b105), .unset, .unset, .unset, .unset, .unset] [(.ref b105)])) _
      refine XS.iconst X105.here hx rfl (hb hby at_56) ?_
      show Steps p.tables e below (T105.setTop (mkF m 57 #[.val (.int p1), .val (.int p2), .val (.int p3), .val (.int p4), .val (.int p5), .val (.int (4 : Int32)), .val (.int s0), .val (.int s1), .val (.int s2), .val (.int s3), .val (.ref b105), .unset, .unset, .unset, .unset, .unset] [(.int (0 : Int32)), (.ref b105)])) _
      refine XS.iload X105.here hx rfl (hb hby at_57) rfl ?_
      show Steps p.tables e below (T105.setTop (mkF m 59 #[.val (.int p1), .val (.int p2), .val (.int p3), .val (.int p4), .val (.int p5), .val (.int (4 : Int32)), .val (.int s0), .val (.int s1), .val (.int s2), .val (.int s3), .val (.ref b105), .unset, .unset, .unset, .unset, .unset] [(.int s0), (.int (0 : Int32)), (.ref b105)])) _
      refine st106 _ ?_
      show Steps p.tables e below (T106.setTop (mkF m 60 #[.val (.int p1), .val (.int p2), .val (.int p3), .val (.int p4), .val (.int p5), .val (.int (4 : Int32)), .val (.int s0), .val (.int s1), .val (.int s2), .val (.int s3), .val (.ref b105), .unset, .unset, .unset, .unset, .unset] [])) _
      refine XS.iload X106.here hx rfl (hb hby at_60) rfl ?_
      show Steps p.tables e below (T106.setTop (mkF m 62 #[.val (.int p1), .val (.int p2), .val (.int p3), .val (.int p4), .val (.int p5), .val (.int (4 : Int32)), .val (.int s0), .val (.int s1), .val (.int s2), .val (.int s3), .val (.ref b105), .unset, .unset, .unset, .unset, .unset] [(.int (4 : Int32))])) _
      refine XS.iconst X106.here hx rfl (hb hby at_62) ?_
      show Steps p.tables e below (T106.setTop (mkF m 63 #[.val (.int p1), .val (.int p2), .val (.int p3), .val (.int p4), .val (.int p5), .val (.int (4 : Int32)), .val (.int s0), .val (.int s1), .val (.int s2), .val (.int s3), .val (.ref b105), .unset, .unset, .unset, .unset, .unset] [(.int (1 : Int32)), (.int (4 : Int32))])) _
      refine XS.icmpNo X106.here hx rfl (hb hby at_63) rfl (tlt (by decide : ((1 : Int32) < (4 : Int32)))).2.2.2 ?_
      show Steps p.tables e below (T106.setTop (mkF m 66 #[.val (.int p1), .val (.int p2), .val (.int p3), .val (.int p4), .val (.int p5), .val (.int (4 : Int32)), .val (.int s0), .val (.int s1), .val (.int s2), .val (.int s3), .val (.ref b105), .unset, .unset, .unset, .unset, .unset] [])) _
      refine XS.aload X106.here hx rfl (hb hby at_66) rfl rfl ?_
      show Steps p.tables e below (T106.setTop (mkF m 68 #[.val (.int p1), .val (.int p2), .val (.int p3), .val (.int p4), .val (.int p5), .val (.int (4 : Int32)), .val (.int s0), .val (.int s1), .val (.int s2), .val (.int s3), .val (.ref b105), .unset, .unset, .unset, .unset, .unset] [(.ref b105)])) _
      refine XS.iconst X106.here hx rfl (hb hby at_68) ?_
      show Steps p.tables e below (T106.setTop (mkF m 69 #[.val (.int p1), .val (.int p2), .val (.int p3), .val (.int p4), .val (.int p5), .val (.int (4 : Int32)), .val (.int s0), .val (.int s1), .val (.int s2), .val (.int s3), .val (.ref b105), .unset, .unset, .unset, .unset, .unset] [(.int (1 : Int32)), (.ref b105)])) _
      refine XS.iload X106.here hx rfl (hb hby at_69) rfl ?_
      show Steps p.tables e below (T106.setTop (mkF m 71 #[.val (.int p1), .val (.int p2), .val (.int p3), .val (.int p4), .val (.int p5), .val (.int (4 : Int32)), .val (.int s0), .val (.int s1), .val (.int s2), .val (.int s3), .val (.ref b105), .unset, .unset, .unset, .unset, .unset] [(.int s1), (.int (1 : Int32)), (.ref b105)])) _
      refine st108 _ ?_
      show Steps p.tables e below (T108.setTop (mkF m 72 #[.val (.int p1), .val (.int p2), .val (.int p3), .val (.int p4), .val (.int p5), .val (.int (4 : Int32)), .val (.int s0), .val (.int s1), .val (.int s2), .val (.int s3), .val (.ref b105), .unset, .unset, .unset, .unset, .unset] [])) _
      refine XS.iload X108.here hx rfl (hb hby at_72) rfl ?_
      show Steps p.tables e below (T108.setTop (mkF m 74 #[.val (.int p1), .val (.int p2), .val (.int p3), .val (.int p4), .val (.int p5), .val (.int (4 : Int32)), .val (.int s0), .val (.int s1), .val (.int s2), .val (.int s3), .val (.ref b105), .unset, .unset, .unset, .unset, .unset] [(.int (4 : Int32))])) _
      refine XS.iconst X108.here hx rfl (hb hby at_74) ?_
      show Steps p.tables e below (T108.setTop (mkF m 75 #[.val (.int p1), .val (.int p2), .val (.int p3), .val (.int p4), .val (.int p5), .val (.int (4 : Int32)), .val (.int s0), .val (.int s1), .val (.int s2), .val (.int s3), .val (.ref b105), .unset, .unset, .unset, .unset, .unset] [(.int (2 : Int32)), (.int (4 : Int32))])) _
      refine XS.icmpNo X108.here hx rfl (hb hby at_75) rfl (tlt (by decide : ((2 : Int32) < (4 : Int32)))).2.2.2 ?_
      show Steps p.tables e below (T108.setTop (mkF m 78 #[.val (.int p1), .val (.int p2), .val (.int p3), .val (.int p4), .val (.int p5), .val (.int (4 : Int32)), .val (.int s0), .val (.int s1), .val (.int s2), .val (.int s3), .val (.ref b105), .unset, .unset, .unset, .unset, .unset] [])) _
      refine XS.aload X108.here hx rfl (hb hby at_78) rfl rfl ?_
      show Steps p.tables e below (T108.setTop (mkF m 80 #[.val (.int p1), .val (.int p2), .val (.int p3), .val (.int p4), .val (.int p5), .val (.int (4 : Int32)), .val (.int s0), .val (.int s1), .val (.int s2), .val (.int s3), .val (.ref b105), .unset, .unset, .unset, .unset, .unset] [(.ref b105)])) _
      refine XS.iconst X108.here hx rfl (hb hby at_80) ?_
      show Steps p.tables e below (T108.setTop (mkF m 81 #[.val (.int p1), .val (.int p2), .val (.int p3), .val (.int p4), .val (.int p5), .val (.int (4 : Int32)), .val (.int s0), .val (.int s1), .val (.int s2), .val (.int s3), .val (.ref b105), .unset, .unset, .unset, .unset, .unset] [(.int (2 : Int32)), (.ref b105)])) _
      refine XS.iload X108.here hx rfl (hb hby at_81) rfl ?_
      show Steps p.tables e below (T108.setTop (mkF m 83 #[.val (.int p1), .val (.int p2), .val (.int p3), .val (.int p4), .val (.int p5), .val (.int (4 : Int32)), .val (.int s0), .val (.int s1), .val (.int s2), .val (.int s3), .val (.ref b105), .unset, .unset, .unset, .unset, .unset] [(.int s2), (.int (2 : Int32)), (.ref b105)])) _
      refine st110 _ ?_
      show Steps p.tables e below (T110.setTop (mkF m 84 #[.val (.int p1), .val (.int p2), .val (.int p3), .val (.int p4), .val (.int p5), .val (.int (4 : Int32)), .val (.int s0), .val (.int s1), .val (.int s2), .val (.int s3), .val (.ref b105), .unset, .unset, .unset, .unset, .unset] [])) _
      refine XS.iload X110.here hx rfl (hb hby at_84) rfl ?_
      show Steps p.tables e below (T110.setTop (mkF m 86 #[.val (.int p1), .val (.int p2), .val (.int p3), .val (.int p4), .val (.int p5), .val (.int (4 : Int32)), .val (.int s0), .val (.int s1), .val (.int s2), .val (.int s3), .val (.ref b105), .unset, .unset, .unset, .unset, .unset] [(.int (4 : Int32))])) _
      refine XS.iconst X110.here hx rfl (hb hby at_86) ?_
      show Steps p.tables e below (T110.setTop (mkF m 87 #[.val (.int p1), .val (.int p2), .val (.int p3), .val (.int p4), .val (.int p5), .val (.int (4 : Int32)), .val (.int s0), .val (.int s1), .val (.int s2), .val (.int s3), .val (.ref b105), .unset, .unset, .unset, .unset, .unset] [(.int (3 : Int32)), (.int (4 : Int32))])) _
      refine XS.icmpNo X110.here hx rfl (hb hby at_87) rfl (tlt (by decide : ((3 : Int32) < (4 : Int32)))).2.2.2 ?_
      show Steps p.tables e below (T110.setTop (mkF m 90 #[.val (.int p1), .val (.int p2), .val (.int p3), .val (.int p4), .val (.int p5), .val (.int (4 : Int32)), .val (.int s0), .val (.int s1), .val (.int s2), .val (.int s3), .val (.ref b105), .unset, .unset, .unset, .unset, .unset] [])) _
      refine XS.aload X110.here hx rfl (hb hby at_90) rfl rfl ?_
      show Steps p.tables e below (T110.setTop (mkF m 92 #[.val (.int p1), .val (.int p2), .val (.int p3), .val (.int p4), .val (.int p5), .val (.int (4 : Int32)), .val (.int s0), .val (.int s1), .val (.int s2), .val (.int s3), .val (.ref b105), .unset, .unset, .unset, .unset, .unset] [(.ref b105)])) _
      refine XS.iconst X110.here hx rfl (hb hby at_92) ?_
      show Steps p.tables e below (T110.setTop (mkF m 93 #[.val (.int p1), .val (.int p2), .val (.int p3), .val (.int p4), .val (.int p5), .val (.int (4 : Int32)), .val (.int s0), .val (.int s1), .val (.int s2), .val (.int s3), .val (.ref b105), .unset, .unset, .unset, .unset, .unset] [(.int (3 : Int32)), (.ref b105)])) _
      refine XS.iload X110.here hx rfl (hb hby at_93) rfl ?_
      show Steps p.tables e below (T110.setTop (mkF m 95 #[.val (.int p1), .val (.int p2), .val (.int p3), .val (.int p4), .val (.int p5), .val (.int (4 : Int32)), .val (.int s0), .val (.int s1), .val (.int s2), .val (.int s3), .val (.ref b105), .unset, .unset, .unset, .unset, .unset] [(.int s3), (.int (3 : Int32)), (.ref b105)])) _
      refine st112 _ ?_
      show Steps p.tables e below (T112.setTop (mkF m 96 #[.val (.int p1), .val (.int p2), .val (.int p3), .val (.int p4), .val (.int p5), .val (.int (4 : Int32)), .val (.int s0), .val (.int s1), .val (.int s2), .val (.int s3), .val (.ref b105), .unset, .unset, .unset, .unset, .unset] [])) _
      refine XS.iloadN X112.here hx rfl (hb hby at_96) rfl ?_
      show Steps p.tables e below (T112.setTop (mkF m 97 #[.val (.int p1), .val (.int p2), .val (.int p3), .val (.int p4), .val (.int p5), .val (.int (4 : Int32)), .val (.int s0), .val (.int s1), .val (.int s2), .val (.int s3), .val (.ref b105), .unset, .unset, .unset, .unset, .unset] [(.int p3)])) _
      refine X112.ldcInt hx hown (mvT hZ (hw _ (List.mem_of_getElem? (i := 1) rfl))) (g := (mkF m 97 #[.val (.int p1), .val (.int p2), .val (.int p3), .val (.int p4), .val (.int p5), .val (.int (4 : Int32)), .val (.int s0), .val (.int s1), .val (.int s2), .val (.int s3), .val (.ref b105), .unset, .unset, .unset, .unset, .unset] [(.int p3)])) rfl (hb hby at_97) _ ?_
      show Steps p.tables e below (T112.setTop (mkF m 99 #[.val (.int p1), .val (.int p2), .val (.int p3), .val (.int p4), .val (.int p5), .val (.int (4 : Int32)), .val (.int s0), .val (.int s1), .val (.int s2), .val (.int s3), .val (.ref b105), .unset, .unset, .unset, .unset, .unset] [(.int (2147483647 : Int32)), (.int p3)])) _
      refine XS.iand X112.here hx rfl (hb hby at_99) rfl ?_
      show Steps p.tables e below (T112.setTop (mkF m 100 #[.val (.int p1), .val (.int p2), .val (.int p3), .val (.int p4), .val (.int p5), .val (.int (4 : Int32)), .val (.int s0), .val (.int s1), .val (.int s2), .val (.int s3), .val (.ref b105), .unset, .unset, .unset, .unset, .unset] [(.int (p3 &&& (2147483647 : Int32)))])) _
      refine XS.iload X112.here hx rfl (hb hby at_100) rfl ?_
      show Steps p.tables e below (T112.setTop (mkF m 102 #[.val (.int p1), .val (.int p2), .val (.int p3), .val (.int p4), .val (.int p5), .val (.int (4 : Int32)), .val (.int s0), .val (.int s1), .val (.int s2), .val (.int s3), .val (.ref b105), .unset, .unset, .unset, .unset, .unset] [(.int (4 : Int32)), (.int (p3 &&& (2147483647 : Int32)))])) _
      refine XS.iconst X112.here hx rfl (hb hby at_102) ?_
      show Steps p.tables e below (T112.setTop (mkF m 103 #[.val (.int p1), .val (.int p2), .val (.int p3), .val (.int p4), .val (.int p5), .val (.int (4 : Int32)), .val (.int s0), .val (.int s1), .val (.int s2), .val (.int s3), .val (.ref b105), .unset, .unset, .unset, .unset, .unset] [(.int (1 : Int32)), (.int (4 : Int32)), (.int (p3 &&& (2147483647 : Int32)))])) _
      refine XS.iadd X112.here hx rfl (hb hby at_103) rfl ?_
      show Steps p.tables e below (T112.setTop (mkF m 104 #[.val (.int p1), .val (.int p2), .val (.int p3), .val (.int p4), .val (.int p5), .val (.int (4 : Int32)), .val (.int s0), .val (.int s1), .val (.int s2), .val (.int s3), .val (.ref b105), .unset, .unset, .unset, .unset, .unset] [(.int (5 : Int32)), (.int (p3 &&& (2147483647 : Int32)))])) _
      refine iremM X112 hx rfl (hb hby at_104) rfl (by decide) ?_
      show Steps p.tables e below (T112.setTop (mkF m 105 #[.val (.int p1), .val (.int p2), .val (.int p3), .val (.int p4), .val (.int p5), .val (.int (4 : Int32)), .val (.int s0), .val (.int s1), .val (.int s2), .val (.int s3), .val (.ref b105), .unset, .unset, .unset, .unset, .unset] [(.int ((p3 &&& (2147483647 : Int32)) % (5 : Int32)))])) _
      refine XS.istore X112.here hx rfl (hb hby at_105) rfl (l' := #[.val (.int p1), .val (.int p2), .val (.int p3), .val (.int p4), .val (.int p5), .val (.int (4 : Int32)), .val (.int s0), .val (.int s1), .val (.int s2), .val (.int s3), .val (.ref b105), .val (.int ((p3 &&& (2147483647 : Int32)) % (5 : Int32))), .unset, .unset, .unset, .unset]) rfl ?_
      show Steps p.tables e below (T112.setTop (mkF m 107 #[.val (.int p1), .val (.int p2), .val (.int p3), .val (.int p4), .val (.int p5), .val (.int (4 : Int32)), .val (.int s0), .val (.int s1), .val (.int s2), .val (.int s3), .val (.ref b105), .val (.int ((p3 &&& (2147483647 : Int32)) % (5 : Int32))), .unset, .unset, .unset, .unset] [])) _
      rw [← hmm]
      show Steps p.tables e below (T112.setTop (mkF m 107 #[.val (.int p1), .val (.int p2), .val (.int p3), .val (.int p4), .val (.int p5), .val (.int (4 : Int32)), .val (.int s0), .val (.int s1), .val (.int s2), .val (.int s3), .val (.ref b105), .val (.int mm), .unset, .unset, .unset, .unset] [])) _
      refine XS.iloadN X112.here hx rfl (hb hby at_107) rfl ?_
      show Steps p.tables e below (T112.setTop (mkF m 108 #[.val (.int p1), .val (.int p2), .val (.int p3), .val (.int p4), .val (.int p5), .val (.int (4 : Int32)), .val (.int s0), .val (.int s1), .val (.int s2), .val (.int s3), .val (.ref b105), .val (.int mm), .unset, .unset, .unset, .unset] [(.int p4)])) _
      refine XS.iconst X112.here hx rfl (hb hby at_108) ?_
      show Steps p.tables e below (T112.setTop (mkF m 109 #[.val (.int p1), .val (.int p2), .val (.int p3), .val (.int p4), .val (.int p5), .val (.int (4 : Int32)), .val (.int s0), .val (.int s1), .val (.int s2), .val (.int s3), .val (.ref b105), .val (.int mm), .unset, .unset, .unset, .unset] [(.int (4 : Int32)), (.int p4)])) _
      refine XS.iand X112.here hx rfl (hb hby at_109) rfl ?_
      show Steps p.tables e below (T112.setTop (mkF m 110 #[.val (.int p1), .val (.int p2), .val (.int p3), .val (.int p4), .val (.int p5), .val (.int (4 : Int32)), .val (.int s0), .val (.int s1), .val (.int s2), .val (.int s3), .val (.ref b105), .val (.int mm), .unset, .unset, .unset, .unset] [(.int (p4 &&& (4 : Int32)))])) _
      exact kt)
    have ch116 : Goes p e below s₁ (entryFrame m #[(.int p1), (.int p2), (.int p3), (.int p4), (.int p5)] maxLocals) T112 (mkF m 122 #[.val (.int p1), .val (.int p2), .val (.int p3), .val (.int p4), .val (.int p5), .val (.int (4 : Int32)), .val (.int s0), .val (.int s1), .val (.int s2), .val (.int s3), .val (.ref b105), .val (.int mm), .unset, .unset, .unset, .unset] [(.int (if (p4 &&& (4 : Int32)) = (0 : Int32) then (p1 + (p4 &&& (3 : Int32))) else p4))]) := fun t kt => ch114 t (by
      by_cases hc115 : (p4 &&& (4 : Int32)) = (0 : Int32)
      · show Steps p.tables e below (T112.setTop (mkF m 110 #[.val (.int p1), .val (.int p2), .val (.int p3), .val (.int p4), .val (.int p5), .val (.int (4 : Int32)), .val (.int s0), .val (.int s1), .val (.int s2), .val (.int s3), .val (.ref b105), .val (.int mm), .unset, .unset, .unset, .unset] [(.int (p4 &&& (4 : Int32)))])) _
        refine XS.ifYes X112.here hx rfl (pc0 := 110) (pc' := 117) rfl (hb hby at_110) rfl ((if0 _ _).trans (teq hc115).1) (by decide) (by decide) ?_
        show Steps p.tables e below (T112.setTop (mkF m 117 #[.val (.int p1), .val (.int p2), .val (.int p3), .val (.int p4), .val (.int p5), .val (.int (4 : Int32)), .val (.int s0), .val (.int s1), .val (.int s2), .val (.int s3), .val (.ref b105), .val (.int mm), .unset, .unset, .unset, .unset] [])) _
        refine XS.iloadN X112.here hx rfl (hb hby at_117) rfl ?_
        show Steps p.tables e below (T112.setTop (mkF m 118 #[.val (.int p1), .val (.int p2), .val (.int p3), .val (.int p4), .val (.int p5), .val (.int (4 : Int32)), .val (.int s0), .val (.int s1), .val (.int s2), .val (.int s3), .val (.ref b105), .val (.int mm), .unset, .unset, .unset, .unset] [(.int p1)])) _
        refine XS.iloadN X112.here hx rfl (hb hby at_118) rfl ?_
        show Steps p.tables e below (T112.setTop (mkF m 119 #[.val (.int p1), .val (.int p2), .val (.int p3), .val (.int p4), .val (.int p5), .val (.int (4 : Int32)), .val (.int s0), .val (.int s1), .val (.int s2), .val (.int s3), .val (.ref b105), .val (.int mm), .unset, .unset, .unset, .unset] [(.int p4), (.int p1)])) _
        refine XS.iconst X112.here hx rfl (hb hby at_119) ?_
        show Steps p.tables e below (T112.setTop (mkF m 120 #[.val (.int p1), .val (.int p2), .val (.int p3), .val (.int p4), .val (.int p5), .val (.int (4 : Int32)), .val (.int s0), .val (.int s1), .val (.int s2), .val (.int s3), .val (.ref b105), .val (.int mm), .unset, .unset, .unset, .unset] [(.int (3 : Int32)), (.int p4), (.int p1)])) _
        refine XS.iand X112.here hx rfl (hb hby at_120) rfl ?_
        show Steps p.tables e below (T112.setTop (mkF m 121 #[.val (.int p1), .val (.int p2), .val (.int p3), .val (.int p4), .val (.int p5), .val (.int (4 : Int32)), .val (.int s0), .val (.int s1), .val (.int s2), .val (.int s3), .val (.ref b105), .val (.int mm), .unset, .unset, .unset, .unset] [(.int (p4 &&& (3 : Int32))), (.int p1)])) _
        refine XS.iadd X112.here hx rfl (hb hby at_121) rfl ?_
        show Steps p.tables e below (T112.setTop (mkF m 122 #[.val (.int p1), .val (.int p2), .val (.int p3), .val (.int p4), .val (.int p5), .val (.int (4 : Int32)), .val (.int s0), .val (.int s1), .val (.int s2), .val (.int s3), .val (.ref b105), .val (.int mm), .unset, .unset, .unset, .unset] [(.int (p1 + (p4 &&& (3 : Int32))))])) _
        simpa only [if_pos hc115] using kt
      · show Steps p.tables e below (T112.setTop (mkF m 110 #[.val (.int p1), .val (.int p2), .val (.int p3), .val (.int p4), .val (.int p5), .val (.int (4 : Int32)), .val (.int s0), .val (.int s1), .val (.int s2), .val (.int s3), .val (.ref b105), .val (.int mm), .unset, .unset, .unset, .unset] [(.int (p4 &&& (4 : Int32)))])) _
        refine XS.ifNo X112.here hx rfl (hb hby at_110) rfl ((if0 _ _).trans (feq hc115).1) ?_
        show Steps p.tables e below (T112.setTop (mkF m 113 #[.val (.int p1), .val (.int p2), .val (.int p3), .val (.int p4), .val (.int p5), .val (.int (4 : Int32)), .val (.int s0), .val (.int s1), .val (.int s2), .val (.int s3), .val (.ref b105), .val (.int mm), .unset, .unset, .unset, .unset] [])) _
        refine XS.iloadN X112.here hx rfl (hb hby at_113) rfl ?_
        show Steps p.tables e below (T112.setTop (mkF m 114 #[.val (.int p1), .val (.int p2), .val (.int p3), .val (.int p4), .val (.int p5), .val (.int (4 : Int32)), .val (.int s0), .val (.int s1), .val (.int s2), .val (.int s3), .val (.ref b105), .val (.int mm), .unset, .unset, .unset, .unset] [(.int p4)])) _
        refine XS.goto X112.here hx rfl (pc0 := 114) (pc' := 122) rfl (hb hby at_114) (by decide) (by decide) ?_
        show Steps p.tables e below (T112.setTop (mkF m 122 #[.val (.int p1), .val (.int p2), .val (.int p3), .val (.int p4), .val (.int p5), .val (.int (4 : Int32)), .val (.int s0), .val (.int s1), .val (.int s2), .val (.int s3), .val (.ref b105), .val (.int mm), .unset, .unset, .unset, .unset] [(.int p4)])) _
        simpa only [if_neg hc115] using kt)
    obtain ⟨cc, hcc⟩ : ∃ z : Int32, z = (if (p4 &&& (4 : Int32)) = (0 : Int32) then (p1 + (p4 &&& (3 : Int32))) else p4) := ⟨_, rfl⟩
    obtain ⟨T117, h117, k117, X117, e117, E117, A117, st117⟩ := newP X112 hx hZ (hw _ (List.mem_of_getElem? (i := 0) rfl)) e112 (g := (mkF m 126 #[.val (.int p1), .val (.int p2), .val (.int p3), .val (.int p4), .val (.int p5), .val (.int (4 : Int32)), .val (.int s0), .val (.int s1), .val (.int s2), .val (.int s3), .val (.ref b105), .val (.int mm), .val (.int cc), .unset, .unset, .unset] [(.int (4 : Int32))])) rfl (hb hby at_126) rfl (by decide) (cap := 4) (by decide) (by decide) (by decide) (by decide)
    obtain ⟨b117, g117⟩ : ∃ z, z = h112.size := ⟨_, rfl⟩
    rw [← g117] at A117 st117
    have g_b117 : n0 ≤ b117 := Nat.le_trans Z112 (Nat.le_of_eq g117.symm)
    have sz_b117 : h0.size ≤ b117 := Nat.le_trans K112.1 (Nat.le_of_eq g117.symm)
    have ne118 : b105 ≠ b117 := Nat.ne_of_lt (Nat.lt_of_lt_of_le U112.lt (Nat.le_of_eq g117.symm))
    have f119 := U112.ext E117
    have K117 : Keep h0 h117 [] := K112.ext E117
    have Z117 : n0 ≤ h117.size := Nat.le_trans Z112 E117.1
    have V117 : Arv Z h117 b117 k117 .int (4 : Int32) [(.int (0 : Int32)), (.int (0 : Int32)), (.int (0 : Int32)), (.int (0 : Int32))] (.int (0 : Int32)) := (Arv.new A117 (by decide)).pad (pad_rep [] (.int (0 : Int32)) 4)
    have ch120 : Goes p e below s₁ (entryFrame m #[(.int p1), (.int p2), (.int p3), (.int p4), (.int p5)] maxLocals) T117 (mkF m 141 #[.val (.int p1), .val (.int p2), .val (.int p3), .val (.int p4), .val (.int p5), .val (.int (4 : Int32)), .val (.int s0), .val (.int s1), .val (.int s2), .val (.int s3), .val (.ref b105), .val (.int mm), .val (.int cc), .val (.ref b117), .unset, .unset] [(.int mm), (.int (0 : Int32)), (.int (0 : Int32)), (.ref b117)]) := fun t kt => ch116 t (by
      show Steps p.tables e below (T112.setTop (mkF m 122 #[.val (.int p1), .val (.int p2), .val (.int p3), .val (.int p4), .val (.int p5), .val (.int (4 : Int32)), .val (.int s0), .val (.int s1), .val (.int s2), .val (.int s3), .val (.ref b105), .val (.int mm), .unset, .unset, .unset, .unset] [(.int (if (p4 &&& (4 : Int32)) = (0 : Int32) then (p1 + (p4 &&& (3 : Int32))) else p4))])) _
      refine XS.istore X112.here hx rfl (hb hby at_122) rfl (l' := #[.val (.int p1), .val (.int p2), .val (.int p3), .val (.int p4), .val (.int p5), .val (.int (4 : Int32)), .val (.int s0), .val (.int s1), .val (.int s2), .val (.int s3), .val (.ref b105), .val (.int mm), .val (.int (if (p4 &&& (4 : Int32)) = (0 : Int32) then (p1 + (p4 &&& (3 : Int32))) else p4)), .unset, .unset, .unset]) rfl ?_
      show Steps p.tables e below (T112.setTop (mkF m 124 #[.val (.int p1), .val (.int p2), .val (.int p3), .val (.int p4), .val (.int p5), .val (.int (4 : Int32)), .val (.int s0), .val (.int s1), .val (.int s2), .val (.int s3), .val (.ref b105), .val (.int mm), .val (.int (if (p4 &&& (4 : Int32)) = (0 : Int32) then (p1 + (p4 &&& (3 : Int32))) else p4)), .unset, .unset, .unset] [])) _
      rw [← hcc]
      show Steps p.tables e below (T112.setTop (mkF m 124 #[.val (.int p1), .val (.int p2), .val (.int p3), .val (.int p4), .val (.int p5), .val (.int (4 : Int32)), .val (.int s0), .val (.int s1), .val (.int s2), .val (.int s3), .val (.ref b105), .val (.int mm), .val (.int cc), .unset, .unset, .unset] [])) _
      refine XS.iload X112.here hx rfl (hb hby at_124) rfl ?_
      show Steps p.tables e below (T112.setTop (mkF m 126 #[.val (.int p1), .val (.int p2), .val (.int p3), .val (.int p4), .val (.int p5), .val (.int (4 : Int32)), .val (.int s0), .val (.int s1), .val (.int s2), .val (.int s3), .val (.ref b105), .val (.int mm), .val (.int cc), .unset, .unset, .unset] [(.int (4 : Int32))])) _
      refine st117 _ ?_
      show Steps p.tables e below (T117.setTop (mkF m 128 #[.val (.int p1), .val (.int p2), .val (.int p3), .val (.int p4), .val (.int p5), .val (.int (4 : Int32)), .val (.int s0), .val (.int s1), .val (.int s2), .val (.int s3), .val (.ref b105), .val (.int mm), .val (.int cc), .unset, .unset, .unset] [(.ref b117)])) _
      refine XS.astore X117.here hx rfl (hb hby at_128) rfl rfl (l' := #[.val (.int p1), .val (.int p2), .val (.int p3), .val (.int p4), .val (.int p5), .val (.int (4 : Int32)), .val (.int s0), .val (.int s1), .val (.int s2), .val (.int s3), .val (.ref b105), .val (.int mm), .val (.int cc), .val (.ref b117), .unset, .unset]) rfl ?_
      show Steps p.tables e below (T117.setTop (mkF m 130 #[.val (.int p1), .val (.int p2), .val (.int p3), .val (.int p4), .val (.int p5), .val (.int (4 : Int32)), .val (.int s0), .val (.int s1), .val (.int s2), .val (.int s3), .val (.ref b105), .val (.int mm), .val (.int cc), .val (.ref b117), .unset, .unset] [])) _
      refine XS.iload X117.here hx rfl (hb hby at_130) rfl ?_
      show Steps p.tables e below (T117.setTop (mkF m 132 #[.val (.int p1), .val (.int p2), .val (.int p3), .val (.int p4), .val (.int p5), .val (.int (4 : Int32)), .val (.int s0), .val (.int s1), .val (.int s2), .val (.int s3), .val (.ref b105), .val (.int mm), .val (.int cc), .val (.ref b117), .unset, .unset] [(.int (4 : Int32))])) _
      refine XS.ifNo X117.here hx rfl (hb hby at_132) rfl ((if0 _ _).trans (tlt (by decide : ((0 : Int32) < (4 : Int32)))).2.2.2) ?_
      show Steps p.tables e below (T117.setTop (mkF m 135 #[.val (.int p1), .val (.int p2), .val (.int p3), .val (.int p4), .val (.int p5), .val (.int (4 : Int32)), .val (.int s0), .val (.int s1), .val (.int s2), .val (.int s3), .val (.ref b105), .val (.int mm), .val (.int cc), .val (.ref b117), .unset, .unset] [])) _
      refine XS.aload X117.here hx rfl (hb hby at_135) rfl rfl ?_
      show Steps p.tables e below (T117.setTop (mkF m 137 #[.val (.int p1), .val (.int p2), .val (.int p3), .val (.int p4), .val (.int p5), .val (.int (4 : Int32)), .val (.int s0), .val (.int s1), .val (.int s2), .val (.int s3), .val (.ref b105), .val (.int mm), .val (.int cc), .val (.ref b117), .unset, .unset] [(.ref b117)])) _
      refine XS.iconst X117.here hx rfl (hb hby at_137) ?_
      show Steps p.tables e below (T117.setTop (mkF m 138 #[.val (.int p1), .val (.int p2), .val (.int p3), .val (.int p4), .val (.int p5), .val (.int (4 : Int32)), .val (.int s0), .val (.int s1), .val (.int s2), .val (.int s3), .val (.ref b105), .val (.int mm), .val (.int cc), .val (.ref b117), .unset, .unset] [(.int (0 : Int32)), (.ref b117)])) _
      refine XS.iconst X117.here hx rfl (hb hby at_138) ?_
      show Steps p.tables e below (T117.setTop (mkF m 139 #[.val (.int p1), .val (.int p2), .val (.int p3), .val (.int p4), .val (.int p5), .val (.int (4 : Int32)), .val (.int s0), .val (.int s1), .val (.int s2), .val (.int s3), .val (.ref b105), .val (.int mm), .val (.int cc), .val (.ref b117), .unset, .unset] [(.int (0 : Int32)), (.int (0 : Int32)), (.ref b117)])) _
      refine XS.iload X117.here hx rfl (hb hby at_139) rfl ?_
      show Steps p.tables e below (T117.setTop (mkF m 141 #[.val (.int p1), .val (.int p2), .val (.int p3), .val (.int p4), .val (.int p5), .val (.int (4 : Int32)), .val (.int s0), .val (.int s1), .val (.int s2), .val (.int s3), .val (.ref b105), .val (.int mm), .val (.int cc), .val (.ref b117), .unset, .unset] [(.int mm), (.int (0 : Int32)), (.int (0 : Int32)), (.ref b117)])) _
      exact kt)
    have ch122 : Goes p e below s₁ (entryFrame m #[(.int p1), (.int p2), (.int p3), (.int p4), (.int p5)] maxLocals) T117 (mkF m 150 #[.val (.int p1), .val (.int p2), .val (.int p3), .val (.int p4), .val (.int p5), .val (.int (4 : Int32)), .val (.int s0), .val (.int s1), .val (.int s2), .val (.int s3), .val (.ref b105), .val (.int mm), .val (.int cc), .val (.ref b117), .unset, .unset] [(.int (if (0 : Int32) < mm then (0 : Int32) else p5)), (.int (0 : Int32)), (.ref b117)]) := fun t kt => ch120 t (by
      by_cases hc121 : (0 : Int32) < mm
      · show Steps p.tables e below (T117.setTop (mkF m 141 #[.val (.int p1), .val (.int p2), .val (.int p3), .val (.int p4), .val (.int p5), .val (.int (4 : Int32)), .val (.int s0), .val (.int s1), .val (.int s2), .val (.int s3), .val (.ref b105), .val (.int mm), .val (.int cc), .val (.ref b117), .unset, .unset] [(.int mm), (.int (0 : Int32)), (.int (0 : Int32)), (.ref b117)])) _
        refine XS.icmpNo X117.here hx rfl (hb hby at_141) rfl (tlt hc121).2.1 ?_
        show Steps p.tables e below (T117.setTop (mkF m 144 #[.val (.int p1), .val (.int p2), .val (.int p3), .val (.int p4), .val (.int p5), .val (.int (4 : Int32)), .val (.int s0), .val (.int s1), .val (.int s2), .val (.int s3), .val (.ref b105), .val (.int mm), .val (.int cc), .val (.ref b117), .unset, .unset] [(.int (0 : Int32)), (.ref b117)])) _
        refine XS.iconst X117.here hx rfl (hb hby at_144) ?_
        show Steps p.tables e below (T117.setTop (mkF m 145 #[.val (.int p1), .val (.int p2), .val (.int p3), .val (.int p4), .val (.int p5), .val (.int (4 : Int32)), .val (.int s0), .val (.int s1), .val (.int s2), .val (.int s3), .val (.ref b105), .val (.int mm), .val (.int cc), .val (.ref b117), .unset, .unset] [(.int (0 : Int32)), (.int (0 : Int32)), (.ref b117)])) _
        refine XS.goto X117.here hx rfl (pc0 := 145) (pc' := 150) rfl (hb hby at_145) (by decide) (by decide) ?_
        show Steps p.tables e below (T117.setTop (mkF m 150 #[.val (.int p1), .val (.int p2), .val (.int p3), .val (.int p4), .val (.int p5), .val (.int (4 : Int32)), .val (.int s0), .val (.int s1), .val (.int s2), .val (.int s3), .val (.ref b105), .val (.int mm), .val (.int cc), .val (.ref b117), .unset, .unset] [(.int (0 : Int32)), (.int (0 : Int32)), (.ref b117)])) _
        simpa only [if_pos hc121] using kt
      · show Steps p.tables e below (T117.setTop (mkF m 141 #[.val (.int p1), .val (.int p2), .val (.int p3), .val (.int p4), .val (.int p5), .val (.int (4 : Int32)), .val (.int s0), .val (.int s1), .val (.int s2), .val (.int s3), .val (.ref b105), .val (.int mm), .val (.int cc), .val (.ref b117), .unset, .unset] [(.int mm), (.int (0 : Int32)), (.int (0 : Int32)), (.ref b117)])) _
        refine XS.icmpYes X117.here hx rfl (pc0 := 141) (pc' := 148) rfl (hb hby at_141) rfl (flt hc121).2.1 (by decide) (by decide) ?_
        show Steps p.tables e below (T117.setTop (mkF m 148 #[.val (.int p1), .val (.int p2), .val (.int p3), .val (.int p4), .val (.int p5), .val (.int (4 : Int32)), .val (.int s0), .val (.int s1), .val (.int s2), .val (.int s3), .val (.ref b105), .val (.int mm), .val (.int cc), .val (.ref b117), .unset, .unset] [(.int (0 : Int32)), (.ref b117)])) _
        refine XS.iload X117.here hx rfl (hb hby at_148) rfl ?_
        show Steps p.tables e below (T117.setTop (mkF m 150 #[.val (.int p1), .val (.int p2), .val (.int p3), .val (.int p4), .val (.int p5), .val (.int (4 : Int32)), .val (.int s0), .val (.int s1), .val (.int s2), .val (.int s3), .val (.ref b105), .val (.int mm), .val (.int cc), .val (.ref b117), .unset, .unset] [(.int p5), (.int (0 : Int32)), (.ref b117)])) _
        simpa only [if_neg hc121] using kt)
    obtain ⟨v0, hv0⟩ : ∃ z : Int32, z = (if (0 : Int32) < mm then (0 : Int32) else p5) := ⟨_, rfl⟩
    obtain ⟨cl123, Ar123, q123, S123, M123, H123, G123⟩ := id V117
    have hin123 : ¬ ((0 : Int32) < 0 ∨ cl123.slots.size ≤ ((0 : Int32)).toNatClampNeg) := inb_of S123 ⟨by decide, by decide⟩
    obtain ⟨T123, h123, X123, e123, W123, st123⟩ := stI X117 hx hZ e117 Ar123 (j := (0 : Int32)) hin123 (g := (mkF m 150 #[.val (.int p1), .val (.int p2), .val (.int p3), .val (.int p4), .val (.int p5), .val (.int (4 : Int32)), .val (.int s0), .val (.int s1), .val (.int s2), .val (.int s3), .val (.ref b105), .val (.int mm), .val (.int cc), .val (.ref b117), .unset, .unset] [(.int v0), (.int (0 : Int32)), (.ref b117)])) rfl rfl (hb hby at_150)
    have V123 := Arv.set Ar123 q123 S123 M123 H123 G123 rfl W123 0 rfl (Nat.le_of_ble_eq_true rfl)
    have f124 := f119.other W123 ne118
    have K123 : Keep h0 h123 [] := K117.wr W123 (Or.inr sz_b117)
    have N123 := Fr.snoc X123 N112 g_b117
    have Z123 : n0 ≤ h123.size := Nat.le_trans Z117 (Keep.of_wr W123).1
    have U123 : Arv Z h123 b117 k117 .int (4 : Int32) [(.int v0), (.int (0 : Int32)), (.int (0 : Int32)), (.int (0 : Int32))] (.int (0 : Int32)) := V123
    have ch126 : Goes p e below s₁ (entryFrame m #[(.int p1), (.int p2), (.int p3), (.int p4), (.int p5)] maxLocals) T123 (mkF m 160 #[.val (.int p1), .val (.int p2), .val (.int p3), .val (.int p4), .val (.int p5), .val (.int (4 : Int32)), .val (.int s0), .val (.int s1), .val (.int s2), .val (.int s3), .val (.ref b105), .val (.int mm), .val (.int cc), .val (.ref b117), .unset, .unset] [(.int (1 : Int32)), (.ref b117)]) := fun t kt => ch122 t (by
      show Steps p.tables e below (T117.setTop (mkF m 150 #[.val (.int p1), .val (.int p2), .val (.int p3), .val (.int p4), .val (.int p5), .val (.int (4 : Int32)), .val (.int s0), .val (.int s1), .val (.int s2), .val (.int s3), .val (.ref b105), .val (.int mm), .val (.int cc), .val (.ref b117), .unset, .unset] [(.int (if (0 : Int32) < mm then (0 : Int32) else p5)), (.int (0 : Int32)), (.ref b117)])) _
      rw [← hv0]
      show Steps p.tables e below (T117.setTop (mkF m 150 #[.val (.int p1), .val (.int p2), .val (.int p3), .val (.int p4), .val (.int p5), .val (.int (4 : Int32)), .val (.int s0), .val (.int s1), .val (.int s2), .val (.int s3), .val (.ref b105), .val (.int mm), .val (.int cc), .val (.ref b117), .unset, .unset] [(.int v0), (.int (0 : Int32)), (.ref b117)])) _
      refine st123 _ ?_
      show Steps p.tables e below (T123.setTop (mkF m 151 #[.val (.int p1), .val (.int p2), .val (.int p3), .val (.int p4), .val (.int p5), .val (.int (4 : Int32)), .val (.int s0), .val (.int s1), .val (.int s2), .val (.int s3), .val (.ref b105), .val (.int mm), .val (.int cc), .val (.ref b117), .unset, .unset] [])) _
      refine XS.iload X123.here hx rfl (hb hby at_151) rfl ?_
      show Steps p.tables e below (T123.setTop (mkF m 153 #[.val (.int p1), .val (.int p2), .val (.int p3), .val (.int p4), .val (.int p5), .val (.int (4 : Int32)), .val (.int s0), .val (.int s1), .val (.int s2), .val (.int s3), .val (.ref b105), .val (.int mm), .val (.int cc), .val (.ref b117), .unset, .unset] [(.int (4 : Int32))])) _
      refine XS.iconst X123.here hx rfl (hb hby at_153) ?_
      show Steps p.tables e below (T123.setTop (mkF m 154 #[.val (.int p1), .val (.int p2), .val (.int p3), .val (.int p4), .val (.int p5), .val (.int (4 : Int32)), .val (.int s0), .val (.int s1), .val (.int s2), .val (.int s3), .val (.ref b105), .val (.int mm), .val (.int cc), .val (.ref b117), .unset, .unset] [(.int (1 : Int32)), (.int (4 : Int32))])) _
      refine XS.icmpNo X123.here hx rfl (hb hby at_154) rfl (tlt (by decide : ((1 : Int32) < (4 : Int32)))).2.2.2 ?_
      show Steps p.tables e below (T123.setTop (mkF m 157 #[.val (.int p1), .val (.int p2), .val (.int p3), .val (.int p4), .val (.int p5), .val (.int (4 : Int32)), .val (.int s0), .val (.int s1), .val (.int s2), .val (.int s3), .val (.ref b105), .val (.int mm), .val (.int cc), .val (.ref b117), .unset, .unset] [])) _
      refine XS.aload X123.here hx rfl (hb hby at_157) rfl rfl ?_
      show Steps p.tables e below (T123.setTop (mkF m 159 #[.val (.int p1), .val (.int p2), .val (.int p3), .val (.int p4), .val (.int p5), .val (.int (4 : Int32)), .val (.int s0), .val (.int s1), .val (.int s2), .val (.int s3), .val (.ref b105), .val (.int mm), .val (.int cc), .val (.ref b117), .unset, .unset] [(.ref b117)])) _
      refine XS.iconst X123.here hx rfl (hb hby at_159) ?_
      show Steps p.tables e below (T123.setTop (mkF m 160 #[.val (.int p1), .val (.int p2), .val (.int p3), .val (.int p4), .val (.int p5), .val (.int (4 : Int32)), .val (.int s0), .val (.int s1), .val (.int s2), .val (.int s3), .val (.ref b105), .val (.int mm), .val (.int cc), .val (.ref b117), .unset, .unset] [(.int (1 : Int32)), (.ref b117)])) _
      exact kt)
    refine cps (A := ∃ (T' : State) (locs' : List Loc) (v1 : Int32), Stand p l e room_1 s m #[(.int p1), (.int p2), (.int p3), (.int p4), (.int p5)] below meth c T' locs' 2 8 ∧ T'.heap = h123 ∧ Fr n0 locs' ∧ (v1 = (if (1 : Int32) < mm then (own_b4 (own_f s0 s1 s2 s3) (1 : Int32) s1 (1 : Int32)) else p5)) ∧ Goes p e below s₁ (entryFrame m #[(.int p1), (.int p2), (.int p3), (.int p4), (.int p5)] maxLocals) T' (mkF m 182 #[.val (.int p1), .val (.int p2), .val (.int p3), .val (.int p4), .val (.int p5), .val (.int (4 : Int32)), .val (.int s0), .val (.int s1), .val (.int s2), .val (.int s3), .val (.ref b105), .val (.int mm), .val (.int cc), .val (.ref b117), .unset, .unset] [(.int v1), (.int (1 : Int32)), (.ref b117)])) ?_ ?_
    · intro kk127
      have ch128 : Goes p e below s₁ (entryFrame m #[(.int p1), (.int p2), (.int p3), (.int p4), (.int p5)] maxLocals) T123 (mkF m 163 #[.val (.int p1), .val (.int p2), .val (.int p3), .val (.int p4), .val (.int p5), .val (.int (4 : Int32)), .val (.int s0), .val (.int s1), .val (.int s2), .val (.int s3), .val (.ref b105), .val (.int mm), .val (.int cc), .val (.ref b117), .unset, .unset] [(.int mm), (.int (1 : Int32)), (.int (1 : Int32)), (.ref b117)]) := fun t kt => ch126 t (by
        show Steps p.tables e below (T123.setTop (mkF m 160 #[.val (.int p1), .val (.int p2), .val (.int p3), .val (.int p4), .val (.int p5), .val (.int (4 : Int32)), .val (.int s0), .val (.int s1), .val (.int s2), .val (.int s3), .val (.ref b105), .val (.int mm), .val (.int cc), .val (.ref b117), .unset, .unset] [(.int (1 : Int32)), (.ref b117)])) _
        refine XS.iconst X123.here hx rfl (hb hby at_160) ?_
        show Steps p.tables e below (T123.setTop (mkF m 161 #[.val (.int p1), .val (.int p2), .val (.int p3), .val (.int p4), .val (.int p5), .val (.int (4 : Int32)), .val (.int s0), .val (.int s1), .val (.int s2), .val (.int s3), .val (.ref b105), .val (.int mm), .val (.int cc), .val (.ref b117), .unset, .unset] [(.int (1 : Int32)), (.int (1 : Int32)), (.ref b117)])) _
        refine XS.iload X123.here hx rfl (hb hby at_161) rfl ?_
        show Steps p.tables e below (T123.setTop (mkF m 163 #[.val (.int p1), .val (.int p2), .val (.int p3), .val (.int p4), .val (.int p5), .val (.int (4 : Int32)), .val (.int s0), .val (.int s1), .val (.int s2), .val (.int s3), .val (.ref b105), .val (.int mm), .val (.int cc), .val (.ref b117), .unset, .unset] [(.int mm), (.int (1 : Int32)), (.int (1 : Int32)), (.ref b117)])) _
        exact kt)
      by_cases hc129 : (1 : Int32) < mm
      · obtain ⟨cl130, Ar130, -, S130, M130, H130, G130⟩ := id f124
        have hin130 : ¬ ((1 : Int32) < 0 ∨ cl130.slots.size ≤ ((1 : Int32)).toNatClampNeg) := inb_of S130 ⟨by decide, by decide⟩
        have hat130 : cl130.slots[((1 : Int32)).toNatClampNeg]? = some (.int s1) := Has.at H130 hin130 rfl
        obtain ⟨_, _, ⟨T131, L131, k131, n131⟩, -, X131, ⟨Lc131, hQ131, l131, y131, z131⟩, st131⟩ := Jvm.LawKit.callS X123 hx (y := (⟨"com/example/humble_match/humblematch/PartialMatchTableAdvancePinLaw", "best", "([IIII)I"⟩ : MethodName)) hown (mvT hZ (hw _ (List.mem_of_getElem? (i := 6) rfl))) (mvT hZ (hw _ (List.mem_of_getElem? (i := 7) rfl))) (mvT hZ (hw _ (List.mem_of_getElem? (i := 8) rfl))) (mvT hZ (hw _ (List.mem_of_getElem? (i := 9) rfl))) (by decide) (backOf (W := 2) (rm2 l Z a0 hw [] b105 (1 : Int32) s1 (1 : Int32) k105 (4 : Int32) (own_f s0 s1 s2 s3) h123 n0 Z123 f124 (by unfold own_B; decide) ⟨by decide, by decide⟩) hZ (hw _ (List.mem_of_getElem? (i := 9) rfl)) (hw _ (List.mem_of_getElem? (i := 8) rfl)) (by decide) (by decide)) (g := (mkF m 174 #[.val (.int p1), .val (.int p2), .val (.int p3), .val (.int p4), .val (.int p5), .val (.int (4 : Int32)), .val (.int s0), .val (.int s1), .val (.int s2), .val (.int s3), .val (.ref b105), .val (.int mm), .val (.int cc), .val (.ref b117), .unset, .unset] [(.int (1 : Int32)), (.int s1), (.int (1 : Int32)), (.ref b105), (.int (1 : Int32)), (.ref b117)])) rfl (by rw [hml]; rfl) (argsL := [(.ref b105), (.int (1 : Int32)), (.int s1), (.int (1 : Int32))]) (rest := [(.int (1 : Int32)), (.ref b117)]) (lenOf pd_1 rfl) rfl (by show 2 * 0 + _ ≤ _; exact Nat.le_of_eq rfl) (hb hby at_174) (fun _ _ => ⟨rfl, e123, (by decide : 2 + 0 ≤ _), (by decide : 8 + 0 ≤ _)⟩)
        dsimp only [Pt.U, Pt.locs, Pt.cells, Pt.slots] at X131 l131 y131 z131 st131 hQ131
        subst l131 y131 z131
        obtain ⟨rfl, N131q, r131_0⟩ := hQ131
        have N131 := Fr.app N123 N131q
        have ch132 : Goes p e below s₁ (entryFrame m #[(.int p1), (.int p2), (.int p3), (.int p4), (.int p5)] maxLocals) T131 (mkF m 182 #[.val (.int p1), .val (.int p2), .val (.int p3), .val (.int p4), .val (.int p5), .val (.int (4 : Int32)), .val (.int s0), .val (.int s1), .val (.int s2), .val (.int s3), .val (.ref b105), .val (.int mm), .val (.int cc), .val (.ref b117), .unset, .unset] [(.int (own_b4 (own_f s0 s1 s2 s3) (1 : Int32) s1 (1 : Int32))), (.int (1 : Int32)), (.ref b117)]) := fun t kt => ch128 t (by
          show Steps p.tables e below (T123.setTop (mkF m 163 #[.val (.int p1), .val (.int p2), .val (.int p3), .val (.int p4), .val (.int p5), .val (.int (4 : Int32)), .val (.int s0), .val (.int s1), .val (.int s2), .val (.int s3), .val (.ref b105), .val (.int mm), .val (.int cc), .val (.ref b117), .unset, .unset] [(.int mm), (.int (1 : Int32)), (.int (1 : Int32)), (.ref b117)])) _
          refine XS.icmpNo X123.here hx rfl (hb hby at_163) rfl (tlt hc129).2.1 ?_
          show Steps p.tables e below (T123.setTop (mkF m 166 #[.val (.int p1), .val (.int p2), .val (.int p3), .val (.int p4), .val (.int p5), .val (.int (4 : Int32)), .val (.int s0), .val (.int s1), .val (.int s2), .val (.int s3), .val (.ref b105), .val (.int mm), .val (.int cc), .val (.ref b117), .unset, .unset] [(.int (1 : Int32)), (.ref b117)])) _
          refine XS.aload X123.here hx rfl (hb hby at_166) rfl rfl ?_
          show Steps p.tables e below (T123.setTop (mkF m 168 #[.val (.int p1), .val (.int p2), .val (.int p3), .val (.int p4), .val (.int p5), .val (.int (4 : Int32)), .val (.int s0), .val (.int s1), .val (.int s2), .val (.int s3), .val (.ref b105), .val (.int mm), .val (.int cc), .val (.ref b117), .unset, .unset] [(.ref b105), (.int (1 : Int32)), (.ref b117)])) _
          refine XS.iconst X123.here hx rfl (hb hby at_168) ?_
          show Steps p.tables e below (T123.setTop (mkF m 169 #[.val (.int p1), .val (.int p2), .val (.int p3), .val (.int p4), .val (.int p5), .val (.int (4 : Int32)), .val (.int s0), .val (.int s1), .val (.int s2), .val (.int s3), .val (.ref b105), .val (.int mm), .val (.int cc), .val (.ref b117), .unset, .unset] [(.int (1 : Int32)), (.ref b105), (.int (1 : Int32)), (.ref b117)])) _
          refine XS.aload X123.here hx rfl (hb hby at_169) rfl rfl ?_
          show Steps p.tables e below (T123.setTop (mkF m 171 #[.val (.int p1), .val (.int p2), .val (.int p3), .val (.int p4), .val (.int p5), .val (.int (4 : Int32)), .val (.int s0), .val (.int s1), .val (.int s2), .val (.int s3), .val (.ref b105), .val (.int mm), .val (.int cc), .val (.ref b117), .unset, .unset] [(.ref b105), (.int (1 : Int32)), (.ref b105), (.int (1 : Int32)), (.ref b117)])) _
          refine XS.iconst X123.here hx rfl (hb hby at_171) ?_
          show Steps p.tables e below (T123.setTop (mkF m 172 #[.val (.int p1), .val (.int p2), .val (.int p3), .val (.int p4), .val (.int p5), .val (.int (4 : Int32)), .val (.int s0), .val (.int s1), .val (.int s2), .val (.int s3), .val (.ref b105), .val (.int mm), .val (.int cc), .val (.ref b117), .unset, .unset] [(.int (1 : Int32)), (.ref b105), (.int (1 : Int32)), (.ref b105), (.int (1 : Int32)), (.ref b117)])) _
          refine X123.iaload hx (j := (1 : Int32)) (v := (.int s1)) (by rw [e123]; exact Ar130.1) (State.isArrayOf_alike hZ.alike Ar130.2.1) Ar130.2.2 hin130 hat130 (g := (mkF m 172 #[.val (.int p1), .val (.int p2), .val (.int p3), .val (.int p4), .val (.int p5), .val (.int (4 : Int32)), .val (.int s0), .val (.int s1), .val (.int s2), .val (.int s3), .val (.ref b105), .val (.int mm), .val (.int cc), .val (.ref b117), .unset, .unset] [(.int (1 : Int32)), (.ref b105), (.int (1 : Int32)), (.ref b105), (.int (1 : Int32)), (.ref b117)])) rfl rfl (hb hby at_172) _ ?_
          show Steps p.tables e below (T123.setTop (mkF m 173 #[.val (.int p1), .val (.int p2), .val (.int p3), .val (.int p4), .val (.int p5), .val (.int (4 : Int32)), .val (.int s0), .val (.int s1), .val (.int s2), .val (.int s3), .val (.ref b105), .val (.int mm), .val (.int cc), .val (.ref b117), .unset, .unset] [(.int s1), (.int (1 : Int32)), (.ref b105), (.int (1 : Int32)), (.ref b117)])) _
          refine XS.iconst X123.here hx rfl (hb hby at_173) ?_
          show Steps p.tables e below (T123.setTop (mkF m 174 #[.val (.int p1), .val (.int p2), .val (.int p3), .val (.int p4), .val (.int p5), .val (.int (4 : Int32)), .val (.int s0), .val (.int s1), .val (.int s2), .val (.int s3), .val (.ref b105), .val (.int mm), .val (.int cc), .val (.ref b117), .unset, .unset] [(.int (1 : Int32)), (.int s1), (.int (1 : Int32)), (.ref b105), (.int (1 : Int32)), (.ref b117)])) _
          refine st131 _ ?_
          show Steps p.tables e below (T131.setTop (mkF m 177 #[.val (.int p1), .val (.int p2), .val (.int p3), .val (.int p4), .val (.int p5), .val (.int (4 : Int32)), .val (.int s0), .val (.int s1), .val (.int s2), .val (.int s3), .val (.ref b105), .val (.int mm), .val (.int cc), .val (.ref b117), .unset, .unset] [(.int (own_b4 (own_f s0 s1 s2 s3) (1 : Int32) s1 (1 : Int32))), (.int (1 : Int32)), (.ref b117)])) _
          refine XS.goto X131.here hx rfl (pc0 := 177) (pc' := 182) rfl (hb hby at_177) (by decide) (by decide) ?_
          show Steps p.tables e below (T131.setTop (mkF m 182 #[.val (.int p1), .val (.int p2), .val (.int p3), .val (.int p4), .val (.int p5), .val (.int (4 : Int32)), .val (.int s0), .val (.int s1), .val (.int s2), .val (.int s3), .val (.ref b105), .val (.int mm), .val (.int cc), .val (.ref b117), .unset, .unset] [(.int (own_b4 (own_f s0 s1 s2 s3) (1 : Int32) s1 (1 : Int32))), (.int (1 : Int32)), (.ref b117)])) _
          exact kt)
        exact kk127 ⟨T131, _, (own_b4 (own_f s0 s1 s2 s3) (1 : Int32) s1 (1 : Int32)), X131, r131_0, N131, (if_pos hc129).symm, ch132⟩
      · have ch133 : Goes p e below s₁ (entryFrame m #[(.int p1), (.int p2), (.int p3), (.int p4), (.int p5)] maxLocals) T123 (mkF m 182 #[.val (.int p1), .val (.int p2), .val (.int p3), .val (.int p4), .val (.int p5), .val (.int (4 : Int32)), .val (.int s0), .val (.int s1), .val (.int s2), .val (.int s3), .val (.ref b105), .val (.int mm), .val (.int cc), .val (.ref b117), .unset, .unset] [(.int p5), (.int (1 : Int32)), (.ref b117)]) := fun t kt => ch128 t (by
          show Steps p.tables e below (T123.setTop (mkF m 163 #[.val (.int p1), .val (.int p2), .val (.int p3), .val (.int p4), .val (.int p5), .val (.int (4 : Int32)), .val (.int s0), .val (.int s1), .val (.int s2), .val (.int s3), .val (.ref b105), .val (.int mm), .val (.int cc), .val (.ref b117), .unset, .unset] [(.int mm), (.int (1 : Int32)), (.int (1 : Int32)), (.ref b117)])) _
          refine XS.icmpYes X123.here hx rfl (pc0 := 163) (pc' := 180) rfl (hb hby at_163) rfl (flt hc129).2.1 (by decide) (by decide) ?_
          show Steps p.tables e below (T123.setTop (mkF m 180 #[.val (.int p1), .val (.int p2), .val (.int p3), .val (.int p4), .val (.int p5), .val (.int (4 : Int32)), .val (.int s0), .val (.int s1), .val (.int s2), .val (.int s3), .val (.ref b105), .val (.int mm), .val (.int cc), .val (.ref b117), .unset, .unset] [(.int (1 : Int32)), (.ref b117)])) _
          refine XS.iload X123.here hx rfl (hb hby at_180) rfl ?_
          show Steps p.tables e below (T123.setTop (mkF m 182 #[.val (.int p1), .val (.int p2), .val (.int p3), .val (.int p4), .val (.int p5), .val (.int (4 : Int32)), .val (.int s0), .val (.int s1), .val (.int s2), .val (.int s3), .val (.ref b105), .val (.int mm), .val (.int cc), .val (.ref b117), .unset, .unset] [(.int p5), (.int (1 : Int32)), (.ref b117)])) _
          exact kt)
        exact kk127 ⟨T123, _, p5, X123, e123, N123, (if_neg hc129).symm, ch133⟩
    · rintro ⟨T127, lo127, v1, X127, e127, N127, i127, ch127⟩
      obtain ⟨cl134, Ar134, q134, S134, M134, H134, G134⟩ := id U123
      have hin134 : ¬ ((1 : Int32) < 0 ∨ cl134.slots.size ≤ ((1 : Int32)).toNatClampNeg) := inb_of S134 ⟨by decide, by decide⟩
      obtain ⟨T134, h134, X134, e134, W134, st134⟩ := stI X127 hx hZ e127 Ar134 (j := (1 : Int32)) hin134 (g := (mkF m 182 #[.val (.int p1), .val (.int p2), .val (.int p3), .val (.int p4), .val (.int p5), .val (.int (4 : Int32)), .val (.int s0), .val (.int s1), .val (.int s2), .val (.int s3), .val (.ref b105), .val (.int mm), .val (.int cc), .val (.ref b117), .unset, .unset] [(.int v1), (.int (1 : Int32)), (.ref b117)])) rfl rfl (hb hby at_182)
      have V134 := Arv.set Ar134 q134 S134 M134 H134 G134 rfl W134 1 rfl (Nat.le_of_ble_eq_true rfl)
      have f135 := f124.other W134 ne118
      have K134 : Keep h0 h134 [] := K123.wr W134 (Or.inr sz_b117)
      have N134 := Fr.snoc X134 N127 g_b117
      have Z134 : n0 ≤ h134.size := Nat.le_trans Z123 (Keep.of_wr W134).1
      have U134 : Arv Z h134 b117 k117 .int (4 : Int32) [(.int v0), (.int v1), (.int (0 : Int32)), (.int (0 : Int32))] (.int (0 : Int32)) := V134
      have ch137 : Goes p e below s₁ (entryFrame m #[(.int p1), (.int p2), (.int p3), (.int p4), (.int p5)] maxLocals) T134 (mkF m 192 #[.val (.int p1), .val (.int p2), .val (.int p3), .val (.int p4), .val (.int p5), .val (.int (4 : Int32)), .val (.int s0), .val (.int s1), .val (.int s2), .val (.int s3), .val (.ref b105), .val (.int mm), .val (.int cc), .val (.ref b117), .unset, .unset] [(.int (2 : Int32)), (.ref b117)]) := fun t kt => ch127 t (by
        show Steps p.tables e below (T127.setTop (mkF m 182 #[.val (.int p1), .val (.int p2), .val (.int p3), .val (.int p4), .val (.int p5), .val (.int (4 : Int32)), .val (.int s0), .val (.int s1), .val (.int s2), .val (.int s3), .val (.ref b105), .val (.int mm), .val (.int cc), .val (.ref b117), .unset, .unset] [(.int v1), (.int (1 : Int32)), (.ref b117)])) _
        refine st134 _ ?_
        show Steps p.tables e below (T134.setTop (mkF m 183 #[.val (.int p1), .val (.int p2), .val (.int p3), .val (.int p4), .val (.int p5), .val (.int (4 : Int32)), .val (.int s0), .val (.int s1), .val (.int s2), .val (.int s3), .val (.ref b105), .val (.int mm), .val (.int cc), .val (.ref b117), .unset, .unset] [])) _
        refine XS.iload X134.here hx rfl (hb hby at_183) rfl ?_
        show Steps p.tables e below (T134.setTop (mkF m 185 #[.val (.int p1), .val (.int p2), .val (.int p3), .val (.int p4), .val (.int p5), .val (.int (4 : Int32)), .val (.int s0), .val (.int s1), .val (.int s2), .val (.int s3), .val (.ref b105), .val (.int mm), .val (.int cc), .val (.ref b117), .unset, .unset] [(.int (4 : Int32))])) _
        refine XS.iconst X134.here hx rfl (hb hby at_185) ?_
        show Steps p.tables e below (T134.setTop (mkF m 186 #[.val (.int p1), .val (.int p2), .val (.int p3), .val (.int p4), .val (.int p5), .val (.int (4 : Int32)), .val (.int s0), .val (.int s1), .val (.int s2), .val (.int s3), .val (.ref b105), .val (.int mm), .val (.int cc), .val (.ref b117), .unset, .unset] [(.int (2 : Int32)), (.int (4 : Int32))])) _
        refine XS.icmpNo X134.here hx rfl (hb hby at_186) rfl (tlt (by decide : ((2 : Int32) < (4 : Int32)))).2.2.2 ?_
        show Steps p.tables e below (T134.setTop (mkF m 189 #[.val (.int p1), .val (.int p2), .val (.int p3), .val (.int p4), .val (.int p5), .val (.int (4 : Int32)), .val (.int s0), .val (.int s1), .val (.int s2), .val (.int s3), .val (.ref b105), .val (.int mm), .val (.int cc), .val (.ref b117), .unset, .unset] [])) _
        refine XS.aload X134.here hx rfl (hb hby at_189) rfl rfl ?_
        show Steps p.tables e below (T134.setTop (mkF m 191 #[.val (.int p1), .val (.int p2), .val (.int p3), .val (.int p4), .val (.int p5), .val (.int (4 : Int32)), .val (.int s0), .val (.int s1), .val (.int s2), .val (.int s3), .val (.ref b105), .val (.int mm), .val (.int cc), .val (.ref b117), .unset, .unset] [(.ref b117)])) _
        refine XS.iconst X134.here hx rfl (hb hby at_191) ?_
        show Steps p.tables e below (T134.setTop (mkF m 192 #[.val (.int p1), .val (.int p2), .val (.int p3), .val (.int p4), .val (.int p5), .val (.int (4 : Int32)), .val (.int s0), .val (.int s1), .val (.int s2), .val (.int s3), .val (.ref b105), .val (.int mm), .val (.int cc), .val (.ref b117), .unset, .unset] [(.int (2 : Int32)), (.ref b117)])) _
        exact kt)
      refine cps (A := ∃ (T' : State) (locs' : List Loc) (v2 : Int32), Stand p l e room_1 s m #[(.int p1), (.int p2), (.int p3), (.int p4), (.int p5)] below meth c T' locs' 2 8 ∧ T'.heap = h134 ∧ Fr n0 locs' ∧ (v2 = (if (2 : Int32) < mm then (own_b4 (own_f s0 s1 s2 s3) (2 : Int32) s2 (2 : Int32)) else p5)) ∧ Goes p e below s₁ (entryFrame m #[(.int p1), (.int p2), (.int p3), (.int p4), (.int p5)] maxLocals) T' (mkF m 214 #[.val (.int p1), .val (.int p2), .val (.int p3), .val (.int p4), .val (.int p5), .val (.int (4 : Int32)), .val (.int s0), .val (.int s1), .val (.int s2), .val (.int s3), .val (.ref b105), .val (.int mm), .val (.int cc), .val (.ref b117), .unset, .unset] [(.int v2), (.int (2 : Int32)), (.ref b117)])) ?_ ?_
      · intro kk138
        have ch139 : Goes p e below s₁ (entryFrame m #[(.int p1), (.int p2), (.int p3), (.int p4), (.int p5)] maxLocals) T134 (mkF m 195 #[.val (.int p1), .val (.int p2), .val (.int p3), .val (.int p4), .val (.int p5), .val (.int (4 : Int32)), .val (.int s0), .val (.int s1), .val (.int s2), .val (.int s3), .val (.ref b105), .val (.int mm), .val (.int cc), .val (.ref b117), .unset, .unset] [(.int mm), (.int (2 : Int32)), (.int (2 : Int32)), (.ref b117)]) := fun t kt => ch137 t (by
          show Steps p.tables e below (T134.setTop (mkF m 192 #[.val (.int p1), .val (.int p2), .val (.int p3), .val (.int p4), .val (.int p5), .val (.int (4 : Int32)), .val (.int s0), .val (.int s1), .val (.int s2), .val (.int s3), .val (.ref b105), .val (.int mm), .val (.int cc), .val (.ref b117), .unset, .unset] [(.int (2 : Int32)), (.ref b117)])) _
          refine XS.iconst X134.here hx rfl (hb hby at_192) ?_
          show Steps p.tables e below (T134.setTop (mkF m 193 #[.val (.int p1), .val (.int p2), .val (.int p3), .val (.int p4), .val (.int p5), .val (.int (4 : Int32)), .val (.int s0), .val (.int s1), .val (.int s2), .val (.int s3), .val (.ref b105), .val (.int mm), .val (.int cc), .val (.ref b117), .unset, .unset] [(.int (2 : Int32)), (.int (2 : Int32)), (.ref b117)])) _
          refine XS.iload X134.here hx rfl (hb hby at_193) rfl ?_
          show Steps p.tables e below (T134.setTop (mkF m 195 #[.val (.int p1), .val (.int p2), .val (.int p3), .val (.int p4), .val (.int p5), .val (.int (4 : Int32)), .val (.int s0), .val (.int s1), .val (.int s2), .val (.int s3), .val (.ref b105), .val (.int mm), .val (.int cc), .val (.ref b117), .unset, .unset] [(.int mm), (.int (2 : Int32)), (.int (2 : Int32)), (.ref b117)])) _
          exact kt)
        by_cases hc140 : (2 : Int32) < mm
        · obtain ⟨cl141, Ar141, -, S141, M141, H141, G141⟩ := id f135
          have hin141 : ¬ ((2 : Int32) < 0 ∨ cl141.slots.size ≤ ((2 : Int32)).toNatClampNeg) := inb_of S141 ⟨by decide, by decide⟩
          have hat141 : cl141.slots[((2 : Int32)).toNatClampNeg]? = some (.int s2) := Has.at H141 hin141 rfl
          obtain ⟨_, _, ⟨T142, L142, k142, n142⟩, -, X142, ⟨Lc142, hQ142, l142, y142, z142⟩, st142⟩ := Jvm.LawKit.callS X134 hx (y := (⟨"com/example/humble_match/humblematch/PartialMatchTableAdvancePinLaw", "best", "([IIII)I"⟩ : MethodName)) hown (mvT hZ (hw _ (List.mem_of_getElem? (i := 6) rfl))) (mvT hZ (hw _ (List.mem_of_getElem? (i := 7) rfl))) (mvT hZ (hw _ (List.mem_of_getElem? (i := 8) rfl))) (mvT hZ (hw _ (List.mem_of_getElem? (i := 9) rfl))) (by decide) (backOf (W := 2) (rm2 l Z a0 hw [] b105 (2 : Int32) s2 (2 : Int32) k105 (4 : Int32) (own_f s0 s1 s2 s3) h134 n0 Z134 f135 (by unfold own_B; decide) ⟨by decide, by decide⟩) hZ (hw _ (List.mem_of_getElem? (i := 9) rfl)) (hw _ (List.mem_of_getElem? (i := 8) rfl)) (by decide) (by decide)) (g := (mkF m 206 #[.val (.int p1), .val (.int p2), .val (.int p3), .val (.int p4), .val (.int p5), .val (.int (4 : Int32)), .val (.int s0), .val (.int s1), .val (.int s2), .val (.int s3), .val (.ref b105), .val (.int mm), .val (.int cc), .val (.ref b117), .unset, .unset] [(.int (2 : Int32)), (.int s2), (.int (2 : Int32)), (.ref b105), (.int (2 : Int32)), (.ref b117)])) rfl (by rw [hml]; rfl) (argsL := [(.ref b105), (.int (2 : Int32)), (.int s2), (.int (2 : Int32))]) (rest := [(.int (2 : Int32)), (.ref b117)]) (lenOf pd_1 rfl) rfl (by show 2 * 0 + _ ≤ _; exact Nat.le_of_eq rfl) (hb hby at_206) (fun _ _ => ⟨rfl, e134, (by decide : 2 + 0 ≤ _), (by decide : 8 + 0 ≤ _)⟩)
          dsimp only [Pt.U, Pt.locs, Pt.cells, Pt.slots] at X142 l142 y142 z142 st142 hQ142
          subst l142 y142 z142
          obtain ⟨rfl, N142q, r142_0⟩ := hQ142
          have N142 := Fr.app N134 N142q
          have ch143 : Goes p e below s₁ (entryFrame m #[(.int p1), (.int p2), (.int p3), (.int p4), (.int p5)] maxLocals) T142 (mkF m 214 #[.val (.int p1), .val (.int p2), .val (.int p3), .val (.int p4), .val (.int p5), .val (.int (4 : Int32)), .val (.int s0), .val (.int s1), .val (.int s2), .val (.int s3), .val (.ref b105), .val (.int mm), .val (.int cc), .val (.ref b117), .unset, .unset] [(.int (own_b4 (own_f s0 s1 s2 s3) (2 : Int32) s2 (2 : Int32))), (.int (2 : Int32)), (.ref b117)]) := fun t kt => ch139 t (by
            show Steps p.tables e below (T134.setTop (mkF m 195 #[.val (.int p1), .val (.int p2), .val (.int p3), .val (.int p4), .val (.int p5), .val (.int (4 : Int32)), .val (.int s0), .val (.int s1), .val (.int s2), .val (.int s3), .val (.ref b105), .val (.int mm), .val (.int cc), .val (.ref b117), .unset, .unset] [(.int mm), (.int (2 : Int32)), (.int (2 : Int32)), (.ref b117)])) _
            refine XS.icmpNo X134.here hx rfl (hb hby at_195) rfl (tlt hc140).2.1 ?_
            show Steps p.tables e below (T134.setTop (mkF m 198 #[.val (.int p1), .val (.int p2), .val (.int p3), .val (.int p4), .val (.int p5), .val (.int (4 : Int32)), .val (.int s0), .val (.int s1), .val (.int s2), .val (.int s3), .val (.ref b105), .val (.int mm), .val (.int cc), .val (.ref b117), .unset, .unset] [(.int (2 : Int32)), (.ref b117)])) _
            refine XS.aload X134.here hx rfl (hb hby at_198) rfl rfl ?_
            show Steps p.tables e below (T134.setTop (mkF m 200 #[.val (.int p1), .val (.int p2), .val (.int p3), .val (.int p4), .val (.int p5), .val (.int (4 : Int32)), .val (.int s0), .val (.int s1), .val (.int s2), .val (.int s3), .val (.ref b105), .val (.int mm), .val (.int cc), .val (.ref b117), .unset, .unset] [(.ref b105), (.int (2 : Int32)), (.ref b117)])) _
            refine XS.iconst X134.here hx rfl (hb hby at_200) ?_
            show Steps p.tables e below (T134.setTop (mkF m 201 #[.val (.int p1), .val (.int p2), .val (.int p3), .val (.int p4), .val (.int p5), .val (.int (4 : Int32)), .val (.int s0), .val (.int s1), .val (.int s2), .val (.int s3), .val (.ref b105), .val (.int mm), .val (.int cc), .val (.ref b117), .unset, .unset] [(.int (2 : Int32)), (.ref b105), (.int (2 : Int32)), (.ref b117)])) _
            refine XS.aload X134.here hx rfl (hb hby at_201) rfl rfl ?_
            show Steps p.tables e below (T134.setTop (mkF m 203 #[.val (.int p1), .val (.int p2), .val (.int p3), .val (.int p4), .val (.int p5), .val (.int (4 : Int32)), .val (.int s0), .val (.int s1), .val (.int s2), .val (.int s3), .val (.ref b105), .val (.int mm), .val (.int cc), .val (.ref b117), .unset, .unset] [(.ref b105), (.int (2 : Int32)), (.ref b105), (.int (2 : Int32)), (.ref b117)])) _
            refine XS.iconst X134.here hx rfl (hb hby at_203) ?_
            show Steps p.tables e below (T134.setTop (mkF m 204 #[.val (.int p1), .val (.int p2), .val (.int p3), .val (.int p4), .val (.int p5), .val (.int (4 : Int32)), .val (.int s0), .val (.int s1), .val (.int s2), .val (.int s3), .val (.ref b105), .val (.int mm), .val (.int cc), .val (.ref b117), .unset, .unset] [(.int (2 : Int32)), (.ref b105), (.int (2 : Int32)), (.ref b105), (.int (2 : Int32)), (.ref b117)])) _
            refine X134.iaload hx (j := (2 : Int32)) (v := (.int s2)) (by rw [e134]; exact Ar141.1) (State.isArrayOf_alike hZ.alike Ar141.2.1) Ar141.2.2 hin141 hat141 (g := (mkF m 204 #[.val (.int p1), .val (.int p2), .val (.int p3), .val (.int p4), .val (.int p5), .val (.int (4 : Int32)), .val (.int s0), .val (.int s1), .val (.int s2), .val (.int s3), .val (.ref b105), .val (.int mm), .val (.int cc), .val (.ref b117), .unset, .unset] [(.int (2 : Int32)), (.ref b105), (.int (2 : Int32)), (.ref b105), (.int (2 : Int32)), (.ref b117)])) rfl rfl (hb hby at_204) _ ?_
            show Steps p.tables e below (T134.setTop (mkF m 205 #[.val (.int p1), .val (.int p2), .val (.int p3), .val (.int p4), .val (.int p5), .val (.int (4 : Int32)), .val (.int s0), .val (.int s1), .val (.int s2), .val (.int s3), .val (.ref b105), .val (.int mm), .val (.int cc), .val (.ref b117), .unset, .unset] [(.int s2), (.int (2 : Int32)), (.ref b105), (.int (2 : Int32)), (.ref b117)])) _
            refine XS.iconst X134.here hx rfl (hb hby at_205) ?_
            show Steps p.tables e below (T134.setTop (mkF m 206 #[.val (.int p1), .val (.int p2), .val (.int p3), .val (.int p4), .val (.int p5), .val (.int (4 : Int32)), .val (.int s0), .val (.int s1), .val (.int s2), .val (.int s3), .val (.ref b105), .val (.int mm), .val (.int cc), .val (.ref b117), .unset, .unset] [(.int (2 : Int32)), (.int s2), (.int (2 : Int32)), (.ref b105), (.int (2 : Int32)), (.ref b117)])) _
            refine st142 _ ?_
            show Steps p.tables e below (T142.setTop (mkF m 209 #[.val (.int p1), .val (.int p2), .val (.int p3), .val (.int p4), .val (.int p5), .val (.int (4 : Int32)), .val (.int s0), .val (.int s1), .val (.int s2), .val (.int s3), .val (.ref b105), .val (.int mm), .val (.int cc), .val (.ref b117), .unset, .unset] [(.int (own_b4 (own_f s0 s1 s2 s3) (2 : Int32) s2 (2 : Int32))), (.int (2 : Int32)), (.ref b117)])) _
            refine XS.goto X142.here hx rfl (pc0 := 209) (pc' := 214) rfl (hb hby at_209) (by decide) (by decide) ?_
            show Steps p.tables e below (T142.setTop (mkF m 214 #[.val (.int p1), .val (.int p2), .val (.int p3), .val (.int p4), .val (.int p5), .val (.int (4 : Int32)), .val (.int s0), .val (.int s1), .val (.int s2), .val (.int s3), .val (.ref b105), .val (.int mm), .val (.int cc), .val (.ref b117), .unset, .unset] [(.int (own_b4 (own_f s0 s1 s2 s3) (2 : Int32) s2 (2 : Int32))), (.int (2 : Int32)), (.ref b117)])) _
            exact kt)
          exact kk138 ⟨T142, _, (own_b4 (own_f s0 s1 s2 s3) (2 : Int32) s2 (2 : Int32)), X142, r142_0, N142, (if_pos hc140).symm, ch143⟩
        · have ch144 : Goes p e below s₁ (entryFrame m #[(.int p1), (.int p2), (.int p3), (.int p4), (.int p5)] maxLocals) T134 (mkF m 214 #[.val (.int p1), .val (.int p2), .val (.int p3), .val (.int p4), .val (.int p5), .val (.int (4 : Int32)), .val (.int s0), .val (.int s1), .val (.int s2), .val (.int s3), .val (.ref b105), .val (.int mm), .val (.int cc), .val (.ref b117), .unset, .unset] [(.int p5), (.int (2 : Int32)), (.ref b117)]) := fun t kt => ch139 t (by
            show Steps p.tables e below (T134.setTop (mkF m 195 #[.val (.int p1), .val (.int p2), .val (.int p3), .val (.int p4), .val (.int p5), .val (.int (4 : Int32)), .val (.int s0), .val (.int s1), .val (.int s2), .val (.int s3), .val (.ref b105), .val (.int mm), .val (.int cc), .val (.ref b117), .unset, .unset] [(.int mm), (.int (2 : Int32)), (.int (2 : Int32)), (.ref b117)])) _
            refine XS.icmpYes X134.here hx rfl (pc0 := 195) (pc' := 212) rfl (hb hby at_195) rfl (flt hc140).2.1 (by decide) (by decide) ?_
            show Steps p.tables e below (T134.setTop (mkF m 212 #[.val (.int p1), .val (.int p2), .val (.int p3), .val (.int p4), .val (.int p5), .val (.int (4 : Int32)), .val (.int s0), .val (.int s1), .val (.int s2), .val (.int s3), .val (.ref b105), .val (.int mm), .val (.int cc), .val (.ref b117), .unset, .unset] [(.int (2 : Int32)), (.ref b117)])) _
            refine XS.iload X134.here hx rfl (hb hby at_212) rfl ?_
            show Steps p.tables e below (T134.setTop (mkF m 214 #[.val (.int p1), .val (.int p2), .val (.int p3), .val (.int p4), .val (.int p5), .val (.int (4 : Int32)), .val (.int s0), .val (.int s1), .val (.int s2), .val (.int s3), .val (.ref b105), .val (.int mm), .val (.int cc), .val (.ref b117), .unset, .unset] [(.int p5), (.int (2 : Int32)), (.ref b117)])) _
            exact kt)
          exact kk138 ⟨T134, _, p5, X134, e134, N134, (if_neg hc140).symm, ch144⟩
      · rintro ⟨T138, lo138, v2, X138, e138, N138, i138, ch138⟩
        obtain ⟨cl145, Ar145, q145, S145, M145, H145, G145⟩ := id U134
        have hin145 : ¬ ((2 : Int32) < 0 ∨ cl145.slots.size ≤ ((2 : Int32)).toNatClampNeg) := inb_of S145 ⟨by decide, by decide⟩
        obtain ⟨T145, h145, X145, e145, W145, st145⟩ := stI X138 hx hZ e138 Ar145 (j := (2 : Int32)) hin145 (g := (mkF m 214 #[.val (.int p1), .val (.int p2), .val (.int p3), .val (.int p4), .val (.int p5), .val (.int (4 : Int32)), .val (.int s0), .val (.int s1), .val (.int s2), .val (.int s3), .val (.ref b105), .val (.int mm), .val (.int cc), .val (.ref b117), .unset, .unset] [(.int v2), (.int (2 : Int32)), (.ref b117)])) rfl rfl (hb hby at_214)
        have V145 := Arv.set Ar145 q145 S145 M145 H145 G145 rfl W145 2 rfl (Nat.le_of_ble_eq_true rfl)
        have f146 := f135.other W145 ne118
        have K145 : Keep h0 h145 [] := K134.wr W145 (Or.inr sz_b117)
        have N145 := Fr.snoc X145 N138 g_b117
        have Z145 : n0 ≤ h145.size := Nat.le_trans Z134 (Keep.of_wr W145).1
        have U145 : Arv Z h145 b117 k117 .int (4 : Int32) [(.int v0), (.int v1), (.int v2), (.int (0 : Int32))] (.int (0 : Int32)) := V145
        have ch148 : Goes p e below s₁ (entryFrame m #[(.int p1), (.int p2), (.int p3), (.int p4), (.int p5)] maxLocals) T145 (mkF m 224 #[.val (.int p1), .val (.int p2), .val (.int p3), .val (.int p4), .val (.int p5), .val (.int (4 : Int32)), .val (.int s0), .val (.int s1), .val (.int s2), .val (.int s3), .val (.ref b105), .val (.int mm), .val (.int cc), .val (.ref b117), .unset, .unset] [(.int (3 : Int32)), (.ref b117)]) := fun t kt => ch138 t (by
          show Steps p.tables e below (T138.setTop (mkF m 214 #[.val (.int p1), .val (.int p2), .val (.int p3), .val (.int p4), .val (.int p5), .val (.int (4 : Int32)), .val (.int s0), .val (.int s1), .val (.int s2), .val (.int s3), .val (.ref b105), .val (.int mm), .val (.int cc), .val (.ref b117), .unset, .unset] [(.int v2), (.int (2 : Int32)), (.ref b117)])) _
          refine st145 _ ?_
          show Steps p.tables e below (T145.setTop (mkF m 215 #[.val (.int p1), .val (.int p2), .val (.int p3), .val (.int p4), .val (.int p5), .val (.int (4 : Int32)), .val (.int s0), .val (.int s1), .val (.int s2), .val (.int s3), .val (.ref b105), .val (.int mm), .val (.int cc), .val (.ref b117), .unset, .unset] [])) _
          refine XS.iload X145.here hx rfl (hb hby at_215) rfl ?_
          show Steps p.tables e below (T145.setTop (mkF m 217 #[.val (.int p1), .val (.int p2), .val (.int p3), .val (.int p4), .val (.int p5), .val (.int (4 : Int32)), .val (.int s0), .val (.int s1), .val (.int s2), .val (.int s3), .val (.ref b105), .val (.int mm), .val (.int cc), .val (.ref b117), .unset, .unset] [(.int (4 : Int32))])) _
          refine XS.iconst X145.here hx rfl (hb hby at_217) ?_
          show Steps p.tables e below (T145.setTop (mkF m 218 #[.val (.int p1), .val (.int p2), .val (.int p3), .val (.int p4), .val (.int p5), .val (.int (4 : Int32)), .val (.int s0), .val (.int s1), .val (.int s2), .val (.int s3), .val (.ref b105), .val (.int mm), .val (.int cc), .val (.ref b117), .unset, .unset] [(.int (3 : Int32)), (.int (4 : Int32))])) _
          refine XS.icmpNo X145.here hx rfl (hb hby at_218) rfl (tlt (by decide : ((3 : Int32) < (4 : Int32)))).2.2.2 ?_
          show Steps p.tables e below (T145.setTop (mkF m 221 #[.val (.int p1), .val (.int p2), .val (.int p3), .val (.int p4), .val (.int p5), .val (.int (4 : Int32)), .val (.int s0), .val (.int s1), .val (.int s2), .val (.int s3), .val (.ref b105), .val (.int mm), .val (.int cc), .val (.ref b117), .unset, .unset] [])) _
          refine XS.aload X145.here hx rfl (hb hby at_221) rfl rfl ?_
          show Steps p.tables e below (T145.setTop (mkF m 223 #[.val (.int p1), .val (.int p2), .val (.int p3), .val (.int p4), .val (.int p5), .val (.int (4 : Int32)), .val (.int s0), .val (.int s1), .val (.int s2), .val (.int s3), .val (.ref b105), .val (.int mm), .val (.int cc), .val (.ref b117), .unset, .unset] [(.ref b117)])) _
          refine XS.iconst X145.here hx rfl (hb hby at_223) ?_
          show Steps p.tables e below (T145.setTop (mkF m 224 #[.val (.int p1), .val (.int p2), .val (.int p3), .val (.int p4), .val (.int p5), .val (.int (4 : Int32)), .val (.int s0), .val (.int s1), .val (.int s2), .val (.int s3), .val (.ref b105), .val (.int mm), .val (.int cc), .val (.ref b117), .unset, .unset] [(.int (3 : Int32)), (.ref b117)])) _
          exact kt)
        refine cps (A := ∃ (T' : State) (locs' : List Loc) (v3 : Int32), Stand p l e room_1 s m #[(.int p1), (.int p2), (.int p3), (.int p4), (.int p5)] below meth c T' locs' 2 8 ∧ T'.heap = h145 ∧ Fr n0 locs' ∧ (v3 = (if (3 : Int32) < mm then (own_b4 (own_f s0 s1 s2 s3) (3 : Int32) s3 (3 : Int32)) else p5)) ∧ Goes p e below s₁ (entryFrame m #[(.int p1), (.int p2), (.int p3), (.int p4), (.int p5)] maxLocals) T' (mkF m 246 #[.val (.int p1), .val (.int p2), .val (.int p3), .val (.int p4), .val (.int p5), .val (.int (4 : Int32)), .val (.int s0), .val (.int s1), .val (.int s2), .val (.int s3), .val (.ref b105), .val (.int mm), .val (.int cc), .val (.ref b117), .unset, .unset] [(.int v3), (.int (3 : Int32)), (.ref b117)])) ?_ ?_
        · intro kk149
          have ch150 : Goes p e below s₁ (entryFrame m #[(.int p1), (.int p2), (.int p3), (.int p4), (.int p5)] maxLocals) T145 (mkF m 227 #[.val (.int p1), .val (.int p2), .val (.int p3), .val (.int p4), .val (.int p5), .val (.int (4 : Int32)), .val (.int s0), .val (.int s1), .val (.int s2), .val (.int s3), .val (.ref b105), .val (.int mm), .val (.int cc), .val (.ref b117), .unset, .unset] [(.int mm), (.int (3 : Int32)), (.int (3 : Int32)), (.ref b117)]) := fun t kt => ch148 t (by
            show Steps p.tables e below (T145.setTop (mkF m 224 #[.val (.int p1), .val (.int p2), .val (.int p3), .val (.int p4), .val (.int p5), .val (.int (4 : Int32)), .val (.int s0), .val (.int s1), .val (.int s2), .val (.int s3), .val (.ref b105), .val (.int mm), .val (.int cc), .val (.ref b117), .unset, .unset] [(.int (3 : Int32)), (.ref b117)])) _
            refine XS.iconst X145.here hx rfl (hb hby at_224) ?_
            show Steps p.tables e below (T145.setTop (mkF m 225 #[.val (.int p1), .val (.int p2), .val (.int p3), .val (.int p4), .val (.int p5), .val (.int (4 : Int32)), .val (.int s0), .val (.int s1), .val (.int s2), .val (.int s3), .val (.ref b105), .val (.int mm), .val (.int cc), .val (.ref b117), .unset, .unset] [(.int (3 : Int32)), (.int (3 : Int32)), (.ref b117)])) _
            refine XS.iload X145.here hx rfl (hb hby at_225) rfl ?_
            show Steps p.tables e below (T145.setTop (mkF m 227 #[.val (.int p1), .val (.int p2), .val (.int p3), .val (.int p4), .val (.int p5), .val (.int (4 : Int32)), .val (.int s0), .val (.int s1), .val (.int s2), .val (.int s3), .val (.ref b105), .val (.int mm), .val (.int cc), .val (.ref b117), .unset, .unset] [(.int mm), (.int (3 : Int32)), (.int (3 : Int32)), (.ref b117)])) _
            exact kt)
          by_cases hc151 : (3 : Int32) < mm
          · obtain ⟨cl152, Ar152, -, S152, M152, H152, G152⟩ := id f146
            have hin152 : ¬ ((3 : Int32) < 0 ∨ cl152.slots.size ≤ ((3 : Int32)).toNatClampNeg) := inb_of S152 ⟨by decide, by decide⟩
            have hat152 : cl152.slots[((3 : Int32)).toNatClampNeg]? = some (.int s3) := Has.at H152 hin152 rfl
            obtain ⟨_, _, ⟨T153, L153, k153, n153⟩, -, X153, ⟨Lc153, hQ153, l153, y153, z153⟩, st153⟩ := Jvm.LawKit.callS X145 hx (y := (⟨"com/example/humble_match/humblematch/PartialMatchTableAdvancePinLaw", "best", "([IIII)I"⟩ : MethodName)) hown (mvT hZ (hw _ (List.mem_of_getElem? (i := 6) rfl))) (mvT hZ (hw _ (List.mem_of_getElem? (i := 7) rfl))) (mvT hZ (hw _ (List.mem_of_getElem? (i := 8) rfl))) (mvT hZ (hw _ (List.mem_of_getElem? (i := 9) rfl))) (by decide) (backOf (W := 2) (rm2 l Z a0 hw [] b105 (3 : Int32) s3 (3 : Int32) k105 (4 : Int32) (own_f s0 s1 s2 s3) h145 n0 Z145 f146 (by unfold own_B; decide) ⟨by decide, by decide⟩) hZ (hw _ (List.mem_of_getElem? (i := 9) rfl)) (hw _ (List.mem_of_getElem? (i := 8) rfl)) (by decide) (by decide)) (g := (mkF m 238 #[.val (.int p1), .val (.int p2), .val (.int p3), .val (.int p4), .val (.int p5), .val (.int (4 : Int32)), .val (.int s0), .val (.int s1), .val (.int s2), .val (.int s3), .val (.ref b105), .val (.int mm), .val (.int cc), .val (.ref b117), .unset, .unset] [(.int (3 : Int32)), (.int s3), (.int (3 : Int32)), (.ref b105), (.int (3 : Int32)), (.ref b117)])) rfl (by rw [hml]; rfl) (argsL := [(.ref b105), (.int (3 : Int32)), (.int s3), (.int (3 : Int32))]) (rest := [(.int (3 : Int32)), (.ref b117)]) (lenOf pd_1 rfl) rfl (by show 2 * 0 + _ ≤ _; exact Nat.le_of_eq rfl) (hb hby at_238) (fun _ _ => ⟨rfl, e145, (by decide : 2 + 0 ≤ _), (by decide : 8 + 0 ≤ _)⟩)
            dsimp only [Pt.U, Pt.locs, Pt.cells, Pt.slots] at X153 l153 y153 z153 st153 hQ153
            subst l153 y153 z153
            obtain ⟨rfl, N153q, r153_0⟩ := hQ153
            have N153 := Fr.app N145 N153q
            have ch154 : Goes p e below s₁ (entryFrame m #[(.int p1), (.int p2), (.int p3), (.int p4), (.int p5)] maxLocals) T153 (mkF m 246 #[.val (.int p1), .val (.int p2), .val (.int p3), .val (.int p4), .val (.int p5), .val (.int (4 : Int32)), .val (.int s0), .val (.int s1), .val (.int s2), .val (.int s3), .val (.ref b105), .val (.int mm), .val (.int cc), .val (.ref b117), .unset, .unset] [(.int (own_b4 (own_f s0 s1 s2 s3) (3 : Int32) s3 (3 : Int32))), (.int (3 : Int32)), (.ref b117)]) := fun t kt => ch150 t (by
              show Steps p.tables e below (T145.setTop (mkF m 227 #[.val (.int p1), .val (.int p2), .val (.int p3), .val (.int p4), .val (.int p5), .val (.int (4 : Int32)), .val (.int s0), .val (.int s1), .val (.int s2), .val (.int s3), .val (.ref b105), .val (.int mm), .val (.int cc), .val (.ref b117), .unset, .unset] [(.int mm), (.int (3 : Int32)), (.int (3 : Int32)), (.ref b117)])) _
              refine XS.icmpNo X145.here hx rfl (hb hby at_227) rfl (tlt hc151).2.1 ?_
              show Steps p.tables e below (T145.setTop (mkF m 230 #[.val (.int p1), .val (.int p2), .val (.int p3), .val (.int p4), .val (.int p5), .val (.int (4 : Int32)), .val (.int s0), .val (.int s1), .val (.int s2), .val (.int s3), .val (.ref b105), .val (.int mm), .val (.int cc), .val (.ref b117), .unset, .unset] [(.int (3 : Int32)), (.ref b117)])) _
              refine XS.aload X145.here hx rfl (hb hby at_230) rfl rfl ?_
              show Steps p.tables e below (T145.setTop (mkF m 232 #[.val (.int p1), .val (.int p2), .val (.int p3), .val (.int p4), .val (.int p5), .val (.int (4 : Int32)), .val (.int s0), .val (.int s1), .val (.int s2), .val (.int s3), .val (.ref b105), .val (.int mm), .val (.int cc), .val (.ref b117), .unset, .unset] [(.ref b105), (.int (3 : Int32)), (.ref b117)])) _
              refine XS.iconst X145.here hx rfl (hb hby at_232) ?_
              show Steps p.tables e below (T145.setTop (mkF m 233 #[.val (.int p1), .val (.int p2), .val (.int p3), .val (.int p4), .val (.int p5), .val (.int (4 : Int32)), .val (.int s0), .val (.int s1), .val (.int s2), .val (.int s3), .val (.ref b105), .val (.int mm), .val (.int cc), .val (.ref b117), .unset, .unset] [(.int (3 : Int32)), (.ref b105), (.int (3 : Int32)), (.ref b117)])) _
              refine XS.aload X145.here hx rfl (hb hby at_233) rfl rfl ?_
              show Steps p.tables e below (T145.setTop (mkF m 235 #[.val (.int p1), .val (.int p2), .val (.int p3), .val (.int p4), .val (.int p5), .val (.int (4 : Int32)), .val (.int s0), .val (.int s1), .val (.int s2), .val (.int s3), .val (.ref b105), .val (.int mm), .val (.int cc), .val (.ref b117), .unset, .unset] [(.ref b105), (.int (3 : Int32)), (.ref b105), (.int (3 : Int32)), (.ref b117)])) _
              refine XS.iconst X145.here hx rfl (hb hby at_235) ?_
              show Steps p.tables e below (T145.setTop (mkF m 236 #[.val (.int p1), .val (.int p2), .val (.int p3), .val (.int p4), .val (.int p5), .val (.int (4 : Int32)), .val (.int s0), .val (.int s1), .val (.int s2), .val (.int s3), .val (.ref b105), .val (.int mm), .val (.int cc), .val (.ref b117), .unset, .unset] [(.int (3 : Int32)), (.ref b105), (.int (3 : Int32)), (.ref b105), (.int (3 : Int32)), (.ref b117)])) _
              refine X145.iaload hx (j := (3 : Int32)) (v := (.int s3)) (by rw [e145]; exact Ar152.1) (State.isArrayOf_alike hZ.alike Ar152.2.1) Ar152.2.2 hin152 hat152 (g := (mkF m 236 #[.val (.int p1), .val (.int p2), .val (.int p3), .val (.int p4), .val (.int p5), .val (.int (4 : Int32)), .val (.int s0), .val (.int s1), .val (.int s2), .val (.int s3), .val (.ref b105), .val (.int mm), .val (.int cc), .val (.ref b117), .unset, .unset] [(.int (3 : Int32)), (.ref b105), (.int (3 : Int32)), (.ref b105), (.int (3 : Int32)), (.ref b117)])) rfl rfl (hb hby at_236) _ ?_
              show Steps p.tables e below (T145.setTop (mkF m 237 #[.val (.int p1), .val (.int p2), .val (.int p3), .val (.int p4), .val (.int p5), .val (.int (4 : Int32)), .val (.int s0), .val (.int s1), .val (.int s2), .val (.int s3), .val (.ref b105), .val (.int mm), .val (.int cc), .val (.ref b117), .unset, .unset] [(.int s3), (.int (3 : Int32)), (.ref b105), (.int (3 : Int32)), (.ref b117)])) _
              refine XS.iconst X145.here hx rfl (hb hby at_237) ?_
              show Steps p.tables e below (T145.setTop (mkF m 238 #[.val (.int p1), .val (.int p2), .val (.int p3), .val (.int p4), .val (.int p5), .val (.int (4 : Int32)), .val (.int s0), .val (.int s1), .val (.int s2), .val (.int s3), .val (.ref b105), .val (.int mm), .val (.int cc), .val (.ref b117), .unset, .unset] [(.int (3 : Int32)), (.int s3), (.int (3 : Int32)), (.ref b105), (.int (3 : Int32)), (.ref b117)])) _
              refine st153 _ ?_
              show Steps p.tables e below (T153.setTop (mkF m 241 #[.val (.int p1), .val (.int p2), .val (.int p3), .val (.int p4), .val (.int p5), .val (.int (4 : Int32)), .val (.int s0), .val (.int s1), .val (.int s2), .val (.int s3), .val (.ref b105), .val (.int mm), .val (.int cc), .val (.ref b117), .unset, .unset] [(.int (own_b4 (own_f s0 s1 s2 s3) (3 : Int32) s3 (3 : Int32))), (.int (3 : Int32)), (.ref b117)])) _
              refine XS.goto X153.here hx rfl (pc0 := 241) (pc' := 246) rfl (hb hby at_241) (by decide) (by decide) ?_
              show Steps p.tables e below (T153.setTop (mkF m 246 #[.val (.int p1), .val (.int p2), .val (.int p3), .val (.int p4), .val (.int p5), .val (.int (4 : Int32)), .val (.int s0), .val (.int s1), .val (.int s2), .val (.int s3), .val (.ref b105), .val (.int mm), .val (.int cc), .val (.ref b117), .unset, .unset] [(.int (own_b4 (own_f s0 s1 s2 s3) (3 : Int32) s3 (3 : Int32))), (.int (3 : Int32)), (.ref b117)])) _
              exact kt)
            exact kk149 ⟨T153, _, (own_b4 (own_f s0 s1 s2 s3) (3 : Int32) s3 (3 : Int32)), X153, r153_0, N153, (if_pos hc151).symm, ch154⟩
          · have ch155 : Goes p e below s₁ (entryFrame m #[(.int p1), (.int p2), (.int p3), (.int p4), (.int p5)] maxLocals) T145 (mkF m 246 #[.val (.int p1), .val (.int p2), .val (.int p3), .val (.int p4), .val (.int p5), .val (.int (4 : Int32)), .val (.int s0), .val (.int s1), .val (.int s2), .val (.int s3), .val (.ref b105), .val (.int mm), .val (.int cc), .val (.ref b117), .unset, .unset] [(.int p5), (.int (3 : Int32)), (.ref b117)]) := fun t kt => ch150 t (by
              show Steps p.tables e below (T145.setTop (mkF m 227 #[.val (.int p1), .val (.int p2), .val (.int p3), .val (.int p4), .val (.int p5), .val (.int (4 : Int32)), .val (.int s0), .val (.int s1), .val (.int s2), .val (.int s3), .val (.ref b105), .val (.int mm), .val (.int cc), .val (.ref b117), .unset, .unset] [(.int mm), (.int (3 : Int32)), (.int (3 : Int32)), (.ref b117)])) _
              refine XS.icmpYes X145.here hx rfl (pc0 := 227) (pc' := 244) rfl (hb hby at_227) rfl (flt hc151).2.1 (by decide) (by decide) ?_
              show Steps p.tables e below (T145.setTop (mkF m 244 #[.val (.int p1), .val (.int p2), .val (.int p3), .val (.int p4), .val (.int p5), .val (.int (4 : Int32)), .val (.int s0), .val (.int s1), .val (.int s2), .val (.int s3), .val (.ref b105), .val (.int mm), .val (.int cc), .val (.ref b117), .unset, .unset] [(.int (3 : Int32)), (.ref b117)])) _
              refine XS.iload X145.here hx rfl (hb hby at_244) rfl ?_
              show Steps p.tables e below (T145.setTop (mkF m 246 #[.val (.int p1), .val (.int p2), .val (.int p3), .val (.int p4), .val (.int p5), .val (.int (4 : Int32)), .val (.int s0), .val (.int s1), .val (.int s2), .val (.int s3), .val (.ref b105), .val (.int mm), .val (.int cc), .val (.ref b117), .unset, .unset] [(.int p5), (.int (3 : Int32)), (.ref b117)])) _
              exact kt)
            exact kk149 ⟨T145, _, p5, X145, e145, N145, (if_neg hc151).symm, ch155⟩
        · rintro ⟨T149, lo149, v3, X149, e149, N149, i149, ch149⟩
          obtain ⟨cl156, Ar156, q156, S156, M156, H156, G156⟩ := id U145
          have hin156 : ¬ ((3 : Int32) < 0 ∨ cl156.slots.size ≤ ((3 : Int32)).toNatClampNeg) := inb_of S156 ⟨by decide, by decide⟩
          obtain ⟨T156, h156, X156, e156, W156, st156⟩ := stI X149 hx hZ e149 Ar156 (j := (3 : Int32)) hin156 (g := (mkF m 246 #[.val (.int p1), .val (.int p2), .val (.int p3), .val (.int p4), .val (.int p5), .val (.int (4 : Int32)), .val (.int s0), .val (.int s1), .val (.int s2), .val (.int s3), .val (.ref b105), .val (.int mm), .val (.int cc), .val (.ref b117), .unset, .unset] [(.int v3), (.int (3 : Int32)), (.ref b117)])) rfl rfl (hb hby at_246)
          have V156 := Arv.set Ar156 q156 S156 M156 H156 G156 rfl W156 3 rfl (Nat.le_of_ble_eq_true rfl)
          have f157 := f146.other W156 ne118
          have K156 : Keep h0 h156 [] := K145.wr W156 (Or.inr sz_b117)
          have N156 := Fr.snoc X156 N149 g_b117
          have Z156 : n0 ≤ h156.size := Nat.le_trans Z145 (Keep.of_wr W156).1
          have U156 : Arv Z h156 b117 k117 .int (4 : Int32) [(.int v0), (.int v1), (.int v2), (.int v3)] (.int (0 : Int32)) := V156
          obtain ⟨_, _, ⟨T159, L159, k159, n159⟩, -, X159, ⟨Lc159, hQ159, l159, y159, z159⟩, st159⟩ := Jvm.LawKit.callS X156 hx (y := (⟨"java/lang/Math", "min", "(II)I"⟩ : MethodName)) hown (mvT hZ (hw _ (List.mem_of_getElem? (i := 2) rfl))) (mvT hZ (hw _ (List.mem_of_getElem? (i := 3) rfl))) (mvT hZ (hw _ (List.mem_of_getElem? (i := 4) rfl))) (mvT hZ (hw _ (List.mem_of_getElem? (i := 5) rfl))) (by decide) (backOf (W := 3) (rm1 l Z a0 hw [] (4 : Int32) (mm + (1 : Int32)) h156 n0 Z156) hZ (hw _ (List.mem_of_getElem? (i := 5) rfl)) (hw _ (List.mem_of_getElem? (i := 4) rfl)) (by decide) (by decide)) (g := (mkF m 259 #[.val (.int p1), .val (.int p2), .val (.int p3), .val (.int p4), .val (.int p5), .val (.int (4 : Int32)), .val (.int s0), .val (.int s1), .val (.int s2), .val (.int s3), .val (.ref b105), .val (.int mm), .val (.int cc), .val (.ref b117), .unset, .unset] [(.int (mm + (1 : Int32))), (.int (4 : Int32)), (.int cc), (.int mm), (.ref b105)])) rfl (by rw [hml]; rfl) (argsL := [(.int (4 : Int32)), (.int (mm + (1 : Int32)))]) (rest := [(.int cc), (.int mm), (.ref b105)]) (lenOf pd_0 rfl) rfl (by show 2 * 0 + _ ≤ _; exact Nat.le_of_eq rfl) (hb hby at_259) (fun _ _ => ⟨rfl, e156, (by decide : 2 + 0 ≤ _), (by decide : 8 + 0 ≤ _)⟩)
          dsimp only [Pt.U, Pt.locs, Pt.cells, Pt.slots] at X159 l159 y159 z159 st159 hQ159
          subst l159 y159 z159
          obtain ⟨rfl, N159q, r159_0⟩ := hQ159
          have N159 := Fr.app N156 N159q
          obtain ⟨_, _, ⟨T160, L160, k160, n160⟩, -, X160, ⟨Lc160, hQ160, l160, y160, z160⟩, st160⟩ := Jvm.LawKit.callS X159 hx (y := (⟨"com/example/humble_match/humblematch/PartialMatchTableAdvancePinLaw", "best", "([IIII)I"⟩ : MethodName)) hown (mvT hZ (hw _ (List.mem_of_getElem? (i := 6) rfl))) (mvT hZ (hw _ (List.mem_of_getElem? (i := 7) rfl))) (mvT hZ (hw _ (List.mem_of_getElem? (i := 8) rfl))) (mvT hZ (hw _ (List.mem_of_getElem? (i := 9) rfl))) (by decide) (backOf (W := 0) (rm2 l Z a0 hw [] b105 mm cc (own_min (4 : Int32) (mm + (1 : Int32))) k105 (4 : Int32) (own_f s0 s1 s2 s3) h156 n0 Z156 f157 hB (own_mink (4 : Int32) mm hB)) hZ (hw _ (List.mem_of_getElem? (i := 9) rfl)) (hw _ (List.mem_of_getElem? (i := 8) rfl)) (by decide) (by decide)) (g := (mkF m 262 #[.val (.int p1), .val (.int p2), .val (.int p3), .val (.int p4), .val (.int p5), .val (.int (4 : Int32)), .val (.int s0), .val (.int s1), .val (.int s2), .val (.int s3), .val (.ref b105), .val (.int mm), .val (.int cc), .val (.ref b117), .unset, .unset] [(.int (own_min (4 : Int32) (mm + (1 : Int32)))), (.int cc), (.int mm), (.ref b105)])) rfl (by rw [hml]; rfl) (argsL := [(.ref b105), (.int mm), (.int cc), (.int (own_min (4 : Int32) (mm + (1 : Int32))))]) (rest := []) (lenOf pd_1 rfl) rfl (by show 2 * 0 + _ ≤ _; exact Nat.le_of_eq rfl) (hb hby at_262) (fun _ _ => ⟨rfl, r159_0, (by decide : 2 + 0 ≤ _), (by decide : 8 + 0 ≤ _)⟩)
          dsimp only [Pt.U, Pt.locs, Pt.cells, Pt.slots] at X160 l160 y160 z160 st160 hQ160
          subst l160 y160 z160
          obtain ⟨rfl, N160q, r160_0⟩ := hQ160
          have N160 := Fr.app N159 N160q
          obtain ⟨_, _, ⟨T161, L161, k161, n161⟩, -, X161, ⟨Lc161, hQ161, l161, y161, z161⟩, st161⟩ := Jvm.LawKit.callS X160 hx (y := (⟨"com/example/humble_match/humblematch/PartialMatchTable", "advance", "([I[III)I"⟩ : MethodName)) hown (mvT hZ (hw _ (List.mem_of_getElem? (i := 10) rfl))) (mvT hZ (hw _ (List.mem_of_getElem? (i := 11) rfl))) (mvT hZ (hw _ (List.mem_of_getElem? (i := 12) rfl))) (mvT hZ (hw _ (List.mem_of_getElem? (i := 13) rfl))) (by decide) (backOf (W := 0) (rm3 l Z a0 hw [] b105 b117 mm cc k105 k117 (4 : Int32) (own_f s0 s1 s2 s3) (own_f v0 v1 v2 v3) h156 n0 Z156 f157 U156 hB (own_hg (own_f s0 s1 s2 s3) mm (4 : Int32) v0 v1 v2 v3 hB (fun q => hv0.trans (if_pos q)) (fun q => i127.trans (if_pos q)) (fun q => i138.trans (if_pos q)) (fun q => i149.trans (if_pos q)))) hZ (hw _ (List.mem_of_getElem? (i := 13) rfl)) (hw _ (List.mem_of_getElem? (i := 12) rfl)) (by decide) (by decide)) (g := (mkF m 275 #[.val (.int p1), .val (.int p2), .val (.int p3), .val (.int p4), .val (.int p5), .val (.int (4 : Int32)), .val (.int s0), .val (.int s1), .val (.int s2), .val (.int s3), .val (.ref b105), .val (.int mm), .val (.int cc), .val (.ref b117), .val (.int (own_b4 (own_f s0 s1 s2 s3) mm cc (own_min (4 : Int32) (mm + (1 : Int32))))), .unset] [(.int cc), (.int mm), (.ref b117), (.ref b105)])) rfl (by rw [hml]; rfl) (argsL := [(.ref b105), (.ref b117), (.int mm), (.int cc)]) (rest := []) (lenOf pd_2 rfl) rfl (by show 2 * 0 + _ ≤ _; exact Nat.le_of_eq rfl) (hb hby at_275) (fun _ _ => ⟨rfl, r160_0, (by decide : 2 + 0 ≤ _), (by decide : 8 + 0 ≤ _)⟩)
          dsimp only [Pt.U, Pt.locs, Pt.cells, Pt.slots] at X161 l161 y161 z161 st161 hQ161
          subst l161 y161 z161
          obtain ⟨rfl, N161q, r161_0⟩ := hQ161
          have N161 := Fr.app N160 N161q
          obtain ⟨fs, hr, hrun, hended, hW, hsame⟩ := X161.leave (v := some (.int (1 : Int32))) (fun h => by rw [Bd.returns] at h; cases h)
          refine ⟨_, _, ch149 _ ?_, hrun, hended, _, _, rfl, ?_, ⟨_, rfl⟩, hW, hsame.mono (by decide) (by decide)⟩
          · show Steps p.tables e below (T149.setTop (mkF m 246 #[.val (.int p1), .val (.int p2), .val (.int p3), .val (.int p4), .val (.int p5), .val (.int (4 : Int32)), .val (.int s0), .val (.int s1), .val (.int s2), .val (.int s3), .val (.ref b105), .val (.int mm), .val (.int cc), .val (.ref b117), .unset, .unset] [(.int v3), (.int (3 : Int32)), (.ref b117)])) _
            refine st156 _ ?_
            show Steps p.tables e below (T156.setTop (mkF m 247 #[.val (.int p1), .val (.int p2), .val (.int p3), .val (.int p4), .val (.int p5), .val (.int (4 : Int32)), .val (.int s0), .val (.int s1), .val (.int s2), .val (.int s3), .val (.ref b105), .val (.int mm), .val (.int cc), .val (.ref b117), .unset, .unset] [])) _
            refine XS.aload X156.here hx rfl (hb hby at_247) rfl rfl ?_
            show Steps p.tables e below (T156.setTop (mkF m 249 #[.val (.int p1), .val (.int p2), .val (.int p3), .val (.int p4), .val (.int p5), .val (.int (4 : Int32)), .val (.int s0), .val (.int s1), .val (.int s2), .val (.int s3), .val (.ref b105), .val (.int mm), .val (.int cc), .val (.ref b117), .unset, .unset] [(.ref b105)])) _
            refine XS.iload X156.here hx rfl (hb hby at_249) rfl ?_
            show Steps p.tables e below (T156.setTop (mkF m 251 #[.val (.int p1), .val (.int p2), .val (.int p3), .val (.int p4), .val (.int p5), .val (.int (4 : Int32)), .val (.int s0), .val (.int s1), .val (.int s2), .val (.int s3), .val (.ref b105), .val (.int mm), .val (.int cc), .val (.ref b117), .unset, .unset] [(.int mm), (.ref b105)])) _
            refine XS.iload X156.here hx rfl (hb hby at_251) rfl ?_
            show Steps p.tables e below (T156.setTop (mkF m 253 #[.val (.int p1), .val (.int p2), .val (.int p3), .val (.int p4), .val (.int p5), .val (.int (4 : Int32)), .val (.int s0), .val (.int s1), .val (.int s2), .val (.int s3), .val (.ref b105), .val (.int mm), .val (.int cc), .val (.ref b117), .unset, .unset] [(.int cc), (.int mm), (.ref b105)])) _
            refine XS.iload X156.here hx rfl (hb hby at_253) rfl ?_
            show Steps p.tables e below (T156.setTop (mkF m 255 #[.val (.int p1), .val (.int p2), .val (.int p3), .val (.int p4), .val (.int p5), .val (.int (4 : Int32)), .val (.int s0), .val (.int s1), .val (.int s2), .val (.int s3), .val (.ref b105), .val (.int mm), .val (.int cc), .val (.ref b117), .unset, .unset] [(.int (4 : Int32)), (.int cc), (.int mm), (.ref b105)])) _
            refine XS.iload X156.here hx rfl (hb hby at_255) rfl ?_
            show Steps p.tables e below (T156.setTop (mkF m 257 #[.val (.int p1), .val (.int p2), .val (.int p3), .val (.int p4), .val (.int p5), .val (.int (4 : Int32)), .val (.int s0), .val (.int s1), .val (.int s2), .val (.int s3), .val (.ref b105), .val (.int mm), .val (.int cc), .val (.ref b117), .unset, .unset] [(.int mm), (.int (4 : Int32)), (.int cc), (.int mm), (.ref b105)])) _
            refine XS.iconst X156.here hx rfl (hb hby at_257) ?_
            show Steps p.tables e below (T156.setTop (mkF m 258 #[.val (.int p1), .val (.int p2), .val (.int p3), .val (.int p4), .val (.int p5), .val (.int (4 : Int32)), .val (.int s0), .val (.int s1), .val (.int s2), .val (.int s3), .val (.ref b105), .val (.int mm), .val (.int cc), .val (.ref b117), .unset, .unset] [(.int (1 : Int32)), (.int mm), (.int (4 : Int32)), (.int cc), (.int mm), (.ref b105)])) _
            refine XS.iadd X156.here hx rfl (hb hby at_258) rfl ?_
            show Steps p.tables e below (T156.setTop (mkF m 259 #[.val (.int p1), .val (.int p2), .val (.int p3), .val (.int p4), .val (.int p5), .val (.int (4 : Int32)), .val (.int s0), .val (.int s1), .val (.int s2), .val (.int s3), .val (.ref b105), .val (.int mm), .val (.int cc), .val (.ref b117), .unset, .unset] [(.int (mm + (1 : Int32))), (.int (4 : Int32)), (.int cc), (.int mm), (.ref b105)])) _
            refine st159 _ ?_
            show Steps p.tables e below (T159.setTop (mkF m 262 #[.val (.int p1), .val (.int p2), .val (.int p3), .val (.int p4), .val (.int p5), .val (.int (4 : Int32)), .val (.int s0), .val (.int s1), .val (.int s2), .val (.int s3), .val (.ref b105), .val (.int mm), .val (.int cc), .val (.ref b117), .unset, .unset] [(.int (own_min (4 : Int32) (mm + (1 : Int32)))), (.int cc), (.int mm), (.ref b105)])) _
            refine st160 _ ?_
            show Steps p.tables e below (T160.setTop (mkF m 265 #[.val (.int p1), .val (.int p2), .val (.int p3), .val (.int p4), .val (.int p5), .val (.int (4 : Int32)), .val (.int s0), .val (.int s1), .val (.int s2), .val (.int s3), .val (.ref b105), .val (.int mm), .val (.int cc), .val (.ref b117), .unset, .unset] [(.int (own_b4 (own_f s0 s1 s2 s3) mm cc (own_min (4 : Int32) (mm + (1 : Int32)))))])) _
            refine XS.istore X160.here hx rfl (hb hby at_265) rfl (l' := #[.val (.int p1), .val (.int p2), .val (.int p3), .val (.int p4), .val (.int p5), .val (.int (4 : Int32)), .val (.int s0), .val (.int s1), .val (.int s2), .val (.int s3), .val (.ref b105), .val (.int mm), .val (.int cc), .val (.ref b117), .val (.int (own_b4 (own_f s0 s1 s2 s3) mm cc (own_min (4 : Int32) (mm + (1 : Int32))))), .unset]) rfl ?_
            show Steps p.tables e below (T160.setTop (mkF m 267 #[.val (.int p1), .val (.int p2), .val (.int p3), .val (.int p4), .val (.int p5), .val (.int (4 : Int32)), .val (.int s0), .val (.int s1), .val (.int s2), .val (.int s3), .val (.ref b105), .val (.int mm), .val (.int cc), .val (.ref b117), .val (.int (own_b4 (own_f s0 s1 s2 s3) mm cc (own_min (4 : Int32) (mm + (1 : Int32))))), .unset] [])) _
            refine XS.aload X160.here hx rfl (hb hby at_267) rfl rfl ?_
            show Steps p.tables e below (T160.setTop (mkF m 269 #[.val (.int p1), .val (.int p2), .val (.int p3), .val (.int p4), .val (.int p5), .val (.int (4 : Int32)), .val (.int s0), .val (.int s1), .val (.int s2), .val (.int s3), .val (.ref b105), .val (.int mm), .val (.int cc), .val (.ref b117), .val (.int (own_b4 (own_f s0 s1 s2 s3) mm cc (own_min (4 : Int32) (mm + (1 : Int32))))), .unset] [(.ref b105)])) _
            refine XS.aload X160.here hx rfl (hb hby at_269) rfl rfl ?_
            show Steps p.tables e below (T160.setTop (mkF m 271 #[.val (.int p1), .val (.int p2), .val (.int p3), .val (.int p4), .val (.int p5), .val (.int (4 : Int32)), .val (.int s0), .val (.int s1), .val (.int s2), .val (.int s3), .val (.ref b105), .val (.int mm), .val (.int cc), .val (.ref b117), .val (.int (own_b4 (own_f s0 s1 s2 s3) mm cc (own_min (4 : Int32) (mm + (1 : Int32))))), .unset] [(.ref b117), (.ref b105)])) _
            refine XS.iload X160.here hx rfl (hb hby at_271) rfl ?_
            show Steps p.tables e below (T160.setTop (mkF m 273 #[.val (.int p1), .val (.int p2), .val (.int p3), .val (.int p4), .val (.int p5), .val (.int (4 : Int32)), .val (.int s0), .val (.int s1), .val (.int s2), .val (.int s3), .val (.ref b105), .val (.int mm), .val (.int cc), .val (.ref b117), .val (.int (own_b4 (own_f s0 s1 s2 s3) mm cc (own_min (4 : Int32) (mm + (1 : Int32))))), .unset] [(.int mm), (.ref b117), (.ref b105)])) _
            refine XS.iload X160.here hx rfl (hb hby at_273) rfl ?_
            show Steps p.tables e below (T160.setTop (mkF m 275 #[.val (.int p1), .val (.int p2), .val (.int p3), .val (.int p4), .val (.int p5), .val (.int (4 : Int32)), .val (.int s0), .val (.int s1), .val (.int s2), .val (.int s3), .val (.ref b105), .val (.int mm), .val (.int cc), .val (.ref b117), .val (.int (own_b4 (own_f s0 s1 s2 s3) mm cc (own_min (4 : Int32) (mm + (1 : Int32))))), .unset] [(.int cc), (.int mm), (.ref b117), (.ref b105)])) _
            refine st161 _ ?_
            show Steps p.tables e below (T161.setTop (mkF m 278 #[.val (.int p1), .val (.int p2), .val (.int p3), .val (.int p4), .val (.int p5), .val (.int (4 : Int32)), .val (.int s0), .val (.int s1), .val (.int s2), .val (.int s3), .val (.ref b105), .val (.int mm), .val (.int cc), .val (.ref b117), .val (.int (own_b4 (own_f s0 s1 s2 s3) mm cc (own_min (4 : Int32) (mm + (1 : Int32))))), .unset] [(.int (own_adv (own_f s0 s1 s2 s3) (own_f v0 v1 v2 v3) (4 : Int32) mm cc))])) _
            refine XS.istore X161.here hx rfl (hb hby at_278) rfl (l' := #[.val (.int p1), .val (.int p2), .val (.int p3), .val (.int p4), .val (.int p5), .val (.int (4 : Int32)), .val (.int s0), .val (.int s1), .val (.int s2), .val (.int s3), .val (.ref b105), .val (.int mm), .val (.int cc), .val (.ref b117), .val (.int (own_b4 (own_f s0 s1 s2 s3) mm cc (own_min (4 : Int32) (mm + (1 : Int32))))), .val (.int (own_adv (own_f s0 s1 s2 s3) (own_f v0 v1 v2 v3) (4 : Int32) mm cc))]) rfl ?_
            show Steps p.tables e below (T161.setTop (mkF m 280 #[.val (.int p1), .val (.int p2), .val (.int p3), .val (.int p4), .val (.int p5), .val (.int (4 : Int32)), .val (.int s0), .val (.int s1), .val (.int s2), .val (.int s3), .val (.ref b105), .val (.int mm), .val (.int cc), .val (.ref b117), .val (.int (own_b4 (own_f s0 s1 s2 s3) mm cc (own_min (4 : Int32) (mm + (1 : Int32))))), .val (.int (own_adv (own_f s0 s1 s2 s3) (own_f v0 v1 v2 v3) (4 : Int32) mm cc))] [])) _
            refine XS.iload X161.here hx rfl (hb hby at_280) rfl ?_
            show Steps p.tables e below (T161.setTop (mkF m 282 #[.val (.int p1), .val (.int p2), .val (.int p3), .val (.int p4), .val (.int p5), .val (.int (4 : Int32)), .val (.int s0), .val (.int s1), .val (.int s2), .val (.int s3), .val (.ref b105), .val (.int mm), .val (.int cc), .val (.ref b117), .val (.int (own_b4 (own_f s0 s1 s2 s3) mm cc (own_min (4 : Int32) (mm + (1 : Int32))))), .val (.int (own_adv (own_f s0 s1 s2 s3) (own_f v0 v1 v2 v3) (4 : Int32) mm cc))] [(.int (own_adv (own_f s0 s1 s2 s3) (own_f v0 v1 v2 v3) (4 : Int32) mm cc))])) _
            refine XS.iload X161.here hx rfl (hb hby at_282) rfl ?_
            show Steps p.tables e below (T161.setTop (mkF m 284 #[.val (.int p1), .val (.int p2), .val (.int p3), .val (.int p4), .val (.int p5), .val (.int (4 : Int32)), .val (.int s0), .val (.int s1), .val (.int s2), .val (.int s3), .val (.ref b105), .val (.int mm), .val (.int cc), .val (.ref b117), .val (.int (own_b4 (own_f s0 s1 s2 s3) mm cc (own_min (4 : Int32) (mm + (1 : Int32))))), .val (.int (own_adv (own_f s0 s1 s2 s3) (own_f v0 v1 v2 v3) (4 : Int32) mm cc))] [(.int (own_b4 (own_f s0 s1 s2 s3) mm cc (own_min (4 : Int32) (mm + (1 : Int32))))), (.int (own_adv (own_f s0 s1 s2 s3) (own_f v0 v1 v2 v3) (4 : Int32) mm cc))])) _
            refine XS.icmpNo X161.here hx rfl (hb hby at_284) rfl (teq (own_main s0 s1 s2 s3 cc mm (4 : Int32) v0 v1 v2 v3 hB (by decide) (fun q => hv0.trans (if_pos q)) (fun q => i127.trans (if_pos q)) (fun q => i138.trans (if_pos q)) (fun q => i149.trans (if_pos q)) : ((own_adv (own_f s0 s1 s2 s3) (own_f v0 v1 v2 v3) (4 : Int32) mm cc) = (own_b4 (own_f s0 s1 s2 s3) mm cc (own_min (4 : Int32) (mm + (1 : Int32))))))).2 ?_
            show Steps p.tables e below (T161.setTop (mkF m 287 #[.val (.int p1), .val (.int p2), .val (.int p3), .val (.int p4), .val (.int p5), .val (.int (4 : Int32)), .val (.int s0), .val (.int s1), .val (.int s2), .val (.int s3), .val (.ref b105), .val (.int mm), .val (.int cc), .val (.ref b117), .val (.int (own_b4 (own_f s0 s1 s2 s3) mm cc (own_min (4 : Int32) (mm + (1 : Int32))))), .val (.int (own_adv (own_f s0 s1 s2 s3) (own_f v0 v1 v2 v3) (4 : Int32) mm cc))] [])) _
            refine XS.iconst X161.here hx rfl (hb hby at_287) ?_
            show Steps p.tables e below (T161.setTop (mkF m 288 #[.val (.int p1), .val (.int p2), .val (.int p3), .val (.int p4), .val (.int p5), .val (.int (4 : Int32)), .val (.int s0), .val (.int s1), .val (.int s2), .val (.int s3), .val (.ref b105), .val (.int mm), .val (.int cc), .val (.ref b117), .val (.int (own_b4 (own_f s0 s1 s2 s3) mm cc (own_min (4 : Int32) (mm + (1 : Int32))))), .val (.int (own_adv (own_f s0 s1 s2 s3) (own_f v0 v1 v2 v3) (4 : Int32) mm cc))] [(.int (1 : Int32))])) _
            refine XS.goto X161.here hx rfl (pc0 := 288) (pc' := 292) rfl (hb hby at_288) (by decide) (by decide) ?_
            show Steps p.tables e below (T161.setTop (mkF m 292 #[.val (.int p1), .val (.int p2), .val (.int p3), .val (.int p4), .val (.int p5), .val (.int (4 : Int32)), .val (.int s0), .val (.int s1), .val (.int s2), .val (.int s3), .val (.ref b105), .val (.int mm), .val (.int cc), .val (.ref b117), .val (.int (own_b4 (own_f s0 s1 s2 s3) mm cc (own_min (4 : Int32) (mm + (1 : Int32))))), .val (.int (own_adv (own_f s0 s1 s2 s3) (own_f v0 v1 v2 v3) (4 : Int32) mm cc))] [(.int (1 : Int32))])) _
            exact retN X161 hx (t := .boolean) Bd.returns (by simp) (hb hby at_292) hr
          · show Q0 Z p1 p2 p3 p4 p5 h0 n0 _ T161.heap _
            rw [r161_0]
            exact ⟨rfl, N161⟩
set_option maxRecDepth 65536 in
set_option maxHeartbeats 40000000 in
theorem comes_1 {Post : Tables → Env → Array Value → State → Outcome → State → Prop} (hpost : ∀ tb e args s v u, (limb_1_1.after args s (.returned v) u = true ∧ limb_1_2.after args s (.returned v) u = true ∧ True) → FrameEnd s (.returned v) u (Jvm.fieldLocs frame_1_writes args s ++ Jvm.arrayLocs frame_1_arrays args s ++ Jvm.staticLocs frame_1_statics s) 16 128 → Post tb e args s (.returned v) u) :
    ArmFor flags0 classFile x code maxLocals ret World_1 tables_1 room_1 Calls_1 rest_1 Pre_1 Post := by
  intro l hfl _ _ p e ha hc hk s m args below hf hA hF happ hP
  obtain ⟨hcalls, hrest, hpre⟩ := hP
  obtain ⟨-, -, -, hnamed, -, -, -, hat⟩ := (Spec.applies_iff hf).mp happ
  obtain ⟨hg, hn⟩ := and_e (Cond.before_iff.mp (show (Jvm.Cond.and given_1 narrow_1).before args s = true from hpre))
  obtain ⟨g1, g2⟩ := and_e hg
  obtain ⟨g3, g4⟩ := and_e g2
  obtain ⟨g5, g6⟩ := and_e g4
  obtain ⟨g7, g8⟩ := and_e g6
  obtain ⟨g9, g10⟩ := and_e g8
  obtain ⟨w0, w1, w2, w3, w4, rfl⟩ : ∃ w0 w1 w2 w3 w4 : Value, args = #[w0, w1, w2, w3, w4] := by
    have hs : args.size = 5 := by simpa [Cond.value, given_1] using g1
    obtain ⟨L⟩ := args
    match L, hs with
    | [w0, w1, w2, w3, w4], _ => exact ⟨w0, w1, w2, w3, w4, rfl⟩
  have hw := fun d (hd : d ∈ tables_1) => atoms_spec (ws := Jvm.Cond.code x code maxLocals ret :: tables_1) hat d (List.mem_cons_of_mem _ hd)
  have hfit : Fit s := fun {y c} hc i hi => by
    obtain ⟨ha, rfl⟩ := Array.getElem?_eq_some_iff.mp hc
    have q := List.all_eq_true.mp ((Array.all_eq_true_iff_forall_mem.mp hF) _ (Array.getElem_mem ha)) i (List.mem_range.mpr hi)
    simpa [Array.getElem?_eq_getElem hi] using q
  obtain ⟨i0, ei0⟩ := is_v g3
  obtain rfl : w0 = (.int i0) := Option.some.inj ei0
  obtain ⟨i1, ei1⟩ := is_v g5
  obtain rfl : w1 = (.int i1) := Option.some.inj ei1
  obtain ⟨i2, ei2⟩ := is_v g7
  obtain rfl : w2 = (.int i2) := Option.some.inj ei2
  obtain ⟨i3, ei3⟩ := is_v g9
  obtain rfl : w3 = (.int i3) := Option.some.inj ei3
  obtain ⟨i4, ei4⟩ := is_v g10
  obtain rfl : w4 = (.int i4) := Option.some.inj ei4
  obtain ⟨n, o, h1, h2, h3, _, L, rfl, ⟨rfl, N⟩, hq⟩ := rm0 l s _ hw tables_1 i0 i1 i2 i3 i4  s.heap s.heap.size (Nat.le_refl _)  p e ha hc hk s m _ below hf ((Spec.applies_iff_loose hf).mp happ).1 ⟨rfl, State.Warmed39.refl s, rfl⟩ trivial
  refine ⟨n, _, h1, h2, h3, hpost _ _ _ _ _ _ ⟨Cond.after_iff.mpr rfl, Cond.after_iff.mpr (eq_i res_at (Term.int_eval (1)) rfl), trivial⟩ ⟨hq.1, hq.2.1, (hq.2.2.sift fun y hy => Or.inr (N y hy)).mono (by decide) (by decide)⟩⟩
theorem main_1_1 : Claimed_1_1 := comes_1 fun _ _ _ _ _ _ h hF => ⟨h.1, hF⟩
theorem main_1_2 : Claimed_1_2 := comes_1 fun _ _ _ _ _ _ h hF => ⟨h.2.1, hF⟩
end Jvm.Pilot.@@N@@
namespace Jvm.Pilot.@@N@@
open Jvm Jvm.ClassFile Sem Op Lib Jvm.Free Jvm.Stand Jvm.Pilot.@@N@@.Jvm.D
/-! MADE BY PROGRAM (witnessworld.py) out of the Statement's table words and the real class files: 10 classes; the members and pool entries that the words name. The judged class is class 1, her method 1. -/
namespace start1
open Jvm.ClassFile
def u (s : String) : CpInfo := .utf8 (stringToUtf16 s)
/-- a pool by its gaps: so many unusable entries, then the entry; so many at the end -/
def gap : Nat → List CpInfo → List CpInfo
  | 0, r => r
  | n + 1, r => .unusable :: gap n r
def poolList (es : List (Nat × CpInfo)) (last : Nat) : List CpInfo := es.foldr (fun e r => gap e.1 (e.2 :: r)) (gap last [])
def pool (es : List (Nat × CpInfo)) (last : Nat) : Array CpInfo := ⟨poolList es last⟩
def fileOf (pool : Array CpInfo) (this : Nat) (attrs : Array Attribute := #[]) (ms : Array MethodInfo := #[]) (fl : Nat := 33) (sup : Nat := 0) (ifs : Array Nat := #[]) (fds : Array FieldInfo := #[]) : ClassFile where
  minorVersion := 0
  majorVersion := 65
  constantPool := pool
  accessFlags := fl
  thisClass := this
  superClass := sup
  interfaces := ifs
  fields := fds
  methods := ms
  attributes := attrs
def plain (name : String) (sup : Option ClassId) : Class where
  name := name
  kind := .ordinary
  loader := none
  accessFlags := 33
  super := sup
  interfaces := #[]
  cf := none
  fields := #[]
  methods := #[]
  instanceTypes := #[]
  staticTypes := #[]
  resolved := #[]
  callSites := []
  init := .initialized
  statics := none
  mirror := none

def pool0 : Array CpInfo := pool [(5, u "<init>"), (0, u "()V"), (1, .class_ 10), (1, u "java/lang/Object")] 113

def k0m0 : Method := { name := "<init>", desc := "()V", sig := { parameters := [], returnType := none }, accessFlags := 1, code := none }
/-- java/lang/Object -/
def k0 : Class := { plain "java/lang/Object" none with
  accessFlags := 33
  interfaces := #[]
  cf := some (fileOf pool0 8 #[] #[{ accessFlags := 1, nameIndex := 5, descriptorIndex := 6, attributes := #[] }] 33 0 #[] #[])
  fields := #[]
  methods := #[k0m0]
  instanceTypes := #[]
  staticTypes := #[]
  resolved := Array.replicate 124 none
  statics := none }

def pool1 : Array CpInfo := pool [(2, .class_ 4), (1, u "java/lang/Object"), (0, u "<init>"), (0, u "()V"), (0, .integer 2147483647), (0, .methodref 9 10), (0, .class_ 11), (0, .nameAndType 12 13), (0, u "com/example/humble_match/humblematch/PartialMatchTableAdvancePinLaw"), (0, u "best"), (0, u "([IIII)I"), (0, .methodref 15 16), (0, .class_ 17), (0, .nameAndType 18 19), (0, u "java/lang/Math"), (0, u "min"), (0, u "(II)I"), (0, .methodref 21 22), (0, .class_ 23), (0, .nameAndType 24 25), (0, u "com/example/humble_match/humblematch/PartialMatchTable"), (0, u "advance"), (0, u "([I[III)I"), (0, .methodref 9 27), (0, .nameAndType 28 13), (0, u "sym"), (0, .methodref 9 30), (0, .nameAndType 31 32), (0, u "ends"), (0, u "([IIII)Z"), (2, u "law"), (0, u "(IIIII)Z")] 5

def k1m0 : Method := { name := "<init>", desc := "()V", sig := { parameters := [], returnType := none }, accessFlags := 2, code := none }
def k1c1 : Code := { maxStack := 6, maxLocals := 16, code := code, exceptionTable := #[], attributes := #[] }
def k1m1 : Method := { name := "law", desc := "(IIIII)Z", sig := { parameters := [.int, .int, .int, .int, .int], returnType := some .boolean }, accessFlags := 9, code := some k1c1 }
def k1c2 : Code := { maxStack := 2, maxLocals := 4, code := method_3_code, exceptionTable := #[], attributes := #[] }
def k1m2 : Method := { name := "sym", desc := "([IIII)I", sig := { parameters := [(.array .int), .int, .int, .int], returnType := some .int }, accessFlags := 10, code := some k1c2 }
def k1c3 : Code := { maxStack := 6, maxLocals := 6, code := method_4_code, exceptionTable := #[], attributes := #[] }
def k1m3 : Method := { name := "ends", desc := "([IIII)Z", sig := { parameters := [(.array .int), .int, .int, .int], returnType := some .boolean }, accessFlags := 10, code := some k1c3 }
def k1c4 : Code := { maxStack := 4, maxLocals := 4, code := method_5_code, exceptionTable := #[], attributes := #[] }
def k1m4 : Method := { name := "best", desc := "([IIII)I", sig := { parameters := [(.array .int), .int, .int, .int], returnType := some .int }, accessFlags := 10, code := some k1c4 }
/-- com/example/humble_match/humblematch/PartialMatchTableAdvancePinLaw -/
def k1 : Class := { plain "com/example/humble_match/humblematch/PartialMatchTableAdvancePinLaw" (some 0) with
  accessFlags := 49
  interfaces := #[]
  cf := some (fileOf pool1 9 #[] #[{ accessFlags := 2, nameIndex := 5, descriptorIndex := 6, attributes := #[] }, { accessFlags := 9, nameIndex := 35, descriptorIndex := 36, attributes := #[] }, { accessFlags := 10, nameIndex := 28, descriptorIndex := 13, attributes := #[] }, { accessFlags := 10, nameIndex := 31, descriptorIndex := 32, attributes := #[] }, { accessFlags := 10, nameIndex := 12, descriptorIndex := 13, attributes := #[] }] 49 2 #[] #[])
  fields := #[]
  methods := #[k1m0, k1m1, k1m2, k1m3, k1m4]
  instanceTypes := #[]
  staticTypes := #[]
  resolved := Array.replicate 42 none
  statics := none }

def pool2 : Array CpInfo := pool [(1, .class_ 2), (0, u "java/lang/Math"), (1, .class_ 6), (1, u "java/lang/Object"), (0, u "<init>"), (0, u "()V"), (89, .class_ 100), (1, u "java/lang/Math$RandomNumberGeneratorHolder"), (71, u "negativeZeroFloatBits"), (0, u "J"), (2, u "negativeZeroDoubleBits"), (24, u "min"), (43, u "$assertionsDisabled"), (0, u "Z"), (88, u "(II)I"), (2, u "twoToTheDoubleScaleDown"), (0, u "D"), (4, u "twoToTheDoubleScaleUp"), (9, u "E"), (3, u "PI"), (2, u "TAU"), (2, u "DEGREES_TO_RADIANS"), (0, u "RADIANS_TO_DEGREES")] 94

def k2m0 : Method := { name := "<init>", desc := "()V", sig := { parameters := [], returnType := none }, accessFlags := 2, code := none }
def k2c1 : Code := { maxStack := 2, maxLocals := 2, code := jdk_29_method_69_code, exceptionTable := #[], attributes := #[] }
def k2m1 : Method := { name := "min", desc := "(II)I", sig := { parameters := [.int, .int], returnType := some .int }, accessFlags := 9, code := some k2c1 }
/-- java/lang/Math -/
def k2 : Class := { plain "java/lang/Math" (some 0) with
  accessFlags := 49
  interfaces := #[]
  cf := some (fileOf pool2 1 #[.nestMembers #[98]] #[{ accessFlags := 2, nameIndex := 7, descriptorIndex := 8, attributes := #[] }, { accessFlags := 9, nameIndex := 201, descriptorIndex := 335, attributes := #[] }] 49 4 #[] #[{ accessFlags := 25, nameIndex := 354, descriptorIndex := 339, attributes := #[] }, { accessFlags := 25, nameIndex := 358, descriptorIndex := 339, attributes := #[] }, { accessFlags := 25, nameIndex := 361, descriptorIndex := 339, attributes := #[] }, { accessFlags := 26, nameIndex := 364, descriptorIndex := 339, attributes := #[] }, { accessFlags := 26, nameIndex := 365, descriptorIndex := 339, attributes := #[] }, { accessFlags := 26, nameIndex := 172, descriptorIndex := 173, attributes := #[] }, { accessFlags := 26, nameIndex := 176, descriptorIndex := 173, attributes := #[] }, { accessFlags := 8, nameIndex := 344, descriptorIndex := 339, attributes := #[] }, { accessFlags := 8, nameIndex := 338, descriptorIndex := 339, attributes := #[] }, { accessFlags := 4120, nameIndex := 245, descriptorIndex := 246, attributes := #[] }])
  fields := #[{ name := "E", type := .double, accessFlags := 25, slot := 0, constantValue := 0 }, { name := "PI", type := .double, accessFlags := 25, slot := 1, constantValue := 0 }, { name := "TAU", type := .double, accessFlags := 25, slot := 2, constantValue := 0 }, { name := "DEGREES_TO_RADIANS", type := .double, accessFlags := 26, slot := 3, constantValue := 0 }, { name := "RADIANS_TO_DEGREES", type := .double, accessFlags := 26, slot := 4, constantValue := 0 }, { name := "negativeZeroFloatBits", type := .long, accessFlags := 26, slot := 5, constantValue := 0 }, { name := "negativeZeroDoubleBits", type := .long, accessFlags := 26, slot := 6, constantValue := 0 }, { name := "twoToTheDoubleScaleUp", type := .double, accessFlags := 8, slot := 7, constantValue := 0 }, { name := "twoToTheDoubleScaleDown", type := .double, accessFlags := 8, slot := 8, constantValue := 0 }, { name := "$assertionsDisabled", type := .boolean, accessFlags := 4120, slot := 9, constantValue := 0 }]
  methods := #[k2m0, k2m1]
  instanceTypes := #[]
  staticTypes := #[.double, .double, .double, .double, .double, .long, .long, .double, .double, .boolean]
  resolved := Array.replicate 460 none
  statics := none }

def pool3 : Array CpInfo := pool [(2, .class_ 4), (1, u "java/lang/Object"), (0, u "<init>"), (0, u "()V"), (19, .class_ 28), (1, u "com/example/humble_match/humblematch/PartialMatchTable"), (4, u "advance"), (0, u "([I[III)I")] 8

def k3m0 : Method := { name := "<init>", desc := "()V", sig := { parameters := [], returnType := none }, accessFlags := 2, code := none }
def k3c1 : Code := { maxStack := 3, maxLocals := 6, code := prog_22_method_4_code, exceptionTable := #[], attributes := #[] }
def k3m1 : Method := { name := "advance", desc := "([I[III)I", sig := { parameters := [(.array .int), (.array .int), .int, .int], returnType := some .int }, accessFlags := 8, code := some k3c1 }
/-- com/example/humble_match/humblematch/PartialMatchTable -/
def k3 : Class := { plain "com/example/humble_match/humblematch/PartialMatchTable" (some 0) with
  accessFlags := 49
  interfaces := #[]
  cf := some (fileOf pool3 26 #[] #[{ accessFlags := 2, nameIndex := 5, descriptorIndex := 6, attributes := #[] }, { accessFlags := 8, nameIndex := 33, descriptorIndex := 34, attributes := #[] }] 49 2 #[] #[])
  fields := #[]
  methods := #[k3m0, k3m1]
  instanceTypes := #[]
  staticTypes := #[]
  resolved := Array.replicate 43 none
  statics := none }

def pool4 : Array CpInfo := pool [(1, u "java/lang/Cloneable"), (0, .class_ 1), (0, u "java/lang/Object"), (0, .class_ 3)] 3

/-- java/lang/Cloneable -/
def k4 : Class := { plain "java/lang/Cloneable" (some 0) with
  accessFlags := 1537
  interfaces := #[]
  cf := some (fileOf pool4 2 #[] #[] 1537 4 #[] #[])
  fields := #[]
  methods := #[]
  instanceTypes := #[]
  staticTypes := #[]
  resolved := Array.replicate 8 none
  statics := none }

def pool5 : Array CpInfo := pool [(1, u "java/io/Serializable"), (0, .class_ 1), (0, u "java/lang/Object"), (0, .class_ 3)] 3

/-- java/io/Serializable -/
def k5 : Class := { plain "java/io/Serializable" (some 0) with
  accessFlags := 1537
  interfaces := #[]
  cf := some (fileOf pool5 2 #[] #[] 1537 4 #[] #[])
  fields := #[]
  methods := #[]
  instanceTypes := #[]
  staticTypes := #[]
  resolved := Array.replicate 8 none
  statics := none }

/-- the primitive byte -/
def k6 : Class := { plain "byte" none with kind := .primitive 'B', accessFlags := 0x411 }
/-- [B -/
def k7 : Class := { plain "[B" (some 0) with kind := .array 6 .byte, interfaces := #[4, 5], accessFlags := 1041 }

/-- the primitive int -/
def k8 : Class := { plain "int" none with kind := .primitive 'I', accessFlags := 0x411 }
/-- [I -/
def k9 : Class := { plain "[I" (some 0) with kind := .array 8 .int, interfaces := #[4, 5], accessFlags := 1041 }

def heap : Heap := #[]
def classes : Array Class := #[k0, k1, k2, k3, k4, k5, k6, k7, k8, k9]
def interned : List (Array UInt16 × Addr) := []
def slotsUsed : Nat := 0
def theMethod : MethodId := ⟨1, 1⟩
def args0 : Array Value := #[.int 5, .int 777, .int 3, .int 2, .int 9]
def aboutOver (below : List Frame) : State where
  vm := { classes := classes, interned := interned.toArray }
  heap := heap
  slotsUsed := slotsUsed
  threads := #[{ frames := .invoking theMethod args0 :: below }]
def below0 : List Frame := [.native { method := ⟨0, 0⟩, args := #[] }]
def about1 : State := aboutOver below0
def p0 : Program := .bare "" "" ""
def e0 : Env := launch0.env 0 0 0
theorem w_frames : about1.frames = Frame.invoking theMethod args0 :: below0 := rfl
set_option maxRecDepth 65536 in
theorem w_args : argsFit about1.vm theMethod args0 = true := by decide +kernel
set_option maxRecDepth 65536 in
theorem w_heap : heapFits about1 = true := by decide +kernel
set_option maxRecDepth 65536 in
theorem w_runnable : about1.curStatus? = some .runnable := by decide +kernel
set_option maxRecDepth 65536 in
theorem w_alone : about1.alone = true := by decide +kernel
set_option maxRecDepth 65536 in
theorem w_named : about1.methodNamed? x = some theMethod := by decide +kernel
set_option maxRecDepth 65536 in
theorem w_hears : about1.hears theMethod below0 = true := by decide +kernel
set_option maxRecDepth 65536 in
theorem w_ripe : about1.ripe theMethod args0 below0 = true := by decide +kernel
theorem w_running : about1.status = .running := rfl
set_option maxRecDepth 65536 in
theorem w_room : about1.hasRoom e0.platform room_1 = true :=
  launch0.hasRoom_least _ room_1 (by decide +kernel) (by decide +kernel) (by decide +kernel) (by decide +kernel) (by decide +kernel) (by decide +kernel)
theorem allAtoms_all (ts : List Jvm.Cond) (a : Array Jvm.Value) (st : Jvm.State) : (allAtoms ts).before a st = ts.all (fun c => c.before a st) := by
  induction ts with
  | nil => rfl
  | cons c t ih =>
    show (Jvm.Cond.and c (allAtoms t)).before a st = _
    rw [Jvm.Cond.before_and, ih, List.all_cons]
def words1 : List Jvm.Cond := Jvm.Cond.code x code maxLocals ret :: tables_1
/-- a 'code' word, met by the world's own term for the bytes: nothing is compared byte by byte -/
theorem code_word {y : MethodName} {bytes : ByteArray} {mx : Nat} {rt : Option FieldType} {a : Array Value} {s : State} {m : MethodId} {meth : Method} {c : Code} (h1 : s.methodNamed? y = some m) (h2 : s.vm.method? m = some meth) (h3 : meth.code = some c) (h4 : c.code = bytes)
    (h5 : (c.maxLocals == mx && c.exceptionTable.isEmpty && decide (c.maxStack ≤ mostOperands) && decide (meth.sig.returnType = rt) && !meth.locks && decide (parseMethodDescriptor y.desc = some meth.sig)) = true) : (Jvm.Cond.code y bytes mx rt).before a s = true := by
  simp only [Bool.and_eq_true, beq_iff_eq, Bool.not_eq_true', decide_eq_true_eq] at h5
  obtain ⟨⟨⟨⟨⟨g1, g2⟩, g3⟩, g4⟩, g5⟩, g6⟩ := h5
  simp [Cond.before, Cond.holds, Cond.value, h1, h2, h3, h4, g1, g2, g3, g4, g5, g6]
def isCode : Jvm.Cond → Bool
  | .code _ _ _ _ => true
  | _ => false
theorem all_split {L : List Jvm.Cond} {P : Jvm.Cond → Bool} (h1 : L.all (fun c => isCode c || P c) = true) (h2 : ∀ c ∈ L.filter isCode, P c = true) : L.all P = true := by
  refine List.all_eq_true.mpr fun c hc => ?_
  have h := List.all_eq_true.mp h1 c hc
  rcases Bool.eq_false_or_eq_true (isCode c) with hi | hi
  · exact h2 c (List.mem_filter.mpr ⟨hc, hi⟩)
  · simpa [hi] using h
set_option maxRecDepth 65536 in
theorem w_c0 : (Jvm.Cond.code x code maxLocals ret).before args0 about1 = true := code_word (m := ⟨1, 1⟩) (meth := k1m1) (c := k1c1) (by decide +kernel) rfl rfl rfl (by decide +kernel)
set_option maxRecDepth 65536 in
theorem w_c1 : (Jvm.Cond.code ({ cls := "java/lang/Math", name := "min", desc := "(II)I" } : Jvm.MethodName) jdk_29_method_69_code (2 : Nat) (Option.some Jvm.ClassFile.FieldType.int)).before args0 about1 = true := code_word (m := ⟨2, 1⟩) (meth := k2m1) (c := k2c1) (by decide +kernel) rfl rfl rfl (by decide +kernel)
set_option maxRecDepth 65536 in
theorem w_c2 : (Jvm.Cond.code ({ cls := "com/example/humble_match/humblematch/PartialMatchTableAdvancePinLaw", name := "best", desc := "([IIII)I" } : Jvm.MethodName) method_5_code (4 : Nat) (Option.some Jvm.ClassFile.FieldType.int)).before args0 about1 = true := code_word (m := ⟨1, 4⟩) (meth := k1m4) (c := k1c4) (by decide +kernel) rfl rfl rfl (by decide +kernel)
set_option maxRecDepth 65536 in
theorem w_c3 : (Jvm.Cond.code ({ cls := "com/example/humble_match/humblematch/PartialMatchTable", name := "advance", desc := "([I[III)I" } : Jvm.MethodName) prog_22_method_4_code (6 : Nat) (Option.some Jvm.ClassFile.FieldType.int)).before args0 about1 = true := code_word (m := ⟨3, 1⟩) (meth := k3m1) (c := k3c1) (by decide +kernel) rfl rfl rfl (by decide +kernel)
set_option maxRecDepth 65536 in
theorem w_c4 : (Jvm.Cond.code ({ cls := "com/example/humble_match/humblematch/PartialMatchTableAdvancePinLaw", name := "ends", desc := "([IIII)Z" } : Jvm.MethodName) method_4_code (6 : Nat) (Option.some Jvm.ClassFile.FieldType.boolean)).before args0 about1 = true := code_word (m := ⟨1, 3⟩) (meth := k1m3) (c := k1c3) (by decide +kernel) rfl rfl rfl (by decide +kernel)
set_option maxRecDepth 65536 in
theorem w_c5 : (Jvm.Cond.code ({ cls := "com/example/humble_match/humblematch/PartialMatchTableAdvancePinLaw", name := "sym", desc := "([IIII)I" } : Jvm.MethodName) method_3_code (4 : Nat) (Option.some Jvm.ClassFile.FieldType.int)).before args0 about1 = true := code_word (m := ⟨1, 2⟩) (meth := k1m2) (c := k1c2) (by decide +kernel) rfl rfl rfl (by decide +kernel)
def codes1 : List Jvm.Cond := [Jvm.Cond.code x code maxLocals ret, Jvm.Cond.code ({ cls := "java/lang/Math", name := "min", desc := "(II)I" } : Jvm.MethodName) jdk_29_method_69_code (2 : Nat) (Option.some Jvm.ClassFile.FieldType.int), Jvm.Cond.code ({ cls := "com/example/humble_match/humblematch/PartialMatchTableAdvancePinLaw", name := "best", desc := "([IIII)I" } : Jvm.MethodName) method_5_code (4 : Nat) (Option.some Jvm.ClassFile.FieldType.int), Jvm.Cond.code ({ cls := "com/example/humble_match/humblematch/PartialMatchTable", name := "advance", desc := "([I[III)I" } : Jvm.MethodName) prog_22_method_4_code (6 : Nat) (Option.some Jvm.ClassFile.FieldType.int), Jvm.Cond.code ({ cls := "com/example/humble_match/humblematch/PartialMatchTableAdvancePinLaw", name := "ends", desc := "([IIII)Z" } : Jvm.MethodName) method_4_code (6 : Nat) (Option.some Jvm.ClassFile.FieldType.boolean), Jvm.Cond.code ({ cls := "com/example/humble_match/humblematch/PartialMatchTableAdvancePinLaw", name := "sym", desc := "([IIII)I" } : Jvm.MethodName) method_3_code (4 : Nat) (Option.some Jvm.ClassFile.FieldType.int)]
set_option maxRecDepth 65536 in
theorem codes_eq : words1.filter isCode = codes1 := rfl
theorem w_codes : ∀ c ∈ words1.filter isCode, c.before args0 about1 = true := by
  rw [codes_eq]
  intro c hc
  simp only [codes1, List.mem_cons, List.not_mem_nil, or_false] at hc
  rcases hc with rfl | rfl | rfl | rfl | rfl | rfl
  · exact w_c0
  · exact w_c1
  · exact w_c2
  · exact w_c3
  · exact w_c4
  · exact w_c5
set_option maxRecDepth 65536 in
theorem w_t1 : words1.all (fun c => isCode c || c.before args0 about1) = true := by decide +kernel
theorem w_tables : (allAtoms (Jvm.Cond.code x code maxLocals ret :: tables_1)).before args0 about1 = true := by
  rw [allAtoms_all]
  show words1.all (fun c => c.before args0 about1) = true
  refine all_split ?_ w_codes
  rw [w_t1]
set_option maxRecDepth 65536 in
theorem w_case : (Jvm.Cond.and given_1 narrow_1).before args0 about1 = true := by decide +kernel
theorem w_applies : (headSpec (Jvm.Cond.code x code maxLocals ret :: tables_1) room_1).applies x e0.platform about1 = true :=
  (Spec.applies_iff w_frames).mpr ⟨w_running, w_runnable, w_alone, w_named, w_hears, w_ripe, w_room, w_tables⟩
theorem atStart : AtStart classFile x code maxLocals ret World_1 tables_1 room_1 Calls_1 rest_1 Pre_1 launch0 p0 e0 about1 theMethod args0 below0 :=
  ⟨lists_1, trivial, launch0.admits_env _ _ _, launch0.least_env, fairChoices_fair.cas, fairChoices_fair.clock, w_frames, w_args, w_heap, w_applies, trivial, trivial, w_case⟩
end start1
theorem witness_1 : WitnessClaimed_1 := ⟨start1.p0, start1.e0, start1.about1, start1.theMethod, start1.args0, start1.below0, start1.atStart⟩
end Jvm.Pilot.@@N@@
