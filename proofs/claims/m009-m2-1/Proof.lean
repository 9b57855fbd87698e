import JvmDerived
import JvmDerived.Pilot.@@N@@Statement
import JvmDerived.Pilot.@@N@@Code
set_option linter.unusedVariables false
set_option linter.unusedSimpArgs false
namespace Jvm.RoadKit
open Sem ClassFile Op Lib Jvm.Stand Jvm.Free Jvm.LawKit
section New
variable {p : Program} {l : Launch} {e : Env} {R : Room} {s : State} {m : MethodId} {args : Array Value} {below : List Frame} {meth : Method} {c : Code} {T : State} {locs : List Loc} {cells slots : Nat}
theorem retI (X : Stand p l e R s m args below meth c T locs cells slots) (hx : p.tables.exec = Jvm.exec) {pc : Nat} {Ls : Array Slot} {z : Int32} {rest : List Value} (hret : meth.sig.returnType = some .int) (hd : decode c.code pc = .ok (.ireturn, 1)) {fs : List Frame}
    (hl : ∀ (f : JFrame) (acts : List Action), f.method = m → f.locked = none → f.entered = [] → (doReturn e (T.setTop f) acts (some (.int z))).1 = T.setFrames fs) : Steps p.tables e below (T.setTop (mkF m pc Ls (.int z :: rest))) (T.setFrames fs) := by
  have hm' : T.vm.method? m = some meth := X.method'
  have hn : narrow .int (.int z) = .int z := rfl
  show Steps p.tables e below (T.setTop { method := m, pc := pc, locals := Ls, stack := _ :: rest, locked := none }) _
  jvm_step X.here [X.here.top, hx, hd, hm', hret, hn]
  first | (intro acts; rw [hl _ acts rfl rfl rfl]) | rw [hl _ _ rfl rfl rfl]
  exact Steps.refl _
theorem own_after {Q : Option Value → Heap → List Loc → Prop} {F : Option Value → Pt → Prop} {n0 rc rs cells' slots' : Nat}
    (h : ∃ (v : Option Value) (vm₁ : Vm) (B : Pt), s.WarmedH vm₁ ∧ Stand p l e R s m args below meth c B.U B.locs B.cells B.slots ∧ (∃ L, Q v B.U.heap L ∧ B.locs = locs ++ L ∧ B.cells = cells + rc ∧ B.slots = slots + rs) ∧ F v B)
    (N : Fr n0 locs) (hF : ∀ v h L, Q v h L → Fr n0 L) (hc : cells + rc = cells') (hs : slots + rs = slots') :
    ∃ (v : Option Value) (T' : State) (locs' L : List Loc), Stand p l e R s m args below meth c T' locs' cells' slots' ∧ Fr n0 locs' ∧ Q v T'.heap L ∧ F v ⟨T', locs', cells', slots'⟩ := by
  obtain ⟨v, vm₁, ⟨T', L', k', n'⟩, -, X', ⟨L, hQ, h1, h2, h3⟩, hF'⟩ := h
  subst h1 h2 h3 hc hs
  exact ⟨v, T', _, L, X', N.app (hF _ _ _ hQ), hQ, hF'⟩
end New
end Jvm.RoadKit
namespace Jvm.Pilot.@@N@@
open Jvm Jvm.ClassFile Sem Op Lib Jvm.Free Jvm.Stand Jvm.LawKit Jvm.RoadKit Bundle Jvm.Pilot.@@N@@.Jvm.D
def own_vals (f : Nat → Int32) : List Value := [.int (f 0), .int (f 1), .int (f 2), .int (f 3), .int (f 4), .int (f 5), .int (f 6), .int (f 7), .int (f 8), .int (f 9), .int (f 10), .int (f 11)]
def own_upd (f : Nat → Int32) (k : Nat) (x : Int32) : Nat → Int32 := fun j => if j = k then x else f j
theorem own_set (f : Nat → Int32) (k : Nat) (x : Int32) (hk : k < 12) : (own_vals f).set k (.int x) = own_vals (own_upd f k x) := by
  match k, hk with
  | 0, _ => rfl
  | 1, _ => rfl
  | 2, _ => rfl
  | 3, _ => rfl
  | 4, _ => rfl
  | 5, _ => rfl
  | 6, _ => rfl
  | 7, _ => rfl
  | 8, _ => rfl
  | 9, _ => rfl
  | 10, _ => rfl
  | 11, _ => rfl
theorem own_ve (f g : Nat → Int32) (h : ∀ j, j < 12 → f j = g j) : own_vals f = own_vals g := by
  unfold own_vals
  rw [h 0 (by decide), h 1 (by decide), h 2 (by decide), h 3 (by decide), h 4 (by decide), h 5 (by decide), h 6 (by decide), h 7 (by decide), h 8 (by decide), h 9 (by decide), h 10 (by decide), h 11 (by decide)]
def own_sh (x : Int64) (i : Nat) : Int64 := (x.toUInt64 >>> (UInt64.ofNat (8 * i))).toInt64
def own_by (x : Int64) : Int32 := x.toInt32.toInt8.toInt32.toInt8.toInt32
theorem own_bb (x : Int32) : x.toInt8.toInt32.toInt8.toInt32 = x.toInt8.toInt32 := by rw [Int8.toInt8_toInt32]
def own_cv (x : Int64) (cnt a i : Int32) : Int32 := (((x.toUInt64 >>> (((8 : Int32) * ((cnt - (1 : Int32)) - (i - a))) &&& 0x3f).toInt64.toUInt64).toInt64).toInt32).toInt8.toInt32
def own_put (f : Nat → Int32) (x : Int64) (cnt a : Int32) : Nat → Int32 := fun j => if Int32.ofNat j < a then f j else if Int32.ofNat j < a + cnt then own_cv x cnt a (Int32.ofNat j) else f j
def own_cell (y i : Int32) (x : Int64) (cnt a fl : Int32) : Int32 := if i < a then (if y = fl then 1 else 0) else if i < a + cnt then (if y = own_cv x cnt a i then 1 else 0) else (if y = fl then 1 else 0)
def own_G (f : Nat → Int32) (x : Int64) (a k : Nat) : Nat → (Nat → Int32)
  | 0 => f
  | t + 1 => own_upd (own_G f x a k t) (a + (k - 1 - t)) (own_by (own_sh x t))
theorem own_Gj (f : Nat → Int32) (x : Int64) (a k : Nat) : ∀ t, t ≤ k → ∀ j, own_G f x a k t j = if a + (k - t) ≤ j ∧ j < a + k then own_by (own_sh x (k - 1 - (j - a))) else f j := by
  intro t
  induction t with
  | zero => intro _ j; rw [if_neg (by omega)]; rfl
  | succ t ih =>
    intro ht j
    show (if j = a + (k - 1 - t) then own_by (own_sh x t) else own_G f x a k t j) = _
    by_cases h : j = a + (k - 1 - t)
    · rw [if_pos h, if_pos (by omega)]
      have e : k - 1 - (j - a) = t := by omega
      rw [e]
    · rw [if_neg h, ih (by omega) j]
      by_cases h2 : a + (k - t) ≤ j ∧ j < a + k
      · rw [if_pos h2, if_pos (by omega)]
      · rw [if_neg h2, if_neg (by omega)]
theorem own_sh0 (x : Int64) : x = own_sh x 0 := by
  show x = (x.toUInt64 >>> (0 : UInt64)).toInt64
  have e : x.toUInt64 >>> (0 : UInt64) = x.toUInt64 := by apply UInt64.toNat_inj.mp; simp
  rw [e]
  rfl
theorem own_shr (x : Int64) (a b c : UInt64) (ha : a.toNat < 64) (hb : b.toNat < 64) (hc : c.toNat = a.toNat + b.toNat ∧ c.toNat < 64) : ((x.toUInt64 >>> a).toInt64.toUInt64 >>> b).toInt64 = (x.toUInt64 >>> c).toInt64 := by
  have e : (x.toUInt64 >>> a) >>> b = x.toUInt64 >>> c := by
    apply UInt64.toNat_inj.mp
    simp only [UInt64.toNat_shiftRight]
    rw [Nat.mod_eq_of_lt ha, Nat.mod_eq_of_lt hb, Nat.mod_eq_of_lt hc.2, hc.1, Nat.shiftRight_add]
  show ((x.toUInt64 >>> a) >>> b).toInt64 = _
  rw [e]
theorem own_shs (x : Int64) (i : Nat) (hi : i < 7) : (((own_sh x i).toUInt64 >>> ((8 : Int32) &&& 0x3f).toInt64.toUInt64).toInt64) = own_sh x (i + 1) := by
  have e : ((8 : Int32) &&& 0x3f).toInt64.toUInt64 = 8 := by decide
  rw [e]
  unfold own_sh
  match i, hi with
  | 0, _ => exact own_shr x 0 8 8 (by decide) (by decide) (by decide)
  | 1, _ => exact own_shr x 8 8 16 (by decide) (by decide) (by decide)
  | 2, _ => exact own_shr x 16 8 24 (by decide) (by decide) (by decide)
  | 3, _ => exact own_shr x 24 8 32 (by decide) (by decide) (by decide)
  | 4, _ => exact own_shr x 32 8 40 (by decide) (by decide) (by decide)
  | 5, _ => exact own_shr x 40 8 48 (by decide) (by decide) (by decide)
  | 6, _ => exact own_shr x 48 8 56 (by decide) (by decide) (by decide)
theorem own_lit (i : Fin 8) : (((8 : Int32) * Int32.ofNat i.1) &&& 0x3f).toInt64.toUInt64 = UInt64.ofNat (8 * i.1) := by revert i; decide
theorem own_t (n : Nat) (h : n < 100) : (Int32.ofNat n).toInt = n := toInt_of rfl (by omega)
theorem own_cvs (x : Int64) (k a j : Nat) (hk : k ≤ 8) (ha : a ≤ 3) (h1 : a ≤ j) (h2 : j < a + k) : own_cv x (Int32.ofNat k) (Int32.ofNat a) (Int32.ofNat j) = own_by (own_sh x (k - 1 - (j - a))) := by
  have e : (Int32.ofNat k - (1 : Int32)) - (Int32.ofNat j - Int32.ofNat a) = Int32.ofNat (k - 1 - (j - a)) := by
    apply Int32.toInt_inj.mp
    have t1 := own_t k (by omega); have t2 := own_t a (by omega); have t3 := own_t j (by omega); have t4 := own_t (k - 1 - (j - a)) (by omega)
    have o1 : (1 : Int32).toInt = 1 := by decide
    have c1 := c_isub (Int32.ofNat k) (1 : Int32); have c2 := c_isub (Int32.ofNat j) (Int32.ofNat a); have c3 := c_isub (Int32.ofNat k - (1 : Int32)) (Int32.ofNat j - Int32.ofNat a)
    have r1 := rng32 (Int32.ofNat k - (1 : Int32)); have r2 := rng32 (Int32.ofNat j - Int32.ofNat a); have r3 := rng32 ((Int32.ofNat k - (1 : Int32)) - (Int32.ofNat j - Int32.ofNat a))
    omega
  unfold own_cv own_by own_sh
  rw [e, own_lit ⟨k - 1 - (j - a), by omega⟩, own_bb]
theorem own_gp (f : Nat → Int32) (x : Int64) (a k : Nat) (hk : k ≤ 8) (ha : a ≤ 3) : own_vals (own_G f x a k k) = own_vals (own_put f x (Int32.ofNat k) (Int32.ofNat a)) := by
  apply own_ve
  intro j hj
  rw [own_Gj f x a k k (Nat.le_refl k) j]
  unfold own_put
  have t1 := own_t k (by omega); have t2 := own_t a (by omega); have t3 := own_t j (by omega)
  have c1 := c_iadd (Int32.ofNat a) (Int32.ofNat k); have r1 := rng32 (Int32.ofNat a + Int32.ofNat k)
  simp only [Int32.lt_iff_toInt_lt]
  by_cases h1 : j < a
  · rw [if_neg (by omega), if_pos (by omega)]
  · rw [if_neg (c := (Int32.ofNat j).toInt < (Int32.ofNat a).toInt) (by omega)]
    by_cases h2 : j < a + k
    · rw [if_pos (by omega), if_pos (by omega), own_cvs x k a j hk ha (by omega) h2]
    · rw [if_neg (by omega), if_neg (by omega)]
theorem own_in (a : Nat) (h : a ≤ 3) (k : Nat) (hk : k < 8) : (¬ (Int32.ofNat a) + Int32.ofNat k < 0 ∧ (Int32.ofNat a) + Int32.ofNat k < 12) ∧ ((Int32.ofNat a) + Int32.ofNat k).toNatClampNeg = a + k ∧ a + k < 12 := by
  have t1 := own_t k (by omega); have t2 := own_t a (by omega)
  have c1 := c_iadd (Int32.ofNat a) (Int32.ofNat k); have r1 := rng32 (Int32.ofNat a + Int32.ofNat k)
  have e0 : (0 : Int32).toInt = 0 := by decide
  have e1 : (12 : Int32).toInt = 12 := by decide
  have n0 : ¬ (Int32.ofNat a) + Int32.ofNat k < 0 := by rw [Int32.lt_iff_toInt_lt]; omega
  have q := nat_of n0
  exact ⟨⟨n0, by rw [Int32.lt_iff_toInt_lt]; omega⟩, by omega, by omega⟩
def QP (Z : State) (jb : Int64) (p2 : Int32) (a3 : Addr) (av : Nat) (k1 : ClassId) (f : Nat → Int32) (h0 : Heap) (n0 : Nat) (v : Option Value) (h : Heap) (L : List Loc) : Prop := v = none ∧ Fr n0 L ∧ Keep h0 h [a3] ∧ Arv Z h a3 k1 .byte (12 : Int32) (own_vals (own_put f jb p2 (Int32.ofNat av))) (.int (0 : Int32))
theorem own_g0 (jb : Int64) (av : Nat) (f : Nat → Int32) (h : av ≤ 3) : own_vals f = own_vals (own_put f jb (0 : Int32) (Int32.ofNat av)) := own_gp f jb av 0 (by decide) h
theorem d1_0 : decode prog_55_method_40_code 0 = .ok (.iload_n 2, 1) := by decide +kernel
theorem d1_1 : decode prog_55_method_40_code 1 = .ok (.iconst 1, 1) := by decide +kernel
theorem d1_2 : decode prog_55_method_40_code 2 = .ok (.isub, 1) := by decide +kernel
theorem d1_3 : decode prog_55_method_40_code 3 = .ok (.istore 5, 2) := by decide +kernel
theorem d1_5 : decode prog_55_method_40_code 5 = .ok (.iload 5, 2) := by decide +kernel
theorem d1_7 : decode prog_55_method_40_code 7 = .ok (.ifCond .lt 24, 3) := by decide +kernel
theorem d1_10 : decode prog_55_method_40_code 10 = .ok (.aload_n 3, 1) := by decide +kernel
theorem d1_11 : decode prog_55_method_40_code 11 = .ok (.iload 4, 2) := by decide +kernel
theorem d1_13 : decode prog_55_method_40_code 13 = .ok (.iload 5, 2) := by decide +kernel
theorem d1_15 : decode prog_55_method_40_code 15 = .ok (.iadd, 1) := by decide +kernel
theorem d1_16 : decode prog_55_method_40_code 16 = .ok (.lload_n 0, 1) := by decide +kernel
theorem d1_17 : decode prog_55_method_40_code 17 = .ok (.l2i, 1) := by decide +kernel
theorem d1_18 : decode prog_55_method_40_code 18 = .ok (.i2b, 1) := by decide +kernel
theorem d1_19 : decode prog_55_method_40_code 19 = .ok (.bastore, 1) := by decide +kernel
theorem d1_20 : decode prog_55_method_40_code 20 = .ok (.lload_n 0, 1) := by decide +kernel
theorem d1_21 : decode prog_55_method_40_code 21 = .ok (.bipush 8, 2) := by decide +kernel
theorem d1_23 : decode prog_55_method_40_code 23 = .ok (.lushr, 1) := by decide +kernel
theorem d1_24 : decode prog_55_method_40_code 24 = .ok (.lstore_n 0, 1) := by decide +kernel
theorem d1_25 : decode prog_55_method_40_code 25 = .ok (.iinc 5 (-1), 3) := by decide +kernel
theorem d1_28 : decode prog_55_method_40_code 28 = .ok (.goto (-23), 3) := by decide +kernel
theorem d1_31 : decode prog_55_method_40_code 31 = .ok (.return_, 1) := by decide +kernel
theorem pn_1 : plainName "com/example/backstitch/backstitch/stream/StreamTable" = true := by first | (simp [plainName, overriddenIn]; done) | decide +kernel
theorem ef_1_0 (m : MethodId) (jb : Int64) (a3 : Addr) : entryFrame m #[(.long jb), (.int (0 : Int32)), (.ref a3), (.int (Int32.ofNat av))] 6 = mkF m 0 #[.val (.long jb), .second, .val (.int (0 : Int32)), .val (.ref a3), .val (.int (Int32.ofNat av)), .unset] [] := by first | (simp [entryFrame, mkF, argsToLocals, Value.category]; done) | rfl
set_option maxRecDepth 65536 in
set_option maxHeartbeats 40000000 in
theorem rm1_0 (l : Launch) (Z : State) (a0 : Array Value) (hw : ∀ d ∈ tables_1, d.before a0 Z = true) (ws : List Jvm.Cond) (jb : Int64) (a3 : Addr) (av : Nat) (k1 : ClassId) (f : Nat → Int32) (h0 : Heap) (n0 : Nat) (Z0 : n0 ≤ h0.size) (ha : av ≤ 3) (V_1 : Arv Z h0 a3 k1 .byte (12 : Int32) (own_vals f) (.int (0 : Int32))) (g_a3 : n0 ≤ a3) :
    MetFree l (⟨"com/example/backstitch/backstitch/stream/StreamTable", "putBits", "(JI[BI)V"⟩ : MethodName) (head1 (Jvm.Cond.code (⟨"com/example/backstitch/backstitch/stream/StreamTable", "putBits", "(JI[BI)V"⟩ : MethodName) prog_55_method_40_code 6 none :: ws) ({ frames := 0, cells := 0, slots := 0, locals := 0 } : Room)) (fun a U => a = #[(.long jb), (.int (0 : Int32)), (.ref a3), (.int (Int32.ofNat av))] ∧ Z.Warmed39 U.vm ∧ U.heap = h0) (fun _ _ _ _ _ => True) (fun _ U o U' => ∃ v L, o = .returned v ∧ QP Z jb (0 : Int32) a3 av k1 f h0 n0 v U'.heap L ∧ FrameEnd U o U' L ({ frames := 0, cells := 0, slots := 0, locals := 0 } : Room).cells ({ frames := 0, cells := 0, slots := 0, locals := 0 } : Room).slots) := by
  refine MetFree.of_bodySF (plainFor_of_name pn_1) hisR ?_
  intro p e s m args below meth c s₁ Bd hml0 hP hK
  obtain ⟨rfl, hZ, hh⟩ := hP
  have hx := Bd.exec
  have hby := Bd.bytes
  have hml : c.maxLocals = 6 := hml0
  have hown : s.vm.findClass "com/example/backstitch/backstitch/stream/StreamTable" = some m.cls := findClass_of_methodNamed Bd.named
  have hnm := (name_of_methodNamed Bd.named Bd.method).1
  have X0 : Stand p l e ({ frames := 0, cells := 0, slots := 0, locals := 0 } : Room) s m #[(.long jb), (.int (0 : Int32)), (.ref a3), (.int (Int32.ofNat av))] below meth c s₁ [] 0 0 := Stand.of_body Bd
  have e0 : s₁.heap = h0 := by rw [← hh, Bd.state]; rfl
  have N0 := Fr.nil n0
  have pre0 : ∀ t, Steps p.tables e below (s₁.setTop (mkF m 0 #[.val (.long jb), .second, .val (.int (0 : Int32)), .val (.ref a3), .val (.int (Int32.ofNat av)), .unset] [])) t → Steps p.tables e below (s₁.setTop (entryFrame m #[(.long jb), (.int (0 : Int32)), (.ref a3), (.int (Int32.ofNat av))] 6)) t := fun t k => castTop (ef_1_0 m jb a3) k
  have K0 : Keep h0 h0 [a3] := Keep.refl h0 [a3]
  obtain ⟨fs, hr, hrun, hended, hW, hsame⟩ := X0.leave (v := none) (fun _ => rfl)
  refine ⟨_, _, pre0 _ ?_, hrun, hended, _, _, rfl, ?_, ⟨_, rfl⟩, hW, hsame.mono (by decide) (by decide)⟩
  · show Steps p.tables e below (s₁.setTop (mkF m 0 #[.val (.long jb), .second, .val (.int (0 : Int32)), .val (.ref a3), .val (.int (Int32.ofNat av)), .unset] [])) _
    refine XS.iloadN X0.here hx rfl (hb hby d1_0) rfl ?_
    show Steps p.tables e below (s₁.setTop (mkF m 1 #[.val (.long jb), .second, .val (.int (0 : Int32)), .val (.ref a3), .val (.int (Int32.ofNat av)), .unset] [(.int (0 : Int32))])) _
    refine XS.iconst X0.here hx rfl (hb hby d1_1) ?_
    show Steps p.tables e below (s₁.setTop (mkF m 2 #[.val (.long jb), .second, .val (.int (0 : Int32)), .val (.ref a3), .val (.int (Int32.ofNat av)), .unset] [(.int (1 : Int32)), (.int (0 : Int32))])) _
    refine XS.isub X0.here hx rfl (hb hby d1_2) rfl ?_
    show Steps p.tables e below (s₁.setTop (mkF m 3 #[.val (.long jb), .second, .val (.int (0 : Int32)), .val (.ref a3), .val (.int (Int32.ofNat av)), .unset] [(.int (-1 : Int32))])) _
    refine XS.istore X0.here hx rfl (hb hby d1_3) rfl (l' := #[.val (.long jb), .second, .val (.int (0 : Int32)), .val (.ref a3), .val (.int (Int32.ofNat av)), .val (.int (-1 : Int32))]) rfl ?_
    show Steps p.tables e below (s₁.setTop (mkF m 5 #[.val (.long jb), .second, .val (.int (0 : Int32)), .val (.ref a3), .val (.int (Int32.ofNat av)), .val (.int (-1 : Int32))] [])) _
    rw [show (Value.long jb) = Value.long (own_sh jb 0) from congrArg Value.long (own_sh0 jb)]
    show Steps p.tables e below (s₁.setTop (mkF m 5 #[.val (.long (own_sh jb 0)), .second, .val (.int (0 : Int32)), .val (.ref a3), .val (.int (Int32.ofNat av)), .val (.int (-1 : Int32))] [])) _
    refine XS.iload X0.here hx rfl (hb hby d1_5) rfl ?_
    show Steps p.tables e below (s₁.setTop (mkF m 7 #[.val (.long (own_sh jb 0)), .second, .val (.int (0 : Int32)), .val (.ref a3), .val (.int (Int32.ofNat av)), .val (.int (-1 : Int32))] [(.int (-1 : Int32))])) _
    refine XS.ifYes X0.here hx rfl (pc0 := 7) (pc' := 31) rfl (hb hby d1_7) rfl ((if0 _ _).trans (tlt (by decide : ((-1 : Int32) < (0 : Int32)))).1) (by decide) (by decide) ?_
    show Steps p.tables e below (s₁.setTop (mkF m 31 #[.val (.long (own_sh jb 0)), .second, .val (.int (0 : Int32)), .val (.ref a3), .val (.int (Int32.ofNat av)), .val (.int (-1 : Int32))] [])) _
    exact X0.returnOut hx Bd.returns (hb hby d1_31) hr
  · show QP Z jb (0 : Int32) a3 av k1 f h0 n0 _ s₁.heap _
    rw [e0]
    exact ⟨rfl, N0, K0, own_g0 jb av f ha ▸ V_1⟩
theorem own_g1 (jb : Int64) (av : Nat) (f : Nat → Int32) (h : av ≤ 3) : own_vals (own_upd f (av + 0) (own_by (own_sh jb 0))) = own_vals (own_put f jb (1 : Int32) (Int32.ofNat av)) := own_gp f jb av 1 (by decide) h
theorem ef_1_1 (m : MethodId) (jb : Int64) (a3 : Addr) : entryFrame m #[(.long jb), (.int (1 : Int32)), (.ref a3), (.int (Int32.ofNat av))] 6 = mkF m 0 #[.val (.long jb), .second, .val (.int (1 : Int32)), .val (.ref a3), .val (.int (Int32.ofNat av)), .unset] [] := by first | (simp [entryFrame, mkF, argsToLocals, Value.category]; done) | rfl
set_option maxRecDepth 65536 in
set_option maxHeartbeats 40000000 in
theorem rm1_1 (l : Launch) (Z : State) (a0 : Array Value) (hw : ∀ d ∈ tables_1, d.before a0 Z = true) (ws : List Jvm.Cond) (jb : Int64) (a3 : Addr) (av : Nat) (k1 : ClassId) (f : Nat → Int32) (h0 : Heap) (n0 : Nat) (Z0 : n0 ≤ h0.size) (ha : av ≤ 3) (V_1 : Arv Z h0 a3 k1 .byte (12 : Int32) (own_vals f) (.int (0 : Int32))) (g_a3 : n0 ≤ a3) :
    MetFree l (⟨"com/example/backstitch/backstitch/stream/StreamTable", "putBits", "(JI[BI)V"⟩ : MethodName) (head1 (Jvm.Cond.code (⟨"com/example/backstitch/backstitch/stream/StreamTable", "putBits", "(JI[BI)V"⟩ : MethodName) prog_55_method_40_code 6 none :: ws) ({ frames := 0, cells := 0, slots := 0, locals := 0 } : Room)) (fun a U => a = #[(.long jb), (.int (1 : Int32)), (.ref a3), (.int (Int32.ofNat av))] ∧ Z.Warmed39 U.vm ∧ U.heap = h0) (fun _ _ _ _ _ => True) (fun _ U o U' => ∃ v L, o = .returned v ∧ QP Z jb (1 : Int32) a3 av k1 f h0 n0 v U'.heap L ∧ FrameEnd U o U' L ({ frames := 0, cells := 0, slots := 0, locals := 0 } : Room).cells ({ frames := 0, cells := 0, slots := 0, locals := 0 } : Room).slots) := by
  refine MetFree.of_bodySF (plainFor_of_name pn_1) hisR ?_
  intro p e s m args below meth c s₁ Bd hml0 hP hK
  obtain ⟨rfl, hZ, hh⟩ := hP
  have hx := Bd.exec
  have hby := Bd.bytes
  have hml : c.maxLocals = 6 := hml0
  have hown : s.vm.findClass "com/example/backstitch/backstitch/stream/StreamTable" = some m.cls := findClass_of_methodNamed Bd.named
  have hnm := (name_of_methodNamed Bd.named Bd.method).1
  have X0 : Stand p l e ({ frames := 0, cells := 0, slots := 0, locals := 0 } : Room) s m #[(.long jb), (.int (1 : Int32)), (.ref a3), (.int (Int32.ofNat av))] below meth c s₁ [] 0 0 := Stand.of_body Bd
  have e0 : s₁.heap = h0 := by rw [← hh, Bd.state]; rfl
  have N0 := Fr.nil n0
  have pre0 : ∀ t, Steps p.tables e below (s₁.setTop (mkF m 0 #[.val (.long jb), .second, .val (.int (1 : Int32)), .val (.ref a3), .val (.int (Int32.ofNat av)), .unset] [])) t → Steps p.tables e below (s₁.setTop (entryFrame m #[(.long jb), (.int (1 : Int32)), (.ref a3), (.int (Int32.ofNat av))] 6)) t := fun t k => castTop (ef_1_1 m jb a3) k
  have K0 : Keep h0 h0 [a3] := Keep.refl h0 [a3]
  obtain ⟨cl1, Ar1, q1, S1, M1, H1, G1⟩ := id V_1
  have hin1 : ¬ (((Int32.ofNat av) + (0 : Int32)) < 0 ∨ cl1.slots.size ≤ (((Int32.ofNat av) + (0 : Int32))).toNatClampNeg) := inb_of S1 (own_in av ha 0 (by decide)).1
  obtain ⟨T1, h1, X1, e1, W1, st1⟩ := stB X0 hx hZ e0 Ar1 (j := ((Int32.ofNat av) + (0 : Int32))) hin1 (g := (mkF m 19 #[.val (.long (own_sh jb 0)), .second, .val (.int (1 : Int32)), .val (.ref a3), .val (.int (Int32.ofNat av)), .val (.int (0 : Int32))] [(.int (((own_sh jb 0).toInt32).toInt8.toInt32)), (.int ((Int32.ofNat av) + (0 : Int32))), (.ref a3)])) rfl rfl (hb hby d1_19)
  have V1 := Arv.set Ar1 q1 S1 M1 H1 G1 (fits_nar_byte _) W1 (av + 0) (own_in av ha 0 (by decide)).2.1 (own_in av ha 0 (by decide)).2.2
  have K1 : Keep h0 h1 [a3] := K0.wr W1 (Or.inl (List.mem_of_getElem? (i := 0) rfl))
  have N1 := Fr.snoc X1 N0 g_a3
  have Z1 : n0 ≤ h1.size := Nat.le_trans Z0 (Keep.of_wr W1).1
  have U1 : Arv Z h1 a3 k1 .byte (12 : Int32) (own_vals (own_upd f (av + 0) (own_by (own_sh jb 0)))) (.int (0 : Int32)) := by rw [← own_set _ _ _ (own_in av ha 0 (by decide)).2.2]; exact V1
  obtain ⟨fs, hr, hrun, hended, hW, hsame⟩ := X1.leave (v := none) (fun _ => rfl)
  refine ⟨_, _, pre0 _ ?_, hrun, hended, _, _, rfl, ?_, ⟨_, rfl⟩, hW, hsame.mono (by decide) (by decide)⟩
  · show Steps p.tables e below (s₁.setTop (mkF m 0 #[.val (.long jb), .second, .val (.int (1 : Int32)), .val (.ref a3), .val (.int (Int32.ofNat av)), .unset] [])) _
    refine XS.iloadN X0.here hx rfl (hb hby d1_0) rfl ?_
    show Steps p.tables e below (s₁.setTop (mkF m 1 #[.val (.long jb), .second, .val (.int (1 : Int32)), .val (.ref a3), .val (.int (Int32.ofNat av)), .unset] [(.int (1 : Int32))])) _
    refine XS.iconst X0.here hx rfl (hb hby d1_1) ?_
    show Steps p.tables e below (s₁.setTop (mkF m 2 #[.val (.long jb), .second, .val (.int (1 : Int32)), .val (.ref a3), .val (.int (Int32.ofNat av)), .unset] [(.int (1 : Int32)), (.int (1 : Int32))])) _
    refine XS.isub X0.here hx rfl (hb hby d1_2) rfl ?_
    show Steps p.tables e below (s₁.setTop (mkF m 3 #[.val (.long jb), .second, .val (.int (1 : Int32)), .val (.ref a3), .val (.int (Int32.ofNat av)), .unset] [(.int (0 : Int32))])) _
    refine XS.istore X0.here hx rfl (hb hby d1_3) rfl (l' := #[.val (.long jb), .second, .val (.int (1 : Int32)), .val (.ref a3), .val (.int (Int32.ofNat av)), .val (.int (0 : Int32))]) rfl ?_
    show Steps p.tables e below (s₁.setTop (mkF m 5 #[.val (.long jb), .second, .val (.int (1 : Int32)), .val (.ref a3), .val (.int (Int32.ofNat av)), .val (.int (0 : Int32))] [])) _
    rw [show (Value.long jb) = Value.long (own_sh jb 0) from congrArg Value.long (own_sh0 jb)]
    show Steps p.tables e below (s₁.setTop (mkF m 5 #[.val (.long (own_sh jb 0)), .second, .val (.int (1 : Int32)), .val (.ref a3), .val (.int (Int32.ofNat av)), .val (.int (0 : Int32))] [])) _
    refine XS.iload X0.here hx rfl (hb hby d1_5) rfl ?_
    show Steps p.tables e below (s₁.setTop (mkF m 7 #[.val (.long (own_sh jb 0)), .second, .val (.int (1 : Int32)), .val (.ref a3), .val (.int (Int32.ofNat av)), .val (.int (0 : Int32))] [(.int (0 : Int32))])) _
    refine XS.ifNo X0.here hx rfl (hb hby d1_7) rfl ((if0 _ _).trans (flt (by decide : ¬ ((0 : Int32) < (0 : Int32)))).1) ?_
    show Steps p.tables e below (s₁.setTop (mkF m 10 #[.val (.long (own_sh jb 0)), .second, .val (.int (1 : Int32)), .val (.ref a3), .val (.int (Int32.ofNat av)), .val (.int (0 : Int32))] [])) _
    refine XS.aloadN X0.here hx rfl (hb hby d1_10) rfl rfl ?_
    show Steps p.tables e below (s₁.setTop (mkF m 11 #[.val (.long (own_sh jb 0)), .second, .val (.int (1 : Int32)), .val (.ref a3), .val (.int (Int32.ofNat av)), .val (.int (0 : Int32))] [(.ref a3)])) _
    refine XS.iload X0.here hx rfl (hb hby d1_11) rfl ?_
    show Steps p.tables e below (s₁.setTop (mkF m 13 #[.val (.long (own_sh jb 0)), .second, .val (.int (1 : Int32)), .val (.ref a3), .val (.int (Int32.ofNat av)), .val (.int (0 : Int32))] [(.int (Int32.ofNat av)), (.ref a3)])) _
    refine XS.iload X0.here hx rfl (hb hby d1_13) rfl ?_
    show Steps p.tables e below (s₁.setTop (mkF m 15 #[.val (.long (own_sh jb 0)), .second, .val (.int (1 : Int32)), .val (.ref a3), .val (.int (Int32.ofNat av)), .val (.int (0 : Int32))] [(.int (0 : Int32)), (.int (Int32.ofNat av)), (.ref a3)])) _
    refine XS.iadd X0.here hx rfl (hb hby d1_15) rfl ?_
    show Steps p.tables e below (s₁.setTop (mkF m 16 #[.val (.long (own_sh jb 0)), .second, .val (.int (1 : Int32)), .val (.ref a3), .val (.int (Int32.ofNat av)), .val (.int (0 : Int32))] [(.int ((Int32.ofNat av) + (0 : Int32))), (.ref a3)])) _
    refine XS.lloadN X0.here hx rfl (hb hby d1_16) rfl ?_
    show Steps p.tables e below (s₁.setTop (mkF m 17 #[.val (.long (own_sh jb 0)), .second, .val (.int (1 : Int32)), .val (.ref a3), .val (.int (Int32.ofNat av)), .val (.int (0 : Int32))] [(.long (own_sh jb 0)), (.int ((Int32.ofNat av) + (0 : Int32))), (.ref a3)])) _
    refine XS.l2i X0.here hx rfl (hb hby d1_17) rfl ?_
    show Steps p.tables e below (s₁.setTop (mkF m 18 #[.val (.long (own_sh jb 0)), .second, .val (.int (1 : Int32)), .val (.ref a3), .val (.int (Int32.ofNat av)), .val (.int (0 : Int32))] [(.int ((own_sh jb 0).toInt32)), (.int ((Int32.ofNat av) + (0 : Int32))), (.ref a3)])) _
    refine XS.i2b X0.here hx rfl (hb hby d1_18) rfl ?_
    show Steps p.tables e below (s₁.setTop (mkF m 19 #[.val (.long (own_sh jb 0)), .second, .val (.int (1 : Int32)), .val (.ref a3), .val (.int (Int32.ofNat av)), .val (.int (0 : Int32))] [(.int (((own_sh jb 0).toInt32).toInt8.toInt32)), (.int ((Int32.ofNat av) + (0 : Int32))), (.ref a3)])) _
    refine st1 _ ?_
    show Steps p.tables e below (T1.setTop (mkF m 20 #[.val (.long (own_sh jb 0)), .second, .val (.int (1 : Int32)), .val (.ref a3), .val (.int (Int32.ofNat av)), .val (.int (0 : Int32))] [])) _
    refine XS.lloadN X1.here hx rfl (hb hby d1_20) rfl ?_
    show Steps p.tables e below (T1.setTop (mkF m 21 #[.val (.long (own_sh jb 0)), .second, .val (.int (1 : Int32)), .val (.ref a3), .val (.int (Int32.ofNat av)), .val (.int (0 : Int32))] [(.long (own_sh jb 0))])) _
    refine XS.bipush X1.here hx rfl (hb hby d1_21) ?_
    show Steps p.tables e below (T1.setTop (mkF m 23 #[.val (.long (own_sh jb 0)), .second, .val (.int (1 : Int32)), .val (.ref a3), .val (.int (Int32.ofNat av)), .val (.int (0 : Int32))] [(.int (8 : Int32)), (.long (own_sh jb 0))])) _
    refine XS.lushr X1.here hx rfl (hb hby d1_23) rfl ?_
    show Steps p.tables e below (T1.setTop (mkF m 24 #[.val (.long (own_sh jb 0)), .second, .val (.int (1 : Int32)), .val (.ref a3), .val (.int (Int32.ofNat av)), .val (.int (0 : Int32))] [(.long (((own_sh jb 0).toUInt64 >>> ((8 : Int32) &&& 0x3f).toInt64.toUInt64).toInt64))])) _
    refine XS.lstoreN X1.here hx rfl (hb hby d1_24) rfl (l' := #[.val (.long (((own_sh jb 0).toUInt64 >>> ((8 : Int32) &&& 0x3f).toInt64.toUInt64).toInt64)), .second, .val (.int (1 : Int32)), .val (.ref a3), .val (.int (Int32.ofNat av)), .val (.int (0 : Int32))]) rfl ?_
    show Steps p.tables e below (T1.setTop (mkF m 25 #[.val (.long (((own_sh jb 0).toUInt64 >>> ((8 : Int32) &&& 0x3f).toInt64.toUInt64).toInt64)), .second, .val (.int (1 : Int32)), .val (.ref a3), .val (.int (Int32.ofNat av)), .val (.int (0 : Int32))] [])) _
    refine XS.iinc X1.here hx rfl (hb hby d1_25) rfl (l' := #[.val (.long (((own_sh jb 0).toUInt64 >>> ((8 : Int32) &&& 0x3f).toInt64.toUInt64).toInt64)), .second, .val (.int (1 : Int32)), .val (.ref a3), .val (.int (Int32.ofNat av)), .val (.int (-1 : Int32))]) rfl ?_
    show Steps p.tables e below (T1.setTop (mkF m 28 #[.val (.long (((own_sh jb 0).toUInt64 >>> ((8 : Int32) &&& 0x3f).toInt64.toUInt64).toInt64)), .second, .val (.int (1 : Int32)), .val (.ref a3), .val (.int (Int32.ofNat av)), .val (.int (-1 : Int32))] [])) _
    refine XS.goto X1.here hx rfl (pc0 := 28) (pc' := 5) rfl (hb hby d1_28) (by decide) (by decide) ?_
    show Steps p.tables e below (T1.setTop (mkF m 5 #[.val (.long (((own_sh jb 0).toUInt64 >>> ((8 : Int32) &&& 0x3f).toInt64.toUInt64).toInt64)), .second, .val (.int (1 : Int32)), .val (.ref a3), .val (.int (Int32.ofNat av)), .val (.int (-1 : Int32))] [])) _
    rw [own_shs jb 0 (by decide)]
    show Steps p.tables e below (T1.setTop (mkF m 5 #[.val (.long (own_sh jb 1)), .second, .val (.int (1 : Int32)), .val (.ref a3), .val (.int (Int32.ofNat av)), .val (.int (-1 : Int32))] [])) _
    refine XS.iload X1.here hx rfl (hb hby d1_5) rfl ?_
    show Steps p.tables e below (T1.setTop (mkF m 7 #[.val (.long (own_sh jb 1)), .second, .val (.int (1 : Int32)), .val (.ref a3), .val (.int (Int32.ofNat av)), .val (.int (-1 : Int32))] [(.int (-1 : Int32))])) _
    refine XS.ifYes X1.here hx rfl (pc0 := 7) (pc' := 31) rfl (hb hby d1_7) rfl ((if0 _ _).trans (tlt (by decide : ((-1 : Int32) < (0 : Int32)))).1) (by decide) (by decide) ?_
    show Steps p.tables e below (T1.setTop (mkF m 31 #[.val (.long (own_sh jb 1)), .second, .val (.int (1 : Int32)), .val (.ref a3), .val (.int (Int32.ofNat av)), .val (.int (-1 : Int32))] [])) _
    exact X1.returnOut hx Bd.returns (hb hby d1_31) hr
  · show QP Z jb (1 : Int32) a3 av k1 f h0 n0 _ T1.heap _
    rw [e1]
    exact ⟨rfl, N1, K1, own_g1 jb av f ha ▸ U1⟩
theorem own_g2 (jb : Int64) (av : Nat) (f : Nat → Int32) (h : av ≤ 3) : own_vals (own_upd (own_upd f (av + 1) (own_by (own_sh jb 0))) (av + 0) (own_by (own_sh jb 1))) = own_vals (own_put f jb (2 : Int32) (Int32.ofNat av)) := own_gp f jb av 2 (by decide) h
theorem ef_1_2 (m : MethodId) (jb : Int64) (a3 : Addr) : entryFrame m #[(.long jb), (.int (2 : Int32)), (.ref a3), (.int (Int32.ofNat av))] 6 = mkF m 0 #[.val (.long jb), .second, .val (.int (2 : Int32)), .val (.ref a3), .val (.int (Int32.ofNat av)), .unset] [] := by first | (simp [entryFrame, mkF, argsToLocals, Value.category]; done) | rfl
set_option maxRecDepth 65536 in
set_option maxHeartbeats 40000000 in
theorem rm1_2 (l : Launch) (Z : State) (a0 : Array Value) (hw : ∀ d ∈ tables_1, d.before a0 Z = true) (ws : List Jvm.Cond) (jb : Int64) (a3 : Addr) (av : Nat) (k1 : ClassId) (f : Nat → Int32) (h0 : Heap) (n0 : Nat) (Z0 : n0 ≤ h0.size) (ha : av ≤ 3) (V_1 : Arv Z h0 a3 k1 .byte (12 : Int32) (own_vals f) (.int (0 : Int32))) (g_a3 : n0 ≤ a3) :
    MetFree l (⟨"com/example/backstitch/backstitch/stream/StreamTable", "putBits", "(JI[BI)V"⟩ : MethodName) (head1 (Jvm.Cond.code (⟨"com/example/backstitch/backstitch/stream/StreamTable", "putBits", "(JI[BI)V"⟩ : MethodName) prog_55_method_40_code 6 none :: ws) ({ frames := 0, cells := 0, slots := 0, locals := 0 } : Room)) (fun a U => a = #[(.long jb), (.int (2 : Int32)), (.ref a3), (.int (Int32.ofNat av))] ∧ Z.Warmed39 U.vm ∧ U.heap = h0) (fun _ _ _ _ _ => True) (fun _ U o U' => ∃ v L, o = .returned v ∧ QP Z jb (2 : Int32) a3 av k1 f h0 n0 v U'.heap L ∧ FrameEnd U o U' L ({ frames := 0, cells := 0, slots := 0, locals := 0 } : Room).cells ({ frames := 0, cells := 0, slots := 0, locals := 0 } : Room).slots) := by
  refine MetFree.of_bodySF (plainFor_of_name pn_1) hisR ?_
  intro p e s m args below meth c s₁ Bd hml0 hP hK
  obtain ⟨rfl, hZ, hh⟩ := hP
  have hx := Bd.exec
  have hby := Bd.bytes
  have hml : c.maxLocals = 6 := hml0
  have hown : s.vm.findClass "com/example/backstitch/backstitch/stream/StreamTable" = some m.cls := findClass_of_methodNamed Bd.named
  have hnm := (name_of_methodNamed Bd.named Bd.method).1
  have X0 : Stand p l e ({ frames := 0, cells := 0, slots := 0, locals := 0 } : Room) s m #[(.long jb), (.int (2 : Int32)), (.ref a3), (.int (Int32.ofNat av))] below meth c s₁ [] 0 0 := Stand.of_body Bd
  have e0 : s₁.heap = h0 := by rw [← hh, Bd.state]; rfl
  have N0 := Fr.nil n0
  have pre0 : ∀ t, Steps p.tables e below (s₁.setTop (mkF m 0 #[.val (.long jb), .second, .val (.int (2 : Int32)), .val (.ref a3), .val (.int (Int32.ofNat av)), .unset] [])) t → Steps p.tables e below (s₁.setTop (entryFrame m #[(.long jb), (.int (2 : Int32)), (.ref a3), (.int (Int32.ofNat av))] 6)) t := fun t k => castTop (ef_1_2 m jb a3) k
  have K0 : Keep h0 h0 [a3] := Keep.refl h0 [a3]
  obtain ⟨cl1, Ar1, q1, S1, M1, H1, G1⟩ := id V_1
  have hin1 : ¬ (((Int32.ofNat av) + (1 : Int32)) < 0 ∨ cl1.slots.size ≤ (((Int32.ofNat av) + (1 : Int32))).toNatClampNeg) := inb_of S1 (own_in av ha 1 (by decide)).1
  obtain ⟨T1, h1, X1, e1, W1, st1⟩ := stB X0 hx hZ e0 Ar1 (j := ((Int32.ofNat av) + (1 : Int32))) hin1 (g := (mkF m 19 #[.val (.long (own_sh jb 0)), .second, .val (.int (2 : Int32)), .val (.ref a3), .val (.int (Int32.ofNat av)), .val (.int (1 : Int32))] [(.int (((own_sh jb 0).toInt32).toInt8.toInt32)), (.int ((Int32.ofNat av) + (1 : Int32))), (.ref a3)])) rfl rfl (hb hby d1_19)
  have V1 := Arv.set Ar1 q1 S1 M1 H1 G1 (fits_nar_byte _) W1 (av + 1) (own_in av ha 1 (by decide)).2.1 (own_in av ha 1 (by decide)).2.2
  have K1 : Keep h0 h1 [a3] := K0.wr W1 (Or.inl (List.mem_of_getElem? (i := 0) rfl))
  have N1 := Fr.snoc X1 N0 g_a3
  have Z1 : n0 ≤ h1.size := Nat.le_trans Z0 (Keep.of_wr W1).1
  have U1 : Arv Z h1 a3 k1 .byte (12 : Int32) (own_vals (own_upd f (av + 1) (own_by (own_sh jb 0)))) (.int (0 : Int32)) := by rw [← own_set _ _ _ (own_in av ha 1 (by decide)).2.2]; exact V1
  obtain ⟨cl3, Ar3, q3, S3, M3, H3, G3⟩ := id U1
  have hin3 : ¬ (((Int32.ofNat av) + (0 : Int32)) < 0 ∨ cl3.slots.size ≤ (((Int32.ofNat av) + (0 : Int32))).toNatClampNeg) := inb_of S3 (own_in av ha 0 (by decide)).1
  obtain ⟨T3, h3, X3, e3, W3, st3⟩ := stB X1 hx hZ e1 Ar3 (j := ((Int32.ofNat av) + (0 : Int32))) hin3 (g := (mkF m 19 #[.val (.long (own_sh jb 1)), .second, .val (.int (2 : Int32)), .val (.ref a3), .val (.int (Int32.ofNat av)), .val (.int (0 : Int32))] [(.int (((own_sh jb 1).toInt32).toInt8.toInt32)), (.int ((Int32.ofNat av) + (0 : Int32))), (.ref a3)])) rfl rfl (hb hby d1_19)
  have V3 := Arv.set Ar3 q3 S3 M3 H3 G3 (fits_nar_byte _) W3 (av + 0) (own_in av ha 0 (by decide)).2.1 (own_in av ha 0 (by decide)).2.2
  have K3 : Keep h0 h3 [a3] := K1.wr W3 (Or.inl (List.mem_of_getElem? (i := 0) rfl))
  have N3 := Fr.snoc X3 N1 g_a3
  have Z3 : n0 ≤ h3.size := Nat.le_trans Z1 (Keep.of_wr W3).1
  have U3 : Arv Z h3 a3 k1 .byte (12 : Int32) (own_vals (own_upd (own_upd f (av + 1) (own_by (own_sh jb 0))) (av + 0) (own_by (own_sh jb 1)))) (.int (0 : Int32)) := by rw [← own_set _ _ _ (own_in av ha 0 (by decide)).2.2]; exact V3
  obtain ⟨fs, hr, hrun, hended, hW, hsame⟩ := X3.leave (v := none) (fun _ => rfl)
  refine ⟨_, _, pre0 _ ?_, hrun, hended, _, _, rfl, ?_, ⟨_, rfl⟩, hW, hsame.mono (by decide) (by decide)⟩
  · show Steps p.tables e below (s₁.setTop (mkF m 0 #[.val (.long jb), .second, .val (.int (2 : Int32)), .val (.ref a3), .val (.int (Int32.ofNat av)), .unset] [])) _
    refine XS.iloadN X0.here hx rfl (hb hby d1_0) rfl ?_
    show Steps p.tables e below (s₁.setTop (mkF m 1 #[.val (.long jb), .second, .val (.int (2 : Int32)), .val (.ref a3), .val (.int (Int32.ofNat av)), .unset] [(.int (2 : Int32))])) _
    refine XS.iconst X0.here hx rfl (hb hby d1_1) ?_
    show Steps p.tables e below (s₁.setTop (mkF m 2 #[.val (.long jb), .second, .val (.int (2 : Int32)), .val (.ref a3), .val (.int (Int32.ofNat av)), .unset] [(.int (1 : Int32)), (.int (2 : Int32))])) _
    refine XS.isub X0.here hx rfl (hb hby d1_2) rfl ?_
    show Steps p.tables e below (s₁.setTop (mkF m 3 #[.val (.long jb), .second, .val (.int (2 : Int32)), .val (.ref a3), .val (.int (Int32.ofNat av)), .unset] [(.int (1 : Int32))])) _
    refine XS.istore X0.here hx rfl (hb hby d1_3) rfl (l' := #[.val (.long jb), .second, .val (.int (2 : Int32)), .val (.ref a3), .val (.int (Int32.ofNat av)), .val (.int (1 : Int32))]) rfl ?_
    show Steps p.tables e below (s₁.setTop (mkF m 5 #[.val (.long jb), .second, .val (.int (2 : Int32)), .val (.ref a3), .val (.int (Int32.ofNat av)), .val (.int (1 : Int32))] [])) _
    rw [show (Value.long jb) = Value.long (own_sh jb 0) from congrArg Value.long (own_sh0 jb)]
    show Steps p.tables e below (s₁.setTop (mkF m 5 #[.val (.long (own_sh jb 0)), .second, .val (.int (2 : Int32)), .val (.ref a3), .val (.int (Int32.ofNat av)), .val (.int (1 : Int32))] [])) _
    refine XS.iload X0.here hx rfl (hb hby d1_5) rfl ?_
    show Steps p.tables e below (s₁.setTop (mkF m 7 #[.val (.long (own_sh jb 0)), .second, .val (.int (2 : Int32)), .val (.ref a3), .val (.int (Int32.ofNat av)), .val (.int (1 : Int32))] [(.int (1 : Int32))])) _
    refine XS.ifNo X0.here hx rfl (hb hby d1_7) rfl ((if0 _ _).trans (flt (by decide : ¬ ((1 : Int32) < (0 : Int32)))).1) ?_
    show Steps p.tables e below (s₁.setTop (mkF m 10 #[.val (.long (own_sh jb 0)), .second, .val (.int (2 : Int32)), .val (.ref a3), .val (.int (Int32.ofNat av)), .val (.int (1 : Int32))] [])) _
    refine XS.aloadN X0.here hx rfl (hb hby d1_10) rfl rfl ?_
    show Steps p.tables e below (s₁.setTop (mkF m 11 #[.val (.long (own_sh jb 0)), .second, .val (.int (2 : Int32)), .val (.ref a3), .val (.int (Int32.ofNat av)), .val (.int (1 : Int32))] [(.ref a3)])) _
    refine XS.iload X0.here hx rfl (hb hby d1_11) rfl ?_
    show Steps p.tables e below (s₁.setTop (mkF m 13 #[.val (.long (own_sh jb 0)), .second, .val (.int (2 : Int32)), .val (.ref a3), .val (.int (Int32.ofNat av)), .val (.int (1 : Int32))] [(.int (Int32.ofNat av)), (.ref a3)])) _
    refine XS.iload X0.here hx rfl (hb hby d1_13) rfl ?_
    show Steps p.tables e below (s₁.setTop (mkF m 15 #[.val (.long (own_sh jb 0)), .second, .val (.int (2 : Int32)), .val (.ref a3), .val (.int (Int32.ofNat av)), .val (.int (1 : Int32))] [(.int (1 : Int32)), (.int (Int32.ofNat av)), (.ref a3)])) _
    refine XS.iadd X0.here hx rfl (hb hby d1_15) rfl ?_
    show Steps p.tables e below (s₁.setTop (mkF m 16 #[.val (.long (own_sh jb 0)), .second, .val (.int (2 : Int32)), .val (.ref a3), .val (.int (Int32.ofNat av)), .val (.int (1 : Int32))] [(.int ((Int32.ofNat av) + (1 : Int32))), (.ref a3)])) _
    refine XS.lloadN X0.here hx rfl (hb hby d1_16) rfl ?_
    show Steps p.tables e below (s₁.setTop (mkF m 17 #[.val (.long (own_sh jb 0)), .second, .val (.int (2 : Int32)), .val (.ref a3), .val (.int (Int32.ofNat av)), .val (.int (1 : Int32))] [(.long (own_sh jb 0)), (.int ((Int32.ofNat av) + (1 : Int32))), (.ref a3)])) _
    refine XS.l2i X0.here hx rfl (hb hby d1_17) rfl ?_
    show Steps p.tables e below (s₁.setTop (mkF m 18 #[.val (.long (own_sh jb 0)), .second, .val (.int (2 : Int32)), .val (.ref a3), .val (.int (Int32.ofNat av)), .val (.int (1 : Int32))] [(.int ((own_sh jb 0).toInt32)), (.int ((Int32.ofNat av) + (1 : Int32))), (.ref a3)])) _
    refine XS.i2b X0.here hx rfl (hb hby d1_18) rfl ?_
    show Steps p.tables e below (s₁.setTop (mkF m 19 #[.val (.long (own_sh jb 0)), .second, .val (.int (2 : Int32)), .val (.ref a3), .val (.int (Int32.ofNat av)), .val (.int (1 : Int32))] [(.int (((own_sh jb 0).toInt32).toInt8.toInt32)), (.int ((Int32.ofNat av) + (1 : Int32))), (.ref a3)])) _
    refine st1 _ ?_
    show Steps p.tables e below (T1.setTop (mkF m 20 #[.val (.long (own_sh jb 0)), .second, .val (.int (2 : Int32)), .val (.ref a3), .val (.int (Int32.ofNat av)), .val (.int (1 : Int32))] [])) _
    refine XS.lloadN X1.here hx rfl (hb hby d1_20) rfl ?_
    show Steps p.tables e below (T1.setTop (mkF m 21 #[.val (.long (own_sh jb 0)), .second, .val (.int (2 : Int32)), .val (.ref a3), .val (.int (Int32.ofNat av)), .val (.int (1 : Int32))] [(.long (own_sh jb 0))])) _
    refine XS.bipush X1.here hx rfl (hb hby d1_21) ?_
    show Steps p.tables e below (T1.setTop (mkF m 23 #[.val (.long (own_sh jb 0)), .second, .val (.int (2 : Int32)), .val (.ref a3), .val (.int (Int32.ofNat av)), .val (.int (1 : Int32))] [(.int (8 : Int32)), (.long (own_sh jb 0))])) _
    refine XS.lushr X1.here hx rfl (hb hby d1_23) rfl ?_
    show Steps p.tables e below (T1.setTop (mkF m 24 #[.val (.long (own_sh jb 0)), .second, .val (.int (2 : Int32)), .val (.ref a3), .val (.int (Int32.ofNat av)), .val (.int (1 : Int32))] [(.long (((own_sh jb 0).toUInt64 >>> ((8 : Int32) &&& 0x3f).toInt64.toUInt64).toInt64))])) _
    refine XS.lstoreN X1.here hx rfl (hb hby d1_24) rfl (l' := #[.val (.long (((own_sh jb 0).toUInt64 >>> ((8 : Int32) &&& 0x3f).toInt64.toUInt64).toInt64)), .second, .val (.int (2 : Int32)), .val (.ref a3), .val (.int (Int32.ofNat av)), .val (.int (1 : Int32))]) rfl ?_
    show Steps p.tables e below (T1.setTop (mkF m 25 #[.val (.long (((own_sh jb 0).toUInt64 >>> ((8 : Int32) &&& 0x3f).toInt64.toUInt64).toInt64)), .second, .val (.int (2 : Int32)), .val (.ref a3), .val (.int (Int32.ofNat av)), .val (.int (1 : Int32))] [])) _
    refine XS.iinc X1.here hx rfl (hb hby d1_25) rfl (l' := #[.val (.long (((own_sh jb 0).toUInt64 >>> ((8 : Int32) &&& 0x3f).toInt64.toUInt64).toInt64)), .second, .val (.int (2 : Int32)), .val (.ref a3), .val (.int (Int32.ofNat av)), .val (.int (0 : Int32))]) rfl ?_
    show Steps p.tables e below (T1.setTop (mkF m 28 #[.val (.long (((own_sh jb 0).toUInt64 >>> ((8 : Int32) &&& 0x3f).toInt64.toUInt64).toInt64)), .second, .val (.int (2 : Int32)), .val (.ref a3), .val (.int (Int32.ofNat av)), .val (.int (0 : Int32))] [])) _
    refine XS.goto X1.here hx rfl (pc0 := 28) (pc' := 5) rfl (hb hby d1_28) (by decide) (by decide) ?_
    show Steps p.tables e below (T1.setTop (mkF m 5 #[.val (.long (((own_sh jb 0).toUInt64 >>> ((8 : Int32) &&& 0x3f).toInt64.toUInt64).toInt64)), .second, .val (.int (2 : Int32)), .val (.ref a3), .val (.int (Int32.ofNat av)), .val (.int (0 : Int32))] [])) _
    rw [own_shs jb 0 (by decide)]
    show Steps p.tables e below (T1.setTop (mkF m 5 #[.val (.long (own_sh jb 1)), .second, .val (.int (2 : Int32)), .val (.ref a3), .val (.int (Int32.ofNat av)), .val (.int (0 : Int32))] [])) _
    refine XS.iload X1.here hx rfl (hb hby d1_5) rfl ?_
    show Steps p.tables e below (T1.setTop (mkF m 7 #[.val (.long (own_sh jb 1)), .second, .val (.int (2 : Int32)), .val (.ref a3), .val (.int (Int32.ofNat av)), .val (.int (0 : Int32))] [(.int (0 : Int32))])) _
    refine XS.ifNo X1.here hx rfl (hb hby d1_7) rfl ((if0 _ _).trans (flt (by decide : ¬ ((0 : Int32) < (0 : Int32)))).1) ?_
    show Steps p.tables e below (T1.setTop (mkF m 10 #[.val (.long (own_sh jb 1)), .second, .val (.int (2 : Int32)), .val (.ref a3), .val (.int (Int32.ofNat av)), .val (.int (0 : Int32))] [])) _
    refine XS.aloadN X1.here hx rfl (hb hby d1_10) rfl rfl ?_
    show Steps p.tables e below (T1.setTop (mkF m 11 #[.val (.long (own_sh jb 1)), .second, .val (.int (2 : Int32)), .val (.ref a3), .val (.int (Int32.ofNat av)), .val (.int (0 : Int32))] [(.ref a3)])) _
    refine XS.iload X1.here hx rfl (hb hby d1_11) rfl ?_
    show Steps p.tables e below (T1.setTop (mkF m 13 #[.val (.long (own_sh jb 1)), .second, .val (.int (2 : Int32)), .val (.ref a3), .val (.int (Int32.ofNat av)), .val (.int (0 : Int32))] [(.int (Int32.ofNat av)), (.ref a3)])) _
    refine XS.iload X1.here hx rfl (hb hby d1_13) rfl ?_
    show Steps p.tables e below (T1.setTop (mkF m 15 #[.val (.long (own_sh jb 1)), .second, .val (.int (2 : Int32)), .val (.ref a3), .val (.int (Int32.ofNat av)), .val (.int (0 : Int32))] [(.int (0 : Int32)), (.int (Int32.ofNat av)), (.ref a3)])) _
    refine XS.iadd X1.here hx rfl (hb hby d1_15) rfl ?_
    show Steps p.tables e below (T1.setTop (mkF m 16 #[.val (.long (own_sh jb 1)), .second, .val (.int (2 : Int32)), .val (.ref a3), .val (.int (Int32.ofNat av)), .val (.int (0 : Int32))] [(.int ((Int32.ofNat av) + (0 : Int32))), (.ref a3)])) _
    refine XS.lloadN X1.here hx rfl (hb hby d1_16) rfl ?_
    show Steps p.tables e below (T1.setTop (mkF m 17 #[.val (.long (own_sh jb 1)), .second, .val (.int (2 : Int32)), .val (.ref a3), .val (.int (Int32.ofNat av)), .val (.int (0 : Int32))] [(.long (own_sh jb 1)), (.int ((Int32.ofNat av) + (0 : Int32))), (.ref a3)])) _
    refine XS.l2i X1.here hx rfl (hb hby d1_17) rfl ?_
    show Steps p.tables e below (T1.setTop (mkF m 18 #[.val (.long (own_sh jb 1)), .second, .val (.int (2 : Int32)), .val (.ref a3), .val (.int (Int32.ofNat av)), .val (.int (0 : Int32))] [(.int ((own_sh jb 1).toInt32)), (.int ((Int32.ofNat av) + (0 : Int32))), (.ref a3)])) _
    refine XS.i2b X1.here hx rfl (hb hby d1_18) rfl ?_
    show Steps p.tables e below (T1.setTop (mkF m 19 #[.val (.long (own_sh jb 1)), .second, .val (.int (2 : Int32)), .val (.ref a3), .val (.int (Int32.ofNat av)), .val (.int (0 : Int32))] [(.int (((own_sh jb 1).toInt32).toInt8.toInt32)), (.int ((Int32.ofNat av) + (0 : Int32))), (.ref a3)])) _
    refine st3 _ ?_
    show Steps p.tables e below (T3.setTop (mkF m 20 #[.val (.long (own_sh jb 1)), .second, .val (.int (2 : Int32)), .val (.ref a3), .val (.int (Int32.ofNat av)), .val (.int (0 : Int32))] [])) _
    refine XS.lloadN X3.here hx rfl (hb hby d1_20) rfl ?_
    show Steps p.tables e below (T3.setTop (mkF m 21 #[.val (.long (own_sh jb 1)), .second, .val (.int (2 : Int32)), .val (.ref a3), .val (.int (Int32.ofNat av)), .val (.int (0 : Int32))] [(.long (own_sh jb 1))])) _
    refine XS.bipush X3.here hx rfl (hb hby d1_21) ?_
    show Steps p.tables e below (T3.setTop (mkF m 23 #[.val (.long (own_sh jb 1)), .second, .val (.int (2 : Int32)), .val (.ref a3), .val (.int (Int32.ofNat av)), .val (.int (0 : Int32))] [(.int (8 : Int32)), (.long (own_sh jb 1))])) _
    refine XS.lushr X3.here hx rfl (hb hby d1_23) rfl ?_
    show Steps p.tables e below (T3.setTop (mkF m 24 #[.val (.long (own_sh jb 1)), .second, .val (.int (2 : Int32)), .val (.ref a3), .val (.int (Int32.ofNat av)), .val (.int (0 : Int32))] [(.long (((own_sh jb 1).toUInt64 >>> ((8 : Int32) &&& 0x3f).toInt64.toUInt64).toInt64))])) _
    refine XS.lstoreN X3.here hx rfl (hb hby d1_24) rfl (l' := #[.val (.long (((own_sh jb 1).toUInt64 >>> ((8 : Int32) &&& 0x3f).toInt64.toUInt64).toInt64)), .second, .val (.int (2 : Int32)), .val (.ref a3), .val (.int (Int32.ofNat av)), .val (.int (0 : Int32))]) rfl ?_
    show Steps p.tables e below (T3.setTop (mkF m 25 #[.val (.long (((own_sh jb 1).toUInt64 >>> ((8 : Int32) &&& 0x3f).toInt64.toUInt64).toInt64)), .second, .val (.int (2 : Int32)), .val (.ref a3), .val (.int (Int32.ofNat av)), .val (.int (0 : Int32))] [])) _
    refine XS.iinc X3.here hx rfl (hb hby d1_25) rfl (l' := #[.val (.long (((own_sh jb 1).toUInt64 >>> ((8 : Int32) &&& 0x3f).toInt64.toUInt64).toInt64)), .second, .val (.int (2 : Int32)), .val (.ref a3), .val (.int (Int32.ofNat av)), .val (.int (-1 : Int32))]) rfl ?_
    show Steps p.tables e below (T3.setTop (mkF m 28 #[.val (.long (((own_sh jb 1).toUInt64 >>> ((8 : Int32) &&& 0x3f).toInt64.toUInt64).toInt64)), .second, .val (.int (2 : Int32)), .val (.ref a3), .val (.int (Int32.ofNat av)), .val (.int (-1 : Int32))] [])) _
    refine XS.goto X3.here hx rfl (pc0 := 28) (pc' := 5) rfl (hb hby d1_28) (by decide) (by decide) ?_
    show Steps p.tables e below (T3.setTop (mkF m 5 #[.val (.long (((own_sh jb 1).toUInt64 >>> ((8 : Int32) &&& 0x3f).toInt64.toUInt64).toInt64)), .second, .val (.int (2 : Int32)), .val (.ref a3), .val (.int (Int32.ofNat av)), .val (.int (-1 : Int32))] [])) _
    rw [own_shs jb 1 (by decide)]
    show Steps p.tables e below (T3.setTop (mkF m 5 #[.val (.long (own_sh jb 2)), .second, .val (.int (2 : Int32)), .val (.ref a3), .val (.int (Int32.ofNat av)), .val (.int (-1 : Int32))] [])) _
    refine XS.iload X3.here hx rfl (hb hby d1_5) rfl ?_
    show Steps p.tables e below (T3.setTop (mkF m 7 #[.val (.long (own_sh jb 2)), .second, .val (.int (2 : Int32)), .val (.ref a3), .val (.int (Int32.ofNat av)), .val (.int (-1 : Int32))] [(.int (-1 : Int32))])) _
    refine XS.ifYes X3.here hx rfl (pc0 := 7) (pc' := 31) rfl (hb hby d1_7) rfl ((if0 _ _).trans (tlt (by decide : ((-1 : Int32) < (0 : Int32)))).1) (by decide) (by decide) ?_
    show Steps p.tables e below (T3.setTop (mkF m 31 #[.val (.long (own_sh jb 2)), .second, .val (.int (2 : Int32)), .val (.ref a3), .val (.int (Int32.ofNat av)), .val (.int (-1 : Int32))] [])) _
    exact X3.returnOut hx Bd.returns (hb hby d1_31) hr
  · show QP Z jb (2 : Int32) a3 av k1 f h0 n0 _ T3.heap _
    rw [e3]
    exact ⟨rfl, N3, K3, own_g2 jb av f ha ▸ U3⟩
theorem own_g3 (jb : Int64) (av : Nat) (f : Nat → Int32) (h : av ≤ 3) : own_vals (own_upd (own_upd (own_upd f (av + 2) (own_by (own_sh jb 0))) (av + 1) (own_by (own_sh jb 1))) (av + 0) (own_by (own_sh jb 2))) = own_vals (own_put f jb (3 : Int32) (Int32.ofNat av)) := own_gp f jb av 3 (by decide) h
theorem ef_1_3 (m : MethodId) (jb : Int64) (a3 : Addr) : entryFrame m #[(.long jb), (.int (3 : Int32)), (.ref a3), (.int (Int32.ofNat av))] 6 = mkF m 0 #[.val (.long jb), .second, .val (.int (3 : Int32)), .val (.ref a3), .val (.int (Int32.ofNat av)), .unset] [] := by first | (simp [entryFrame, mkF, argsToLocals, Value.category]; done) | rfl
set_option maxRecDepth 65536 in
set_option maxHeartbeats 40000000 in
theorem rm1_3 (l : Launch) (Z : State) (a0 : Array Value) (hw : ∀ d ∈ tables_1, d.before a0 Z = true) (ws : List Jvm.Cond) (jb : Int64) (a3 : Addr) (av : Nat) (k1 : ClassId) (f : Nat → Int32) (h0 : Heap) (n0 : Nat) (Z0 : n0 ≤ h0.size) (ha : av ≤ 3) (V_1 : Arv Z h0 a3 k1 .byte (12 : Int32) (own_vals f) (.int (0 : Int32))) (g_a3 : n0 ≤ a3) :
    MetFree l (⟨"com/example/backstitch/backstitch/stream/StreamTable", "putBits", "(JI[BI)V"⟩ : MethodName) (head1 (Jvm.Cond.code (⟨"com/example/backstitch/backstitch/stream/StreamTable", "putBits", "(JI[BI)V"⟩ : MethodName) prog_55_method_40_code 6 none :: ws) ({ frames := 0, cells := 0, slots := 0, locals := 0 } : Room)) (fun a U => a = #[(.long jb), (.int (3 : Int32)), (.ref a3), (.int (Int32.ofNat av))] ∧ Z.Warmed39 U.vm ∧ U.heap = h0) (fun _ _ _ _ _ => True) (fun _ U o U' => ∃ v L, o = .returned v ∧ QP Z jb (3 : Int32) a3 av k1 f h0 n0 v U'.heap L ∧ FrameEnd U o U' L ({ frames := 0, cells := 0, slots := 0, locals := 0 } : Room).cells ({ frames := 0, cells := 0, slots := 0, locals := 0 } : Room).slots) := by
  refine MetFree.of_bodySF (plainFor_of_name pn_1) hisR ?_
  intro p e s m args below meth c s₁ Bd hml0 hP hK
  obtain ⟨rfl, hZ, hh⟩ := hP
  have hx := Bd.exec
  have hby := Bd.bytes
  have hml : c.maxLocals = 6 := hml0
  have hown : s.vm.findClass "com/example/backstitch/backstitch/stream/StreamTable" = some m.cls := findClass_of_methodNamed Bd.named
  have hnm := (name_of_methodNamed Bd.named Bd.method).1
  have X0 : Stand p l e ({ frames := 0, cells := 0, slots := 0, locals := 0 } : Room) s m #[(.long jb), (.int (3 : Int32)), (.ref a3), (.int (Int32.ofNat av))] below meth c s₁ [] 0 0 := Stand.of_body Bd
  have e0 : s₁.heap = h0 := by rw [← hh, Bd.state]; rfl
  have N0 := Fr.nil n0
  have pre0 : ∀ t, Steps p.tables e below (s₁.setTop (mkF m 0 #[.val (.long jb), .second, .val (.int (3 : Int32)), .val (.ref a3), .val (.int (Int32.ofNat av)), .unset] [])) t → Steps p.tables e below (s₁.setTop (entryFrame m #[(.long jb), (.int (3 : Int32)), (.ref a3), (.int (Int32.ofNat av))] 6)) t := fun t k => castTop (ef_1_3 m jb a3) k
  have K0 : Keep h0 h0 [a3] := Keep.refl h0 [a3]
  obtain ⟨cl1, Ar1, q1, S1, M1, H1, G1⟩ := id V_1
  have hin1 : ¬ (((Int32.ofNat av) + (2 : Int32)) < 0 ∨ cl1.slots.size ≤ (((Int32.ofNat av) + (2 : Int32))).toNatClampNeg) := inb_of S1 (own_in av ha 2 (by decide)).1
  obtain ⟨T1, h1, X1, e1, W1, st1⟩ := stB X0 hx hZ e0 Ar1 (j := ((Int32.ofNat av) + (2 : Int32))) hin1 (g := (mkF m 19 #[.val (.long (own_sh jb 0)), .second, .val (.int (3 : Int32)), .val (.ref a3), .val (.int (Int32.ofNat av)), .val (.int (2 : Int32))] [(.int (((own_sh jb 0).toInt32).toInt8.toInt32)), (.int ((Int32.ofNat av) + (2 : Int32))), (.ref a3)])) rfl rfl (hb hby d1_19)
  have V1 := Arv.set Ar1 q1 S1 M1 H1 G1 (fits_nar_byte _) W1 (av + 2) (own_in av ha 2 (by decide)).2.1 (own_in av ha 2 (by decide)).2.2
  have K1 : Keep h0 h1 [a3] := K0.wr W1 (Or.inl (List.mem_of_getElem? (i := 0) rfl))
  have N1 := Fr.snoc X1 N0 g_a3
  have Z1 : n0 ≤ h1.size := Nat.le_trans Z0 (Keep.of_wr W1).1
  have U1 : Arv Z h1 a3 k1 .byte (12 : Int32) (own_vals (own_upd f (av + 2) (own_by (own_sh jb 0)))) (.int (0 : Int32)) := by rw [← own_set _ _ _ (own_in av ha 2 (by decide)).2.2]; exact V1
  obtain ⟨cl3, Ar3, q3, S3, M3, H3, G3⟩ := id U1
  have hin3 : ¬ (((Int32.ofNat av) + (1 : Int32)) < 0 ∨ cl3.slots.size ≤ (((Int32.ofNat av) + (1 : Int32))).toNatClampNeg) := inb_of S3 (own_in av ha 1 (by decide)).1
  obtain ⟨T3, h3, X3, e3, W3, st3⟩ := stB X1 hx hZ e1 Ar3 (j := ((Int32.ofNat av) + (1 : Int32))) hin3 (g := (mkF m 19 #[.val (.long (own_sh jb 1)), .second, .val (.int (3 : Int32)), .val (.ref a3), .val (.int (Int32.ofNat av)), .val (.int (1 : Int32))] [(.int (((own_sh jb 1).toInt32).toInt8.toInt32)), (.int ((Int32.ofNat av) + (1 : Int32))), (.ref a3)])) rfl rfl (hb hby d1_19)
  have V3 := Arv.set Ar3 q3 S3 M3 H3 G3 (fits_nar_byte _) W3 (av + 1) (own_in av ha 1 (by decide)).2.1 (own_in av ha 1 (by decide)).2.2
  have K3 : Keep h0 h3 [a3] := K1.wr W3 (Or.inl (List.mem_of_getElem? (i := 0) rfl))
  have N3 := Fr.snoc X3 N1 g_a3
  have Z3 : n0 ≤ h3.size := Nat.le_trans Z1 (Keep.of_wr W3).1
  have U3 : Arv Z h3 a3 k1 .byte (12 : Int32) (own_vals (own_upd (own_upd f (av + 2) (own_by (own_sh jb 0))) (av + 1) (own_by (own_sh jb 1)))) (.int (0 : Int32)) := by rw [← own_set _ _ _ (own_in av ha 1 (by decide)).2.2]; exact V3
  obtain ⟨cl5, Ar5, q5, S5, M5, H5, G5⟩ := id U3
  have hin5 : ¬ (((Int32.ofNat av) + (0 : Int32)) < 0 ∨ cl5.slots.size ≤ (((Int32.ofNat av) + (0 : Int32))).toNatClampNeg) := inb_of S5 (own_in av ha 0 (by decide)).1
  obtain ⟨T5, h5, X5, e5, W5, st5⟩ := stB X3 hx hZ e3 Ar5 (j := ((Int32.ofNat av) + (0 : Int32))) hin5 (g := (mkF m 19 #[.val (.long (own_sh jb 2)), .second, .val (.int (3 : Int32)), .val (.ref a3), .val (.int (Int32.ofNat av)), .val (.int (0 : Int32))] [(.int (((own_sh jb 2).toInt32).toInt8.toInt32)), (.int ((Int32.ofNat av) + (0 : Int32))), (.ref a3)])) rfl rfl (hb hby d1_19)
  have V5 := Arv.set Ar5 q5 S5 M5 H5 G5 (fits_nar_byte _) W5 (av + 0) (own_in av ha 0 (by decide)).2.1 (own_in av ha 0 (by decide)).2.2
  have K5 : Keep h0 h5 [a3] := K3.wr W5 (Or.inl (List.mem_of_getElem? (i := 0) rfl))
  have N5 := Fr.snoc X5 N3 g_a3
  have Z5 : n0 ≤ h5.size := Nat.le_trans Z3 (Keep.of_wr W5).1
  have U5 : Arv Z h5 a3 k1 .byte (12 : Int32) (own_vals (own_upd (own_upd (own_upd f (av + 2) (own_by (own_sh jb 0))) (av + 1) (own_by (own_sh jb 1))) (av + 0) (own_by (own_sh jb 2)))) (.int (0 : Int32)) := by rw [← own_set _ _ _ (own_in av ha 0 (by decide)).2.2]; exact V5
  obtain ⟨fs, hr, hrun, hended, hW, hsame⟩ := X5.leave (v := none) (fun _ => rfl)
  refine ⟨_, _, pre0 _ ?_, hrun, hended, _, _, rfl, ?_, ⟨_, rfl⟩, hW, hsame.mono (by decide) (by decide)⟩
  · show Steps p.tables e below (s₁.setTop (mkF m 0 #[.val (.long jb), .second, .val (.int (3 : Int32)), .val (.ref a3), .val (.int (Int32.ofNat av)), .unset] [])) _
    refine XS.iloadN X0.here hx rfl (hb hby d1_0) rfl ?_
    show Steps p.tables e below (s₁.setTop (mkF m 1 #[.val (.long jb), .second, .val (.int (3 : Int32)), .val (.ref a3), .val (.int (Int32.ofNat av)), .unset] [(.int (3 : Int32))])) _
    refine XS.iconst X0.here hx rfl (hb hby d1_1) ?_
    show Steps p.tables e below (s₁.setTop (mkF m 2 #[.val (.long jb), .second, .val (.int (3 : Int32)), .val (.ref a3), .val (.int (Int32.ofNat av)), .unset] [(.int (1 : Int32)), (.int (3 : Int32))])) _
    refine XS.isub X0.here hx rfl (hb hby d1_2) rfl ?_
    show Steps p.tables e below (s₁.setTop (mkF m 3 #[.val (.long jb), .second, .val (.int (3 : Int32)), .val (.ref a3), .val (.int (Int32.ofNat av)), .unset] [(.int (2 : Int32))])) _
    refine XS.istore X0.here hx rfl (hb hby d1_3) rfl (l' := #[.val (.long jb), .second, .val (.int (3 : Int32)), .val (.ref a3), .val (.int (Int32.ofNat av)), .val (.int (2 : Int32))]) rfl ?_
    show Steps p.tables e below (s₁.setTop (mkF m 5 #[.val (.long jb), .second, .val (.int (3 : Int32)), .val (.ref a3), .val (.int (Int32.ofNat av)), .val (.int (2 : Int32))] [])) _
    rw [show (Value.long jb) = Value.long (own_sh jb 0) from congrArg Value.long (own_sh0 jb)]
    show Steps p.tables e below (s₁.setTop (mkF m 5 #[.val (.long (own_sh jb 0)), .second, .val (.int (3 : Int32)), .val (.ref a3), .val (.int (Int32.ofNat av)), .val (.int (2 : Int32))] [])) _
    refine XS.iload X0.here hx rfl (hb hby d1_5) rfl ?_
    show Steps p.tables e below (s₁.setTop (mkF m 7 #[.val (.long (own_sh jb 0)), .second, .val (.int (3 : Int32)), .val (.ref a3), .val (.int (Int32.ofNat av)), .val (.int (2 : Int32))] [(.int (2 : Int32))])) _
    refine XS.ifNo X0.here hx rfl (hb hby d1_7) rfl ((if0 _ _).trans (flt (by decide : ¬ ((2 : Int32) < (0 : Int32)))).1) ?_
    show Steps p.tables e below (s₁.setTop (mkF m 10 #[.val (.long (own_sh jb 0)), .second, .val (.int (3 : Int32)), .val (.ref a3), .val (.int (Int32.ofNat av)), .val (.int (2 : Int32))] [])) _
    refine XS.aloadN X0.here hx rfl (hb hby d1_10) rfl rfl ?_
    show Steps p.tables e below (s₁.setTop (mkF m 11 #[.val (.long (own_sh jb 0)), .second, .val (.int (3 : Int32)), .val (.ref a3), .val (.int (Int32.ofNat av)), .val (.int (2 : Int32))] [(.ref a3)])) _
    refine XS.iload X0.here hx rfl (hb hby d1_11) rfl ?_
    show Steps p.tables e below (s₁.setTop (mkF m 13 #[.val (.long (own_sh jb 0)), .second, .val (.int (3 : Int32)), .val (.ref a3), .val (.int (Int32.ofNat av)), .val (.int (2 : Int32))] [(.int (Int32.ofNat av)), (.ref a3)])) _
    refine XS.iload X0.here hx rfl (hb hby d1_13) rfl ?_
    show Steps p.tables e below (s₁.setTop (mkF m 15 #[.val (.long (own_sh jb 0)), .second, .val (.int (3 : Int32)), .val (.ref a3), .val (.int (Int32.ofNat av)), .val (.int (2 : Int32))] [(.int (2 : Int32)), (.int (Int32.ofNat av)), (.ref a3)])) _
    refine XS.iadd X0.here hx rfl (hb hby d1_15) rfl ?_
    show Steps p.tables e below (s₁.setTop (mkF m 16 #[.val (.long (own_sh jb 0)), .second, .val (.int (3 : Int32)), .val (.ref a3), .val (.int (Int32.ofNat av)), .val (.int (2 : Int32))] [(.int ((Int32.ofNat av) + (2 : Int32))), (.ref a3)])) _
    refine XS.lloadN X0.here hx rfl (hb hby d1_16) rfl ?_
    show Steps p.tables e below (s₁.setTop (mkF m 17 #[.val (.long (own_sh jb 0)), .second, .val (.int (3 : Int32)), .val (.ref a3), .val (.int (Int32.ofNat av)), .val (.int (2 : Int32))] [(.long (own_sh jb 0)), (.int ((Int32.ofNat av) + (2 : Int32))), (.ref a3)])) _
    refine XS.l2i X0.here hx rfl (hb hby d1_17) rfl ?_
    show Steps p.tables e below (s₁.setTop (mkF m 18 #[.val (.long (own_sh jb 0)), .second, .val (.int (3 : Int32)), .val (.ref a3), .val (.int (Int32.ofNat av)), .val (.int (2 : Int32))] [(.int ((own_sh jb 0).toInt32)), (.int ((Int32.ofNat av) + (2 : Int32))), (.ref a3)])) _
    refine XS.i2b X0.here hx rfl (hb hby d1_18) rfl ?_
    show Steps p.tables e below (s₁.setTop (mkF m 19 #[.val (.long (own_sh jb 0)), .second, .val (.int (3 : Int32)), .val (.ref a3), .val (.int (Int32.ofNat av)), .val (.int (2 : Int32))] [(.int (((own_sh jb 0).toInt32).toInt8.toInt32)), (.int ((Int32.ofNat av) + (2 : Int32))), (.ref a3)])) _
    refine st1 _ ?_
    show Steps p.tables e below (T1.setTop (mkF m 20 #[.val (.long (own_sh jb 0)), .second, .val (.int (3 : Int32)), .val (.ref a3), .val (.int (Int32.ofNat av)), .val (.int (2 : Int32))] [])) _
    refine XS.lloadN X1.here hx rfl (hb hby d1_20) rfl ?_
    show Steps p.tables e below (T1.setTop (mkF m 21 #[.val (.long (own_sh jb 0)), .second, .val (.int (3 : Int32)), .val (.ref a3), .val (.int (Int32.ofNat av)), .val (.int (2 : Int32))] [(.long (own_sh jb 0))])) _
    refine XS.bipush X1.here hx rfl (hb hby d1_21) ?_
    show Steps p.tables e below (T1.setTop (mkF m 23 #[.val (.long (own_sh jb 0)), .second, .val (.int (3 : Int32)), .val (.ref a3), .val (.int (Int32.ofNat av)), .val (.int (2 : Int32))] [(.int (8 : Int32)), (.long (own_sh jb 0))])) _
    refine XS.lushr X1.here hx rfl (hb hby d1_23) rfl ?_
    show Steps p.tables e below (T1.setTop (mkF m 24 #[.val (.long (own_sh jb 0)), .second, .val (.int (3 : Int32)), .val (.ref a3), .val (.int (Int32.ofNat av)), .val (.int (2 : Int32))] [(.long (((own_sh jb 0).toUInt64 >>> ((8 : Int32) &&& 0x3f).toInt64.toUInt64).toInt64))])) _
    refine XS.lstoreN X1.here hx rfl (hb hby d1_24) rfl (l' := #[.val (.long (((own_sh jb 0).toUInt64 >>> ((8 : Int32) &&& 0x3f).toInt64.toUInt64).toInt64)), .second, .val (.int (3 : Int32)), .val (.ref a3), .val (.int (Int32.ofNat av)), .val (.int (2 : Int32))]) rfl ?_
    show Steps p.tables e below (T1.setTop (mkF m 25 #[.val (.long (((own_sh jb 0).toUInt64 >>> ((8 : Int32) &&& 0x3f).toInt64.toUInt64).toInt64)), .second, .val (.int (3 : Int32)), .val (.ref a3), .val (.int (Int32.ofNat av)), .val (.int (2 : Int32))] [])) _
    refine XS.iinc X1.here hx rfl (hb hby d1_25) rfl (l' := #[.val (.long (((own_sh jb 0).toUInt64 >>> ((8 : Int32) &&& 0x3f).toInt64.toUInt64).toInt64)), .second, .val (.int (3 : Int32)), .val (.ref a3), .val (.int (Int32.ofNat av)), .val (.int (1 : Int32))]) rfl ?_
    show Steps p.tables e below (T1.setTop (mkF m 28 #[.val (.long (((own_sh jb 0).toUInt64 >>> ((8 : Int32) &&& 0x3f).toInt64.toUInt64).toInt64)), .second, .val (.int (3 : Int32)), .val (.ref a3), .val (.int (Int32.ofNat av)), .val (.int (1 : Int32))] [])) _
    refine XS.goto X1.here hx rfl (pc0 := 28) (pc' := 5) rfl (hb hby d1_28) (by decide) (by decide) ?_
    show Steps p.tables e below (T1.setTop (mkF m 5 #[.val (.long (((own_sh jb 0).toUInt64 >>> ((8 : Int32) &&& 0x3f).toInt64.toUInt64).toInt64)), .second, .val (.int (3 : Int32)), .val (.ref a3), .val (.int (Int32.ofNat av)), .val (.int (1 : Int32))] [])) _
    rw [own_shs jb 0 (by decide)]
    show Steps p.tables e below (T1.setTop (mkF m 5 #[.val (.long (own_sh jb 1)), .second, .val (.int (3 : Int32)), .val (.ref a3), .val (.int (Int32.ofNat av)), .val (.int (1 : Int32))] [])) _
    refine XS.iload X1.here hx rfl (hb hby d1_5) rfl ?_
    show Steps p.tables e below (T1.setTop (mkF m 7 #[.val (.long (own_sh jb 1)), .second, .val (.int (3 : Int32)), .val (.ref a3), .val (.int (Int32.ofNat av)), .val (.int (1 : Int32))] [(.int (1 : Int32))])) _
    refine XS.ifNo X1.here hx rfl (hb hby d1_7) rfl ((if0 _ _).trans (flt (by decide : ¬ ((1 : Int32) < (0 : Int32)))).1) ?_
    show Steps p.tables e below (T1.setTop (mkF m 10 #[.val (.long (own_sh jb 1)), .second, .val (.int (3 : Int32)), .val (.ref a3), .val (.int (Int32.ofNat av)), .val (.int (1 : Int32))] [])) _
    refine XS.aloadN X1.here hx rfl (hb hby d1_10) rfl rfl ?_
    show Steps p.tables e below (T1.setTop (mkF m 11 #[.val (.long (own_sh jb 1)), .second, .val (.int (3 : Int32)), .val (.ref a3), .val (.int (Int32.ofNat av)), .val (.int (1 : Int32))] [(.ref a3)])) _
    refine XS.iload X1.here hx rfl (hb hby d1_11) rfl ?_
    show Steps p.tables e below (T1.setTop (mkF m 13 #[.val (.long (own_sh jb 1)), .second, .val (.int (3 : Int32)), .val (.ref a3), .val (.int (Int32.ofNat av)), .val (.int (1 : Int32))] [(.int (Int32.ofNat av)), (.ref a3)])) _
    refine XS.iload X1.here hx rfl (hb hby d1_13) rfl ?_
    show Steps p.tables e below (T1.setTop (mkF m 15 #[.val (.long (own_sh jb 1)), .second, .val (.int (3 : Int32)), .val (.ref a3), .val (.int (Int32.ofNat av)), .val (.int (1 : Int32))] [(.int (1 : Int32)), (.int (Int32.ofNat av)), (.ref a3)])) _
    refine XS.iadd X1.here hx rfl (hb hby d1_15) rfl ?_
    show Steps p.tables e below (T1.setTop (mkF m 16 #[.val (.long (own_sh jb 1)), .second, .val (.int (3 : Int32)), .val (.ref a3), .val (.int (Int32.ofNat av)), .val (.int (1 : Int32))] [(.int ((Int32.ofNat av) + (1 : Int32))), (.ref a3)])) _
    refine XS.lloadN X1.here hx rfl (hb hby d1_16) rfl ?_
    show Steps p.tables e below (T1.setTop (mkF m 17 #[.val (.long (own_sh jb 1)), .second, .val (.int (3 : Int32)), .val (.ref a3), .val (.int (Int32.ofNat av)), .val (.int (1 : Int32))] [(.long (own_sh jb 1)), (.int ((Int32.ofNat av) + (1 : Int32))), (.ref a3)])) _
    refine XS.l2i X1.here hx rfl (hb hby d1_17) rfl ?_
    show Steps p.tables e below (T1.setTop (mkF m 18 #[.val (.long (own_sh jb 1)), .second, .val (.int (3 : Int32)), .val (.ref a3), .val (.int (Int32.ofNat av)), .val (.int (1 : Int32))] [(.int ((own_sh jb 1).toInt32)), (.int ((Int32.ofNat av) + (1 : Int32))), (.ref a3)])) _
    refine XS.i2b X1.here hx rfl (hb hby d1_18) rfl ?_
    show Steps p.tables e below (T1.setTop (mkF m 19 #[.val (.long (own_sh jb 1)), .second, .val (.int (3 : Int32)), .val (.ref a3), .val (.int (Int32.ofNat av)), .val (.int (1 : Int32))] [(.int (((own_sh jb 1).toInt32).toInt8.toInt32)), (.int ((Int32.ofNat av) + (1 : Int32))), (.ref a3)])) _
    refine st3 _ ?_
    show Steps p.tables e below (T3.setTop (mkF m 20 #[.val (.long (own_sh jb 1)), .second, .val (.int (3 : Int32)), .val (.ref a3), .val (.int (Int32.ofNat av)), .val (.int (1 : Int32))] [])) _
    refine XS.lloadN X3.here hx rfl (hb hby d1_20) rfl ?_
    show Steps p.tables e below (T3.setTop (mkF m 21 #[.val (.long (own_sh jb 1)), .second, .val (.int (3 : Int32)), .val (.ref a3), .val (.int (Int32.ofNat av)), .val (.int (1 : Int32))] [(.long (own_sh jb 1))])) _
    refine XS.bipush X3.here hx rfl (hb hby d1_21) ?_
    show Steps p.tables e below (T3.setTop (mkF m 23 #[.val (.long (own_sh jb 1)), .second, .val (.int (3 : Int32)), .val (.ref a3), .val (.int (Int32.ofNat av)), .val (.int (1 : Int32))] [(.int (8 : Int32)), (.long (own_sh jb 1))])) _
    refine XS.lushr X3.here hx rfl (hb hby d1_23) rfl ?_
    show Steps p.tables e below (T3.setTop (mkF m 24 #[.val (.long (own_sh jb 1)), .second, .val (.int (3 : Int32)), .val (.ref a3), .val (.int (Int32.ofNat av)), .val (.int (1 : Int32))] [(.long (((own_sh jb 1).toUInt64 >>> ((8 : Int32) &&& 0x3f).toInt64.toUInt64).toInt64))])) _
    refine XS.lstoreN X3.here hx rfl (hb hby d1_24) rfl (l' := #[.val (.long (((own_sh jb 1).toUInt64 >>> ((8 : Int32) &&& 0x3f).toInt64.toUInt64).toInt64)), .second, .val (.int (3 : Int32)), .val (.ref a3), .val (.int (Int32.ofNat av)), .val (.int (1 : Int32))]) rfl ?_
    show Steps p.tables e below (T3.setTop (mkF m 25 #[.val (.long (((own_sh jb 1).toUInt64 >>> ((8 : Int32) &&& 0x3f).toInt64.toUInt64).toInt64)), .second, .val (.int (3 : Int32)), .val (.ref a3), .val (.int (Int32.ofNat av)), .val (.int (1 : Int32))] [])) _
    refine XS.iinc X3.here hx rfl (hb hby d1_25) rfl (l' := #[.val (.long (((own_sh jb 1).toUInt64 >>> ((8 : Int32) &&& 0x3f).toInt64.toUInt64).toInt64)), .second, .val (.int (3 : Int32)), .val (.ref a3), .val (.int (Int32.ofNat av)), .val (.int (0 : Int32))]) rfl ?_
    show Steps p.tables e below (T3.setTop (mkF m 28 #[.val (.long (((own_sh jb 1).toUInt64 >>> ((8 : Int32) &&& 0x3f).toInt64.toUInt64).toInt64)), .second, .val (.int (3 : Int32)), .val (.ref a3), .val (.int (Int32.ofNat av)), .val (.int (0 : Int32))] [])) _
    refine XS.goto X3.here hx rfl (pc0 := 28) (pc' := 5) rfl (hb hby d1_28) (by decide) (by decide) ?_
    show Steps p.tables e below (T3.setTop (mkF m 5 #[.val (.long (((own_sh jb 1).toUInt64 >>> ((8 : Int32) &&& 0x3f).toInt64.toUInt64).toInt64)), .second, .val (.int (3 : Int32)), .val (.ref a3), .val (.int (Int32.ofNat av)), .val (.int (0 : Int32))] [])) _
    rw [own_shs jb 1 (by decide)]
    show Steps p.tables e below (T3.setTop (mkF m 5 #[.val (.long (own_sh jb 2)), .second, .val (.int (3 : Int32)), .val (.ref a3), .val (.int (Int32.ofNat av)), .val (.int (0 : Int32))] [])) _
    refine XS.iload X3.here hx rfl (hb hby d1_5) rfl ?_
    show Steps p.tables e below (T3.setTop (mkF m 7 #[.val (.long (own_sh jb 2)), .second, .val (.int (3 : Int32)), .val (.ref a3), .val (.int (Int32.ofNat av)), .val (.int (0 : Int32))] [(.int (0 : Int32))])) _
    refine XS.ifNo X3.here hx rfl (hb hby d1_7) rfl ((if0 _ _).trans (flt (by decide : ¬ ((0 : Int32) < (0 : Int32)))).1) ?_
    show Steps p.tables e below (T3.setTop (mkF m 10 #[.val (.long (own_sh jb 2)), .second, .val (.int (3 : Int32)), .val (.ref a3), .val (.int (Int32.ofNat av)), .val (.int (0 : Int32))] [])) _
    refine XS.aloadN X3.here hx rfl (hb hby d1_10) rfl rfl ?_
    show Steps p.tables e below (T3.setTop (mkF m 11 #[.val (.long (own_sh jb 2)), .second, .val (.int (3 : Int32)), .val (.ref a3), .val (.int (Int32.ofNat av)), .val (.int (0 : Int32))] [(.ref a3)])) _
    refine XS.iload X3.here hx rfl (hb hby d1_11) rfl ?_
    show Steps p.tables e below (T3.setTop (mkF m 13 #[.val (.long (own_sh jb 2)), .second, .val (.int (3 : Int32)), .val (.ref a3), .val (.int (Int32.ofNat av)), .val (.int (0 : Int32))] [(.int (Int32.ofNat av)), (.ref a3)])) _
    refine XS.iload X3.here hx rfl (hb hby d1_13) rfl ?_
    show Steps p.tables e below (T3.setTop (mkF m 15 #[.val (.long (own_sh jb 2)), .second, .val (.int (3 : Int32)), .val (.ref a3), .val (.int (Int32.ofNat av)), .val (.int (0 : Int32))] [(.int (0 : Int32)), (.int (Int32.ofNat av)), (.ref a3)])) _
    refine XS.iadd X3.here hx rfl (hb hby d1_15) rfl ?_
    show Steps p.tables e below (T3.setTop (mkF m 16 #[.val (.long (own_sh jb 2)), .second, .val (.int (3 : Int32)), .val (.ref a3), .val (.int (Int32.ofNat av)), .val (.int (0 : Int32))] [(.int ((Int32.ofNat av) + (0 : Int32))), (.ref a3)])) _
    refine XS.lloadN X3.here hx rfl (hb hby d1_16) rfl ?_
    show Steps p.tables e below (T3.setTop (mkF m 17 #[.val (.long (own_sh jb 2)), .second, .val (.int (3 : Int32)), .val (.ref a3), .val (.int (Int32.ofNat av)), .val (.int (0 : Int32))] [(.long (own_sh jb 2)), (.int ((Int32.ofNat av) + (0 : Int32))), (.ref a3)])) _
    refine XS.l2i X3.here hx rfl (hb hby d1_17) rfl ?_
    show Steps p.tables e below (T3.setTop (mkF m 18 #[.val (.long (own_sh jb 2)), .second, .val (.int (3 : Int32)), .val (.ref a3), .val (.int (Int32.ofNat av)), .val (.int (0 : Int32))] [(.int ((own_sh jb 2).toInt32)), (.int ((Int32.ofNat av) + (0 : Int32))), (.ref a3)])) _
    refine XS.i2b X3.here hx rfl (hb hby d1_18) rfl ?_
    show Steps p.tables e below (T3.setTop (mkF m 19 #[.val (.long (own_sh jb 2)), .second, .val (.int (3 : Int32)), .val (.ref a3), .val (.int (Int32.ofNat av)), .val (.int (0 : Int32))] [(.int (((own_sh jb 2).toInt32).toInt8.toInt32)), (.int ((Int32.ofNat av) + (0 : Int32))), (.ref a3)])) _
    refine st5 _ ?_
    show Steps p.tables e below (T5.setTop (mkF m 20 #[.val (.long (own_sh jb 2)), .second, .val (.int (3 : Int32)), .val (.ref a3), .val (.int (Int32.ofNat av)), .val (.int (0 : Int32))] [])) _
    refine XS.lloadN X5.here hx rfl (hb hby d1_20) rfl ?_
    show Steps p.tables e below (T5.setTop (mkF m 21 #[.val (.long (own_sh jb 2)), .second, .val (.int (3 : Int32)), .val (.ref a3), .val (.int (Int32.ofNat av)), .val (.int (0 : Int32))] [(.long (own_sh jb 2))])) _
    refine XS.bipush X5.here hx rfl (hb hby d1_21) ?_
    show Steps p.tables e below (T5.setTop (mkF m 23 #[.val (.long (own_sh jb 2)), .second, .val (.int (3 : Int32)), .val (.ref a3), .val (.int (Int32.ofNat av)), .val (.int (0 : Int32))] [(.int (8 : Int32)), (.long (own_sh jb 2))])) _
    refine XS.lushr X5.here hx rfl (hb hby d1_23) rfl ?_
    show Steps p.tables e below (T5.setTop (mkF m 24 #[.val (.long (own_sh jb 2)), .second, .val (.int (3 : Int32)), .val (.ref a3), .val (.int (Int32.ofNat av)), .val (.int (0 : Int32))] [(.long (((own_sh jb 2).toUInt64 >>> ((8 : Int32) &&& 0x3f).toInt64.toUInt64).toInt64))])) _
    refine XS.lstoreN X5.here hx rfl (hb hby d1_24) rfl (l' := #[.val (.long (((own_sh jb 2).toUInt64 >>> ((8 : Int32) &&& 0x3f).toInt64.toUInt64).toInt64)), .second, .val (.int (3 : Int32)), .val (.ref a3), .val (.int (Int32.ofNat av)), .val (.int (0 : Int32))]) rfl ?_
    show Steps p.tables e below (T5.setTop (mkF m 25 #[.val (.long (((own_sh jb 2).toUInt64 >>> ((8 : Int32) &&& 0x3f).toInt64.toUInt64).toInt64)), .second, .val (.int (3 : Int32)), .val (.ref a3), .val (.int (Int32.ofNat av)), .val (.int (0 : Int32))] [])) _
    refine XS.iinc X5.here hx rfl (hb hby d1_25) rfl (l' := #[.val (.long (((own_sh jb 2).toUInt64 >>> ((8 : Int32) &&& 0x3f).toInt64.toUInt64).toInt64)), .second, .val (.int (3 : Int32)), .val (.ref a3), .val (.int (Int32.ofNat av)), .val (.int (-1 : Int32))]) rfl ?_
    show Steps p.tables e below (T5.setTop (mkF m 28 #[.val (.long (((own_sh jb 2).toUInt64 >>> ((8 : Int32) &&& 0x3f).toInt64.toUInt64).toInt64)), .second, .val (.int (3 : Int32)), .val (.ref a3), .val (.int (Int32.ofNat av)), .val (.int (-1 : Int32))] [])) _
    refine XS.goto X5.here hx rfl (pc0 := 28) (pc' := 5) rfl (hb hby d1_28) (by decide) (by decide) ?_
    show Steps p.tables e below (T5.setTop (mkF m 5 #[.val (.long (((own_sh jb 2).toUInt64 >>> ((8 : Int32) &&& 0x3f).toInt64.toUInt64).toInt64)), .second, .val (.int (3 : Int32)), .val (.ref a3), .val (.int (Int32.ofNat av)), .val (.int (-1 : Int32))] [])) _
    rw [own_shs jb 2 (by decide)]
    show Steps p.tables e below (T5.setTop (mkF m 5 #[.val (.long (own_sh jb 3)), .second, .val (.int (3 : Int32)), .val (.ref a3), .val (.int (Int32.ofNat av)), .val (.int (-1 : Int32))] [])) _
    refine XS.iload X5.here hx rfl (hb hby d1_5) rfl ?_
    show Steps p.tables e below (T5.setTop (mkF m 7 #[.val (.long (own_sh jb 3)), .second, .val (.int (3 : Int32)), .val (.ref a3), .val (.int (Int32.ofNat av)), .val (.int (-1 : Int32))] [(.int (-1 : Int32))])) _
    refine XS.ifYes X5.here hx rfl (pc0 := 7) (pc' := 31) rfl (hb hby d1_7) rfl ((if0 _ _).trans (tlt (by decide : ((-1 : Int32) < (0 : Int32)))).1) (by decide) (by decide) ?_
    show Steps p.tables e below (T5.setTop (mkF m 31 #[.val (.long (own_sh jb 3)), .second, .val (.int (3 : Int32)), .val (.ref a3), .val (.int (Int32.ofNat av)), .val (.int (-1 : Int32))] [])) _
    exact X5.returnOut hx Bd.returns (hb hby d1_31) hr
  · show QP Z jb (3 : Int32) a3 av k1 f h0 n0 _ T5.heap _
    rw [e5]
    exact ⟨rfl, N5, K5, own_g3 jb av f ha ▸ U5⟩
theorem own_g4 (jb : Int64) (av : Nat) (f : Nat → Int32) (h : av ≤ 3) : own_vals (own_upd (own_upd (own_upd (own_upd f (av + 3) (own_by (own_sh jb 0))) (av + 2) (own_by (own_sh jb 1))) (av + 1) (own_by (own_sh jb 2))) (av + 0) (own_by (own_sh jb 3))) = own_vals (own_put f jb (4 : Int32) (Int32.ofNat av)) := own_gp f jb av 4 (by decide) h
theorem ef_1_4 (m : MethodId) (jb : Int64) (a3 : Addr) : entryFrame m #[(.long jb), (.int (4 : Int32)), (.ref a3), (.int (Int32.ofNat av))] 6 = mkF m 0 #[.val (.long jb), .second, .val (.int (4 : Int32)), .val (.ref a3), .val (.int (Int32.ofNat av)), .unset] [] := by first | (simp [entryFrame, mkF, argsToLocals, Value.category]; done) | rfl
set_option maxRecDepth 65536 in
set_option maxHeartbeats 40000000 in
theorem rm1_4 (l : Launch) (Z : State) (a0 : Array Value) (hw : ∀ d ∈ tables_1, d.before a0 Z = true) (ws : List Jvm.Cond) (jb : Int64) (a3 : Addr) (av : Nat) (k1 : ClassId) (f : Nat → Int32) (h0 : Heap) (n0 : Nat) (Z0 : n0 ≤ h0.size) (ha : av ≤ 3) (V_1 : Arv Z h0 a3 k1 .byte (12 : Int32) (own_vals f) (.int (0 : Int32))) (g_a3 : n0 ≤ a3) :
    MetFree l (⟨"com/example/backstitch/backstitch/stream/StreamTable", "putBits", "(JI[BI)V"⟩ : MethodName) (head1 (Jvm.Cond.code (⟨"com/example/backstitch/backstitch/stream/StreamTable", "putBits", "(JI[BI)V"⟩ : MethodName) prog_55_method_40_code 6 none :: ws) ({ frames := 0, cells := 0, slots := 0, locals := 0 } : Room)) (fun a U => a = #[(.long jb), (.int (4 : Int32)), (.ref a3), (.int (Int32.ofNat av))] ∧ Z.Warmed39 U.vm ∧ U.heap = h0) (fun _ _ _ _ _ => True) (fun _ U o U' => ∃ v L, o = .returned v ∧ QP Z jb (4 : Int32) a3 av k1 f h0 n0 v U'.heap L ∧ FrameEnd U o U' L ({ frames := 0, cells := 0, slots := 0, locals := 0 } : Room).cells ({ frames := 0, cells := 0, slots := 0, locals := 0 } : Room).slots) := by
  refine MetFree.of_bodySF (plainFor_of_name pn_1) hisR ?_
  intro p e s m args below meth c s₁ Bd hml0 hP hK
  obtain ⟨rfl, hZ, hh⟩ := hP
  have hx := Bd.exec
  have hby := Bd.bytes
  have hml : c.maxLocals = 6 := hml0
  have hown : s.vm.findClass "com/example/backstitch/backstitch/stream/StreamTable" = some m.cls := findClass_of_methodNamed Bd.named
  have hnm := (name_of_methodNamed Bd.named Bd.method).1
  have X0 : Stand p l e ({ frames := 0, cells := 0, slots := 0, locals := 0 } : Room) s m #[(.long jb), (.int (4 : Int32)), (.ref a3), (.int (Int32.ofNat av))] below meth c s₁ [] 0 0 := Stand.of_body Bd
  have e0 : s₁.heap = h0 := by rw [← hh, Bd.state]; rfl
  have N0 := Fr.nil n0
  have pre0 : ∀ t, Steps p.tables e below (s₁.setTop (mkF m 0 #[.val (.long jb), .second, .val (.int (4 : Int32)), .val (.ref a3), .val (.int (Int32.ofNat av)), .unset] [])) t → Steps p.tables e below (s₁.setTop (entryFrame m #[(.long jb), (.int (4 : Int32)), (.ref a3), (.int (Int32.ofNat av))] 6)) t := fun t k => castTop (ef_1_4 m jb a3) k
  have K0 : Keep h0 h0 [a3] := Keep.refl h0 [a3]
  obtain ⟨cl1, Ar1, q1, S1, M1, H1, G1⟩ := id V_1
  have hin1 : ¬ (((Int32.ofNat av) + (3 : Int32)) < 0 ∨ cl1.slots.size ≤ (((Int32.ofNat av) + (3 : Int32))).toNatClampNeg) := inb_of S1 (own_in av ha 3 (by decide)).1
  obtain ⟨T1, h1, X1, e1, W1, st1⟩ := stB X0 hx hZ e0 Ar1 (j := ((Int32.ofNat av) + (3 : Int32))) hin1 (g := (mkF m 19 #[.val (.long (own_sh jb 0)), .second, .val (.int (4 : Int32)), .val (.ref a3), .val (.int (Int32.ofNat av)), .val (.int (3 : Int32))] [(.int (((own_sh jb 0).toInt32).toInt8.toInt32)), (.int ((Int32.ofNat av) + (3 : Int32))), (.ref a3)])) rfl rfl (hb hby d1_19)
  have V1 := Arv.set Ar1 q1 S1 M1 H1 G1 (fits_nar_byte _) W1 (av + 3) (own_in av ha 3 (by decide)).2.1 (own_in av ha 3 (by decide)).2.2
  have K1 : Keep h0 h1 [a3] := K0.wr W1 (Or.inl (List.mem_of_getElem? (i := 0) rfl))
  have N1 := Fr.snoc X1 N0 g_a3
  have Z1 : n0 ≤ h1.size := Nat.le_trans Z0 (Keep.of_wr W1).1
  have U1 : Arv Z h1 a3 k1 .byte (12 : Int32) (own_vals (own_upd f (av + 3) (own_by (own_sh jb 0)))) (.int (0 : Int32)) := by rw [← own_set _ _ _ (own_in av ha 3 (by decide)).2.2]; exact V1
  obtain ⟨cl3, Ar3, q3, S3, M3, H3, G3⟩ := id U1
  have hin3 : ¬ (((Int32.ofNat av) + (2 : Int32)) < 0 ∨ cl3.slots.size ≤ (((Int32.ofNat av) + (2 : Int32))).toNatClampNeg) := inb_of S3 (own_in av ha 2 (by decide)).1
  obtain ⟨T3, h3, X3, e3, W3, st3⟩ := stB X1 hx hZ e1 Ar3 (j := ((Int32.ofNat av) + (2 : Int32))) hin3 (g := (mkF m 19 #[.val (.long (own_sh jb 1)), .second, .val (.int (4 : Int32)), .val (.ref a3), .val (.int (Int32.ofNat av)), .val (.int (2 : Int32))] [(.int (((own_sh jb 1).toInt32).toInt8.toInt32)), (.int ((Int32.ofNat av) + (2 : Int32))), (.ref a3)])) rfl rfl (hb hby d1_19)
  have V3 := Arv.set Ar3 q3 S3 M3 H3 G3 (fits_nar_byte _) W3 (av + 2) (own_in av ha 2 (by decide)).2.1 (own_in av ha 2 (by decide)).2.2
  have K3 : Keep h0 h3 [a3] := K1.wr W3 (Or.inl (List.mem_of_getElem? (i := 0) rfl))
  have N3 := Fr.snoc X3 N1 g_a3
  have Z3 : n0 ≤ h3.size := Nat.le_trans Z1 (Keep.of_wr W3).1
  have U3 : Arv Z h3 a3 k1 .byte (12 : Int32) (own_vals (own_upd (own_upd f (av + 3) (own_by (own_sh jb 0))) (av + 2) (own_by (own_sh jb 1)))) (.int (0 : Int32)) := by rw [← own_set _ _ _ (own_in av ha 2 (by decide)).2.2]; exact V3
  obtain ⟨cl5, Ar5, q5, S5, M5, H5, G5⟩ := id U3
  have hin5 : ¬ (((Int32.ofNat av) + (1 : Int32)) < 0 ∨ cl5.slots.size ≤ (((Int32.ofNat av) + (1 : Int32))).toNatClampNeg) := inb_of S5 (own_in av ha 1 (by decide)).1
  obtain ⟨T5, h5, X5, e5, W5, st5⟩ := stB X3 hx hZ e3 Ar5 (j := ((Int32.ofNat av) + (1 : Int32))) hin5 (g := (mkF m 19 #[.val (.long (own_sh jb 2)), .second, .val (.int (4 : Int32)), .val (.ref a3), .val (.int (Int32.ofNat av)), .val (.int (1 : Int32))] [(.int (((own_sh jb 2).toInt32).toInt8.toInt32)), (.int ((Int32.ofNat av) + (1 : Int32))), (.ref a3)])) rfl rfl (hb hby d1_19)
  have V5 := Arv.set Ar5 q5 S5 M5 H5 G5 (fits_nar_byte _) W5 (av + 1) (own_in av ha 1 (by decide)).2.1 (own_in av ha 1 (by decide)).2.2
  have K5 : Keep h0 h5 [a3] := K3.wr W5 (Or.inl (List.mem_of_getElem? (i := 0) rfl))
  have N5 := Fr.snoc X5 N3 g_a3
  have Z5 : n0 ≤ h5.size := Nat.le_trans Z3 (Keep.of_wr W5).1
  have U5 : Arv Z h5 a3 k1 .byte (12 : Int32) (own_vals (own_upd (own_upd (own_upd f (av + 3) (own_by (own_sh jb 0))) (av + 2) (own_by (own_sh jb 1))) (av + 1) (own_by (own_sh jb 2)))) (.int (0 : Int32)) := by rw [← own_set _ _ _ (own_in av ha 1 (by decide)).2.2]; exact V5
  obtain ⟨cl7, Ar7, q7, S7, M7, H7, G7⟩ := id U5
  have hin7 : ¬ (((Int32.ofNat av) + (0 : Int32)) < 0 ∨ cl7.slots.size ≤ (((Int32.ofNat av) + (0 : Int32))).toNatClampNeg) := inb_of S7 (own_in av ha 0 (by decide)).1
  obtain ⟨T7, h7, X7, e7, W7, st7⟩ := stB X5 hx hZ e5 Ar7 (j := ((Int32.ofNat av) + (0 : Int32))) hin7 (g := (mkF m 19 #[.val (.long (own_sh jb 3)), .second, .val (.int (4 : Int32)), .val (.ref a3), .val (.int (Int32.ofNat av)), .val (.int (0 : Int32))] [(.int (((own_sh jb 3).toInt32).toInt8.toInt32)), (.int ((Int32.ofNat av) + (0 : Int32))), (.ref a3)])) rfl rfl (hb hby d1_19)
  have V7 := Arv.set Ar7 q7 S7 M7 H7 G7 (fits_nar_byte _) W7 (av + 0) (own_in av ha 0 (by decide)).2.1 (own_in av ha 0 (by decide)).2.2
  have K7 : Keep h0 h7 [a3] := K5.wr W7 (Or.inl (List.mem_of_getElem? (i := 0) rfl))
  have N7 := Fr.snoc X7 N5 g_a3
  have Z7 : n0 ≤ h7.size := Nat.le_trans Z5 (Keep.of_wr W7).1
  have U7 : Arv Z h7 a3 k1 .byte (12 : Int32) (own_vals (own_upd (own_upd (own_upd (own_upd f (av + 3) (own_by (own_sh jb 0))) (av + 2) (own_by (own_sh jb 1))) (av + 1) (own_by (own_sh jb 2))) (av + 0) (own_by (own_sh jb 3)))) (.int (0 : Int32)) := by rw [← own_set _ _ _ (own_in av ha 0 (by decide)).2.2]; exact V7
  obtain ⟨fs, hr, hrun, hended, hW, hsame⟩ := X7.leave (v := none) (fun _ => rfl)
  refine ⟨_, _, pre0 _ ?_, hrun, hended, _, _, rfl, ?_, ⟨_, rfl⟩, hW, hsame.mono (by decide) (by decide)⟩
  · show Steps p.tables e below (s₁.setTop (mkF m 0 #[.val (.long jb), .second, .val (.int (4 : Int32)), .val (.ref a3), .val (.int (Int32.ofNat av)), .unset] [])) _
    refine XS.iloadN X0.here hx rfl (hb hby d1_0) rfl ?_
    show Steps p.tables e below (s₁.setTop (mkF m 1 #[.val (.long jb), .second, .val (.int (4 : Int32)), .val (.ref a3), .val (.int (Int32.ofNat av)), .unset] [(.int (4 : Int32))])) _
    refine XS.iconst X0.here hx rfl (hb hby d1_1) ?_
    show Steps p.tables e below (s₁.setTop (mkF m 2 #[.val (.long jb), .second, .val (.int (4 : Int32)), .val (.ref a3), .val (.int (Int32.ofNat av)), .unset] [(.int (1 : Int32)), (.int (4 : Int32))])) _
    refine XS.isub X0.here hx rfl (hb hby d1_2) rfl ?_
    show Steps p.tables e below (s₁.setTop (mkF m 3 #[.val (.long jb), .second, .val (.int (4 : Int32)), .val (.ref a3), .val (.int (Int32.ofNat av)), .unset] [(.int (3 : Int32))])) _
    refine XS.istore X0.here hx rfl (hb hby d1_3) rfl (l' := #[.val (.long jb), .second, .val (.int (4 : Int32)), .val (.ref a3), .val (.int (Int32.ofNat av)), .val (.int (3 : Int32))]) rfl ?_
    show Steps p.tables e below (s₁.setTop (mkF m 5 #[.val (.long jb), .second, .val (.int (4 : Int32)), .val (.ref a3), .val (.int (Int32.ofNat av)), .val (.int (3 : Int32))] [])) _
    rw [show (Value.long jb) = Value.long (own_sh jb 0) from congrArg Value.long (own_sh0 jb)]
    show Steps p.tables e below (s₁.setTop (mkF m 5 #[.val (.long (own_sh jb 0)), .second, .val (.int (4 : Int32)), .val (.ref a3), .val (.int (Int32.ofNat av)), .val (.int (3 : Int32))] [])) _
    refine XS.iload X0.here hx rfl (hb hby d1_5) rfl ?_
    show Steps p.tables e below (s₁.setTop (mkF m 7 #[.val (.long (own_sh jb 0)), .second, .val (.int (4 : Int32)), .val (.ref a3), .val (.int (Int32.ofNat av)), .val (.int (3 : Int32))] [(.int (3 : Int32))])) _
    refine XS.ifNo X0.here hx rfl (hb hby d1_7) rfl ((if0 _ _).trans (flt (by decide : ¬ ((3 : Int32) < (0 : Int32)))).1) ?_
    show Steps p.tables e below (s₁.setTop (mkF m 10 #[.val (.long (own_sh jb 0)), .second, .val (.int (4 : Int32)), .val (.ref a3), .val (.int (Int32.ofNat av)), .val (.int (3 : Int32))] [])) _
    refine XS.aloadN X0.here hx rfl (hb hby d1_10) rfl rfl ?_
    show Steps p.tables e below (s₁.setTop (mkF m 11 #[.val (.long (own_sh jb 0)), .second, .val (.int (4 : Int32)), .val (.ref a3), .val (.int (Int32.ofNat av)), .val (.int (3 : Int32))] [(.ref a3)])) _
    refine XS.iload X0.here hx rfl (hb hby d1_11) rfl ?_
    show Steps p.tables e below (s₁.setTop (mkF m 13 #[.val (.long (own_sh jb 0)), .second, .val (.int (4 : Int32)), .val (.ref a3), .val (.int (Int32.ofNat av)), .val (.int (3 : Int32))] [(.int (Int32.ofNat av)), (.ref a3)])) _
    refine XS.iload X0.here hx rfl (hb hby d1_13) rfl ?_
    show Steps p.tables e below (s₁.setTop (mkF m 15 #[.val (.long (own_sh jb 0)), .second, .val (.int (4 : Int32)), .val (.ref a3), .val (.int (Int32.ofNat av)), .val (.int (3 : Int32))] [(.int (3 : Int32)), (.int (Int32.ofNat av)), (.ref a3)])) _
    refine XS.iadd X0.here hx rfl (hb hby d1_15) rfl ?_
    show Steps p.tables e below (s₁.setTop (mkF m 16 #[.val (.long (own_sh jb 0)), .second, .val (.int (4 : Int32)), .val (.ref a3), .val (.int (Int32.ofNat av)), .val (.int (3 : Int32))] [(.int ((Int32.ofNat av) + (3 : Int32))), (.ref a3)])) _
    refine XS.lloadN X0.here hx rfl (hb hby d1_16) rfl ?_
    show Steps p.tables e below (s₁.setTop (mkF m 17 #[.val (.long (own_sh jb 0)), .second, .val (.int (4 : Int32)), .val (.ref a3), .val (.int (Int32.ofNat av)), .val (.int (3 : Int32))] [(.long (own_sh jb 0)), (.int ((Int32.ofNat av) + (3 : Int32))), (.ref a3)])) _
    refine XS.l2i X0.here hx rfl (hb hby d1_17) rfl ?_
    show Steps p.tables e below (s₁.setTop (mkF m 18 #[.val (.long (own_sh jb 0)), .second, .val (.int (4 : Int32)), .val (.ref a3), .val (.int (Int32.ofNat av)), .val (.int (3 : Int32))] [(.int ((own_sh jb 0).toInt32)), (.int ((Int32.ofNat av) + (3 : Int32))), (.ref a3)])) _
    refine XS.i2b X0.here hx rfl (hb hby d1_18) rfl ?_
    show Steps p.tables e below (s₁.setTop (mkF m 19 #[.val (.long (own_sh jb 0)), .second, .val (.int (4 : Int32)), .val (.ref a3), .val (.int (Int32.ofNat av)), .val (.int (3 : Int32))] [(.int (((own_sh jb 0).toInt32).toInt8.toInt32)), (.int ((Int32.ofNat av) + (3 : Int32))), (.ref a3)])) _
    refine st1 _ ?_
    show Steps p.tables e below (T1.setTop (mkF m 20 #[.val (.long (own_sh jb 0)), .second, .val (.int (4 : Int32)), .val (.ref a3), .val (.int (Int32.ofNat av)), .val (.int (3 : Int32))] [])) _
    refine XS.lloadN X1.here hx rfl (hb hby d1_20) rfl ?_
    show Steps p.tables e below (T1.setTop (mkF m 21 #[.val (.long (own_sh jb 0)), .second, .val (.int (4 : Int32)), .val (.ref a3), .val (.int (Int32.ofNat av)), .val (.int (3 : Int32))] [(.long (own_sh jb 0))])) _
    refine XS.bipush X1.here hx rfl (hb hby d1_21) ?_
    show Steps p.tables e below (T1.setTop (mkF m 23 #[.val (.long (own_sh jb 0)), .second, .val (.int (4 : Int32)), .val (.ref a3), .val (.int (Int32.ofNat av)), .val (.int (3 : Int32))] [(.int (8 : Int32)), (.long (own_sh jb 0))])) _
    refine XS.lushr X1.here hx rfl (hb hby d1_23) rfl ?_
    show Steps p.tables e below (T1.setTop (mkF m 24 #[.val (.long (own_sh jb 0)), .second, .val (.int (4 : Int32)), .val (.ref a3), .val (.int (Int32.ofNat av)), .val (.int (3 : Int32))] [(.long (((own_sh jb 0).toUInt64 >>> ((8 : Int32) &&& 0x3f).toInt64.toUInt64).toInt64))])) _
    refine XS.lstoreN X1.here hx rfl (hb hby d1_24) rfl (l' := #[.val (.long (((own_sh jb 0).toUInt64 >>> ((8 : Int32) &&& 0x3f).toInt64.toUInt64).toInt64)), .second, .val (.int (4 : Int32)), .val (.ref a3), .val (.int (Int32.ofNat av)), .val (.int (3 : Int32))]) rfl ?_
    show Steps p.tables e below (T1.setTop (mkF m 25 #[.val (.long (((own_sh jb 0).toUInt64 >>> ((8 : Int32) &&& 0x3f).toInt64.toUInt64).toInt64)), .second, .val (.int (4 : Int32)), .val (.ref a3), .val (.int (Int32.ofNat av)), .val (.int (3 : Int32))] [])) _
    refine XS.iinc X1.here hx rfl (hb hby d1_25) rfl (l' := #[.val (.long (((own_sh jb 0).toUInt64 >>> ((8 : Int32) &&& 0x3f).toInt64.toUInt64).toInt64)), .second, .val (.int (4 : Int32)), .val (.ref a3), .val (.int (Int32.ofNat av)), .val (.int (2 : Int32))]) rfl ?_
    show Steps p.tables e below (T1.setTop (mkF m 28 #[.val (.long (((own_sh jb 0).toUInt64 >>> ((8 : Int32) &&& 0x3f).toInt64.toUInt64).toInt64)), .second, .val (.int (4 : Int32)), .val (.ref a3), .val (.int (Int32.ofNat av)), .val (.int (2 : Int32))] [])) _
    refine XS.goto X1.here hx rfl (pc0 := 28) (pc' := 5) rfl (hb hby d1_28) (by decide) (by decide) ?_
    show Steps p.tables e below (T1.setTop (mkF m 5 #[.val (.long (((own_sh jb 0).toUInt64 >>> ((8 : Int32) &&& 0x3f).toInt64.toUInt64).toInt64)), .second, .val (.int (4 : Int32)), .val (.ref a3), .val (.int (Int32.ofNat av)), .val (.int (2 : Int32))] [])) _
    rw [own_shs jb 0 (by decide)]
    show Steps p.tables e below (T1.setTop (mkF m 5 #[.val (.long (own_sh jb 1)), .second, .val (.int (4 : Int32)), .val (.ref a3), .val (.int (Int32.ofNat av)), .val (.int (2 : Int32))] [])) _
    refine XS.iload X1.here hx rfl (hb hby d1_5) rfl ?_
    show Steps p.tables e below (T1.setTop (mkF m 7 #[.val (.long (own_sh jb 1)), .second, .val (.int (4 : Int32)), .val (.ref a3), .val (.int (Int32.ofNat av)), .val (.int (2 : Int32))] [(.int (2 : Int32))])) _
    refine XS.ifNo X1.here hx rfl (hb hby d1_7) rfl ((if0 _ _).trans (flt (by decide : ¬ ((2 : Int32) < (0 : Int32)))).1) ?_
    show Steps p.tables e below (T1.setTop (mkF m 10 #[.val (.long (own_sh jb 1)), .second, .val (.int (4 : Int32)), .val (.ref a3), .val (.int (Int32.ofNat av)), .val (.int (2 : Int32))] [])) _
    refine XS.aloadN X1.here hx rfl (hb hby d1_10) rfl rfl ?_
    show Steps p.tables e below (T1.setTop (mkF m 11 #[.val (.long (own_sh jb 1)), .second, .val (.int (4 : Int32)), .val (.ref a3), .val (.int (Int32.ofNat av)), .val (.int (2 : Int32))] [(.ref a3)])) _
    refine XS.iload X1.here hx rfl (hb hby d1_11) rfl ?_
    show Steps p.tables e below (T1.setTop (mkF m 13 #[.val (.long (own_sh jb 1)), .second, .val (.int (4 : Int32)), .val (.ref a3), .val (.int (Int32.ofNat av)), .val (.int (2 : Int32))] [(.int (Int32.ofNat av)), (.ref a3)])) _
    refine XS.iload X1.here hx rfl (hb hby d1_13) rfl ?_
    show Steps p.tables e below (T1.setTop (mkF m 15 #[.val (.long (own_sh jb 1)), .second, .val (.int (4 : Int32)), .val (.ref a3), .val (.int (Int32.ofNat av)), .val (.int (2 : Int32))] [(.int (2 : Int32)), (.int (Int32.ofNat av)), (.ref a3)])) _
    refine XS.iadd X1.here hx rfl (hb hby d1_15) rfl ?_
    show Steps p.tables e below (T1.setTop (mkF m 16 #[.val (.long (own_sh jb 1)), .second, .val (.int (4 : Int32)), .val (.ref a3), .val (.int (Int32.ofNat av)), .val (.int (2 : Int32))] [(.int ((Int32.ofNat av) + (2 : Int32))), (.ref a3)])) _
    refine XS.lloadN X1.here hx rfl (hb hby d1_16) rfl ?_
    show Steps p.tables e below (T1.setTop (mkF m 17 #[.val (.long (own_sh jb 1)), .second, .val (.int (4 : Int32)), .val (.ref a3), .val (.int (Int32.ofNat av)), .val (.int (2 : Int32))] [(.long (own_sh jb 1)), (.int ((Int32.ofNat av) + (2 : Int32))), (.ref a3)])) _
    refine XS.l2i X1.here hx rfl (hb hby d1_17) rfl ?_
    show Steps p.tables e below (T1.setTop (mkF m 18 #[.val (.long (own_sh jb 1)), .second, .val (.int (4 : Int32)), .val (.ref a3), .val (.int (Int32.ofNat av)), .val (.int (2 : Int32))] [(.int ((own_sh jb 1).toInt32)), (.int ((Int32.ofNat av) + (2 : Int32))), (.ref a3)])) _
    refine XS.i2b X1.here hx rfl (hb hby d1_18) rfl ?_
    show Steps p.tables e below (T1.setTop (mkF m 19 #[.val (.long (own_sh jb 1)), .second, .val (.int (4 : Int32)), .val (.ref a3), .val (.int (Int32.ofNat av)), .val (.int (2 : Int32))] [(.int (((own_sh jb 1).toInt32).toInt8.toInt32)), (.int ((Int32.ofNat av) + (2 : Int32))), (.ref a3)])) _
    refine st3 _ ?_
    show Steps p.tables e below (T3.setTop (mkF m 20 #[.val (.long (own_sh jb 1)), .second, .val (.int (4 : Int32)), .val (.ref a3), .val (.int (Int32.ofNat av)), .val (.int (2 : Int32))] [])) _
    refine XS.lloadN X3.here hx rfl (hb hby d1_20) rfl ?_
    show Steps p.tables e below (T3.setTop (mkF m 21 #[.val (.long (own_sh jb 1)), .second, .val (.int (4 : Int32)), .val (.ref a3), .val (.int (Int32.ofNat av)), .val (.int (2 : Int32))] [(.long (own_sh jb 1))])) _
    refine XS.bipush X3.here hx rfl (hb hby d1_21) ?_
    show Steps p.tables e below (T3.setTop (mkF m 23 #[.val (.long (own_sh jb 1)), .second, .val (.int (4 : Int32)), .val (.ref a3), .val (.int (Int32.ofNat av)), .val (.int (2 : Int32))] [(.int (8 : Int32)), (.long (own_sh jb 1))])) _
    refine XS.lushr X3.here hx rfl (hb hby d1_23) rfl ?_
    show Steps p.tables e below (T3.setTop (mkF m 24 #[.val (.long (own_sh jb 1)), .second, .val (.int (4 : Int32)), .val (.ref a3), .val (.int (Int32.ofNat av)), .val (.int (2 : Int32))] [(.long (((own_sh jb 1).toUInt64 >>> ((8 : Int32) &&& 0x3f).toInt64.toUInt64).toInt64))])) _
    refine XS.lstoreN X3.here hx rfl (hb hby d1_24) rfl (l' := #[.val (.long (((own_sh jb 1).toUInt64 >>> ((8 : Int32) &&& 0x3f).toInt64.toUInt64).toInt64)), .second, .val (.int (4 : Int32)), .val (.ref a3), .val (.int (Int32.ofNat av)), .val (.int (2 : Int32))]) rfl ?_
    show Steps p.tables e below (T3.setTop (mkF m 25 #[.val (.long (((own_sh jb 1).toUInt64 >>> ((8 : Int32) &&& 0x3f).toInt64.toUInt64).toInt64)), .second, .val (.int (4 : Int32)), .val (.ref a3), .val (.int (Int32.ofNat av)), .val (.int (2 : Int32))] [])) _
    refine XS.iinc X3.here hx rfl (hb hby d1_25) rfl (l' := #[.val (.long (((own_sh jb 1).toUInt64 >>> ((8 : Int32) &&& 0x3f).toInt64.toUInt64).toInt64)), .second, .val (.int (4 : Int32)), .val (.ref a3), .val (.int (Int32.ofNat av)), .val (.int (1 : Int32))]) rfl ?_
    show Steps p.tables e below (T3.setTop (mkF m 28 #[.val (.long (((own_sh jb 1).toUInt64 >>> ((8 : Int32) &&& 0x3f).toInt64.toUInt64).toInt64)), .second, .val (.int (4 : Int32)), .val (.ref a3), .val (.int (Int32.ofNat av)), .val (.int (1 : Int32))] [])) _
    refine XS.goto X3.here hx rfl (pc0 := 28) (pc' := 5) rfl (hb hby d1_28) (by decide) (by decide) ?_
    show Steps p.tables e below (T3.setTop (mkF m 5 #[.val (.long (((own_sh jb 1).toUInt64 >>> ((8 : Int32) &&& 0x3f).toInt64.toUInt64).toInt64)), .second, .val (.int (4 : Int32)), .val (.ref a3), .val (.int (Int32.ofNat av)), .val (.int (1 : Int32))] [])) _
    rw [own_shs jb 1 (by decide)]
    show Steps p.tables e below (T3.setTop (mkF m 5 #[.val (.long (own_sh jb 2)), .second, .val (.int (4 : Int32)), .val (.ref a3), .val (.int (Int32.ofNat av)), .val (.int (1 : Int32))] [])) _
    refine XS.iload X3.here hx rfl (hb hby d1_5) rfl ?_
    show Steps p.tables e below (T3.setTop (mkF m 7 #[.val (.long (own_sh jb 2)), .second, .val (.int (4 : Int32)), .val (.ref a3), .val (.int (Int32.ofNat av)), .val (.int (1 : Int32))] [(.int (1 : Int32))])) _
    refine XS.ifNo X3.here hx rfl (hb hby d1_7) rfl ((if0 _ _).trans (flt (by decide : ¬ ((1 : Int32) < (0 : Int32)))).1) ?_
    show Steps p.tables e below (T3.setTop (mkF m 10 #[.val (.long (own_sh jb 2)), .second, .val (.int (4 : Int32)), .val (.ref a3), .val (.int (Int32.ofNat av)), .val (.int (1 : Int32))] [])) _
    refine XS.aloadN X3.here hx rfl (hb hby d1_10) rfl rfl ?_
    show Steps p.tables e below (T3.setTop (mkF m 11 #[.val (.long (own_sh jb 2)), .second, .val (.int (4 : Int32)), .val (.ref a3), .val (.int (Int32.ofNat av)), .val (.int (1 : Int32))] [(.ref a3)])) _
    refine XS.iload X3.here hx rfl (hb hby d1_11) rfl ?_
    show Steps p.tables e below (T3.setTop (mkF m 13 #[.val (.long (own_sh jb 2)), .second, .val (.int (4 : Int32)), .val (.ref a3), .val (.int (Int32.ofNat av)), .val (.int (1 : Int32))] [(.int (Int32.ofNat av)), (.ref a3)])) _
    refine XS.iload X3.here hx rfl (hb hby d1_13) rfl ?_
    show Steps p.tables e below (T3.setTop (mkF m 15 #[.val (.long (own_sh jb 2)), .second, .val (.int (4 : Int32)), .val (.ref a3), .val (.int (Int32.ofNat av)), .val (.int (1 : Int32))] [(.int (1 : Int32)), (.int (Int32.ofNat av)), (.ref a3)])) _
    refine XS.iadd X3.here hx rfl (hb hby d1_15) rfl ?_
    show Steps p.tables e below (T3.setTop (mkF m 16 #[.val (.long (own_sh jb 2)), .second, .val (.int (4 : Int32)), .val (.ref a3), .val (.int (Int32.ofNat av)), .val (.int (1 : Int32))] [(.int ((Int32.ofNat av) + (1 : Int32))), (.ref a3)])) _
    refine XS.lloadN X3.here hx rfl (hb hby d1_16) rfl ?_
    show Steps p.tables e below (T3.setTop (mkF m 17 #[.val (.long (own_sh jb 2)), .second, .val (.int (4 : Int32)), .val (.ref a3), .val (.int (Int32.ofNat av)), .val (.int (1 : Int32))] [(.long (own_sh jb 2)), (.int ((Int32.ofNat av) + (1 : Int32))), (.ref a3)])) _
    refine XS.l2i X3.here hx rfl (hb hby d1_17) rfl ?_
    show Steps p.tables e below (T3.setTop (mkF m 18 #[.val (.long (own_sh jb 2)), .second, .val (.int (4 : Int32)), .val (.ref a3), .val (.int (Int32.ofNat av)), .val (.int (1 : Int32))] [(.int ((own_sh jb 2).toInt32)), (.int ((Int32.ofNat av) + (1 : Int32))), (.ref a3)])) _
    refine XS.i2b X3.here hx rfl (hb hby d1_18) rfl ?_
    show Steps p.tables e below (T3.setTop (mkF m 19 #[.val (.long (own_sh jb 2)), .second, .val (.int (4 : Int32)), .val (.ref a3), .val (.int (Int32.ofNat av)), .val (.int (1 : Int32))] [(.int (((own_sh jb 2).toInt32).toInt8.toInt32)), (.int ((Int32.ofNat av) + (1 : Int32))), (.ref a3)])) _
    refine st5 _ ?_
    show Steps p.tables e below (T5.setTop (mkF m 20 #[.val (.long (own_sh jb 2)), .second, .val (.int (4 : Int32)), .val (.ref a3), .val (.int (Int32.ofNat av)), .val (.int (1 : Int32))] [])) _
    refine XS.lloadN X5.here hx rfl (hb hby d1_20) rfl ?_
    show Steps p.tables e below (T5.setTop (mkF m 21 #[.val (.long (own_sh jb 2)), .second, .val (.int (4 : Int32)), .val (.ref a3), .val (.int (Int32.ofNat av)), .val (.int (1 : Int32))] [(.long (own_sh jb 2))])) _
    refine XS.bipush X5.here hx rfl (hb hby d1_21) ?_
    show Steps p.tables e below (T5.setTop (mkF m 23 #[.val (.long (own_sh jb 2)), .second, .val (.int (4 : Int32)), .val (.ref a3), .val (.int (Int32.ofNat av)), .val (.int (1 : Int32))] [(.int (8 : Int32)), (.long (own_sh jb 2))])) _
    refine XS.lushr X5.here hx rfl (hb hby d1_23) rfl ?_
    show Steps p.tables e below (T5.setTop (mkF m 24 #[.val (.long (own_sh jb 2)), .second, .val (.int (4 : Int32)), .val (.ref a3), .val (.int (Int32.ofNat av)), .val (.int (1 : Int32))] [(.long (((own_sh jb 2).toUInt64 >>> ((8 : Int32) &&& 0x3f).toInt64.toUInt64).toInt64))])) _
    refine XS.lstoreN X5.here hx rfl (hb hby d1_24) rfl (l' := #[.val (.long (((own_sh jb 2).toUInt64 >>> ((8 : Int32) &&& 0x3f).toInt64.toUInt64).toInt64)), .second, .val (.int (4 : Int32)), .val (.ref a3), .val (.int (Int32.ofNat av)), .val (.int (1 : Int32))]) rfl ?_
    show Steps p.tables e below (T5.setTop (mkF m 25 #[.val (.long (((own_sh jb 2).toUInt64 >>> ((8 : Int32) &&& 0x3f).toInt64.toUInt64).toInt64)), .second, .val (.int (4 : Int32)), .val (.ref a3), .val (.int (Int32.ofNat av)), .val (.int (1 : Int32))] [])) _
    refine XS.iinc X5.here hx rfl (hb hby d1_25) rfl (l' := #[.val (.long (((own_sh jb 2).toUInt64 >>> ((8 : Int32) &&& 0x3f).toInt64.toUInt64).toInt64)), .second, .val (.int (4 : Int32)), .val (.ref a3), .val (.int (Int32.ofNat av)), .val (.int (0 : Int32))]) rfl ?_
    show Steps p.tables e below (T5.setTop (mkF m 28 #[.val (.long (((own_sh jb 2).toUInt64 >>> ((8 : Int32) &&& 0x3f).toInt64.toUInt64).toInt64)), .second, .val (.int (4 : Int32)), .val (.ref a3), .val (.int (Int32.ofNat av)), .val (.int (0 : Int32))] [])) _
    refine XS.goto X5.here hx rfl (pc0 := 28) (pc' := 5) rfl (hb hby d1_28) (by decide) (by decide) ?_
    show Steps p.tables e below (T5.setTop (mkF m 5 #[.val (.long (((own_sh jb 2).toUInt64 >>> ((8 : Int32) &&& 0x3f).toInt64.toUInt64).toInt64)), .second, .val (.int (4 : Int32)), .val (.ref a3), .val (.int (Int32.ofNat av)), .val (.int (0 : Int32))] [])) _
    rw [own_shs jb 2 (by decide)]
    show Steps p.tables e below (T5.setTop (mkF m 5 #[.val (.long (own_sh jb 3)), .second, .val (.int (4 : Int32)), .val (.ref a3), .val (.int (Int32.ofNat av)), .val (.int (0 : Int32))] [])) _
    refine XS.iload X5.here hx rfl (hb hby d1_5) rfl ?_
    show Steps p.tables e below (T5.setTop (mkF m 7 #[.val (.long (own_sh jb 3)), .second, .val (.int (4 : Int32)), .val (.ref a3), .val (.int (Int32.ofNat av)), .val (.int (0 : Int32))] [(.int (0 : Int32))])) _
    refine XS.ifNo X5.here hx rfl (hb hby d1_7) rfl ((if0 _ _).trans (flt (by decide : ¬ ((0 : Int32) < (0 : Int32)))).1) ?_
    show Steps p.tables e below (T5.setTop (mkF m 10 #[.val (.long (own_sh jb 3)), .second, .val (.int (4 : Int32)), .val (.ref a3), .val (.int (Int32.ofNat av)), .val (.int (0 : Int32))] [])) _
    refine XS.aloadN X5.here hx rfl (hb hby d1_10) rfl rfl ?_
    show Steps p.tables e below (T5.setTop (mkF m 11 #[.val (.long (own_sh jb 3)), .second, .val (.int (4 : Int32)), .val (.ref a3), .val (.int (Int32.ofNat av)), .val (.int (0 : Int32))] [(.ref a3)])) _
    refine XS.iload X5.here hx rfl (hb hby d1_11) rfl ?_
    show Steps p.tables e below (T5.setTop (mkF m 13 #[.val (.long (own_sh jb 3)), .second, .val (.int (4 : Int32)), .val (.ref a3), .val (.int (Int32.ofNat av)), .val (.int (0 : Int32))] [(.int (Int32.ofNat av)), (.ref a3)])) _
    refine XS.iload X5.here hx rfl (hb hby d1_13) rfl ?_
    show Steps p.tables e below (T5.setTop (mkF m 15 #[.val (.long (own_sh jb 3)), .second, .val (.int (4 : Int32)), .val (.ref a3), .val (.int (Int32.ofNat av)), .val (.int (0 : Int32))] [(.int (0 : Int32)), (.int (Int32.ofNat av)), (.ref a3)])) _
    refine XS.iadd X5.here hx rfl (hb hby d1_15) rfl ?_
    show Steps p.tables e below (T5.setTop (mkF m 16 #[.val (.long (own_sh jb 3)), .second, .val (.int (4 : Int32)), .val (.ref a3), .val (.int (Int32.ofNat av)), .val (.int (0 : Int32))] [(.int ((Int32.ofNat av) + (0 : Int32))), (.ref a3)])) _
    refine XS.lloadN X5.here hx rfl (hb hby d1_16) rfl ?_
    show Steps p.tables e below (T5.setTop (mkF m 17 #[.val (.long (own_sh jb 3)), .second, .val (.int (4 : Int32)), .val (.ref a3), .val (.int (Int32.ofNat av)), .val (.int (0 : Int32))] [(.long (own_sh jb 3)), (.int ((Int32.ofNat av) + (0 : Int32))), (.ref a3)])) _
    refine XS.l2i X5.here hx rfl (hb hby d1_17) rfl ?_
    show Steps p.tables e below (T5.setTop (mkF m 18 #[.val (.long (own_sh jb 3)), .second, .val (.int (4 : Int32)), .val (.ref a3), .val (.int (Int32.ofNat av)), .val (.int (0 : Int32))] [(.int ((own_sh jb 3).toInt32)), (.int ((Int32.ofNat av) + (0 : Int32))), (.ref a3)])) _
    refine XS.i2b X5.here hx rfl (hb hby d1_18) rfl ?_
    show Steps p.tables e below (T5.setTop (mkF m 19 #[.val (.long (own_sh jb 3)), .second, .val (.int (4 : Int32)), .val (.ref a3), .val (.int (Int32.ofNat av)), .val (.int (0 : Int32))] [(.int (((own_sh jb 3).toInt32).toInt8.toInt32)), (.int ((Int32.ofNat av) + (0 : Int32))), (.ref a3)])) _
    refine st7 _ ?_
    show Steps p.tables e below (T7.setTop (mkF m 20 #[.val (.long (own_sh jb 3)), .second, .val (.int (4 : Int32)), .val (.ref a3), .val (.int (Int32.ofNat av)), .val (.int (0 : Int32))] [])) _
    refine XS.lloadN X7.here hx rfl (hb hby d1_20) rfl ?_
    show Steps p.tables e below (T7.setTop (mkF m 21 #[.val (.long (own_sh jb 3)), .second, .val (.int (4 : Int32)), .val (.ref a3), .val (.int (Int32.ofNat av)), .val (.int (0 : Int32))] [(.long (own_sh jb 3))])) _
    refine XS.bipush X7.here hx rfl (hb hby d1_21) ?_
    show Steps p.tables e below (T7.setTop (mkF m 23 #[.val (.long (own_sh jb 3)), .second, .val (.int (4 : Int32)), .val (.ref a3), .val (.int (Int32.ofNat av)), .val (.int (0 : Int32))] [(.int (8 : Int32)), (.long (own_sh jb 3))])) _
    refine XS.lushr X7.here hx rfl (hb hby d1_23) rfl ?_
    show Steps p.tables e below (T7.setTop (mkF m 24 #[.val (.long (own_sh jb 3)), .second, .val (.int (4 : Int32)), .val (.ref a3), .val (.int (Int32.ofNat av)), .val (.int (0 : Int32))] [(.long (((own_sh jb 3).toUInt64 >>> ((8 : Int32) &&& 0x3f).toInt64.toUInt64).toInt64))])) _
    refine XS.lstoreN X7.here hx rfl (hb hby d1_24) rfl (l' := #[.val (.long (((own_sh jb 3).toUInt64 >>> ((8 : Int32) &&& 0x3f).toInt64.toUInt64).toInt64)), .second, .val (.int (4 : Int32)), .val (.ref a3), .val (.int (Int32.ofNat av)), .val (.int (0 : Int32))]) rfl ?_
    show Steps p.tables e below (T7.setTop (mkF m 25 #[.val (.long (((own_sh jb 3).toUInt64 >>> ((8 : Int32) &&& 0x3f).toInt64.toUInt64).toInt64)), .second, .val (.int (4 : Int32)), .val (.ref a3), .val (.int (Int32.ofNat av)), .val (.int (0 : Int32))] [])) _
    refine XS.iinc X7.here hx rfl (hb hby d1_25) rfl (l' := #[.val (.long (((own_sh jb 3).toUInt64 >>> ((8 : Int32) &&& 0x3f).toInt64.toUInt64).toInt64)), .second, .val (.int (4 : Int32)), .val (.ref a3), .val (.int (Int32.ofNat av)), .val (.int (-1 : Int32))]) rfl ?_
    show Steps p.tables e below (T7.setTop (mkF m 28 #[.val (.long (((own_sh jb 3).toUInt64 >>> ((8 : Int32) &&& 0x3f).toInt64.toUInt64).toInt64)), .second, .val (.int (4 : Int32)), .val (.ref a3), .val (.int (Int32.ofNat av)), .val (.int (-1 : Int32))] [])) _
    refine XS.goto X7.here hx rfl (pc0 := 28) (pc' := 5) rfl (hb hby d1_28) (by decide) (by decide) ?_
    show Steps p.tables e below (T7.setTop (mkF m 5 #[.val (.long (((own_sh jb 3).toUInt64 >>> ((8 : Int32) &&& 0x3f).toInt64.toUInt64).toInt64)), .second, .val (.int (4 : Int32)), .val (.ref a3), .val (.int (Int32.ofNat av)), .val (.int (-1 : Int32))] [])) _
    rw [own_shs jb 3 (by decide)]
    show Steps p.tables e below (T7.setTop (mkF m 5 #[.val (.long (own_sh jb 4)), .second, .val (.int (4 : Int32)), .val (.ref a3), .val (.int (Int32.ofNat av)), .val (.int (-1 : Int32))] [])) _
    refine XS.iload X7.here hx rfl (hb hby d1_5) rfl ?_
    show Steps p.tables e below (T7.setTop (mkF m 7 #[.val (.long (own_sh jb 4)), .second, .val (.int (4 : Int32)), .val (.ref a3), .val (.int (Int32.ofNat av)), .val (.int (-1 : Int32))] [(.int (-1 : Int32))])) _
    refine XS.ifYes X7.here hx rfl (pc0 := 7) (pc' := 31) rfl (hb hby d1_7) rfl ((if0 _ _).trans (tlt (by decide : ((-1 : Int32) < (0 : Int32)))).1) (by decide) (by decide) ?_
    show Steps p.tables e below (T7.setTop (mkF m 31 #[.val (.long (own_sh jb 4)), .second, .val (.int (4 : Int32)), .val (.ref a3), .val (.int (Int32.ofNat av)), .val (.int (-1 : Int32))] [])) _
    exact X7.returnOut hx Bd.returns (hb hby d1_31) hr
  · show QP Z jb (4 : Int32) a3 av k1 f h0 n0 _ T7.heap _
    rw [e7]
    exact ⟨rfl, N7, K7, own_g4 jb av f ha ▸ U7⟩
theorem own_g5 (jb : Int64) (av : Nat) (f : Nat → Int32) (h : av ≤ 3) : own_vals (own_upd (own_upd (own_upd (own_upd (own_upd f (av + 4) (own_by (own_sh jb 0))) (av + 3) (own_by (own_sh jb 1))) (av + 2) (own_by (own_sh jb 2))) (av + 1) (own_by (own_sh jb 3))) (av + 0) (own_by (own_sh jb 4))) = own_vals (own_put f jb (5 : Int32) (Int32.ofNat av)) := own_gp f jb av 5 (by decide) h
theorem ef_1_5 (m : MethodId) (jb : Int64) (a3 : Addr) : entryFrame m #[(.long jb), (.int (5 : Int32)), (.ref a3), (.int (Int32.ofNat av))] 6 = mkF m 0 #[.val (.long jb), .second, .val (.int (5 : Int32)), .val (.ref a3), .val (.int (Int32.ofNat av)), .unset] [] := by first | (simp [entryFrame, mkF, argsToLocals, Value.category]; done) | rfl
set_option maxRecDepth 65536 in
set_option maxHeartbeats 40000000 in
theorem rm1_5 (l : Launch) (Z : State) (a0 : Array Value) (hw : ∀ d ∈ tables_1, d.before a0 Z = true) (ws : List Jvm.Cond) (jb : Int64) (a3 : Addr) (av : Nat) (k1 : ClassId) (f : Nat → Int32) (h0 : Heap) (n0 : Nat) (Z0 : n0 ≤ h0.size) (ha : av ≤ 3) (V_1 : Arv Z h0 a3 k1 .byte (12 : Int32) (own_vals f) (.int (0 : Int32))) (g_a3 : n0 ≤ a3) :
    MetFree l (⟨"com/example/backstitch/backstitch/stream/StreamTable", "putBits", "(JI[BI)V"⟩ : MethodName) (head1 (Jvm.Cond.code (⟨"com/example/backstitch/backstitch/stream/StreamTable", "putBits", "(JI[BI)V"⟩ : MethodName) prog_55_method_40_code 6 none :: ws) ({ frames := 0, cells := 0, slots := 0, locals := 0 } : Room)) (fun a U => a = #[(.long jb), (.int (5 : Int32)), (.ref a3), (.int (Int32.ofNat av))] ∧ Z.Warmed39 U.vm ∧ U.heap = h0) (fun _ _ _ _ _ => True) (fun _ U o U' => ∃ v L, o = .returned v ∧ QP Z jb (5 : Int32) a3 av k1 f h0 n0 v U'.heap L ∧ FrameEnd U o U' L ({ frames := 0, cells := 0, slots := 0, locals := 0 } : Room).cells ({ frames := 0, cells := 0, slots := 0, locals := 0 } : Room).slots) := by
  refine MetFree.of_bodySF (plainFor_of_name pn_1) hisR ?_
  intro p e s m args below meth c s₁ Bd hml0 hP hK
  obtain ⟨rfl, hZ, hh⟩ := hP
  have hx := Bd.exec
  have hby := Bd.bytes
  have hml : c.maxLocals = 6 := hml0
  have hown : s.vm.findClass "com/example/backstitch/backstitch/stream/StreamTable" = some m.cls := findClass_of_methodNamed Bd.named
  have hnm := (name_of_methodNamed Bd.named Bd.method).1
  have X0 : Stand p l e ({ frames := 0, cells := 0, slots := 0, locals := 0 } : Room) s m #[(.long jb), (.int (5 : Int32)), (.ref a3), (.int (Int32.ofNat av))] below meth c s₁ [] 0 0 := Stand.of_body Bd
  have e0 : s₁.heap = h0 := by rw [← hh, Bd.state]; rfl
  have N0 := Fr.nil n0
  have pre0 : ∀ t, Steps p.tables e below (s₁.setTop (mkF m 0 #[.val (.long jb), .second, .val (.int (5 : Int32)), .val (.ref a3), .val (.int (Int32.ofNat av)), .unset] [])) t → Steps p.tables e below (s₁.setTop (entryFrame m #[(.long jb), (.int (5 : Int32)), (.ref a3), (.int (Int32.ofNat av))] 6)) t := fun t k => castTop (ef_1_5 m jb a3) k
  have K0 : Keep h0 h0 [a3] := Keep.refl h0 [a3]
  obtain ⟨cl1, Ar1, q1, S1, M1, H1, G1⟩ := id V_1
  have hin1 : ¬ (((Int32.ofNat av) + (4 : Int32)) < 0 ∨ cl1.slots.size ≤ (((Int32.ofNat av) + (4 : Int32))).toNatClampNeg) := inb_of S1 (own_in av ha 4 (by decide)).1
  obtain ⟨T1, h1, X1, e1, W1, st1⟩ := stB X0 hx hZ e0 Ar1 (j := ((Int32.ofNat av) + (4 : Int32))) hin1 (g := (mkF m 19 #[.val (.long (own_sh jb 0)), .second, .val (.int (5 : Int32)), .val (.ref a3), .val (.int (Int32.ofNat av)), .val (.int (4 : Int32))] [(.int (((own_sh jb 0).toInt32).toInt8.toInt32)), (.int ((Int32.ofNat av) + (4 : Int32))), (.ref a3)])) rfl rfl (hb hby d1_19)
  have V1 := Arv.set Ar1 q1 S1 M1 H1 G1 (fits_nar_byte _) W1 (av + 4) (own_in av ha 4 (by decide)).2.1 (own_in av ha 4 (by decide)).2.2
  have K1 : Keep h0 h1 [a3] := K0.wr W1 (Or.inl (List.mem_of_getElem? (i := 0) rfl))
  have N1 := Fr.snoc X1 N0 g_a3
  have Z1 : n0 ≤ h1.size := Nat.le_trans Z0 (Keep.of_wr W1).1
  have U1 : Arv Z h1 a3 k1 .byte (12 : Int32) (own_vals (own_upd f (av + 4) (own_by (own_sh jb 0)))) (.int (0 : Int32)) := by rw [← own_set _ _ _ (own_in av ha 4 (by decide)).2.2]; exact V1
  obtain ⟨cl3, Ar3, q3, S3, M3, H3, G3⟩ := id U1
  have hin3 : ¬ (((Int32.ofNat av) + (3 : Int32)) < 0 ∨ cl3.slots.size ≤ (((Int32.ofNat av) + (3 : Int32))).toNatClampNeg) := inb_of S3 (own_in av ha 3 (by decide)).1
  obtain ⟨T3, h3, X3, e3, W3, st3⟩ := stB X1 hx hZ e1 Ar3 (j := ((Int32.ofNat av) + (3 : Int32))) hin3 (g := (mkF m 19 #[.val (.long (own_sh jb 1)), .second, .val (.int (5 : Int32)), .val (.ref a3), .val (.int (Int32.ofNat av)), .val (.int (3 : Int32))] [(.int (((own_sh jb 1).toInt32).toInt8.toInt32)), (.int ((Int32.ofNat av) + (3 : Int32))), (.ref a3)])) rfl rfl (hb hby d1_19)
  have V3 := Arv.set Ar3 q3 S3 M3 H3 G3 (fits_nar_byte _) W3 (av + 3) (own_in av ha 3 (by decide)).2.1 (own_in av ha 3 (by decide)).2.2
  have K3 : Keep h0 h3 [a3] := K1.wr W3 (Or.inl (List.mem_of_getElem? (i := 0) rfl))
  have N3 := Fr.snoc X3 N1 g_a3
  have Z3 : n0 ≤ h3.size := Nat.le_trans Z1 (Keep.of_wr W3).1
  have U3 : Arv Z h3 a3 k1 .byte (12 : Int32) (own_vals (own_upd (own_upd f (av + 4) (own_by (own_sh jb 0))) (av + 3) (own_by (own_sh jb 1)))) (.int (0 : Int32)) := by rw [← own_set _ _ _ (own_in av ha 3 (by decide)).2.2]; exact V3
  obtain ⟨cl5, Ar5, q5, S5, M5, H5, G5⟩ := id U3
  have hin5 : ¬ (((Int32.ofNat av) + (2 : Int32)) < 0 ∨ cl5.slots.size ≤ (((Int32.ofNat av) + (2 : Int32))).toNatClampNeg) := inb_of S5 (own_in av ha 2 (by decide)).1
  obtain ⟨T5, h5, X5, e5, W5, st5⟩ := stB X3 hx hZ e3 Ar5 (j := ((Int32.ofNat av) + (2 : Int32))) hin5 (g := (mkF m 19 #[.val (.long (own_sh jb 2)), .second, .val (.int (5 : Int32)), .val (.ref a3), .val (.int (Int32.ofNat av)), .val (.int (2 : Int32))] [(.int (((own_sh jb 2).toInt32).toInt8.toInt32)), (.int ((Int32.ofNat av) + (2 : Int32))), (.ref a3)])) rfl rfl (hb hby d1_19)
  have V5 := Arv.set Ar5 q5 S5 M5 H5 G5 (fits_nar_byte _) W5 (av + 2) (own_in av ha 2 (by decide)).2.1 (own_in av ha 2 (by decide)).2.2
  have K5 : Keep h0 h5 [a3] := K3.wr W5 (Or.inl (List.mem_of_getElem? (i := 0) rfl))
  have N5 := Fr.snoc X5 N3 g_a3
  have Z5 : n0 ≤ h5.size := Nat.le_trans Z3 (Keep.of_wr W5).1
  have U5 : Arv Z h5 a3 k1 .byte (12 : Int32) (own_vals (own_upd (own_upd (own_upd f (av + 4) (own_by (own_sh jb 0))) (av + 3) (own_by (own_sh jb 1))) (av + 2) (own_by (own_sh jb 2)))) (.int (0 : Int32)) := by rw [← own_set _ _ _ (own_in av ha 2 (by decide)).2.2]; exact V5
  obtain ⟨cl7, Ar7, q7, S7, M7, H7, G7⟩ := id U5
  have hin7 : ¬ (((Int32.ofNat av) + (1 : Int32)) < 0 ∨ cl7.slots.size ≤ (((Int32.ofNat av) + (1 : Int32))).toNatClampNeg) := inb_of S7 (own_in av ha 1 (by decide)).1
  obtain ⟨T7, h7, X7, e7, W7, st7⟩ := stB X5 hx hZ e5 Ar7 (j := ((Int32.ofNat av) + (1 : Int32))) hin7 (g := (mkF m 19 #[.val (.long (own_sh jb 3)), .second, .val (.int (5 : Int32)), .val (.ref a3), .val (.int (Int32.ofNat av)), .val (.int (1 : Int32))] [(.int (((own_sh jb 3).toInt32).toInt8.toInt32)), (.int ((Int32.ofNat av) + (1 : Int32))), (.ref a3)])) rfl rfl (hb hby d1_19)
  have V7 := Arv.set Ar7 q7 S7 M7 H7 G7 (fits_nar_byte _) W7 (av + 1) (own_in av ha 1 (by decide)).2.1 (own_in av ha 1 (by decide)).2.2
  have K7 : Keep h0 h7 [a3] := K5.wr W7 (Or.inl (List.mem_of_getElem? (i := 0) rfl))
  have N7 := Fr.snoc X7 N5 g_a3
  have Z7 : n0 ≤ h7.size := Nat.le_trans Z5 (Keep.of_wr W7).1
  have U7 : Arv Z h7 a3 k1 .byte (12 : Int32) (own_vals (own_upd (own_upd (own_upd (own_upd f (av + 4) (own_by (own_sh jb 0))) (av + 3) (own_by (own_sh jb 1))) (av + 2) (own_by (own_sh jb 2))) (av + 1) (own_by (own_sh jb 3)))) (.int (0 : Int32)) := by rw [← own_set _ _ _ (own_in av ha 1 (by decide)).2.2]; exact V7
  obtain ⟨cl9, Ar9, q9, S9, M9, H9, G9⟩ := id U7
  have hin9 : ¬ (((Int32.ofNat av) + (0 : Int32)) < 0 ∨ cl9.slots.size ≤ (((Int32.ofNat av) + (0 : Int32))).toNatClampNeg) := inb_of S9 (own_in av ha 0 (by decide)).1
  obtain ⟨T9, h9, X9, e9, W9, st9⟩ := stB X7 hx hZ e7 Ar9 (j := ((Int32.ofNat av) + (0 : Int32))) hin9 (g := (mkF m 19 #[.val (.long (own_sh jb 4)), .second, .val (.int (5 : Int32)), .val (.ref a3), .val (.int (Int32.ofNat av)), .val (.int (0 : Int32))] [(.int (((own_sh jb 4).toInt32).toInt8.toInt32)), (.int ((Int32.ofNat av) + (0 : Int32))), (.ref a3)])) rfl rfl (hb hby d1_19)
  have V9 := Arv.set Ar9 q9 S9 M9 H9 G9 (fits_nar_byte _) W9 (av + 0) (own_in av ha 0 (by decide)).2.1 (own_in av ha 0 (by decide)).2.2
  have K9 : Keep h0 h9 [a3] := K7.wr W9 (Or.inl (List.mem_of_getElem? (i := 0) rfl))
  have N9 := Fr.snoc X9 N7 g_a3
  have Z9 : n0 ≤ h9.size := Nat.le_trans Z7 (Keep.of_wr W9).1
  have U9 : Arv Z h9 a3 k1 .byte (12 : Int32) (own_vals (own_upd (own_upd (own_upd (own_upd (own_upd f (av + 4) (own_by (own_sh jb 0))) (av + 3) (own_by (own_sh jb 1))) (av + 2) (own_by (own_sh jb 2))) (av + 1) (own_by (own_sh jb 3))) (av + 0) (own_by (own_sh jb 4)))) (.int (0 : Int32)) := by rw [← own_set _ _ _ (own_in av ha 0 (by decide)).2.2]; exact V9
  obtain ⟨fs, hr, hrun, hended, hW, hsame⟩ := X9.leave (v := none) (fun _ => rfl)
  refine ⟨_, _, pre0 _ ?_, hrun, hended, _, _, rfl, ?_, ⟨_, rfl⟩, hW, hsame.mono (by decide) (by decide)⟩
  · show Steps p.tables e below (s₁.setTop (mkF m 0 #[.val (.long jb), .second, .val (.int (5 : Int32)), .val (.ref a3), .val (.int (Int32.ofNat av)), .unset] [])) _
    refine XS.iloadN X0.here hx rfl (hb hby d1_0) rfl ?_
    show Steps p.tables e below (s₁.setTop (mkF m 1 #[.val (.long jb), .second, .val (.int (5 : Int32)), .val (.ref a3), .val (.int (Int32.ofNat av)), .unset] [(.int (5 : Int32))])) _
    refine XS.iconst X0.here hx rfl (hb hby d1_1) ?_
    show Steps p.tables e below (s₁.setTop (mkF m 2 #[.val (.long jb), .second, .val (.int (5 : Int32)), .val (.ref a3), .val (.int (Int32.ofNat av)), .unset] [(.int (1 : Int32)), (.int (5 : Int32))])) _
    refine XS.isub X0.here hx rfl (hb hby d1_2) rfl ?_
    show Steps p.tables e below (s₁.setTop (mkF m 3 #[.val (.long jb), .second, .val (.int (5 : Int32)), .val (.ref a3), .val (.int (Int32.ofNat av)), .unset] [(.int (4 : Int32))])) _
    refine XS.istore X0.here hx rfl (hb hby d1_3) rfl (l' := #[.val (.long jb), .second, .val (.int (5 : Int32)), .val (.ref a3), .val (.int (Int32.ofNat av)), .val (.int (4 : Int32))]) rfl ?_
    show Steps p.tables e below (s₁.setTop (mkF m 5 #[.val (.long jb), .second, .val (.int (5 : Int32)), .val (.ref a3), .val (.int (Int32.ofNat av)), .val (.int (4 : Int32))] [])) _
    rw [show (Value.long jb) = Value.long (own_sh jb 0) from congrArg Value.long (own_sh0 jb)]
    show Steps p.tables e below (s₁.setTop (mkF m 5 #[.val (.long (own_sh jb 0)), .second, .val (.int (5 : Int32)), .val (.ref a3), .val (.int (Int32.ofNat av)), .val (.int (4 : Int32))] [])) _
    refine XS.iload X0.here hx rfl (hb hby d1_5) rfl ?_
    show Steps p.tables e below (s₁.setTop (mkF m 7 #[.val (.long (own_sh jb 0)), .second, .val (.int (5 : Int32)), .val (.ref a3), .val (.int (Int32.ofNat av)), .val (.int (4 : Int32))] [(.int (4 : Int32))])) _
    refine XS.ifNo X0.here hx rfl (hb hby d1_7) rfl ((if0 _ _).trans (flt (by decide : ¬ ((4 : Int32) < (0 : Int32)))).1) ?_
    show Steps p.tables e below (s₁.setTop (mkF m 10 #[.val (.long (own_sh jb 0)), .second, .val (.int (5 : Int32)), .val (.ref a3), .val (.int (Int32.ofNat av)), .val (.int (4 : Int32))] [])) _
    refine XS.aloadN X0.here hx rfl (hb hby d1_10) rfl rfl ?_
    show Steps p.tables e below (s₁.setTop (mkF m 11 #[.val (.long (own_sh jb 0)), .second, .val (.int (5 : Int32)), .val (.ref a3), .val (.int (Int32.ofNat av)), .val (.int (4 : Int32))] [(.ref a3)])) _
    refine XS.iload X0.here hx rfl (hb hby d1_11) rfl ?_
    show Steps p.tables e below (s₁.setTop (mkF m 13 #[.val (.long (own_sh jb 0)), .second, .val (.int (5 : Int32)), .val (.ref a3), .val (.int (Int32.ofNat av)), .val (.int (4 : Int32))] [(.int (Int32.ofNat av)), (.ref a3)])) _
    refine XS.iload X0.here hx rfl (hb hby d1_13) rfl ?_
    show Steps p.tables e below (s₁.setTop (mkF m 15 #[.val (.long (own_sh jb 0)), .second, .val (.int (5 : Int32)), .val (.ref a3), .val (.int (Int32.ofNat av)), .val (.int (4 : Int32))] [(.int (4 : Int32)), (.int (Int32.ofNat av)), (.ref a3)])) _
    refine XS.iadd X0.here hx rfl (hb hby d1_15) rfl ?_
    show Steps p.tables e below (s₁.setTop (mkF m 16 #[.val (.long (own_sh jb 0)), .second, .val (.int (5 : Int32)), .val (.ref a3), .val (.int (Int32.ofNat av)), .val (.int (4 : Int32))] [(.int ((Int32.ofNat av) + (4 : Int32))), (.ref a3)])) _
    refine XS.lloadN X0.here hx rfl (hb hby d1_16) rfl ?_
    show Steps p.tables e below (s₁.setTop (mkF m 17 #[.val (.long (own_sh jb 0)), .second, .val (.int (5 : Int32)), .val (.ref a3), .val (.int (Int32.ofNat av)), .val (.int (4 : Int32))] [(.long (own_sh jb 0)), (.int ((Int32.ofNat av) + (4 : Int32))), (.ref a3)])) _
    refine XS.l2i X0.here hx rfl (hb hby d1_17) rfl ?_
    show Steps p.tables e below (s₁.setTop (mkF m 18 #[.val (.long (own_sh jb 0)), .second, .val (.int (5 : Int32)), .val (.ref a3), .val (.int (Int32.ofNat av)), .val (.int (4 : Int32))] [(.int ((own_sh jb 0).toInt32)), (.int ((Int32.ofNat av) + (4 : Int32))), (.ref a3)])) _
    refine XS.i2b X0.here hx rfl (hb hby d1_18) rfl ?_
    show Steps p.tables e below (s₁.setTop (mkF m 19 #[.val (.long (own_sh jb 0)), .second, .val (.int (5 : Int32)), .val (.ref a3), .val (.int (Int32.ofNat av)), .val (.int (4 : Int32))] [(.int (((own_sh jb 0).toInt32).toInt8.toInt32)), (.int ((Int32.ofNat av) + (4 : Int32))), (.ref a3)])) _
    refine st1 _ ?_
    show Steps p.tables e below (T1.setTop (mkF m 20 #[.val (.long (own_sh jb 0)), .second, .val (.int (5 : Int32)), .val (.ref a3), .val (.int (Int32.ofNat av)), .val (.int (4 : Int32))] [])) _
    refine XS.lloadN X1.here hx rfl (hb hby d1_20) rfl ?_
    show Steps p.tables e below (T1.setTop (mkF m 21 #[.val (.long (own_sh jb 0)), .second, .val (.int (5 : Int32)), .val (.ref a3), .val (.int (Int32.ofNat av)), .val (.int (4 : Int32))] [(.long (own_sh jb 0))])) _
    refine XS.bipush X1.here hx rfl (hb hby d1_21) ?_
    show Steps p.tables e below (T1.setTop (mkF m 23 #[.val (.long (own_sh jb 0)), .second, .val (.int (5 : Int32)), .val (.ref a3), .val (.int (Int32.ofNat av)), .val (.int (4 : Int32))] [(.int (8 : Int32)), (.long (own_sh jb 0))])) _
    refine XS.lushr X1.here hx rfl (hb hby d1_23) rfl ?_
    show Steps p.tables e below (T1.setTop (mkF m 24 #[.val (.long (own_sh jb 0)), .second, .val (.int (5 : Int32)), .val (.ref a3), .val (.int (Int32.ofNat av)), .val (.int (4 : Int32))] [(.long (((own_sh jb 0).toUInt64 >>> ((8 : Int32) &&& 0x3f).toInt64.toUInt64).toInt64))])) _
    refine XS.lstoreN X1.here hx rfl (hb hby d1_24) rfl (l' := #[.val (.long (((own_sh jb 0).toUInt64 >>> ((8 : Int32) &&& 0x3f).toInt64.toUInt64).toInt64)), .second, .val (.int (5 : Int32)), .val (.ref a3), .val (.int (Int32.ofNat av)), .val (.int (4 : Int32))]) rfl ?_
    show Steps p.tables e below (T1.setTop (mkF m 25 #[.val (.long (((own_sh jb 0).toUInt64 >>> ((8 : Int32) &&& 0x3f).toInt64.toUInt64).toInt64)), .second, .val (.int (5 : Int32)), .val (.ref a3), .val (.int (Int32.ofNat av)), .val (.int (4 : Int32))] [])) _
    refine XS.iinc X1.here hx rfl (hb hby d1_25) rfl (l' := #[.val (.long (((own_sh jb 0).toUInt64 >>> ((8 : Int32) &&& 0x3f).toInt64.toUInt64).toInt64)), .second, .val (.int (5 : Int32)), .val (.ref a3), .val (.int (Int32.ofNat av)), .val (.int (3 : Int32))]) rfl ?_
    show Steps p.tables e below (T1.setTop (mkF m 28 #[.val (.long (((own_sh jb 0).toUInt64 >>> ((8 : Int32) &&& 0x3f).toInt64.toUInt64).toInt64)), .second, .val (.int (5 : Int32)), .val (.ref a3), .val (.int (Int32.ofNat av)), .val (.int (3 : Int32))] [])) _
    refine XS.goto X1.here hx rfl (pc0 := 28) (pc' := 5) rfl (hb hby d1_28) (by decide) (by decide) ?_
    show Steps p.tables e below (T1.setTop (mkF m 5 #[.val (.long (((own_sh jb 0).toUInt64 >>> ((8 : Int32) &&& 0x3f).toInt64.toUInt64).toInt64)), .second, .val (.int (5 : Int32)), .val (.ref a3), .val (.int (Int32.ofNat av)), .val (.int (3 : Int32))] [])) _
    rw [own_shs jb 0 (by decide)]
    show Steps p.tables e below (T1.setTop (mkF m 5 #[.val (.long (own_sh jb 1)), .second, .val (.int (5 : Int32)), .val (.ref a3), .val (.int (Int32.ofNat av)), .val (.int (3 : Int32))] [])) _
    refine XS.iload X1.here hx rfl (hb hby d1_5) rfl ?_
    show Steps p.tables e below (T1.setTop (mkF m 7 #[.val (.long (own_sh jb 1)), .second, .val (.int (5 : Int32)), .val (.ref a3), .val (.int (Int32.ofNat av)), .val (.int (3 : Int32))] [(.int (3 : Int32))])) _
    refine XS.ifNo X1.here hx rfl (hb hby d1_7) rfl ((if0 _ _).trans (flt (by decide : ¬ ((3 : Int32) < (0 : Int32)))).1) ?_
    show Steps p.tables e below (T1.setTop (mkF m 10 #[.val (.long (own_sh jb 1)), .second, .val (.int (5 : Int32)), .val (.ref a3), .val (.int (Int32.ofNat av)), .val (.int (3 : Int32))] [])) _
    refine XS.aloadN X1.here hx rfl (hb hby d1_10) rfl rfl ?_
    show Steps p.tables e below (T1.setTop (mkF m 11 #[.val (.long (own_sh jb 1)), .second, .val (.int (5 : Int32)), .val (.ref a3), .val (.int (Int32.ofNat av)), .val (.int (3 : Int32))] [(.ref a3)])) _
    refine XS.iload X1.here hx rfl (hb hby d1_11) rfl ?_
    show Steps p.tables e below (T1.setTop (mkF m 13 #[.val (.long (own_sh jb 1)), .second, .val (.int (5 : Int32)), .val (.ref a3), .val (.int (Int32.ofNat av)), .val (.int (3 : Int32))] [(.int (Int32.ofNat av)), (.ref a3)])) _
    refine XS.iload X1.here hx rfl (hb hby d1_13) rfl ?_
    show Steps p.tables e below (T1.setTop (mkF m 15 #[.val (.long (own_sh jb 1)), .second, .val (.int (5 : Int32)), .val (.ref a3), .val (.int (Int32.ofNat av)), .val (.int (3 : Int32))] [(.int (3 : Int32)), (.int (Int32.ofNat av)), (.ref a3)])) _
    refine XS.iadd X1.here hx rfl (hb hby d1_15) rfl ?_
    show Steps p.tables e below (T1.setTop (mkF m 16 #[.val (.long (own_sh jb 1)), .second, .val (.int (5 : Int32)), .val (.ref a3), .val (.int (Int32.ofNat av)), .val (.int (3 : Int32))] [(.int ((Int32.ofNat av) + (3 : Int32))), (.ref a3)])) _
    refine XS.lloadN X1.here hx rfl (hb hby d1_16) rfl ?_
    show Steps p.tables e below (T1.setTop (mkF m 17 #[.val (.long (own_sh jb 1)), .second, .val (.int (5 : Int32)), .val (.ref a3), .val (.int (Int32.ofNat av)), .val (.int (3 : Int32))] [(.long (own_sh jb 1)), (.int ((Int32.ofNat av) + (3 : Int32))), (.ref a3)])) _
    refine XS.l2i X1.here hx rfl (hb hby d1_17) rfl ?_
    show Steps p.tables e below (T1.setTop (mkF m 18 #[.val (.long (own_sh jb 1)), .second, .val (.int (5 : Int32)), .val (.ref a3), .val (.int (Int32.ofNat av)), .val (.int (3 : Int32))] [(.int ((own_sh jb 1).toInt32)), (.int ((Int32.ofNat av) + (3 : Int32))), (.ref a3)])) _
    refine XS.i2b X1.here hx rfl (hb hby d1_18) rfl ?_
    show Steps p.tables e below (T1.setTop (mkF m 19 #[.val (.long (own_sh jb 1)), .second, .val (.int (5 : Int32)), .val (.ref a3), .val (.int (Int32.ofNat av)), .val (.int (3 : Int32))] [(.int (((own_sh jb 1).toInt32).toInt8.toInt32)), (.int ((Int32.ofNat av) + (3 : Int32))), (.ref a3)])) _
    refine st3 _ ?_
    show Steps p.tables e below (T3.setTop (mkF m 20 #[.val (.long (own_sh jb 1)), .second, .val (.int (5 : Int32)), .val (.ref a3), .val (.int (Int32.ofNat av)), .val (.int (3 : Int32))] [])) _
    refine XS.lloadN X3.here hx rfl (hb hby d1_20) rfl ?_
    show Steps p.tables e below (T3.setTop (mkF m 21 #[.val (.long (own_sh jb 1)), .second, .val (.int (5 : Int32)), .val (.ref a3), .val (.int (Int32.ofNat av)), .val (.int (3 : Int32))] [(.long (own_sh jb 1))])) _
    refine XS.bipush X3.here hx rfl (hb hby d1_21) ?_
    show Steps p.tables e below (T3.setTop (mkF m 23 #[.val (.long (own_sh jb 1)), .second, .val (.int (5 : Int32)), .val (.ref a3), .val (.int (Int32.ofNat av)), .val (.int (3 : Int32))] [(.int (8 : Int32)), (.long (own_sh jb 1))])) _
    refine XS.lushr X3.here hx rfl (hb hby d1_23) rfl ?_
    show Steps p.tables e below (T3.setTop (mkF m 24 #[.val (.long (own_sh jb 1)), .second, .val (.int (5 : Int32)), .val (.ref a3), .val (.int (Int32.ofNat av)), .val (.int (3 : Int32))] [(.long (((own_sh jb 1).toUInt64 >>> ((8 : Int32) &&& 0x3f).toInt64.toUInt64).toInt64))])) _
    refine XS.lstoreN X3.here hx rfl (hb hby d1_24) rfl (l' := #[.val (.long (((own_sh jb 1).toUInt64 >>> ((8 : Int32) &&& 0x3f).toInt64.toUInt64).toInt64)), .second, .val (.int (5 : Int32)), .val (.ref a3), .val (.int (Int32.ofNat av)), .val (.int (3 : Int32))]) rfl ?_
    show Steps p.tables e below (T3.setTop (mkF m 25 #[.val (.long (((own_sh jb 1).toUInt64 >>> ((8 : Int32) &&& 0x3f).toInt64.toUInt64).toInt64)), .second, .val (.int (5 : Int32)), .val (.ref a3), .val (.int (Int32.ofNat av)), .val (.int (3 : Int32))] [])) _
    refine XS.iinc X3.here hx rfl (hb hby d1_25) rfl (l' := #[.val (.long (((own_sh jb 1).toUInt64 >>> ((8 : Int32) &&& 0x3f).toInt64.toUInt64).toInt64)), .second, .val (.int (5 : Int32)), .val (.ref a3), .val (.int (Int32.ofNat av)), .val (.int (2 : Int32))]) rfl ?_
    show Steps p.tables e below (T3.setTop (mkF m 28 #[.val (.long (((own_sh jb 1).toUInt64 >>> ((8 : Int32) &&& 0x3f).toInt64.toUInt64).toInt64)), .second, .val (.int (5 : Int32)), .val (.ref a3), .val (.int (Int32.ofNat av)), .val (.int (2 : Int32))] [])) _
    refine XS.goto X3.here hx rfl (pc0 := 28) (pc' := 5) rfl (hb hby d1_28) (by decide) (by decide) ?_
    show Steps p.tables e below (T3.setTop (mkF m 5 #[.val (.long (((own_sh jb 1).toUInt64 >>> ((8 : Int32) &&& 0x3f).toInt64.toUInt64).toInt64)), .second, .val (.int (5 : Int32)), .val (.ref a3), .val (.int (Int32.ofNat av)), .val (.int (2 : Int32))] [])) _
    rw [own_shs jb 1 (by decide)]
    show Steps p.tables e below (T3.setTop (mkF m 5 #[.val (.long (own_sh jb 2)), .second, .val (.int (5 : Int32)), .val (.ref a3), .val (.int (Int32.ofNat av)), .val (.int (2 : Int32))] [])) _
    refine XS.iload X3.here hx rfl (hb hby d1_5) rfl ?_
    show Steps p.tables e below (T3.setTop (mkF m 7 #[.val (.long (own_sh jb 2)), .second, .val (.int (5 : Int32)), .val (.ref a3), .val (.int (Int32.ofNat av)), .val (.int (2 : Int32))] [(.int (2 : Int32))])) _
    refine XS.ifNo X3.here hx rfl (hb hby d1_7) rfl ((if0 _ _).trans (flt (by decide : ¬ ((2 : Int32) < (0 : Int32)))).1) ?_
    show Steps p.tables e below (T3.setTop (mkF m 10 #[.val (.long (own_sh jb 2)), .second, .val (.int (5 : Int32)), .val (.ref a3), .val (.int (Int32.ofNat av)), .val (.int (2 : Int32))] [])) _
    refine XS.aloadN X3.here hx rfl (hb hby d1_10) rfl rfl ?_
    show Steps p.tables e below (T3.setTop (mkF m 11 #[.val (.long (own_sh jb 2)), .second, .val (.int (5 : Int32)), .val (.ref a3), .val (.int (Int32.ofNat av)), .val (.int (2 : Int32))] [(.ref a3)])) _
    refine XS.iload X3.here hx rfl (hb hby d1_11) rfl ?_
    show Steps p.tables e below (T3.setTop (mkF m 13 #[.val (.long (own_sh jb 2)), .second, .val (.int (5 : Int32)), .val (.ref a3), .val (.int (Int32.ofNat av)), .val (.int (2 : Int32))] [(.int (Int32.ofNat av)), (.ref a3)])) _
    refine XS.iload X3.here hx rfl (hb hby d1_13) rfl ?_
    show Steps p.tables e below (T3.setTop (mkF m 15 #[.val (.long (own_sh jb 2)), .second, .val (.int (5 : Int32)), .val (.ref a3), .val (.int (Int32.ofNat av)), .val (.int (2 : Int32))] [(.int (2 : Int32)), (.int (Int32.ofNat av)), (.ref a3)])) _
    refine XS.iadd X3.here hx rfl (hb hby d1_15) rfl ?_
    show Steps p.tables e below (T3.setTop (mkF m 16 #[.val (.long (own_sh jb 2)), .second, .val (.int (5 : Int32)), .val (.ref a3), .val (.int (Int32.ofNat av)), .val (.int (2 : Int32))] [(.int ((Int32.ofNat av) + (2 : Int32))), (.ref a3)])) _
    refine XS.lloadN X3.here hx rfl (hb hby d1_16) rfl ?_
    show Steps p.tables e below (T3.setTop (mkF m 17 #[.val (.long (own_sh jb 2)), .second, .val (.int (5 : Int32)), .val (.ref a3), .val (.int (Int32.ofNat av)), .val (.int (2 : Int32))] [(.long (own_sh jb 2)), (.int ((Int32.ofNat av) + (2 : Int32))), (.ref a3)])) _
    refine XS.l2i X3.here hx rfl (hb hby d1_17) rfl ?_
    show Steps p.tables e below (T3.setTop (mkF m 18 #[.val (.long (own_sh jb 2)), .second, .val (.int (5 : Int32)), .val (.ref a3), .val (.int (Int32.ofNat av)), .val (.int (2 : Int32))] [(.int ((own_sh jb 2).toInt32)), (.int ((Int32.ofNat av) + (2 : Int32))), (.ref a3)])) _
    refine XS.i2b X3.here hx rfl (hb hby d1_18) rfl ?_
    show Steps p.tables e below (T3.setTop (mkF m 19 #[.val (.long (own_sh jb 2)), .second, .val (.int (5 : Int32)), .val (.ref a3), .val (.int (Int32.ofNat av)), .val (.int (2 : Int32))] [(.int (((own_sh jb 2).toInt32).toInt8.toInt32)), (.int ((Int32.ofNat av) + (2 : Int32))), (.ref a3)])) _
    refine st5 _ ?_
    show Steps p.tables e below (T5.setTop (mkF m 20 #[.val (.long (own_sh jb 2)), .second, .val (.int (5 : Int32)), .val (.ref a3), .val (.int (Int32.ofNat av)), .val (.int (2 : Int32))] [])) _
    refine XS.lloadN X5.here hx rfl (hb hby d1_20) rfl ?_
    show Steps p.tables e below (T5.setTop (mkF m 21 #[.val (.long (own_sh jb 2)), .second, .val (.int (5 : Int32)), .val (.ref a3), .val (.int (Int32.ofNat av)), .val (.int (2 : Int32))] [(.long (own_sh jb 2))])) _
    refine XS.bipush X5.here hx rfl (hb hby d1_21) ?_
    show Steps p.tables e below (T5.setTop (mkF m 23 #[.val (.long (own_sh jb 2)), .second, .val (.int (5 : Int32)), .val (.ref a3), .val (.int (Int32.ofNat av)), .val (.int (2 : Int32))] [(.int (8 : Int32)), (.long (own_sh jb 2))])) _
    refine XS.lushr X5.here hx rfl (hb hby d1_23) rfl ?_
    show Steps p.tables e below (T5.setTop (mkF m 24 #[.val (.long (own_sh jb 2)), .second, .val (.int (5 : Int32)), .val (.ref a3), .val (.int (Int32.ofNat av)), .val (.int (2 : Int32))] [(.long (((own_sh jb 2).toUInt64 >>> ((8 : Int32) &&& 0x3f).toInt64.toUInt64).toInt64))])) _
    refine XS.lstoreN X5.here hx rfl (hb hby d1_24) rfl (l' := #[.val (.long (((own_sh jb 2).toUInt64 >>> ((8 : Int32) &&& 0x3f).toInt64.toUInt64).toInt64)), .second, .val (.int (5 : Int32)), .val (.ref a3), .val (.int (Int32.ofNat av)), .val (.int (2 : Int32))]) rfl ?_
    show Steps p.tables e below (T5.setTop (mkF m 25 #[.val (.long (((own_sh jb 2).toUInt64 >>> ((8 : Int32) &&& 0x3f).toInt64.toUInt64).toInt64)), .second, .val (.int (5 : Int32)), .val (.ref a3), .val (.int (Int32.ofNat av)), .val (.int (2 : Int32))] [])) _
    refine XS.iinc X5.here hx rfl (hb hby d1_25) rfl (l' := #[.val (.long (((own_sh jb 2).toUInt64 >>> ((8 : Int32) &&& 0x3f).toInt64.toUInt64).toInt64)), .second, .val (.int (5 : Int32)), .val (.ref a3), .val (.int (Int32.ofNat av)), .val (.int (1 : Int32))]) rfl ?_
    show Steps p.tables e below (T5.setTop (mkF m 28 #[.val (.long (((own_sh jb 2).toUInt64 >>> ((8 : Int32) &&& 0x3f).toInt64.toUInt64).toInt64)), .second, .val (.int (5 : Int32)), .val (.ref a3), .val (.int (Int32.ofNat av)), .val (.int (1 : Int32))] [])) _
    refine XS.goto X5.here hx rfl (pc0 := 28) (pc' := 5) rfl (hb hby d1_28) (by decide) (by decide) ?_
    show Steps p.tables e below (T5.setTop (mkF m 5 #[.val (.long (((own_sh jb 2).toUInt64 >>> ((8 : Int32) &&& 0x3f).toInt64.toUInt64).toInt64)), .second, .val (.int (5 : Int32)), .val (.ref a3), .val (.int (Int32.ofNat av)), .val (.int (1 : Int32))] [])) _
    rw [own_shs jb 2 (by decide)]
    show Steps p.tables e below (T5.setTop (mkF m 5 #[.val (.long (own_sh jb 3)), .second, .val (.int (5 : Int32)), .val (.ref a3), .val (.int (Int32.ofNat av)), .val (.int (1 : Int32))] [])) _
    refine XS.iload X5.here hx rfl (hb hby d1_5) rfl ?_
    show Steps p.tables e below (T5.setTop (mkF m 7 #[.val (.long (own_sh jb 3)), .second, .val (.int (5 : Int32)), .val (.ref a3), .val (.int (Int32.ofNat av)), .val (.int (1 : Int32))] [(.int (1 : Int32))])) _
    refine XS.ifNo X5.here hx rfl (hb hby d1_7) rfl ((if0 _ _).trans (flt (by decide : ¬ ((1 : Int32) < (0 : Int32)))).1) ?_
    show Steps p.tables e below (T5.setTop (mkF m 10 #[.val (.long (own_sh jb 3)), .second, .val (.int (5 : Int32)), .val (.ref a3), .val (.int (Int32.ofNat av)), .val (.int (1 : Int32))] [])) _
    refine XS.aloadN X5.here hx rfl (hb hby d1_10) rfl rfl ?_
    show Steps p.tables e below (T5.setTop (mkF m 11 #[.val (.long (own_sh jb 3)), .second, .val (.int (5 : Int32)), .val (.ref a3), .val (.int (Int32.ofNat av)), .val (.int (1 : Int32))] [(.ref a3)])) _
    refine XS.iload X5.here hx rfl (hb hby d1_11) rfl ?_
    show Steps p.tables e below (T5.setTop (mkF m 13 #[.val (.long (own_sh jb 3)), .second, .val (.int (5 : Int32)), .val (.ref a3), .val (.int (Int32.ofNat av)), .val (.int (1 : Int32))] [(.int (Int32.ofNat av)), (.ref a3)])) _
    refine XS.iload X5.here hx rfl (hb hby d1_13) rfl ?_
    show Steps p.tables e below (T5.setTop (mkF m 15 #[.val (.long (own_sh jb 3)), .second, .val (.int (5 : Int32)), .val (.ref a3), .val (.int (Int32.ofNat av)), .val (.int (1 : Int32))] [(.int (1 : Int32)), (.int (Int32.ofNat av)), (.ref a3)])) _
    refine XS.iadd X5.here hx rfl (hb hby d1_15) rfl ?_
    show Steps p.tables e below (T5.setTop (mkF m 16 #[.val (.long (own_sh jb 3)), .second, .val (.int (5 : Int32)), .val (.ref a3), .val (.int (Int32.ofNat av)), .val (.int (1 : Int32))] [(.int ((Int32.ofNat av) + (1 : Int32))), (.ref a3)])) _
    refine XS.lloadN X5.here hx rfl (hb hby d1_16) rfl ?_
    show Steps p.tables e below (T5.setTop (mkF m 17 #[.val (.long (own_sh jb 3)), .second, .val (.int (5 : Int32)), .val (.ref a3), .val (.int (Int32.ofNat av)), .val (.int (1 : Int32))] [(.long (own_sh jb 3)), (.int ((Int32.ofNat av) + (1 : Int32))), (.ref a3)])) _
    refine XS.l2i X5.here hx rfl (hb hby d1_17) rfl ?_
    show Steps p.tables e below (T5.setTop (mkF m 18 #[.val (.long (own_sh jb 3)), .second, .val (.int (5 : Int32)), .val (.ref a3), .val (.int (Int32.ofNat av)), .val (.int (1 : Int32))] [(.int ((own_sh jb 3).toInt32)), (.int ((Int32.ofNat av) + (1 : Int32))), (.ref a3)])) _
    refine XS.i2b X5.here hx rfl (hb hby d1_18) rfl ?_
    show Steps p.tables e below (T5.setTop (mkF m 19 #[.val (.long (own_sh jb 3)), .second, .val (.int (5 : Int32)), .val (.ref a3), .val (.int (Int32.ofNat av)), .val (.int (1 : Int32))] [(.int (((own_sh jb 3).toInt32).toInt8.toInt32)), (.int ((Int32.ofNat av) + (1 : Int32))), (.ref a3)])) _
    refine st7 _ ?_
    show Steps p.tables e below (T7.setTop (mkF m 20 #[.val (.long (own_sh jb 3)), .second, .val (.int (5 : Int32)), .val (.ref a3), .val (.int (Int32.ofNat av)), .val (.int (1 : Int32))] [])) _
    refine XS.lloadN X7.here hx rfl (hb hby d1_20) rfl ?_
    show Steps p.tables e below (T7.setTop (mkF m 21 #[.val (.long (own_sh jb 3)), .second, .val (.int (5 : Int32)), .val (.ref a3), .val (.int (Int32.ofNat av)), .val (.int (1 : Int32))] [(.long (own_sh jb 3))])) _
    refine XS.bipush X7.here hx rfl (hb hby d1_21) ?_
    show Steps p.tables e below (T7.setTop (mkF m 23 #[.val (.long (own_sh jb 3)), .second, .val (.int (5 : Int32)), .val (.ref a3), .val (.int (Int32.ofNat av)), .val (.int (1 : Int32))] [(.int (8 : Int32)), (.long (own_sh jb 3))])) _
    refine XS.lushr X7.here hx rfl (hb hby d1_23) rfl ?_
    show Steps p.tables e below (T7.setTop (mkF m 24 #[.val (.long (own_sh jb 3)), .second, .val (.int (5 : Int32)), .val (.ref a3), .val (.int (Int32.ofNat av)), .val (.int (1 : Int32))] [(.long (((own_sh jb 3).toUInt64 >>> ((8 : Int32) &&& 0x3f).toInt64.toUInt64).toInt64))])) _
    refine XS.lstoreN X7.here hx rfl (hb hby d1_24) rfl (l' := #[.val (.long (((own_sh jb 3).toUInt64 >>> ((8 : Int32) &&& 0x3f).toInt64.toUInt64).toInt64)), .second, .val (.int (5 : Int32)), .val (.ref a3), .val (.int (Int32.ofNat av)), .val (.int (1 : Int32))]) rfl ?_
    show Steps p.tables e below (T7.setTop (mkF m 25 #[.val (.long (((own_sh jb 3).toUInt64 >>> ((8 : Int32) &&& 0x3f).toInt64.toUInt64).toInt64)), .second, .val (.int (5 : Int32)), .val (.ref a3), .val (.int (Int32.ofNat av)), .val (.int (1 : Int32))] [])) _
    refine XS.iinc X7.here hx rfl (hb hby d1_25) rfl (l' := #[.val (.long (((own_sh jb 3).toUInt64 >>> ((8 : Int32) &&& 0x3f).toInt64.toUInt64).toInt64)), .second, .val (.int (5 : Int32)), .val (.ref a3), .val (.int (Int32.ofNat av)), .val (.int (0 : Int32))]) rfl ?_
    show Steps p.tables e below (T7.setTop (mkF m 28 #[.val (.long (((own_sh jb 3).toUInt64 >>> ((8 : Int32) &&& 0x3f).toInt64.toUInt64).toInt64)), .second, .val (.int (5 : Int32)), .val (.ref a3), .val (.int (Int32.ofNat av)), .val (.int (0 : Int32))] [])) _
    refine XS.goto X7.here hx rfl (pc0 := 28) (pc' := 5) rfl (hb hby d1_28) (by decide) (by decide) ?_
    show Steps p.tables e below (T7.setTop (mkF m 5 #[.val (.long (((own_sh jb 3).toUInt64 >>> ((8 : Int32) &&& 0x3f).toInt64.toUInt64).toInt64)), .second, .val (.int (5 : Int32)), .val (.ref a3), .val (.int (Int32.ofNat av)), .val (.int (0 : Int32))] [])) _
    rw [own_shs jb 3 (by decide)]
    show Steps p.tables e below (T7.setTop (mkF m 5 #[.val (.long (own_sh jb 4)), .second, .val (.int (5 : Int32)), .val (.ref a3), .val (.int (Int32.ofNat av)), .val (.int (0 : Int32))] [])) _
    refine XS.iload X7.here hx rfl (hb hby d1_5) rfl ?_
    show Steps p.tables e below (T7.setTop (mkF m 7 #[.val (.long (own_sh jb 4)), .second, .val (.int (5 : Int32)), .val (.ref a3), .val (.int (Int32.ofNat av)), .val (.int (0 : Int32))] [(.int (0 : Int32))])) _
    refine XS.ifNo X7.here hx rfl (hb hby d1_7) rfl ((if0 _ _).trans (flt (by decide : ¬ ((0 : Int32) < (0 : Int32)))).1) ?_
    show Steps p.tables e below (T7.setTop (mkF m 10 #[.val (.long (own_sh jb 4)), .second, .val (.int (5 : Int32)), .val (.ref a3), .val (.int (Int32.ofNat av)), .val (.int (0 : Int32))] [])) _
    refine XS.aloadN X7.here hx rfl (hb hby d1_10) rfl rfl ?_
    show Steps p.tables e below (T7.setTop (mkF m 11 #[.val (.long (own_sh jb 4)), .second, .val (.int (5 : Int32)), .val (.ref a3), .val (.int (Int32.ofNat av)), .val (.int (0 : Int32))] [(.ref a3)])) _
    refine XS.iload X7.here hx rfl (hb hby d1_11) rfl ?_
    show Steps p.tables e below (T7.setTop (mkF m 13 #[.val (.long (own_sh jb 4)), .second, .val (.int (5 : Int32)), .val (.ref a3), .val (.int (Int32.ofNat av)), .val (.int (0 : Int32))] [(.int (Int32.ofNat av)), (.ref a3)])) _
    refine XS.iload X7.here hx rfl (hb hby d1_13) rfl ?_
    show Steps p.tables e below (T7.setTop (mkF m 15 #[.val (.long (own_sh jb 4)), .second, .val (.int (5 : Int32)), .val (.ref a3), .val (.int (Int32.ofNat av)), .val (.int (0 : Int32))] [(.int (0 : Int32)), (.int (Int32.ofNat av)), (.ref a3)])) _
    refine XS.iadd X7.here hx rfl (hb hby d1_15) rfl ?_
    show Steps p.tables e below (T7.setTop (mkF m 16 #[.val (.long (own_sh jb 4)), .second, .val (.int (5 : Int32)), .val (.ref a3), .val (.int (Int32.ofNat av)), .val (.int (0 : Int32))] [(.int ((Int32.ofNat av) + (0 : Int32))), (.ref a3)])) _
    refine XS.lloadN X7.here hx rfl (hb hby d1_16) rfl ?_
    show Steps p.tables e below (T7.setTop (mkF m 17 #[.val (.long (own_sh jb 4)), .second, .val (.int (5 : Int32)), .val (.ref a3), .val (.int (Int32.ofNat av)), .val (.int (0 : Int32))] [(.long (own_sh jb 4)), (.int ((Int32.ofNat av) + (0 : Int32))), (.ref a3)])) _
    refine XS.l2i X7.here hx rfl (hb hby d1_17) rfl ?_
    show Steps p.tables e below (T7.setTop (mkF m 18 #[.val (.long (own_sh jb 4)), .second, .val (.int (5 : Int32)), .val (.ref a3), .val (.int (Int32.ofNat av)), .val (.int (0 : Int32))] [(.int ((own_sh jb 4).toInt32)), (.int ((Int32.ofNat av) + (0 : Int32))), (.ref a3)])) _
    refine XS.i2b X7.here hx rfl (hb hby d1_18) rfl ?_
    show Steps p.tables e below (T7.setTop (mkF m 19 #[.val (.long (own_sh jb 4)), .second, .val (.int (5 : Int32)), .val (.ref a3), .val (.int (Int32.ofNat av)), .val (.int (0 : Int32))] [(.int (((own_sh jb 4).toInt32).toInt8.toInt32)), (.int ((Int32.ofNat av) + (0 : Int32))), (.ref a3)])) _
    refine st9 _ ?_
    show Steps p.tables e below (T9.setTop (mkF m 20 #[.val (.long (own_sh jb 4)), .second, .val (.int (5 : Int32)), .val (.ref a3), .val (.int (Int32.ofNat av)), .val (.int (0 : Int32))] [])) _
    refine XS.lloadN X9.here hx rfl (hb hby d1_20) rfl ?_
    show Steps p.tables e below (T9.setTop (mkF m 21 #[.val (.long (own_sh jb 4)), .second, .val (.int (5 : Int32)), .val (.ref a3), .val (.int (Int32.ofNat av)), .val (.int (0 : Int32))] [(.long (own_sh jb 4))])) _
    refine XS.bipush X9.here hx rfl (hb hby d1_21) ?_
    show Steps p.tables e below (T9.setTop (mkF m 23 #[.val (.long (own_sh jb 4)), .second, .val (.int (5 : Int32)), .val (.ref a3), .val (.int (Int32.ofNat av)), .val (.int (0 : Int32))] [(.int (8 : Int32)), (.long (own_sh jb 4))])) _
    refine XS.lushr X9.here hx rfl (hb hby d1_23) rfl ?_
    show Steps p.tables e below (T9.setTop (mkF m 24 #[.val (.long (own_sh jb 4)), .second, .val (.int (5 : Int32)), .val (.ref a3), .val (.int (Int32.ofNat av)), .val (.int (0 : Int32))] [(.long (((own_sh jb 4).toUInt64 >>> ((8 : Int32) &&& 0x3f).toInt64.toUInt64).toInt64))])) _
    refine XS.lstoreN X9.here hx rfl (hb hby d1_24) rfl (l' := #[.val (.long (((own_sh jb 4).toUInt64 >>> ((8 : Int32) &&& 0x3f).toInt64.toUInt64).toInt64)), .second, .val (.int (5 : Int32)), .val (.ref a3), .val (.int (Int32.ofNat av)), .val (.int (0 : Int32))]) rfl ?_
    show Steps p.tables e below (T9.setTop (mkF m 25 #[.val (.long (((own_sh jb 4).toUInt64 >>> ((8 : Int32) &&& 0x3f).toInt64.toUInt64).toInt64)), .second, .val (.int (5 : Int32)), .val (.ref a3), .val (.int (Int32.ofNat av)), .val (.int (0 : Int32))] [])) _
    refine XS.iinc X9.here hx rfl (hb hby d1_25) rfl (l' := #[.val (.long (((own_sh jb 4).toUInt64 >>> ((8 : Int32) &&& 0x3f).toInt64.toUInt64).toInt64)), .second, .val (.int (5 : Int32)), .val (.ref a3), .val (.int (Int32.ofNat av)), .val (.int (-1 : Int32))]) rfl ?_
    show Steps p.tables e below (T9.setTop (mkF m 28 #[.val (.long (((own_sh jb 4).toUInt64 >>> ((8 : Int32) &&& 0x3f).toInt64.toUInt64).toInt64)), .second, .val (.int (5 : Int32)), .val (.ref a3), .val (.int (Int32.ofNat av)), .val (.int (-1 : Int32))] [])) _
    refine XS.goto X9.here hx rfl (pc0 := 28) (pc' := 5) rfl (hb hby d1_28) (by decide) (by decide) ?_
    show Steps p.tables e below (T9.setTop (mkF m 5 #[.val (.long (((own_sh jb 4).toUInt64 >>> ((8 : Int32) &&& 0x3f).toInt64.toUInt64).toInt64)), .second, .val (.int (5 : Int32)), .val (.ref a3), .val (.int (Int32.ofNat av)), .val (.int (-1 : Int32))] [])) _
    rw [own_shs jb 4 (by decide)]
    show Steps p.tables e below (T9.setTop (mkF m 5 #[.val (.long (own_sh jb 5)), .second, .val (.int (5 : Int32)), .val (.ref a3), .val (.int (Int32.ofNat av)), .val (.int (-1 : Int32))] [])) _
    refine XS.iload X9.here hx rfl (hb hby d1_5) rfl ?_
    show Steps p.tables e below (T9.setTop (mkF m 7 #[.val (.long (own_sh jb 5)), .second, .val (.int (5 : Int32)), .val (.ref a3), .val (.int (Int32.ofNat av)), .val (.int (-1 : Int32))] [(.int (-1 : Int32))])) _
    refine XS.ifYes X9.here hx rfl (pc0 := 7) (pc' := 31) rfl (hb hby d1_7) rfl ((if0 _ _).trans (tlt (by decide : ((-1 : Int32) < (0 : Int32)))).1) (by decide) (by decide) ?_
    show Steps p.tables e below (T9.setTop (mkF m 31 #[.val (.long (own_sh jb 5)), .second, .val (.int (5 : Int32)), .val (.ref a3), .val (.int (Int32.ofNat av)), .val (.int (-1 : Int32))] [])) _
    exact X9.returnOut hx Bd.returns (hb hby d1_31) hr
  · show QP Z jb (5 : Int32) a3 av k1 f h0 n0 _ T9.heap _
    rw [e9]
    exact ⟨rfl, N9, K9, own_g5 jb av f ha ▸ U9⟩
theorem own_g6 (jb : Int64) (av : Nat) (f : Nat → Int32) (h : av ≤ 3) : own_vals (own_upd (own_upd (own_upd (own_upd (own_upd (own_upd f (av + 5) (own_by (own_sh jb 0))) (av + 4) (own_by (own_sh jb 1))) (av + 3) (own_by (own_sh jb 2))) (av + 2) (own_by (own_sh jb 3))) (av + 1) (own_by (own_sh jb 4))) (av + 0) (own_by (own_sh jb 5))) = own_vals (own_put f jb (6 : Int32) (Int32.ofNat av)) := own_gp f jb av 6 (by decide) h
theorem ef_1_6 (m : MethodId) (jb : Int64) (a3 : Addr) : entryFrame m #[(.long jb), (.int (6 : Int32)), (.ref a3), (.int (Int32.ofNat av))] 6 = mkF m 0 #[.val (.long jb), .second, .val (.int (6 : Int32)), .val (.ref a3), .val (.int (Int32.ofNat av)), .unset] [] := by first | (simp [entryFrame, mkF, argsToLocals, Value.category]; done) | rfl
set_option maxRecDepth 65536 in
set_option maxHeartbeats 40000000 in
theorem rm1_6 (l : Launch) (Z : State) (a0 : Array Value) (hw : ∀ d ∈ tables_1, d.before a0 Z = true) (ws : List Jvm.Cond) (jb : Int64) (a3 : Addr) (av : Nat) (k1 : ClassId) (f : Nat → Int32) (h0 : Heap) (n0 : Nat) (Z0 : n0 ≤ h0.size) (ha : av ≤ 3) (V_1 : Arv Z h0 a3 k1 .byte (12 : Int32) (own_vals f) (.int (0 : Int32))) (g_a3 : n0 ≤ a3) :
    MetFree l (⟨"com/example/backstitch/backstitch/stream/StreamTable", "putBits", "(JI[BI)V"⟩ : MethodName) (head1 (Jvm.Cond.code (⟨"com/example/backstitch/backstitch/stream/StreamTable", "putBits", "(JI[BI)V"⟩ : MethodName) prog_55_method_40_code 6 none :: ws) ({ frames := 0, cells := 0, slots := 0, locals := 0 } : Room)) (fun a U => a = #[(.long jb), (.int (6 : Int32)), (.ref a3), (.int (Int32.ofNat av))] ∧ Z.Warmed39 U.vm ∧ U.heap = h0) (fun _ _ _ _ _ => True) (fun _ U o U' => ∃ v L, o = .returned v ∧ QP Z jb (6 : Int32) a3 av k1 f h0 n0 v U'.heap L ∧ FrameEnd U o U' L ({ frames := 0, cells := 0, slots := 0, locals := 0 } : Room).cells ({ frames := 0, cells := 0, slots := 0, locals := 0 } : Room).slots) := by
  refine MetFree.of_bodySF (plainFor_of_name pn_1) hisR ?_
  intro p e s m args below meth c s₁ Bd hml0 hP hK
  obtain ⟨rfl, hZ, hh⟩ := hP
  have hx := Bd.exec
  have hby := Bd.bytes
  have hml : c.maxLocals = 6 := hml0
  have hown : s.vm.findClass "com/example/backstitch/backstitch/stream/StreamTable" = some m.cls := findClass_of_methodNamed Bd.named
  have hnm := (name_of_methodNamed Bd.named Bd.method).1
  have X0 : Stand p l e ({ frames := 0, cells := 0, slots := 0, locals := 0 } : Room) s m #[(.long jb), (.int (6 : Int32)), (.ref a3), (.int (Int32.ofNat av))] below meth c s₁ [] 0 0 := Stand.of_body Bd
  have e0 : s₁.heap = h0 := by rw [← hh, Bd.state]; rfl
  have N0 := Fr.nil n0
  have pre0 : ∀ t, Steps p.tables e below (s₁.setTop (mkF m 0 #[.val (.long jb), .second, .val (.int (6 : Int32)), .val (.ref a3), .val (.int (Int32.ofNat av)), .unset] [])) t → Steps p.tables e below (s₁.setTop (entryFrame m #[(.long jb), (.int (6 : Int32)), (.ref a3), (.int (Int32.ofNat av))] 6)) t := fun t k => castTop (ef_1_6 m jb a3) k
  have K0 : Keep h0 h0 [a3] := Keep.refl h0 [a3]
  obtain ⟨cl1, Ar1, q1, S1, M1, H1, G1⟩ := id V_1
  have hin1 : ¬ (((Int32.ofNat av) + (5 : Int32)) < 0 ∨ cl1.slots.size ≤ (((Int32.ofNat av) + (5 : Int32))).toNatClampNeg) := inb_of S1 (own_in av ha 5 (by decide)).1
  obtain ⟨T1, h1, X1, e1, W1, st1⟩ := stB X0 hx hZ e0 Ar1 (j := ((Int32.ofNat av) + (5 : Int32))) hin1 (g := (mkF m 19 #[.val (.long (own_sh jb 0)), .second, .val (.int (6 : Int32)), .val (.ref a3), .val (.int (Int32.ofNat av)), .val (.int (5 : Int32))] [(.int (((own_sh jb 0).toInt32).toInt8.toInt32)), (.int ((Int32.ofNat av) + (5 : Int32))), (.ref a3)])) rfl rfl (hb hby d1_19)
  have V1 := Arv.set Ar1 q1 S1 M1 H1 G1 (fits_nar_byte _) W1 (av + 5) (own_in av ha 5 (by decide)).2.1 (own_in av ha 5 (by decide)).2.2
  have K1 : Keep h0 h1 [a3] := K0.wr W1 (Or.inl (List.mem_of_getElem? (i := 0) rfl))
  have N1 := Fr.snoc X1 N0 g_a3
  have Z1 : n0 ≤ h1.size := Nat.le_trans Z0 (Keep.of_wr W1).1
  have U1 : Arv Z h1 a3 k1 .byte (12 : Int32) (own_vals (own_upd f (av + 5) (own_by (own_sh jb 0)))) (.int (0 : Int32)) := by rw [← own_set _ _ _ (own_in av ha 5 (by decide)).2.2]; exact V1
  obtain ⟨cl3, Ar3, q3, S3, M3, H3, G3⟩ := id U1
  have hin3 : ¬ (((Int32.ofNat av) + (4 : Int32)) < 0 ∨ cl3.slots.size ≤ (((Int32.ofNat av) + (4 : Int32))).toNatClampNeg) := inb_of S3 (own_in av ha 4 (by decide)).1
  obtain ⟨T3, h3, X3, e3, W3, st3⟩ := stB X1 hx hZ e1 Ar3 (j := ((Int32.ofNat av) + (4 : Int32))) hin3 (g := (mkF m 19 #[.val (.long (own_sh jb 1)), .second, .val (.int (6 : Int32)), .val (.ref a3), .val (.int (Int32.ofNat av)), .val (.int (4 : Int32))] [(.int (((own_sh jb 1).toInt32).toInt8.toInt32)), (.int ((Int32.ofNat av) + (4 : Int32))), (.ref a3)])) rfl rfl (hb hby d1_19)
  have V3 := Arv.set Ar3 q3 S3 M3 H3 G3 (fits_nar_byte _) W3 (av + 4) (own_in av ha 4 (by decide)).2.1 (own_in av ha 4 (by decide)).2.2
  have K3 : Keep h0 h3 [a3] := K1.wr W3 (Or.inl (List.mem_of_getElem? (i := 0) rfl))
  have N3 := Fr.snoc X3 N1 g_a3
  have Z3 : n0 ≤ h3.size := Nat.le_trans Z1 (Keep.of_wr W3).1
  have U3 : Arv Z h3 a3 k1 .byte (12 : Int32) (own_vals (own_upd (own_upd f (av + 5) (own_by (own_sh jb 0))) (av + 4) (own_by (own_sh jb 1)))) (.int (0 : Int32)) := by rw [← own_set _ _ _ (own_in av ha 4 (by decide)).2.2]; exact V3
  obtain ⟨cl5, Ar5, q5, S5, M5, H5, G5⟩ := id U3
  have hin5 : ¬ (((Int32.ofNat av) + (3 : Int32)) < 0 ∨ cl5.slots.size ≤ (((Int32.ofNat av) + (3 : Int32))).toNatClampNeg) := inb_of S5 (own_in av ha 3 (by decide)).1
  obtain ⟨T5, h5, X5, e5, W5, st5⟩ := stB X3 hx hZ e3 Ar5 (j := ((Int32.ofNat av) + (3 : Int32))) hin5 (g := (mkF m 19 #[.val (.long (own_sh jb 2)), .second, .val (.int (6 : Int32)), .val (.ref a3), .val (.int (Int32.ofNat av)), .val (.int (3 : Int32))] [(.int (((own_sh jb 2).toInt32).toInt8.toInt32)), (.int ((Int32.ofNat av) + (3 : Int32))), (.ref a3)])) rfl rfl (hb hby d1_19)
  have V5 := Arv.set Ar5 q5 S5 M5 H5 G5 (fits_nar_byte _) W5 (av + 3) (own_in av ha 3 (by decide)).2.1 (own_in av ha 3 (by decide)).2.2
  have K5 : Keep h0 h5 [a3] := K3.wr W5 (Or.inl (List.mem_of_getElem? (i := 0) rfl))
  have N5 := Fr.snoc X5 N3 g_a3
  have Z5 : n0 ≤ h5.size := Nat.le_trans Z3 (Keep.of_wr W5).1
  have U5 : Arv Z h5 a3 k1 .byte (12 : Int32) (own_vals (own_upd (own_upd (own_upd f (av + 5) (own_by (own_sh jb 0))) (av + 4) (own_by (own_sh jb 1))) (av + 3) (own_by (own_sh jb 2)))) (.int (0 : Int32)) := by rw [← own_set _ _ _ (own_in av ha 3 (by decide)).2.2]; exact V5
  obtain ⟨cl7, Ar7, q7, S7, M7, H7, G7⟩ := id U5
  have hin7 : ¬ (((Int32.ofNat av) + (2 : Int32)) < 0 ∨ cl7.slots.size ≤ (((Int32.ofNat av) + (2 : Int32))).toNatClampNeg) := inb_of S7 (own_in av ha 2 (by decide)).1
  obtain ⟨T7, h7, X7, e7, W7, st7⟩ := stB X5 hx hZ e5 Ar7 (j := ((Int32.ofNat av) + (2 : Int32))) hin7 (g := (mkF m 19 #[.val (.long (own_sh jb 3)), .second, .val (.int (6 : Int32)), .val (.ref a3), .val (.int (Int32.ofNat av)), .val (.int (2 : Int32))] [(.int (((own_sh jb 3).toInt32).toInt8.toInt32)), (.int ((Int32.ofNat av) + (2 : Int32))), (.ref a3)])) rfl rfl (hb hby d1_19)
  have V7 := Arv.set Ar7 q7 S7 M7 H7 G7 (fits_nar_byte _) W7 (av + 2) (own_in av ha 2 (by decide)).2.1 (own_in av ha 2 (by decide)).2.2
  have K7 : Keep h0 h7 [a3] := K5.wr W7 (Or.inl (List.mem_of_getElem? (i := 0) rfl))
  have N7 := Fr.snoc X7 N5 g_a3
  have Z7 : n0 ≤ h7.size := Nat.le_trans Z5 (Keep.of_wr W7).1
  have U7 : Arv Z h7 a3 k1 .byte (12 : Int32) (own_vals (own_upd (own_upd (own_upd (own_upd f (av + 5) (own_by (own_sh jb 0))) (av + 4) (own_by (own_sh jb 1))) (av + 3) (own_by (own_sh jb 2))) (av + 2) (own_by (own_sh jb 3)))) (.int (0 : Int32)) := by rw [← own_set _ _ _ (own_in av ha 2 (by decide)).2.2]; exact V7
  obtain ⟨cl9, Ar9, q9, S9, M9, H9, G9⟩ := id U7
  have hin9 : ¬ (((Int32.ofNat av) + (1 : Int32)) < 0 ∨ cl9.slots.size ≤ (((Int32.ofNat av) + (1 : Int32))).toNatClampNeg) := inb_of S9 (own_in av ha 1 (by decide)).1
  obtain ⟨T9, h9, X9, e9, W9, st9⟩ := stB X7 hx hZ e7 Ar9 (j := ((Int32.ofNat av) + (1 : Int32))) hin9 (g := (mkF m 19 #[.val (.long (own_sh jb 4)), .second, .val (.int (6 : Int32)), .val (.ref a3), .val (.int (Int32.ofNat av)), .val (.int (1 : Int32))] [(.int (((own_sh jb 4).toInt32).toInt8.toInt32)), (.int ((Int32.ofNat av) + (1 : Int32))), (.ref a3)])) rfl rfl (hb hby d1_19)
  have V9 := Arv.set Ar9 q9 S9 M9 H9 G9 (fits_nar_byte _) W9 (av + 1) (own_in av ha 1 (by decide)).2.1 (own_in av ha 1 (by decide)).2.2
  have K9 : Keep h0 h9 [a3] := K7.wr W9 (Or.inl (List.mem_of_getElem? (i := 0) rfl))
  have N9 := Fr.snoc X9 N7 g_a3
  have Z9 : n0 ≤ h9.size := Nat.le_trans Z7 (Keep.of_wr W9).1
  have U9 : Arv Z h9 a3 k1 .byte (12 : Int32) (own_vals (own_upd (own_upd (own_upd (own_upd (own_upd f (av + 5) (own_by (own_sh jb 0))) (av + 4) (own_by (own_sh jb 1))) (av + 3) (own_by (own_sh jb 2))) (av + 2) (own_by (own_sh jb 3))) (av + 1) (own_by (own_sh jb 4)))) (.int (0 : Int32)) := by rw [← own_set _ _ _ (own_in av ha 1 (by decide)).2.2]; exact V9
  obtain ⟨cl11, Ar11, q11, S11, M11, H11, G11⟩ := id U9
  have hin11 : ¬ (((Int32.ofNat av) + (0 : Int32)) < 0 ∨ cl11.slots.size ≤ (((Int32.ofNat av) + (0 : Int32))).toNatClampNeg) := inb_of S11 (own_in av ha 0 (by decide)).1
  obtain ⟨T11, h11, X11, e11, W11, st11⟩ := stB X9 hx hZ e9 Ar11 (j := ((Int32.ofNat av) + (0 : Int32))) hin11 (g := (mkF m 19 #[.val (.long (own_sh jb 5)), .second, .val (.int (6 : Int32)), .val (.ref a3), .val (.int (Int32.ofNat av)), .val (.int (0 : Int32))] [(.int (((own_sh jb 5).toInt32).toInt8.toInt32)), (.int ((Int32.ofNat av) + (0 : Int32))), (.ref a3)])) rfl rfl (hb hby d1_19)
  have V11 := Arv.set Ar11 q11 S11 M11 H11 G11 (fits_nar_byte _) W11 (av + 0) (own_in av ha 0 (by decide)).2.1 (own_in av ha 0 (by decide)).2.2
  have K11 : Keep h0 h11 [a3] := K9.wr W11 (Or.inl (List.mem_of_getElem? (i := 0) rfl))
  have N11 := Fr.snoc X11 N9 g_a3
  have Z11 : n0 ≤ h11.size := Nat.le_trans Z9 (Keep.of_wr W11).1
  have U11 : Arv Z h11 a3 k1 .byte (12 : Int32) (own_vals (own_upd (own_upd (own_upd (own_upd (own_upd (own_upd f (av + 5) (own_by (own_sh jb 0))) (av + 4) (own_by (own_sh jb 1))) (av + 3) (own_by (own_sh jb 2))) (av + 2) (own_by (own_sh jb 3))) (av + 1) (own_by (own_sh jb 4))) (av + 0) (own_by (own_sh jb 5)))) (.int (0 : Int32)) := by rw [← own_set _ _ _ (own_in av ha 0 (by decide)).2.2]; exact V11
  obtain ⟨fs, hr, hrun, hended, hW, hsame⟩ := X11.leave (v := none) (fun _ => rfl)
  refine ⟨_, _, pre0 _ ?_, hrun, hended, _, _, rfl, ?_, ⟨_, rfl⟩, hW, hsame.mono (by decide) (by decide)⟩
  · show Steps p.tables e below (s₁.setTop (mkF m 0 #[.val (.long jb), .second, .val (.int (6 : Int32)), .val (.ref a3), .val (.int (Int32.ofNat av)), .unset] [])) _
    refine XS.iloadN X0.here hx rfl (hb hby d1_0) rfl ?_
    show Steps p.tables e below (s₁.setTop (mkF m 1 #[.val (.long jb), .second, .val (.int (6 : Int32)), .val (.ref a3), .val (.int (Int32.ofNat av)), .unset] [(.int (6 : Int32))])) _
    refine XS.iconst X0.here hx rfl (hb hby d1_1) ?_
    show Steps p.tables e below (s₁.setTop (mkF m 2 #[.val (.long jb), .second, .val (.int (6 : Int32)), .val (.ref a3), .val (.int (Int32.ofNat av)), .unset] [(.int (1 : Int32)), (.int (6 : Int32))])) _
    refine XS.isub X0.here hx rfl (hb hby d1_2) rfl ?_
    show Steps p.tables e below (s₁.setTop (mkF m 3 #[.val (.long jb), .second, .val (.int (6 : Int32)), .val (.ref a3), .val (.int (Int32.ofNat av)), .unset] [(.int (5 : Int32))])) _
    refine XS.istore X0.here hx rfl (hb hby d1_3) rfl (l' := #[.val (.long jb), .second, .val (.int (6 : Int32)), .val (.ref a3), .val (.int (Int32.ofNat av)), .val (.int (5 : Int32))]) rfl ?_
    show Steps p.tables e below (s₁.setTop (mkF m 5 #[.val (.long jb), .second, .val (.int (6 : Int32)), .val (.ref a3), .val (.int (Int32.ofNat av)), .val (.int (5 : Int32))] [])) _
    rw [show (Value.long jb) = Value.long (own_sh jb 0) from congrArg Value.long (own_sh0 jb)]
    show Steps p.tables e below (s₁.setTop (mkF m 5 #[.val (.long (own_sh jb 0)), .second, .val (.int (6 : Int32)), .val (.ref a3), .val (.int (Int32.ofNat av)), .val (.int (5 : Int32))] [])) _
    refine XS.iload X0.here hx rfl (hb hby d1_5) rfl ?_
    show Steps p.tables e below (s₁.setTop (mkF m 7 #[.val (.long (own_sh jb 0)), .second, .val (.int (6 : Int32)), .val (.ref a3), .val (.int (Int32.ofNat av)), .val (.int (5 : Int32))] [(.int (5 : Int32))])) _
    refine XS.ifNo X0.here hx rfl (hb hby d1_7) rfl ((if0 _ _).trans (flt (by decide : ¬ ((5 : Int32) < (0 : Int32)))).1) ?_
    show Steps p.tables e below (s₁.setTop (mkF m 10 #[.val (.long (own_sh jb 0)), .second, .val (.int (6 : Int32)), .val (.ref a3), .val (.int (Int32.ofNat av)), .val (.int (5 : Int32))] [])) _
    refine XS.aloadN X0.here hx rfl (hb hby d1_10) rfl rfl ?_
    show Steps p.tables e below (s₁.setTop (mkF m 11 #[.val (.long (own_sh jb 0)), .second, .val (.int (6 : Int32)), .val (.ref a3), .val (.int (Int32.ofNat av)), .val (.int (5 : Int32))] [(.ref a3)])) _
    refine XS.iload X0.here hx rfl (hb hby d1_11) rfl ?_
    show Steps p.tables e below (s₁.setTop (mkF m 13 #[.val (.long (own_sh jb 0)), .second, .val (.int (6 : Int32)), .val (.ref a3), .val (.int (Int32.ofNat av)), .val (.int (5 : Int32))] [(.int (Int32.ofNat av)), (.ref a3)])) _
    refine XS.iload X0.here hx rfl (hb hby d1_13) rfl ?_
    show Steps p.tables e below (s₁.setTop (mkF m 15 #[.val (.long (own_sh jb 0)), .second, .val (.int (6 : Int32)), .val (.ref a3), .val (.int (Int32.ofNat av)), .val (.int (5 : Int32))] [(.int (5 : Int32)), (.int (Int32.ofNat av)), (.ref a3)])) _
    refine XS.iadd X0.here hx rfl (hb hby d1_15) rfl ?_
    show Steps p.tables e below (s₁.setTop (mkF m 16 #[.val (.long (own_sh jb 0)), .second, .val (.int (6 : Int32)), .val (.ref a3), .val (.int (Int32.ofNat av)), .val (.int (5 : Int32))] [(.int ((Int32.ofNat av) + (5 : Int32))), (.ref a3)])) _
    refine XS.lloadN X0.here hx rfl (hb hby d1_16) rfl ?_
    show Steps p.tables e below (s₁.setTop (mkF m 17 #[.val (.long (own_sh jb 0)), .second, .val (.int (6 : Int32)), .val (.ref a3), .val (.int (Int32.ofNat av)), .val (.int (5 : Int32))] [(.long (own_sh jb 0)), (.int ((Int32.ofNat av) + (5 : Int32))), (.ref a3)])) _
    refine XS.l2i X0.here hx rfl (hb hby d1_17) rfl ?_
    show Steps p.tables e below (s₁.setTop (mkF m 18 #[.val (.long (own_sh jb 0)), .second, .val (.int (6 : Int32)), .val (.ref a3), .val (.int (Int32.ofNat av)), .val (.int (5 : Int32))] [(.int ((own_sh jb 0).toInt32)), (.int ((Int32.ofNat av) + (5 : Int32))), (.ref a3)])) _
    refine XS.i2b X0.here hx rfl (hb hby d1_18) rfl ?_
    show Steps p.tables e below (s₁.setTop (mkF m 19 #[.val (.long (own_sh jb 0)), .second, .val (.int (6 : Int32)), .val (.ref a3), .val (.int (Int32.ofNat av)), .val (.int (5 : Int32))] [(.int (((own_sh jb 0).toInt32).toInt8.toInt32)), (.int ((Int32.ofNat av) + (5 : Int32))), (.ref a3)])) _
    refine st1 _ ?_
    show Steps p.tables e below (T1.setTop (mkF m 20 #[.val (.long (own_sh jb 0)), .second, .val (.int (6 : Int32)), .val (.ref a3), .val (.int (Int32.ofNat av)), .val (.int (5 : Int32))] [])) _
    refine XS.lloadN X1.here hx rfl (hb hby d1_20) rfl ?_
    show Steps p.tables e below (T1.setTop (mkF m 21 #[.val (.long (own_sh jb 0)), .second, .val (.int (6 : Int32)), .val (.ref a3), .val (.int (Int32.ofNat av)), .val (.int (5 : Int32))] [(.long (own_sh jb 0))])) _
    refine XS.bipush X1.here hx rfl (hb hby d1_21) ?_
    show Steps p.tables e below (T1.setTop (mkF m 23 #[.val (.long (own_sh jb 0)), .second, .val (.int (6 : Int32)), .val (.ref a3), .val (.int (Int32.ofNat av)), .val (.int (5 : Int32))] [(.int (8 : Int32)), (.long (own_sh jb 0))])) _
    refine XS.lushr X1.here hx rfl (hb hby d1_23) rfl ?_
    show Steps p.tables e below (T1.setTop (mkF m 24 #[.val (.long (own_sh jb 0)), .second, .val (.int (6 : Int32)), .val (.ref a3), .val (.int (Int32.ofNat av)), .val (.int (5 : Int32))] [(.long (((own_sh jb 0).toUInt64 >>> ((8 : Int32) &&& 0x3f).toInt64.toUInt64).toInt64))])) _
    refine XS.lstoreN X1.here hx rfl (hb hby d1_24) rfl (l' := #[.val (.long (((own_sh jb 0).toUInt64 >>> ((8 : Int32) &&& 0x3f).toInt64.toUInt64).toInt64)), .second, .val (.int (6 : Int32)), .val (.ref a3), .val (.int (Int32.ofNat av)), .val (.int (5 : Int32))]) rfl ?_
    show Steps p.tables e below (T1.setTop (mkF m 25 #[.val (.long (((own_sh jb 0).toUInt64 >>> ((8 : Int32) &&& 0x3f).toInt64.toUInt64).toInt64)), .second, .val (.int (6 : Int32)), .val (.ref a3), .val (.int (Int32.ofNat av)), .val (.int (5 : Int32))] [])) _
    refine XS.iinc X1.here hx rfl (hb hby d1_25) rfl (l' := #[.val (.long (((own_sh jb 0).toUInt64 >>> ((8 : Int32) &&& 0x3f).toInt64.toUInt64).toInt64)), .second, .val (.int (6 : Int32)), .val (.ref a3), .val (.int (Int32.ofNat av)), .val (.int (4 : Int32))]) rfl ?_
    show Steps p.tables e below (T1.setTop (mkF m 28 #[.val (.long (((own_sh jb 0).toUInt64 >>> ((8 : Int32) &&& 0x3f).toInt64.toUInt64).toInt64)), .second, .val (.int (6 : Int32)), .val (.ref a3), .val (.int (Int32.ofNat av)), .val (.int (4 : Int32))] [])) _
    refine XS.goto X1.here hx rfl (pc0 := 28) (pc' := 5) rfl (hb hby d1_28) (by decide) (by decide) ?_
    show Steps p.tables e below (T1.setTop (mkF m 5 #[.val (.long (((own_sh jb 0).toUInt64 >>> ((8 : Int32) &&& 0x3f).toInt64.toUInt64).toInt64)), .second, .val (.int (6 : Int32)), .val (.ref a3), .val (.int (Int32.ofNat av)), .val (.int (4 : Int32))] [])) _
    rw [own_shs jb 0 (by decide)]
    show Steps p.tables e below (T1.setTop (mkF m 5 #[.val (.long (own_sh jb 1)), .second, .val (.int (6 : Int32)), .val (.ref a3), .val (.int (Int32.ofNat av)), .val (.int (4 : Int32))] [])) _
    refine XS.iload X1.here hx rfl (hb hby d1_5) rfl ?_
    show Steps p.tables e below (T1.setTop (mkF m 7 #[.val (.long (own_sh jb 1)), .second, .val (.int (6 : Int32)), .val (.ref a3), .val (.int (Int32.ofNat av)), .val (.int (4 : Int32))] [(.int (4 : Int32))])) _
    refine XS.ifNo X1.here hx rfl (hb hby d1_7) rfl ((if0 _ _).trans (flt (by decide : ¬ ((4 : Int32) < (0 : Int32)))).1) ?_
    show Steps p.tables e below (T1.setTop (mkF m 10 #[.val (.long (own_sh jb 1)), .second, .val (.int (6 : Int32)), .val (.ref a3), .val (.int (Int32.ofNat av)), .val (.int (4 : Int32))] [])) _
    refine XS.aloadN X1.here hx rfl (hb hby d1_10) rfl rfl ?_
    show Steps p.tables e below (T1.setTop (mkF m 11 #[.val (.long (own_sh jb 1)), .second, .val (.int (6 : Int32)), .val (.ref a3), .val (.int (Int32.ofNat av)), .val (.int (4 : Int32))] [(.ref a3)])) _
    refine XS.iload X1.here hx rfl (hb hby d1_11) rfl ?_
    show Steps p.tables e below (T1.setTop (mkF m 13 #[.val (.long (own_sh jb 1)), .second, .val (.int (6 : Int32)), .val (.ref a3), .val (.int (Int32.ofNat av)), .val (.int (4 : Int32))] [(.int (Int32.ofNat av)), (.ref a3)])) _
    refine XS.iload X1.here hx rfl (hb hby d1_13) rfl ?_
    show Steps p.tables e below (T1.setTop (mkF m 15 #[.val (.long (own_sh jb 1)), .second, .val (.int (6 : Int32)), .val (.ref a3), .val (.int (Int32.ofNat av)), .val (.int (4 : Int32))] [(.int (4 : Int32)), (.int (Int32.ofNat av)), (.ref a3)])) _
    refine XS.iadd X1.here hx rfl (hb hby d1_15) rfl ?_
    show Steps p.tables e below (T1.setTop (mkF m 16 #[.val (.long (own_sh jb 1)), .second, .val (.int (6 : Int32)), .val (.ref a3), .val (.int (Int32.ofNat av)), .val (.int (4 : Int32))] [(.int ((Int32.ofNat av) + (4 : Int32))), (.ref a3)])) _
    refine XS.lloadN X1.here hx rfl (hb hby d1_16) rfl ?_
    show Steps p.tables e below (T1.setTop (mkF m 17 #[.val (.long (own_sh jb 1)), .second, .val (.int (6 : Int32)), .val (.ref a3), .val (.int (Int32.ofNat av)), .val (.int (4 : Int32))] [(.long (own_sh jb 1)), (.int ((Int32.ofNat av) + (4 : Int32))), (.ref a3)])) _
    refine XS.l2i X1.here hx rfl (hb hby d1_17) rfl ?_
    show Steps p.tables e below (T1.setTop (mkF m 18 #[.val (.long (own_sh jb 1)), .second, .val (.int (6 : Int32)), .val (.ref a3), .val (.int (Int32.ofNat av)), .val (.int (4 : Int32))] [(.int ((own_sh jb 1).toInt32)), (.int ((Int32.ofNat av) + (4 : Int32))), (.ref a3)])) _
    refine XS.i2b X1.here hx rfl (hb hby d1_18) rfl ?_
    show Steps p.tables e below (T1.setTop (mkF m 19 #[.val (.long (own_sh jb 1)), .second, .val (.int (6 : Int32)), .val (.ref a3), .val (.int (Int32.ofNat av)), .val (.int (4 : Int32))] [(.int (((own_sh jb 1).toInt32).toInt8.toInt32)), (.int ((Int32.ofNat av) + (4 : Int32))), (.ref a3)])) _
    refine st3 _ ?_
    show Steps p.tables e below (T3.setTop (mkF m 20 #[.val (.long (own_sh jb 1)), .second, .val (.int (6 : Int32)), .val (.ref a3), .val (.int (Int32.ofNat av)), .val (.int (4 : Int32))] [])) _
    refine XS.lloadN X3.here hx rfl (hb hby d1_20) rfl ?_
    show Steps p.tables e below (T3.setTop (mkF m 21 #[.val (.long (own_sh jb 1)), .second, .val (.int (6 : Int32)), .val (.ref a3), .val (.int (Int32.ofNat av)), .val (.int (4 : Int32))] [(.long (own_sh jb 1))])) _
    refine XS.bipush X3.here hx rfl (hb hby d1_21) ?_
    show Steps p.tables e below (T3.setTop (mkF m 23 #[.val (.long (own_sh jb 1)), .second, .val (.int (6 : Int32)), .val (.ref a3), .val (.int (Int32.ofNat av)), .val (.int (4 : Int32))] [(.int (8 : Int32)), (.long (own_sh jb 1))])) _
    refine XS.lushr X3.here hx rfl (hb hby d1_23) rfl ?_
    show Steps p.tables e below (T3.setTop (mkF m 24 #[.val (.long (own_sh jb 1)), .second, .val (.int (6 : Int32)), .val (.ref a3), .val (.int (Int32.ofNat av)), .val (.int (4 : Int32))] [(.long (((own_sh jb 1).toUInt64 >>> ((8 : Int32) &&& 0x3f).toInt64.toUInt64).toInt64))])) _
    refine XS.lstoreN X3.here hx rfl (hb hby d1_24) rfl (l' := #[.val (.long (((own_sh jb 1).toUInt64 >>> ((8 : Int32) &&& 0x3f).toInt64.toUInt64).toInt64)), .second, .val (.int (6 : Int32)), .val (.ref a3), .val (.int (Int32.ofNat av)), .val (.int (4 : Int32))]) rfl ?_
    show Steps p.tables e below (T3.setTop (mkF m 25 #[.val (.long (((own_sh jb 1).toUInt64 >>> ((8 : Int32) &&& 0x3f).toInt64.toUInt64).toInt64)), .second, .val (.int (6 : Int32)), .val (.ref a3), .val (.int (Int32.ofNat av)), .val (.int (4 : Int32))] [])) _
    refine XS.iinc X3.here hx rfl (hb hby d1_25) rfl (l' := #[.val (.long (((own_sh jb 1).toUInt64 >>> ((8 : Int32) &&& 0x3f).toInt64.toUInt64).toInt64)), .second, .val (.int (6 : Int32)), .val (.ref a3), .val (.int (Int32.ofNat av)), .val (.int (3 : Int32))]) rfl ?_
    show Steps p.tables e below (T3.setTop (mkF m 28 #[.val (.long (((own_sh jb 1).toUInt64 >>> ((8 : Int32) &&& 0x3f).toInt64.toUInt64).toInt64)), .second, .val (.int (6 : Int32)), .val (.ref a3), .val (.int (Int32.ofNat av)), .val (.int (3 : Int32))] [])) _
    refine XS.goto X3.here hx rfl (pc0 := 28) (pc' := 5) rfl (hb hby d1_28) (by decide) (by decide) ?_
    show Steps p.tables e below (T3.setTop (mkF m 5 #[.val (.long (((own_sh jb 1).toUInt64 >>> ((8 : Int32) &&& 0x3f).toInt64.toUInt64).toInt64)), .second, .val (.int (6 : Int32)), .val (.ref a3), .val (.int (Int32.ofNat av)), .val (.int (3 : Int32))] [])) _
    rw [own_shs jb 1 (by decide)]
    show Steps p.tables e below (T3.setTop (mkF m 5 #[.val (.long (own_sh jb 2)), .second, .val (.int (6 : Int32)), .val (.ref a3), .val (.int (Int32.ofNat av)), .val (.int (3 : Int32))] [])) _
    refine XS.iload X3.here hx rfl (hb hby d1_5) rfl ?_
    show Steps p.tables e below (T3.setTop (mkF m 7 #[.val (.long (own_sh jb 2)), .second, .val (.int (6 : Int32)), .val (.ref a3), .val (.int (Int32.ofNat av)), .val (.int (3 : Int32))] [(.int (3 : Int32))])) _
    refine XS.ifNo X3.here hx rfl (hb hby d1_7) rfl ((if0 _ _).trans (flt (by decide : ¬ ((3 : Int32) < (0 : Int32)))).1) ?_
    show Steps p.tables e below (T3.setTop (mkF m 10 #[.val (.long (own_sh jb 2)), .second, .val (.int (6 : Int32)), .val (.ref a3), .val (.int (Int32.ofNat av)), .val (.int (3 : Int32))] [])) _
    refine XS.aloadN X3.here hx rfl (hb hby d1_10) rfl rfl ?_
    show Steps p.tables e below (T3.setTop (mkF m 11 #[.val (.long (own_sh jb 2)), .second, .val (.int (6 : Int32)), .val (.ref a3), .val (.int (Int32.ofNat av)), .val (.int (3 : Int32))] [(.ref a3)])) _
    refine XS.iload X3.here hx rfl (hb hby d1_11) rfl ?_
    show Steps p.tables e below (T3.setTop (mkF m 13 #[.val (.long (own_sh jb 2)), .second, .val (.int (6 : Int32)), .val (.ref a3), .val (.int (Int32.ofNat av)), .val (.int (3 : Int32))] [(.int (Int32.ofNat av)), (.ref a3)])) _
    refine XS.iload X3.here hx rfl (hb hby d1_13) rfl ?_
    show Steps p.tables e below (T3.setTop (mkF m 15 #[.val (.long (own_sh jb 2)), .second, .val (.int (6 : Int32)), .val (.ref a3), .val (.int (Int32.ofNat av)), .val (.int (3 : Int32))] [(.int (3 : Int32)), (.int (Int32.ofNat av)), (.ref a3)])) _
    refine XS.iadd X3.here hx rfl (hb hby d1_15) rfl ?_
    show Steps p.tables e below (T3.setTop (mkF m 16 #[.val (.long (own_sh jb 2)), .second, .val (.int (6 : Int32)), .val (.ref a3), .val (.int (Int32.ofNat av)), .val (.int (3 : Int32))] [(.int ((Int32.ofNat av) + (3 : Int32))), (.ref a3)])) _
    refine XS.lloadN X3.here hx rfl (hb hby d1_16) rfl ?_
    show Steps p.tables e below (T3.setTop (mkF m 17 #[.val (.long (own_sh jb 2)), .second, .val (.int (6 : Int32)), .val (.ref a3), .val (.int (Int32.ofNat av)), .val (.int (3 : Int32))] [(.long (own_sh jb 2)), (.int ((Int32.ofNat av) + (3 : Int32))), (.ref a3)])) _
    refine XS.l2i X3.here hx rfl (hb hby d1_17) rfl ?_
    show Steps p.tables e below (T3.setTop (mkF m 18 #[.val (.long (own_sh jb 2)), .second, .val (.int (6 : Int32)), .val (.ref a3), .val (.int (Int32.ofNat av)), .val (.int (3 : Int32))] [(.int ((own_sh jb 2).toInt32)), (.int ((Int32.ofNat av) + (3 : Int32))), (.ref a3)])) _
    refine XS.i2b X3.here hx rfl (hb hby d1_18) rfl ?_
    show Steps p.tables e below (T3.setTop (mkF m 19 #[.val (.long (own_sh jb 2)), .second, .val (.int (6 : Int32)), .val (.ref a3), .val (.int (Int32.ofNat av)), .val (.int (3 : Int32))] [(.int (((own_sh jb 2).toInt32).toInt8.toInt32)), (.int ((Int32.ofNat av) + (3 : Int32))), (.ref a3)])) _
    refine st5 _ ?_
    show Steps p.tables e below (T5.setTop (mkF m 20 #[.val (.long (own_sh jb 2)), .second, .val (.int (6 : Int32)), .val (.ref a3), .val (.int (Int32.ofNat av)), .val (.int (3 : Int32))] [])) _
    refine XS.lloadN X5.here hx rfl (hb hby d1_20) rfl ?_
    show Steps p.tables e below (T5.setTop (mkF m 21 #[.val (.long (own_sh jb 2)), .second, .val (.int (6 : Int32)), .val (.ref a3), .val (.int (Int32.ofNat av)), .val (.int (3 : Int32))] [(.long (own_sh jb 2))])) _
    refine XS.bipush X5.here hx rfl (hb hby d1_21) ?_
    show Steps p.tables e below (T5.setTop (mkF m 23 #[.val (.long (own_sh jb 2)), .second, .val (.int (6 : Int32)), .val (.ref a3), .val (.int (Int32.ofNat av)), .val (.int (3 : Int32))] [(.int (8 : Int32)), (.long (own_sh jb 2))])) _
    refine XS.lushr X5.here hx rfl (hb hby d1_23) rfl ?_
    show Steps p.tables e below (T5.setTop (mkF m 24 #[.val (.long (own_sh jb 2)), .second, .val (.int (6 : Int32)), .val (.ref a3), .val (.int (Int32.ofNat av)), .val (.int (3 : Int32))] [(.long (((own_sh jb 2).toUInt64 >>> ((8 : Int32) &&& 0x3f).toInt64.toUInt64).toInt64))])) _
    refine XS.lstoreN X5.here hx rfl (hb hby d1_24) rfl (l' := #[.val (.long (((own_sh jb 2).toUInt64 >>> ((8 : Int32) &&& 0x3f).toInt64.toUInt64).toInt64)), .second, .val (.int (6 : Int32)), .val (.ref a3), .val (.int (Int32.ofNat av)), .val (.int (3 : Int32))]) rfl ?_
    show Steps p.tables e below (T5.setTop (mkF m 25 #[.val (.long (((own_sh jb 2).toUInt64 >>> ((8 : Int32) &&& 0x3f).toInt64.toUInt64).toInt64)), .second, .val (.int (6 : Int32)), .val (.ref a3), .val (.int (Int32.ofNat av)), .val (.int (3 : Int32))] [])) _
    refine XS.iinc X5.here hx rfl (hb hby d1_25) rfl (l' := #[.val (.long (((own_sh jb 2).toUInt64 >>> ((8 : Int32) &&& 0x3f).toInt64.toUInt64).toInt64)), .second, .val (.int (6 : Int32)), .val (.ref a3), .val (.int (Int32.ofNat av)), .val (.int (2 : Int32))]) rfl ?_
    show Steps p.tables e below (T5.setTop (mkF m 28 #[.val (.long (((own_sh jb 2).toUInt64 >>> ((8 : Int32) &&& 0x3f).toInt64.toUInt64).toInt64)), .second, .val (.int (6 : Int32)), .val (.ref a3), .val (.int (Int32.ofNat av)), .val (.int (2 : Int32))] [])) _
    refine XS.goto X5.here hx rfl (pc0 := 28) (pc' := 5) rfl (hb hby d1_28) (by decide) (by decide) ?_
    show Steps p.tables e below (T5.setTop (mkF m 5 #[.val (.long (((own_sh jb 2).toUInt64 >>> ((8 : Int32) &&& 0x3f).toInt64.toUInt64).toInt64)), .second, .val (.int (6 : Int32)), .val (.ref a3), .val (.int (Int32.ofNat av)), .val (.int (2 : Int32))] [])) _
    rw [own_shs jb 2 (by decide)]
    show Steps p.tables e below (T5.setTop (mkF m 5 #[.val (.long (own_sh jb 3)), .second, .val (.int (6 : Int32)), .val (.ref a3), .val (.int (Int32.ofNat av)), .val (.int (2 : Int32))] [])) _
    refine XS.iload X5.here hx rfl (hb hby d1_5) rfl ?_
    show Steps p.tables e below (T5.setTop (mkF m 7 #[.val (.long (own_sh jb 3)), .second, .val (.int (6 : Int32)), .val (.ref a3), .val (.int (Int32.ofNat av)), .val (.int (2 : Int32))] [(.int (2 : Int32))])) _
    refine XS.ifNo X5.here hx rfl (hb hby d1_7) rfl ((if0 _ _).trans (flt (by decide : ¬ ((2 : Int32) < (0 : Int32)))).1) ?_
    show Steps p.tables e below (T5.setTop (mkF m 10 #[.val (.long (own_sh jb 3)), .second, .val (.int (6 : Int32)), .val (.ref a3), .val (.int (Int32.ofNat av)), .val (.int (2 : Int32))] [])) _
    refine XS.aloadN X5.here hx rfl (hb hby d1_10) rfl rfl ?_
    show Steps p.tables e below (T5.setTop (mkF m 11 #[.val (.long (own_sh jb 3)), .second, .val (.int (6 : Int32)), .val (.ref a3), .val (.int (Int32.ofNat av)), .val (.int (2 : Int32))] [(.ref a3)])) _
    refine XS.iload X5.here hx rfl (hb hby d1_11) rfl ?_
    show Steps p.tables e below (T5.setTop (mkF m 13 #[.val (.long (own_sh jb 3)), .second, .val (.int (6 : Int32)), .val (.ref a3), .val (.int (Int32.ofNat av)), .val (.int (2 : Int32))] [(.int (Int32.ofNat av)), (.ref a3)])) _
    refine XS.iload X5.here hx rfl (hb hby d1_13) rfl ?_
    show Steps p.tables e below (T5.setTop (mkF m 15 #[.val (.long (own_sh jb 3)), .second, .val (.int (6 : Int32)), .val (.ref a3), .val (.int (Int32.ofNat av)), .val (.int (2 : Int32))] [(.int (2 : Int32)), (.int (Int32.ofNat av)), (.ref a3)])) _
    refine XS.iadd X5.here hx rfl (hb hby d1_15) rfl ?_
    show Steps p.tables e below (T5.setTop (mkF m 16 #[.val (.long (own_sh jb 3)), .second, .val (.int (6 : Int32)), .val (.ref a3), .val (.int (Int32.ofNat av)), .val (.int (2 : Int32))] [(.int ((Int32.ofNat av) + (2 : Int32))), (.ref a3)])) _
    refine XS.lloadN X5.here hx rfl (hb hby d1_16) rfl ?_
    show Steps p.tables e below (T5.setTop (mkF m 17 #[.val (.long (own_sh jb 3)), .second, .val (.int (6 : Int32)), .val (.ref a3), .val (.int (Int32.ofNat av)), .val (.int (2 : Int32))] [(.long (own_sh jb 3)), (.int ((Int32.ofNat av) + (2 : Int32))), (.ref a3)])) _
    refine XS.l2i X5.here hx rfl (hb hby d1_17) rfl ?_
    show Steps p.tables e below (T5.setTop (mkF m 18 #[.val (.long (own_sh jb 3)), .second, .val (.int (6 : Int32)), .val (.ref a3), .val (.int (Int32.ofNat av)), .val (.int (2 : Int32))] [(.int ((own_sh jb 3).toInt32)), (.int ((Int32.ofNat av) + (2 : Int32))), (.ref a3)])) _
    refine XS.i2b X5.here hx rfl (hb hby d1_18) rfl ?_
    show Steps p.tables e below (T5.setTop (mkF m 19 #[.val (.long (own_sh jb 3)), .second, .val (.int (6 : Int32)), .val (.ref a3), .val (.int (Int32.ofNat av)), .val (.int (2 : Int32))] [(.int (((own_sh jb 3).toInt32).toInt8.toInt32)), (.int ((Int32.ofNat av) + (2 : Int32))), (.ref a3)])) _
    refine st7 _ ?_
    show Steps p.tables e below (T7.setTop (mkF m 20 #[.val (.long (own_sh jb 3)), .second, .val (.int (6 : Int32)), .val (.ref a3), .val (.int (Int32.ofNat av)), .val (.int (2 : Int32))] [])) _
    refine XS.lloadN X7.here hx rfl (hb hby d1_20) rfl ?_
    show Steps p.tables e below (T7.setTop (mkF m 21 #[.val (.long (own_sh jb 3)), .second, .val (.int (6 : Int32)), .val (.ref a3), .val (.int (Int32.ofNat av)), .val (.int (2 : Int32))] [(.long (own_sh jb 3))])) _
    refine XS.bipush X7.here hx rfl (hb hby d1_21) ?_
    show Steps p.tables e below (T7.setTop (mkF m 23 #[.val (.long (own_sh jb 3)), .second, .val (.int (6 : Int32)), .val (.ref a3), .val (.int (Int32.ofNat av)), .val (.int (2 : Int32))] [(.int (8 : Int32)), (.long (own_sh jb 3))])) _
    refine XS.lushr X7.here hx rfl (hb hby d1_23) rfl ?_
    show Steps p.tables e below (T7.setTop (mkF m 24 #[.val (.long (own_sh jb 3)), .second, .val (.int (6 : Int32)), .val (.ref a3), .val (.int (Int32.ofNat av)), .val (.int (2 : Int32))] [(.long (((own_sh jb 3).toUInt64 >>> ((8 : Int32) &&& 0x3f).toInt64.toUInt64).toInt64))])) _
    refine XS.lstoreN X7.here hx rfl (hb hby d1_24) rfl (l' := #[.val (.long (((own_sh jb 3).toUInt64 >>> ((8 : Int32) &&& 0x3f).toInt64.toUInt64).toInt64)), .second, .val (.int (6 : Int32)), .val (.ref a3), .val (.int (Int32.ofNat av)), .val (.int (2 : Int32))]) rfl ?_
    show Steps p.tables e below (T7.setTop (mkF m 25 #[.val (.long (((own_sh jb 3).toUInt64 >>> ((8 : Int32) &&& 0x3f).toInt64.toUInt64).toInt64)), .second, .val (.int (6 : Int32)), .val (.ref a3), .val (.int (Int32.ofNat av)), .val (.int (2 : Int32))] [])) _
    refine XS.iinc X7.here hx rfl (hb hby d1_25) rfl (l' := #[.val (.long (((own_sh jb 3).toUInt64 >>> ((8 : Int32) &&& 0x3f).toInt64.toUInt64).toInt64)), .second, .val (.int (6 : Int32)), .val (.ref a3), .val (.int (Int32.ofNat av)), .val (.int (1 : Int32))]) rfl ?_
    show Steps p.tables e below (T7.setTop (mkF m 28 #[.val (.long (((own_sh jb 3).toUInt64 >>> ((8 : Int32) &&& 0x3f).toInt64.toUInt64).toInt64)), .second, .val (.int (6 : Int32)), .val (.ref a3), .val (.int (Int32.ofNat av)), .val (.int (1 : Int32))] [])) _
    refine XS.goto X7.here hx rfl (pc0 := 28) (pc' := 5) rfl (hb hby d1_28) (by decide) (by decide) ?_
    show Steps p.tables e below (T7.setTop (mkF m 5 #[.val (.long (((own_sh jb 3).toUInt64 >>> ((8 : Int32) &&& 0x3f).toInt64.toUInt64).toInt64)), .second, .val (.int (6 : Int32)), .val (.ref a3), .val (.int (Int32.ofNat av)), .val (.int (1 : Int32))] [])) _
    rw [own_shs jb 3 (by decide)]
    show Steps p.tables e below (T7.setTop (mkF m 5 #[.val (.long (own_sh jb 4)), .second, .val (.int (6 : Int32)), .val (.ref a3), .val (.int (Int32.ofNat av)), .val (.int (1 : Int32))] [])) _
    refine XS.iload X7.here hx rfl (hb hby d1_5) rfl ?_
    show Steps p.tables e below (T7.setTop (mkF m 7 #[.val (.long (own_sh jb 4)), .second, .val (.int (6 : Int32)), .val (.ref a3), .val (.int (Int32.ofNat av)), .val (.int (1 : Int32))] [(.int (1 : Int32))])) _
    refine XS.ifNo X7.here hx rfl (hb hby d1_7) rfl ((if0 _ _).trans (flt (by decide : ¬ ((1 : Int32) < (0 : Int32)))).1) ?_
    show Steps p.tables e below (T7.setTop (mkF m 10 #[.val (.long (own_sh jb 4)), .second, .val (.int (6 : Int32)), .val (.ref a3), .val (.int (Int32.ofNat av)), .val (.int (1 : Int32))] [])) _
    refine XS.aloadN X7.here hx rfl (hb hby d1_10) rfl rfl ?_
    show Steps p.tables e below (T7.setTop (mkF m 11 #[.val (.long (own_sh jb 4)), .second, .val (.int (6 : Int32)), .val (.ref a3), .val (.int (Int32.ofNat av)), .val (.int (1 : Int32))] [(.ref a3)])) _
    refine XS.iload X7.here hx rfl (hb hby d1_11) rfl ?_
    show Steps p.tables e below (T7.setTop (mkF m 13 #[.val (.long (own_sh jb 4)), .second, .val (.int (6 : Int32)), .val (.ref a3), .val (.int (Int32.ofNat av)), .val (.int (1 : Int32))] [(.int (Int32.ofNat av)), (.ref a3)])) _
    refine XS.iload X7.here hx rfl (hb hby d1_13) rfl ?_
    show Steps p.tables e below (T7.setTop (mkF m 15 #[.val (.long (own_sh jb 4)), .second, .val (.int (6 : Int32)), .val (.ref a3), .val (.int (Int32.ofNat av)), .val (.int (1 : Int32))] [(.int (1 : Int32)), (.int (Int32.ofNat av)), (.ref a3)])) _
    refine XS.iadd X7.here hx rfl (hb hby d1_15) rfl ?_
    show Steps p.tables e below (T7.setTop (mkF m 16 #[.val (.long (own_sh jb 4)), .second, .val (.int (6 : Int32)), .val (.ref a3), .val (.int (Int32.ofNat av)), .val (.int (1 : Int32))] [(.int ((Int32.ofNat av) + (1 : Int32))), (.ref a3)])) _
    refine XS.lloadN X7.here hx rfl (hb hby d1_16) rfl ?_
    show Steps p.tables e below (T7.setTop (mkF m 17 #[.val (.long (own_sh jb 4)), .second, .val (.int (6 : Int32)), .val (.ref a3), .val (.int (Int32.ofNat av)), .val (.int (1 : Int32))] [(.long (own_sh jb 4)), (.int ((Int32.ofNat av) + (1 : Int32))), (.ref a3)])) _
    refine XS.l2i X7.here hx rfl (hb hby d1_17) rfl ?_
    show Steps p.tables e below (T7.setTop (mkF m 18 #[.val (.long (own_sh jb 4)), .second, .val (.int (6 : Int32)), .val (.ref a3), .val (.int (Int32.ofNat av)), .val (.int (1 : Int32))] [(.int ((own_sh jb 4).toInt32)), (.int ((Int32.ofNat av) + (1 : Int32))), (.ref a3)])) _
    refine XS.i2b X7.here hx rfl (hb hby d1_18) rfl ?_
    show Steps p.tables e below (T7.setTop (mkF m 19 #[.val (.long (own_sh jb 4)), .second, .val (.int (6 : Int32)), .val (.ref a3), .val (.int (Int32.ofNat av)), .val (.int (1 : Int32))] [(.int (((own_sh jb 4).toInt32).toInt8.toInt32)), (.int ((Int32.ofNat av) + (1 : Int32))), (.ref a3)])) _
    refine st9 _ ?_
    show Steps p.tables e below (T9.setTop (mkF m 20 #[.val (.long (own_sh jb 4)), .second, .val (.int (6 : Int32)), .val (.ref a3), .val (.int (Int32.ofNat av)), .val (.int (1 : Int32))] [])) _
    refine XS.lloadN X9.here hx rfl (hb hby d1_20) rfl ?_
    show Steps p.tables e below (T9.setTop (mkF m 21 #[.val (.long (own_sh jb 4)), .second, .val (.int (6 : Int32)), .val (.ref a3), .val (.int (Int32.ofNat av)), .val (.int (1 : Int32))] [(.long (own_sh jb 4))])) _
    refine XS.bipush X9.here hx rfl (hb hby d1_21) ?_
    show Steps p.tables e below (T9.setTop (mkF m 23 #[.val (.long (own_sh jb 4)), .second, .val (.int (6 : Int32)), .val (.ref a3), .val (.int (Int32.ofNat av)), .val (.int (1 : Int32))] [(.int (8 : Int32)), (.long (own_sh jb 4))])) _
    refine XS.lushr X9.here hx rfl (hb hby d1_23) rfl ?_
    show Steps p.tables e below (T9.setTop (mkF m 24 #[.val (.long (own_sh jb 4)), .second, .val (.int (6 : Int32)), .val (.ref a3), .val (.int (Int32.ofNat av)), .val (.int (1 : Int32))] [(.long (((own_sh jb 4).toUInt64 >>> ((8 : Int32) &&& 0x3f).toInt64.toUInt64).toInt64))])) _
    refine XS.lstoreN X9.here hx rfl (hb hby d1_24) rfl (l' := #[.val (.long (((own_sh jb 4).toUInt64 >>> ((8 : Int32) &&& 0x3f).toInt64.toUInt64).toInt64)), .second, .val (.int (6 : Int32)), .val (.ref a3), .val (.int (Int32.ofNat av)), .val (.int (1 : Int32))]) rfl ?_
    show Steps p.tables e below (T9.setTop (mkF m 25 #[.val (.long (((own_sh jb 4).toUInt64 >>> ((8 : Int32) &&& 0x3f).toInt64.toUInt64).toInt64)), .second, .val (.int (6 : Int32)), .val (.ref a3), .val (.int (Int32.ofNat av)), .val (.int (1 : Int32))] [])) _
    refine XS.iinc X9.here hx rfl (hb hby d1_25) rfl (l' := #[.val (.long (((own_sh jb 4).toUInt64 >>> ((8 : Int32) &&& 0x3f).toInt64.toUInt64).toInt64)), .second, .val (.int (6 : Int32)), .val (.ref a3), .val (.int (Int32.ofNat av)), .val (.int (0 : Int32))]) rfl ?_
    show Steps p.tables e below (T9.setTop (mkF m 28 #[.val (.long (((own_sh jb 4).toUInt64 >>> ((8 : Int32) &&& 0x3f).toInt64.toUInt64).toInt64)), .second, .val (.int (6 : Int32)), .val (.ref a3), .val (.int (Int32.ofNat av)), .val (.int (0 : Int32))] [])) _
    refine XS.goto X9.here hx rfl (pc0 := 28) (pc' := 5) rfl (hb hby d1_28) (by decide) (by decide) ?_
    show Steps p.tables e below (T9.setTop (mkF m 5 #[.val (.long (((own_sh jb 4).toUInt64 >>> ((8 : Int32) &&& 0x3f).toInt64.toUInt64).toInt64)), .second, .val (.int (6 : Int32)), .val (.ref a3), .val (.int (Int32.ofNat av)), .val (.int (0 : Int32))] [])) _
    rw [own_shs jb 4 (by decide)]
    show Steps p.tables e below (T9.setTop (mkF m 5 #[.val (.long (own_sh jb 5)), .second, .val (.int (6 : Int32)), .val (.ref a3), .val (.int (Int32.ofNat av)), .val (.int (0 : Int32))] [])) _
    refine XS.iload X9.here hx rfl (hb hby d1_5) rfl ?_
    show Steps p.tables e below (T9.setTop (mkF m 7 #[.val (.long (own_sh jb 5)), .second, .val (.int (6 : Int32)), .val (.ref a3), .val (.int (Int32.ofNat av)), .val (.int (0 : Int32))] [(.int (0 : Int32))])) _
    refine XS.ifNo X9.here hx rfl (hb hby d1_7) rfl ((if0 _ _).trans (flt (by decide : ¬ ((0 : Int32) < (0 : Int32)))).1) ?_
    show Steps p.tables e below (T9.setTop (mkF m 10 #[.val (.long (own_sh jb 5)), .second, .val (.int (6 : Int32)), .val (.ref a3), .val (.int (Int32.ofNat av)), .val (.int (0 : Int32))] [])) _
    refine XS.aloadN X9.here hx rfl (hb hby d1_10) rfl rfl ?_
    show Steps p.tables e below (T9.setTop (mkF m 11 #[.val (.long (own_sh jb 5)), .second, .val (.int (6 : Int32)), .val (.ref a3), .val (.int (Int32.ofNat av)), .val (.int (0 : Int32))] [(.ref a3)])) _
    refine XS.iload X9.here hx rfl (hb hby d1_11) rfl ?_
    show Steps p.tables e below (T9.setTop (mkF m 13 #[.val (.long (own_sh jb 5)), .second, .val (.int (6 : Int32)), .val (.ref a3), .val (.int (Int32.ofNat av)), .val (.int (0 : Int32))] [(.int (Int32.ofNat av)), (.ref a3)])) _
    refine XS.iload X9.here hx rfl (hb hby d1_13) rfl ?_
    show Steps p.tables e below (T9.setTop (mkF m 15 #[.val (.long (own_sh jb 5)), .second, .val (.int (6 : Int32)), .val (.ref a3), .val (.int (Int32.ofNat av)), .val (.int (0 : Int32))] [(.int (0 : Int32)), (.int (Int32.ofNat av)), (.ref a3)])) _
    refine XS.iadd X9.here hx rfl (hb hby d1_15) rfl ?_
    show Steps p.tables e below (T9.setTop (mkF m 16 #[.val (.long (own_sh jb 5)), .second, .val (.int (6 : Int32)), .val (.ref a3), .val (.int (Int32.ofNat av)), .val (.int (0 : Int32))] [(.int ((Int32.ofNat av) + (0 : Int32))), (.ref a3)])) _
    refine XS.lloadN X9.here hx rfl (hb hby d1_16) rfl ?_
    show Steps p.tables e below (T9.setTop (mkF m 17 #[.val (.long (own_sh jb 5)), .second, .val (.int (6 : Int32)), .val (.ref a3), .val (.int (Int32.ofNat av)), .val (.int (0 : Int32))] [(.long (own_sh jb 5)), (.int ((Int32.ofNat av) + (0 : Int32))), (.ref a3)])) _
    refine XS.l2i X9.here hx rfl (hb hby d1_17) rfl ?_
    show Steps p.tables e below (T9.setTop (mkF m 18 #[.val (.long (own_sh jb 5)), .second, .val (.int (6 : Int32)), .val (.ref a3), .val (.int (Int32.ofNat av)), .val (.int (0 : Int32))] [(.int ((own_sh jb 5).toInt32)), (.int ((Int32.ofNat av) + (0 : Int32))), (.ref a3)])) _
    refine XS.i2b X9.here hx rfl (hb hby d1_18) rfl ?_
    show Steps p.tables e below (T9.setTop (mkF m 19 #[.val (.long (own_sh jb 5)), .second, .val (.int (6 : Int32)), .val (.ref a3), .val (.int (Int32.ofNat av)), .val (.int (0 : Int32))] [(.int (((own_sh jb 5).toInt32).toInt8.toInt32)), (.int ((Int32.ofNat av) + (0 : Int32))), (.ref a3)])) _
    refine st11 _ ?_
    show Steps p.tables e below (T11.setTop (mkF m 20 #[.val (.long (own_sh jb 5)), .second, .val (.int (6 : Int32)), .val (.ref a3), .val (.int (Int32.ofNat av)), .val (.int (0 : Int32))] [])) _
    refine XS.lloadN X11.here hx rfl (hb hby d1_20) rfl ?_
    show Steps p.tables e below (T11.setTop (mkF m 21 #[.val (.long (own_sh jb 5)), .second, .val (.int (6 : Int32)), .val (.ref a3), .val (.int (Int32.ofNat av)), .val (.int (0 : Int32))] [(.long (own_sh jb 5))])) _
    refine XS.bipush X11.here hx rfl (hb hby d1_21) ?_
    show Steps p.tables e below (T11.setTop (mkF m 23 #[.val (.long (own_sh jb 5)), .second, .val (.int (6 : Int32)), .val (.ref a3), .val (.int (Int32.ofNat av)), .val (.int (0 : Int32))] [(.int (8 : Int32)), (.long (own_sh jb 5))])) _
    refine XS.lushr X11.here hx rfl (hb hby d1_23) rfl ?_
    show Steps p.tables e below (T11.setTop (mkF m 24 #[.val (.long (own_sh jb 5)), .second, .val (.int (6 : Int32)), .val (.ref a3), .val (.int (Int32.ofNat av)), .val (.int (0 : Int32))] [(.long (((own_sh jb 5).toUInt64 >>> ((8 : Int32) &&& 0x3f).toInt64.toUInt64).toInt64))])) _
    refine XS.lstoreN X11.here hx rfl (hb hby d1_24) rfl (l' := #[.val (.long (((own_sh jb 5).toUInt64 >>> ((8 : Int32) &&& 0x3f).toInt64.toUInt64).toInt64)), .second, .val (.int (6 : Int32)), .val (.ref a3), .val (.int (Int32.ofNat av)), .val (.int (0 : Int32))]) rfl ?_
    show Steps p.tables e below (T11.setTop (mkF m 25 #[.val (.long (((own_sh jb 5).toUInt64 >>> ((8 : Int32) &&& 0x3f).toInt64.toUInt64).toInt64)), .second, .val (.int (6 : Int32)), .val (.ref a3), .val (.int (Int32.ofNat av)), .val (.int (0 : Int32))] [])) _
    refine XS.iinc X11.here hx rfl (hb hby d1_25) rfl (l' := #[.val (.long (((own_sh jb 5).toUInt64 >>> ((8 : Int32) &&& 0x3f).toInt64.toUInt64).toInt64)), .second, .val (.int (6 : Int32)), .val (.ref a3), .val (.int (Int32.ofNat av)), .val (.int (-1 : Int32))]) rfl ?_
    show Steps p.tables e below (T11.setTop (mkF m 28 #[.val (.long (((own_sh jb 5).toUInt64 >>> ((8 : Int32) &&& 0x3f).toInt64.toUInt64).toInt64)), .second, .val (.int (6 : Int32)), .val (.ref a3), .val (.int (Int32.ofNat av)), .val (.int (-1 : Int32))] [])) _
    refine XS.goto X11.here hx rfl (pc0 := 28) (pc' := 5) rfl (hb hby d1_28) (by decide) (by decide) ?_
    show Steps p.tables e below (T11.setTop (mkF m 5 #[.val (.long (((own_sh jb 5).toUInt64 >>> ((8 : Int32) &&& 0x3f).toInt64.toUInt64).toInt64)), .second, .val (.int (6 : Int32)), .val (.ref a3), .val (.int (Int32.ofNat av)), .val (.int (-1 : Int32))] [])) _
    rw [own_shs jb 5 (by decide)]
    show Steps p.tables e below (T11.setTop (mkF m 5 #[.val (.long (own_sh jb 6)), .second, .val (.int (6 : Int32)), .val (.ref a3), .val (.int (Int32.ofNat av)), .val (.int (-1 : Int32))] [])) _
    refine XS.iload X11.here hx rfl (hb hby d1_5) rfl ?_
    show Steps p.tables e below (T11.setTop (mkF m 7 #[.val (.long (own_sh jb 6)), .second, .val (.int (6 : Int32)), .val (.ref a3), .val (.int (Int32.ofNat av)), .val (.int (-1 : Int32))] [(.int (-1 : Int32))])) _
    refine XS.ifYes X11.here hx rfl (pc0 := 7) (pc' := 31) rfl (hb hby d1_7) rfl ((if0 _ _).trans (tlt (by decide : ((-1 : Int32) < (0 : Int32)))).1) (by decide) (by decide) ?_
    show Steps p.tables e below (T11.setTop (mkF m 31 #[.val (.long (own_sh jb 6)), .second, .val (.int (6 : Int32)), .val (.ref a3), .val (.int (Int32.ofNat av)), .val (.int (-1 : Int32))] [])) _
    exact X11.returnOut hx Bd.returns (hb hby d1_31) hr
  · show QP Z jb (6 : Int32) a3 av k1 f h0 n0 _ T11.heap _
    rw [e11]
    exact ⟨rfl, N11, K11, own_g6 jb av f ha ▸ U11⟩
theorem own_g7 (jb : Int64) (av : Nat) (f : Nat → Int32) (h : av ≤ 3) : own_vals (own_upd (own_upd (own_upd (own_upd (own_upd (own_upd (own_upd f (av + 6) (own_by (own_sh jb 0))) (av + 5) (own_by (own_sh jb 1))) (av + 4) (own_by (own_sh jb 2))) (av + 3) (own_by (own_sh jb 3))) (av + 2) (own_by (own_sh jb 4))) (av + 1) (own_by (own_sh jb 5))) (av + 0) (own_by (own_sh jb 6))) = own_vals (own_put f jb (7 : Int32) (Int32.ofNat av)) := own_gp f jb av 7 (by decide) h
theorem ef_1_7 (m : MethodId) (jb : Int64) (a3 : Addr) : entryFrame m #[(.long jb), (.int (7 : Int32)), (.ref a3), (.int (Int32.ofNat av))] 6 = mkF m 0 #[.val (.long jb), .second, .val (.int (7 : Int32)), .val (.ref a3), .val (.int (Int32.ofNat av)), .unset] [] := by first | (simp [entryFrame, mkF, argsToLocals, Value.category]; done) | rfl
set_option maxRecDepth 65536 in
set_option maxHeartbeats 40000000 in
theorem rm1_7 (l : Launch) (Z : State) (a0 : Array Value) (hw : ∀ d ∈ tables_1, d.before a0 Z = true) (ws : List Jvm.Cond) (jb : Int64) (a3 : Addr) (av : Nat) (k1 : ClassId) (f : Nat → Int32) (h0 : Heap) (n0 : Nat) (Z0 : n0 ≤ h0.size) (ha : av ≤ 3) (V_1 : Arv Z h0 a3 k1 .byte (12 : Int32) (own_vals f) (.int (0 : Int32))) (g_a3 : n0 ≤ a3) :
    MetFree l (⟨"com/example/backstitch/backstitch/stream/StreamTable", "putBits", "(JI[BI)V"⟩ : MethodName) (head1 (Jvm.Cond.code (⟨"com/example/backstitch/backstitch/stream/StreamTable", "putBits", "(JI[BI)V"⟩ : MethodName) prog_55_method_40_code 6 none :: ws) ({ frames := 0, cells := 0, slots := 0, locals := 0 } : Room)) (fun a U => a = #[(.long jb), (.int (7 : Int32)), (.ref a3), (.int (Int32.ofNat av))] ∧ Z.Warmed39 U.vm ∧ U.heap = h0) (fun _ _ _ _ _ => True) (fun _ U o U' => ∃ v L, o = .returned v ∧ QP Z jb (7 : Int32) a3 av k1 f h0 n0 v U'.heap L ∧ FrameEnd U o U' L ({ frames := 0, cells := 0, slots := 0, locals := 0 } : Room).cells ({ frames := 0, cells := 0, slots := 0, locals := 0 } : Room).slots) := by
  refine MetFree.of_bodySF (plainFor_of_name pn_1) hisR ?_
  intro p e s m args below meth c s₁ Bd hml0 hP hK
  obtain ⟨rfl, hZ, hh⟩ := hP
  have hx := Bd.exec
  have hby := Bd.bytes
  have hml : c.maxLocals = 6 := hml0
  have hown : s.vm.findClass "com/example/backstitch/backstitch/stream/StreamTable" = some m.cls := findClass_of_methodNamed Bd.named
  have hnm := (name_of_methodNamed Bd.named Bd.method).1
  have X0 : Stand p l e ({ frames := 0, cells := 0, slots := 0, locals := 0 } : Room) s m #[(.long jb), (.int (7 : Int32)), (.ref a3), (.int (Int32.ofNat av))] below meth c s₁ [] 0 0 := Stand.of_body Bd
  have e0 : s₁.heap = h0 := by rw [← hh, Bd.state]; rfl
  have N0 := Fr.nil n0
  have pre0 : ∀ t, Steps p.tables e below (s₁.setTop (mkF m 0 #[.val (.long jb), .second, .val (.int (7 : Int32)), .val (.ref a3), .val (.int (Int32.ofNat av)), .unset] [])) t → Steps p.tables e below (s₁.setTop (entryFrame m #[(.long jb), (.int (7 : Int32)), (.ref a3), (.int (Int32.ofNat av))] 6)) t := fun t k => castTop (ef_1_7 m jb a3) k
  have K0 : Keep h0 h0 [a3] := Keep.refl h0 [a3]
  obtain ⟨cl1, Ar1, q1, S1, M1, H1, G1⟩ := id V_1
  have hin1 : ¬ (((Int32.ofNat av) + (6 : Int32)) < 0 ∨ cl1.slots.size ≤ (((Int32.ofNat av) + (6 : Int32))).toNatClampNeg) := inb_of S1 (own_in av ha 6 (by decide)).1
  obtain ⟨T1, h1, X1, e1, W1, st1⟩ := stB X0 hx hZ e0 Ar1 (j := ((Int32.ofNat av) + (6 : Int32))) hin1 (g := (mkF m 19 #[.val (.long (own_sh jb 0)), .second, .val (.int (7 : Int32)), .val (.ref a3), .val (.int (Int32.ofNat av)), .val (.int (6 : Int32))] [(.int (((own_sh jb 0).toInt32).toInt8.toInt32)), (.int ((Int32.ofNat av) + (6 : Int32))), (.ref a3)])) rfl rfl (hb hby d1_19)
  have V1 := Arv.set Ar1 q1 S1 M1 H1 G1 (fits_nar_byte _) W1 (av + 6) (own_in av ha 6 (by decide)).2.1 (own_in av ha 6 (by decide)).2.2
  have K1 : Keep h0 h1 [a3] := K0.wr W1 (Or.inl (List.mem_of_getElem? (i := 0) rfl))
  have N1 := Fr.snoc X1 N0 g_a3
  have Z1 : n0 ≤ h1.size := Nat.le_trans Z0 (Keep.of_wr W1).1
  have U1 : Arv Z h1 a3 k1 .byte (12 : Int32) (own_vals (own_upd f (av + 6) (own_by (own_sh jb 0)))) (.int (0 : Int32)) := by rw [← own_set _ _ _ (own_in av ha 6 (by decide)).2.2]; exact V1
  obtain ⟨cl3, Ar3, q3, S3, M3, H3, G3⟩ := id U1
  have hin3 : ¬ (((Int32.ofNat av) + (5 : Int32)) < 0 ∨ cl3.slots.size ≤ (((Int32.ofNat av) + (5 : Int32))).toNatClampNeg) := inb_of S3 (own_in av ha 5 (by decide)).1
  obtain ⟨T3, h3, X3, e3, W3, st3⟩ := stB X1 hx hZ e1 Ar3 (j := ((Int32.ofNat av) + (5 : Int32))) hin3 (g := (mkF m 19 #[.val (.long (own_sh jb 1)), .second, .val (.int (7 : Int32)), .val (.ref a3), .val (.int (Int32.ofNat av)), .val (.int (5 : Int32))] [(.int (((own_sh jb 1).toInt32).toInt8.toInt32)), (.int ((Int32.ofNat av) + (5 : Int32))), (.ref a3)])) rfl rfl (hb hby d1_19)
  have V3 := Arv.set Ar3 q3 S3 M3 H3 G3 (fits_nar_byte _) W3 (av + 5) (own_in av ha 5 (by decide)).2.1 (own_in av ha 5 (by decide)).2.2
  have K3 : Keep h0 h3 [a3] := K1.wr W3 (Or.inl (List.mem_of_getElem? (i := 0) rfl))
  have N3 := Fr.snoc X3 N1 g_a3
  have Z3 : n0 ≤ h3.size := Nat.le_trans Z1 (Keep.of_wr W3).1
  have U3 : Arv Z h3 a3 k1 .byte (12 : Int32) (own_vals (own_upd (own_upd f (av + 6) (own_by (own_sh jb 0))) (av + 5) (own_by (own_sh jb 1)))) (.int (0 : Int32)) := by rw [← own_set _ _ _ (own_in av ha 5 (by decide)).2.2]; exact V3
  obtain ⟨cl5, Ar5, q5, S5, M5, H5, G5⟩ := id U3
  have hin5 : ¬ (((Int32.ofNat av) + (4 : Int32)) < 0 ∨ cl5.slots.size ≤ (((Int32.ofNat av) + (4 : Int32))).toNatClampNeg) := inb_of S5 (own_in av ha 4 (by decide)).1
  obtain ⟨T5, h5, X5, e5, W5, st5⟩ := stB X3 hx hZ e3 Ar5 (j := ((Int32.ofNat av) + (4 : Int32))) hin5 (g := (mkF m 19 #[.val (.long (own_sh jb 2)), .second, .val (.int (7 : Int32)), .val (.ref a3), .val (.int (Int32.ofNat av)), .val (.int (4 : Int32))] [(.int (((own_sh jb 2).toInt32).toInt8.toInt32)), (.int ((Int32.ofNat av) + (4 : Int32))), (.ref a3)])) rfl rfl (hb hby d1_19)
  have V5 := Arv.set Ar5 q5 S5 M5 H5 G5 (fits_nar_byte _) W5 (av + 4) (own_in av ha 4 (by decide)).2.1 (own_in av ha 4 (by decide)).2.2
  have K5 : Keep h0 h5 [a3] := K3.wr W5 (Or.inl (List.mem_of_getElem? (i := 0) rfl))
  have N5 := Fr.snoc X5 N3 g_a3
  have Z5 : n0 ≤ h5.size := Nat.le_trans Z3 (Keep.of_wr W5).1
  have U5 : Arv Z h5 a3 k1 .byte (12 : Int32) (own_vals (own_upd (own_upd (own_upd f (av + 6) (own_by (own_sh jb 0))) (av + 5) (own_by (own_sh jb 1))) (av + 4) (own_by (own_sh jb 2)))) (.int (0 : Int32)) := by rw [← own_set _ _ _ (own_in av ha 4 (by decide)).2.2]; exact V5
  obtain ⟨cl7, Ar7, q7, S7, M7, H7, G7⟩ := id U5
  have hin7 : ¬ (((Int32.ofNat av) + (3 : Int32)) < 0 ∨ cl7.slots.size ≤ (((Int32.ofNat av) + (3 : Int32))).toNatClampNeg) := inb_of S7 (own_in av ha 3 (by decide)).1
  obtain ⟨T7, h7, X7, e7, W7, st7⟩ := stB X5 hx hZ e5 Ar7 (j := ((Int32.ofNat av) + (3 : Int32))) hin7 (g := (mkF m 19 #[.val (.long (own_sh jb 3)), .second, .val (.int (7 : Int32)), .val (.ref a3), .val (.int (Int32.ofNat av)), .val (.int (3 : Int32))] [(.int (((own_sh jb 3).toInt32).toInt8.toInt32)), (.int ((Int32.ofNat av) + (3 : Int32))), (.ref a3)])) rfl rfl (hb hby d1_19)
  have V7 := Arv.set Ar7 q7 S7 M7 H7 G7 (fits_nar_byte _) W7 (av + 3) (own_in av ha 3 (by decide)).2.1 (own_in av ha 3 (by decide)).2.2
  have K7 : Keep h0 h7 [a3] := K5.wr W7 (Or.inl (List.mem_of_getElem? (i := 0) rfl))
  have N7 := Fr.snoc X7 N5 g_a3
  have Z7 : n0 ≤ h7.size := Nat.le_trans Z5 (Keep.of_wr W7).1
  have U7 : Arv Z h7 a3 k1 .byte (12 : Int32) (own_vals (own_upd (own_upd (own_upd (own_upd f (av + 6) (own_by (own_sh jb 0))) (av + 5) (own_by (own_sh jb 1))) (av + 4) (own_by (own_sh jb 2))) (av + 3) (own_by (own_sh jb 3)))) (.int (0 : Int32)) := by rw [← own_set _ _ _ (own_in av ha 3 (by decide)).2.2]; exact V7
  obtain ⟨cl9, Ar9, q9, S9, M9, H9, G9⟩ := id U7
  have hin9 : ¬ (((Int32.ofNat av) + (2 : Int32)) < 0 ∨ cl9.slots.size ≤ (((Int32.ofNat av) + (2 : Int32))).toNatClampNeg) := inb_of S9 (own_in av ha 2 (by decide)).1
  obtain ⟨T9, h9, X9, e9, W9, st9⟩ := stB X7 hx hZ e7 Ar9 (j := ((Int32.ofNat av) + (2 : Int32))) hin9 (g := (mkF m 19 #[.val (.long (own_sh jb 4)), .second, .val (.int (7 : Int32)), .val (.ref a3), .val (.int (Int32.ofNat av)), .val (.int (2 : Int32))] [(.int (((own_sh jb 4).toInt32).toInt8.toInt32)), (.int ((Int32.ofNat av) + (2 : Int32))), (.ref a3)])) rfl rfl (hb hby d1_19)
  have V9 := Arv.set Ar9 q9 S9 M9 H9 G9 (fits_nar_byte _) W9 (av + 2) (own_in av ha 2 (by decide)).2.1 (own_in av ha 2 (by decide)).2.2
  have K9 : Keep h0 h9 [a3] := K7.wr W9 (Or.inl (List.mem_of_getElem? (i := 0) rfl))
  have N9 := Fr.snoc X9 N7 g_a3
  have Z9 : n0 ≤ h9.size := Nat.le_trans Z7 (Keep.of_wr W9).1
  have U9 : Arv Z h9 a3 k1 .byte (12 : Int32) (own_vals (own_upd (own_upd (own_upd (own_upd (own_upd f (av + 6) (own_by (own_sh jb 0))) (av + 5) (own_by (own_sh jb 1))) (av + 4) (own_by (own_sh jb 2))) (av + 3) (own_by (own_sh jb 3))) (av + 2) (own_by (own_sh jb 4)))) (.int (0 : Int32)) := by rw [← own_set _ _ _ (own_in av ha 2 (by decide)).2.2]; exact V9
  obtain ⟨cl11, Ar11, q11, S11, M11, H11, G11⟩ := id U9
  have hin11 : ¬ (((Int32.ofNat av) + (1 : Int32)) < 0 ∨ cl11.slots.size ≤ (((Int32.ofNat av) + (1 : Int32))).toNatClampNeg) := inb_of S11 (own_in av ha 1 (by decide)).1
  obtain ⟨T11, h11, X11, e11, W11, st11⟩ := stB X9 hx hZ e9 Ar11 (j := ((Int32.ofNat av) + (1 : Int32))) hin11 (g := (mkF m 19 #[.val (.long (own_sh jb 5)), .second, .val (.int (7 : Int32)), .val (.ref a3), .val (.int (Int32.ofNat av)), .val (.int (1 : Int32))] [(.int (((own_sh jb 5).toInt32).toInt8.toInt32)), (.int ((Int32.ofNat av) + (1 : Int32))), (.ref a3)])) rfl rfl (hb hby d1_19)
  have V11 := Arv.set Ar11 q11 S11 M11 H11 G11 (fits_nar_byte _) W11 (av + 1) (own_in av ha 1 (by decide)).2.1 (own_in av ha 1 (by decide)).2.2
  have K11 : Keep h0 h11 [a3] := K9.wr W11 (Or.inl (List.mem_of_getElem? (i := 0) rfl))
  have N11 := Fr.snoc X11 N9 g_a3
  have Z11 : n0 ≤ h11.size := Nat.le_trans Z9 (Keep.of_wr W11).1
  have U11 : Arv Z h11 a3 k1 .byte (12 : Int32) (own_vals (own_upd (own_upd (own_upd (own_upd (own_upd (own_upd f (av + 6) (own_by (own_sh jb 0))) (av + 5) (own_by (own_sh jb 1))) (av + 4) (own_by (own_sh jb 2))) (av + 3) (own_by (own_sh jb 3))) (av + 2) (own_by (own_sh jb 4))) (av + 1) (own_by (own_sh jb 5)))) (.int (0 : Int32)) := by rw [← own_set _ _ _ (own_in av ha 1 (by decide)).2.2]; exact V11
  obtain ⟨cl13, Ar13, q13, S13, M13, H13, G13⟩ := id U11
  have hin13 : ¬ (((Int32.ofNat av) + (0 : Int32)) < 0 ∨ cl13.slots.size ≤ (((Int32.ofNat av) + (0 : Int32))).toNatClampNeg) := inb_of S13 (own_in av ha 0 (by decide)).1
  obtain ⟨T13, h13, X13, e13, W13, st13⟩ := stB X11 hx hZ e11 Ar13 (j := ((Int32.ofNat av) + (0 : Int32))) hin13 (g := (mkF m 19 #[.val (.long (own_sh jb 6)), .second, .val (.int (7 : Int32)), .val (.ref a3), .val (.int (Int32.ofNat av)), .val (.int (0 : Int32))] [(.int (((own_sh jb 6).toInt32).toInt8.toInt32)), (.int ((Int32.ofNat av) + (0 : Int32))), (.ref a3)])) rfl rfl (hb hby d1_19)
  have V13 := Arv.set Ar13 q13 S13 M13 H13 G13 (fits_nar_byte _) W13 (av + 0) (own_in av ha 0 (by decide)).2.1 (own_in av ha 0 (by decide)).2.2
  have K13 : Keep h0 h13 [a3] := K11.wr W13 (Or.inl (List.mem_of_getElem? (i := 0) rfl))
  have N13 := Fr.snoc X13 N11 g_a3
  have Z13 : n0 ≤ h13.size := Nat.le_trans Z11 (Keep.of_wr W13).1
  have U13 : Arv Z h13 a3 k1 .byte (12 : Int32) (own_vals (own_upd (own_upd (own_upd (own_upd (own_upd (own_upd (own_upd f (av + 6) (own_by (own_sh jb 0))) (av + 5) (own_by (own_sh jb 1))) (av + 4) (own_by (own_sh jb 2))) (av + 3) (own_by (own_sh jb 3))) (av + 2) (own_by (own_sh jb 4))) (av + 1) (own_by (own_sh jb 5))) (av + 0) (own_by (own_sh jb 6)))) (.int (0 : Int32)) := by rw [← own_set _ _ _ (own_in av ha 0 (by decide)).2.2]; exact V13
  obtain ⟨fs, hr, hrun, hended, hW, hsame⟩ := X13.leave (v := none) (fun _ => rfl)
  refine ⟨_, _, pre0 _ ?_, hrun, hended, _, _, rfl, ?_, ⟨_, rfl⟩, hW, hsame.mono (by decide) (by decide)⟩
  · show Steps p.tables e below (s₁.setTop (mkF m 0 #[.val (.long jb), .second, .val (.int (7 : Int32)), .val (.ref a3), .val (.int (Int32.ofNat av)), .unset] [])) _
    refine XS.iloadN X0.here hx rfl (hb hby d1_0) rfl ?_
    show Steps p.tables e below (s₁.setTop (mkF m 1 #[.val (.long jb), .second, .val (.int (7 : Int32)), .val (.ref a3), .val (.int (Int32.ofNat av)), .unset] [(.int (7 : Int32))])) _
    refine XS.iconst X0.here hx rfl (hb hby d1_1) ?_
    show Steps p.tables e below (s₁.setTop (mkF m 2 #[.val (.long jb), .second, .val (.int (7 : Int32)), .val (.ref a3), .val (.int (Int32.ofNat av)), .unset] [(.int (1 : Int32)), (.int (7 : Int32))])) _
    refine XS.isub X0.here hx rfl (hb hby d1_2) rfl ?_
    show Steps p.tables e below (s₁.setTop (mkF m 3 #[.val (.long jb), .second, .val (.int (7 : Int32)), .val (.ref a3), .val (.int (Int32.ofNat av)), .unset] [(.int (6 : Int32))])) _
    refine XS.istore X0.here hx rfl (hb hby d1_3) rfl (l' := #[.val (.long jb), .second, .val (.int (7 : Int32)), .val (.ref a3), .val (.int (Int32.ofNat av)), .val (.int (6 : Int32))]) rfl ?_
    show Steps p.tables e below (s₁.setTop (mkF m 5 #[.val (.long jb), .second, .val (.int (7 : Int32)), .val (.ref a3), .val (.int (Int32.ofNat av)), .val (.int (6 : Int32))] [])) _
    rw [show (Value.long jb) = Value.long (own_sh jb 0) from congrArg Value.long (own_sh0 jb)]
    show Steps p.tables e below (s₁.setTop (mkF m 5 #[.val (.long (own_sh jb 0)), .second, .val (.int (7 : Int32)), .val (.ref a3), .val (.int (Int32.ofNat av)), .val (.int (6 : Int32))] [])) _
    refine XS.iload X0.here hx rfl (hb hby d1_5) rfl ?_
    show Steps p.tables e below (s₁.setTop (mkF m 7 #[.val (.long (own_sh jb 0)), .second, .val (.int (7 : Int32)), .val (.ref a3), .val (.int (Int32.ofNat av)), .val (.int (6 : Int32))] [(.int (6 : Int32))])) _
    refine XS.ifNo X0.here hx rfl (hb hby d1_7) rfl ((if0 _ _).trans (flt (by decide : ¬ ((6 : Int32) < (0 : Int32)))).1) ?_
    show Steps p.tables e below (s₁.setTop (mkF m 10 #[.val (.long (own_sh jb 0)), .second, .val (.int (7 : Int32)), .val (.ref a3), .val (.int (Int32.ofNat av)), .val (.int (6 : Int32))] [])) _
    refine XS.aloadN X0.here hx rfl (hb hby d1_10) rfl rfl ?_
    show Steps p.tables e below (s₁.setTop (mkF m 11 #[.val (.long (own_sh jb 0)), .second, .val (.int (7 : Int32)), .val (.ref a3), .val (.int (Int32.ofNat av)), .val (.int (6 : Int32))] [(.ref a3)])) _
    refine XS.iload X0.here hx rfl (hb hby d1_11) rfl ?_
    show Steps p.tables e below (s₁.setTop (mkF m 13 #[.val (.long (own_sh jb 0)), .second, .val (.int (7 : Int32)), .val (.ref a3), .val (.int (Int32.ofNat av)), .val (.int (6 : Int32))] [(.int (Int32.ofNat av)), (.ref a3)])) _
    refine XS.iload X0.here hx rfl (hb hby d1_13) rfl ?_
    show Steps p.tables e below (s₁.setTop (mkF m 15 #[.val (.long (own_sh jb 0)), .second, .val (.int (7 : Int32)), .val (.ref a3), .val (.int (Int32.ofNat av)), .val (.int (6 : Int32))] [(.int (6 : Int32)), (.int (Int32.ofNat av)), (.ref a3)])) _
    refine XS.iadd X0.here hx rfl (hb hby d1_15) rfl ?_
    show Steps p.tables e below (s₁.setTop (mkF m 16 #[.val (.long (own_sh jb 0)), .second, .val (.int (7 : Int32)), .val (.ref a3), .val (.int (Int32.ofNat av)), .val (.int (6 : Int32))] [(.int ((Int32.ofNat av) + (6 : Int32))), (.ref a3)])) _
    refine XS.lloadN X0.here hx rfl (hb hby d1_16) rfl ?_
    show Steps p.tables e below (s₁.setTop (mkF m 17 #[.val (.long (own_sh jb 0)), .second, .val (.int (7 : Int32)), .val (.ref a3), .val (.int (Int32.ofNat av)), .val (.int (6 : Int32))] [(.long (own_sh jb 0)), (.int ((Int32.ofNat av) + (6 : Int32))), (.ref a3)])) _
    refine XS.l2i X0.here hx rfl (hb hby d1_17) rfl ?_
    show Steps p.tables e below (s₁.setTop (mkF m 18 #[.val (.long (own_sh jb 0)), .second, .val (.int (7 : Int32)), .val (.ref a3), .val (.int (Int32.ofNat av)), .val (.int (6 : Int32))] [(.int ((own_sh jb 0).toInt32)), (.int ((Int32.ofNat av) + (6 : Int32))), (.ref a3)])) _
    refine XS.i2b X0.here hx rfl (hb hby d1_18) rfl ?_
    show Steps p.tables e below (s₁.setTop (mkF m 19 #[.val (.long (own_sh jb 0)), .second, .val (.int (7 : Int32)), .val (.ref a3), .val (.int (Int32.ofNat av)), .val (.int (6 : Int32))] [(.int (((own_sh jb 0).toInt32).toInt8.toInt32)), (.int ((Int32.ofNat av) + (6 : Int32))), (.ref a3)])) _
    refine st1 _ ?_
    show Steps p.tables e below (T1.setTop (mkF m 20 #[.val (.long (own_sh jb 0)), .second, .val (.int (7 : Int32)), .val (.ref a3), .val (.int (Int32.ofNat av)), .val (.int (6 : Int32))] [])) _
    refine XS.lloadN X1.here hx rfl (hb hby d1_20) rfl ?_
    show Steps p.tables e below (T1.setTop (mkF m 21 #[.val (.long (own_sh jb 0)), .second, .val (.int (7 : Int32)), .val (.ref a3), .val (.int (Int32.ofNat av)), .val (.int (6 : Int32))] [(.long (own_sh jb 0))])) _
    refine XS.bipush X1.here hx rfl (hb hby d1_21) ?_
    show Steps p.tables e below (T1.setTop (mkF m 23 #[.val (.long (own_sh jb 0)), .second, .val (.int (7 : Int32)), .val (.ref a3), .val (.int (Int32.ofNat av)), .val (.int (6 : Int32))] [(.int (8 : Int32)), (.long (own_sh jb 0))])) _
    refine XS.lushr X1.here hx rfl (hb hby d1_23) rfl ?_
    show Steps p.tables e below (T1.setTop (mkF m 24 #[.val (.long (own_sh jb 0)), .second, .val (.int (7 : Int32)), .val (.ref a3), .val (.int (Int32.ofNat av)), .val (.int (6 : Int32))] [(.long (((own_sh jb 0).toUInt64 >>> ((8 : Int32) &&& 0x3f).toInt64.toUInt64).toInt64))])) _
    refine XS.lstoreN X1.here hx rfl (hb hby d1_24) rfl (l' := #[.val (.long (((own_sh jb 0).toUInt64 >>> ((8 : Int32) &&& 0x3f).toInt64.toUInt64).toInt64)), .second, .val (.int (7 : Int32)), .val (.ref a3), .val (.int (Int32.ofNat av)), .val (.int (6 : Int32))]) rfl ?_
    show Steps p.tables e below (T1.setTop (mkF m 25 #[.val (.long (((own_sh jb 0).toUInt64 >>> ((8 : Int32) &&& 0x3f).toInt64.toUInt64).toInt64)), .second, .val (.int (7 : Int32)), .val (.ref a3), .val (.int (Int32.ofNat av)), .val (.int (6 : Int32))] [])) _
    refine XS.iinc X1.here hx rfl (hb hby d1_25) rfl (l' := #[.val (.long (((own_sh jb 0).toUInt64 >>> ((8 : Int32) &&& 0x3f).toInt64.toUInt64).toInt64)), .second, .val (.int (7 : Int32)), .val (.ref a3), .val (.int (Int32.ofNat av)), .val (.int (5 : Int32))]) rfl ?_
    show Steps p.tables e below (T1.setTop (mkF m 28 #[.val (.long (((own_sh jb 0).toUInt64 >>> ((8 : Int32) &&& 0x3f).toInt64.toUInt64).toInt64)), .second, .val (.int (7 : Int32)), .val (.ref a3), .val (.int (Int32.ofNat av)), .val (.int (5 : Int32))] [])) _
    refine XS.goto X1.here hx rfl (pc0 := 28) (pc' := 5) rfl (hb hby d1_28) (by decide) (by decide) ?_
    show Steps p.tables e below (T1.setTop (mkF m 5 #[.val (.long (((own_sh jb 0).toUInt64 >>> ((8 : Int32) &&& 0x3f).toInt64.toUInt64).toInt64)), .second, .val (.int (7 : Int32)), .val (.ref a3), .val (.int (Int32.ofNat av)), .val (.int (5 : Int32))] [])) _
    rw [own_shs jb 0 (by decide)]
    show Steps p.tables e below (T1.setTop (mkF m 5 #[.val (.long (own_sh jb 1)), .second, .val (.int (7 : Int32)), .val (.ref a3), .val (.int (Int32.ofNat av)), .val (.int (5 : Int32))] [])) _
    refine XS.iload X1.here hx rfl (hb hby d1_5) rfl ?_
    show Steps p.tables e below (T1.setTop (mkF m 7 #[.val (.long (own_sh jb 1)), .second, .val (.int (7 : Int32)), .val (.ref a3), .val (.int (Int32.ofNat av)), .val (.int (5 : Int32))] [(.int (5 : Int32))])) _
    refine XS.ifNo X1.here hx rfl (hb hby d1_7) rfl ((if0 _ _).trans (flt (by decide : ¬ ((5 : Int32) < (0 : Int32)))).1) ?_
    show Steps p.tables e below (T1.setTop (mkF m 10 #[.val (.long (own_sh jb 1)), .second, .val (.int (7 : Int32)), .val (.ref a3), .val (.int (Int32.ofNat av)), .val (.int (5 : Int32))] [])) _
    refine XS.aloadN X1.here hx rfl (hb hby d1_10) rfl rfl ?_
    show Steps p.tables e below (T1.setTop (mkF m 11 #[.val (.long (own_sh jb 1)), .second, .val (.int (7 : Int32)), .val (.ref a3), .val (.int (Int32.ofNat av)), .val (.int (5 : Int32))] [(.ref a3)])) _
    refine XS.iload X1.here hx rfl (hb hby d1_11) rfl ?_
    show Steps p.tables e below (T1.setTop (mkF m 13 #[.val (.long (own_sh jb 1)), .second, .val (.int (7 : Int32)), .val (.ref a3), .val (.int (Int32.ofNat av)), .val (.int (5 : Int32))] [(.int (Int32.ofNat av)), (.ref a3)])) _
    refine XS.iload X1.here hx rfl (hb hby d1_13) rfl ?_
    show Steps p.tables e below (T1.setTop (mkF m 15 #[.val (.long (own_sh jb 1)), .second, .val (.int (7 : Int32)), .val (.ref a3), .val (.int (Int32.ofNat av)), .val (.int (5 : Int32))] [(.int (5 : Int32)), (.int (Int32.ofNat av)), (.ref a3)])) _
    refine XS.iadd X1.here hx rfl (hb hby d1_15) rfl ?_
    show Steps p.tables e below (T1.setTop (mkF m 16 #[.val (.long (own_sh jb 1)), .second, .val (.int (7 : Int32)), .val (.ref a3), .val (.int (Int32.ofNat av)), .val (.int (5 : Int32))] [(.int ((Int32.ofNat av) + (5 : Int32))), (.ref a3)])) _
    refine XS.lloadN X1.here hx rfl (hb hby d1_16) rfl ?_
    show Steps p.tables e below (T1.setTop (mkF m 17 #[.val (.long (own_sh jb 1)), .second, .val (.int (7 : Int32)), .val (.ref a3), .val (.int (Int32.ofNat av)), .val (.int (5 : Int32))] [(.long (own_sh jb 1)), (.int ((Int32.ofNat av) + (5 : Int32))), (.ref a3)])) _
    refine XS.l2i X1.here hx rfl (hb hby d1_17) rfl ?_
    show Steps p.tables e below (T1.setTop (mkF m 18 #[.val (.long (own_sh jb 1)), .second, .val (.int (7 : Int32)), .val (.ref a3), .val (.int (Int32.ofNat av)), .val (.int (5 : Int32))] [(.int ((own_sh jb 1).toInt32)), (.int ((Int32.ofNat av) + (5 : Int32))), (.ref a3)])) _
    refine XS.i2b X1.here hx rfl (hb hby d1_18) rfl ?_
    show Steps p.tables e below (T1.setTop (mkF m 19 #[.val (.long (own_sh jb 1)), .second, .val (.int (7 : Int32)), .val (.ref a3), .val (.int (Int32.ofNat av)), .val (.int (5 : Int32))] [(.int (((own_sh jb 1).toInt32).toInt8.toInt32)), (.int ((Int32.ofNat av) + (5 : Int32))), (.ref a3)])) _
    refine st3 _ ?_
    show Steps p.tables e below (T3.setTop (mkF m 20 #[.val (.long (own_sh jb 1)), .second, .val (.int (7 : Int32)), .val (.ref a3), .val (.int (Int32.ofNat av)), .val (.int (5 : Int32))] [])) _
    refine XS.lloadN X3.here hx rfl (hb hby d1_20) rfl ?_
    show Steps p.tables e below (T3.setTop (mkF m 21 #[.val (.long (own_sh jb 1)), .second, .val (.int (7 : Int32)), .val (.ref a3), .val (.int (Int32.ofNat av)), .val (.int (5 : Int32))] [(.long (own_sh jb 1))])) _
    refine XS.bipush X3.here hx rfl (hb hby d1_21) ?_
    show Steps p.tables e below (T3.setTop (mkF m 23 #[.val (.long (own_sh jb 1)), .second, .val (.int (7 : Int32)), .val (.ref a3), .val (.int (Int32.ofNat av)), .val (.int (5 : Int32))] [(.int (8 : Int32)), (.long (own_sh jb 1))])) _
    refine XS.lushr X3.here hx rfl (hb hby d1_23) rfl ?_
    show Steps p.tables e below (T3.setTop (mkF m 24 #[.val (.long (own_sh jb 1)), .second, .val (.int (7 : Int32)), .val (.ref a3), .val (.int (Int32.ofNat av)), .val (.int (5 : Int32))] [(.long (((own_sh jb 1).toUInt64 >>> ((8 : Int32) &&& 0x3f).toInt64.toUInt64).toInt64))])) _
    refine XS.lstoreN X3.here hx rfl (hb hby d1_24) rfl (l' := #[.val (.long (((own_sh jb 1).toUInt64 >>> ((8 : Int32) &&& 0x3f).toInt64.toUInt64).toInt64)), .second, .val (.int (7 : Int32)), .val (.ref a3), .val (.int (Int32.ofNat av)), .val (.int (5 : Int32))]) rfl ?_
    show Steps p.tables e below (T3.setTop (mkF m 25 #[.val (.long (((own_sh jb 1).toUInt64 >>> ((8 : Int32) &&& 0x3f).toInt64.toUInt64).toInt64)), .second, .val (.int (7 : Int32)), .val (.ref a3), .val (.int (Int32.ofNat av)), .val (.int (5 : Int32))] [])) _
    refine XS.iinc X3.here hx rfl (hb hby d1_25) rfl (l' := #[.val (.long (((own_sh jb 1).toUInt64 >>> ((8 : Int32) &&& 0x3f).toInt64.toUInt64).toInt64)), .second, .val (.int (7 : Int32)), .val (.ref a3), .val (.int (Int32.ofNat av)), .val (.int (4 : Int32))]) rfl ?_
    show Steps p.tables e below (T3.setTop (mkF m 28 #[.val (.long (((own_sh jb 1).toUInt64 >>> ((8 : Int32) &&& 0x3f).toInt64.toUInt64).toInt64)), .second, .val (.int (7 : Int32)), .val (.ref a3), .val (.int (Int32.ofNat av)), .val (.int (4 : Int32))] [])) _
    refine XS.goto X3.here hx rfl (pc0 := 28) (pc' := 5) rfl (hb hby d1_28) (by decide) (by decide) ?_
    show Steps p.tables e below (T3.setTop (mkF m 5 #[.val (.long (((own_sh jb 1).toUInt64 >>> ((8 : Int32) &&& 0x3f).toInt64.toUInt64).toInt64)), .second, .val (.int (7 : Int32)), .val (.ref a3), .val (.int (Int32.ofNat av)), .val (.int (4 : Int32))] [])) _
    rw [own_shs jb 1 (by decide)]
    show Steps p.tables e below (T3.setTop (mkF m 5 #[.val (.long (own_sh jb 2)), .second, .val (.int (7 : Int32)), .val (.ref a3), .val (.int (Int32.ofNat av)), .val (.int (4 : Int32))] [])) _
    refine XS.iload X3.here hx rfl (hb hby d1_5) rfl ?_
    show Steps p.tables e below (T3.setTop (mkF m 7 #[.val (.long (own_sh jb 2)), .second, .val (.int (7 : Int32)), .val (.ref a3), .val (.int (Int32.ofNat av)), .val (.int (4 : Int32))] [(.int (4 : Int32))])) _
    refine XS.ifNo X3.here hx rfl (hb hby d1_7) rfl ((if0 _ _).trans (flt (by decide : ¬ ((4 : Int32) < (0 : Int32)))).1) ?_
    show Steps p.tables e below (T3.setTop (mkF m 10 #[.val (.long (own_sh jb 2)), .second, .val (.int (7 : Int32)), .val (.ref a3), .val (.int (Int32.ofNat av)), .val (.int (4 : Int32))] [])) _
    refine XS.aloadN X3.here hx rfl (hb hby d1_10) rfl rfl ?_
    show Steps p.tables e below (T3.setTop (mkF m 11 #[.val (.long (own_sh jb 2)), .second, .val (.int (7 : Int32)), .val (.ref a3), .val (.int (Int32.ofNat av)), .val (.int (4 : Int32))] [(.ref a3)])) _
    refine XS.iload X3.here hx rfl (hb hby d1_11) rfl ?_
    show Steps p.tables e below (T3.setTop (mkF m 13 #[.val (.long (own_sh jb 2)), .second, .val (.int (7 : Int32)), .val (.ref a3), .val (.int (Int32.ofNat av)), .val (.int (4 : Int32))] [(.int (Int32.ofNat av)), (.ref a3)])) _
    refine XS.iload X3.here hx rfl (hb hby d1_13) rfl ?_
    show Steps p.tables e below (T3.setTop (mkF m 15 #[.val (.long (own_sh jb 2)), .second, .val (.int (7 : Int32)), .val (.ref a3), .val (.int (Int32.ofNat av)), .val (.int (4 : Int32))] [(.int (4 : Int32)), (.int (Int32.ofNat av)), (.ref a3)])) _
    refine XS.iadd X3.here hx rfl (hb hby d1_15) rfl ?_
    show Steps p.tables e below (T3.setTop (mkF m 16 #[.val (.long (own_sh jb 2)), .second, .val (.int (7 : Int32)), .val (.ref a3), .val (.int (Int32.ofNat av)), .val (.int (4 : Int32))] [(.int ((Int32.ofNat av) + (4 : Int32))), (.ref a3)])) _
    refine XS.lloadN X3.here hx rfl (hb hby d1_16) rfl ?_
    show Steps p.tables e below (T3.setTop (mkF m 17 #[.val (.long (own_sh jb 2)), .second, .val (.int (7 : Int32)), .val (.ref a3), .val (.int (Int32.ofNat av)), .val (.int (4 : Int32))] [(.long (own_sh jb 2)), (.int ((Int32.ofNat av) + (4 : Int32))), (.ref a3)])) _
    refine XS.l2i X3.here hx rfl (hb hby d1_17) rfl ?_
    show Steps p.tables e below (T3.setTop (mkF m 18 #[.val (.long (own_sh jb 2)), .second, .val (.int (7 : Int32)), .val (.ref a3), .val (.int (Int32.ofNat av)), .val (.int (4 : Int32))] [(.int ((own_sh jb 2).toInt32)), (.int ((Int32.ofNat av) + (4 : Int32))), (.ref a3)])) _
    refine XS.i2b X3.here hx rfl (hb hby d1_18) rfl ?_
    show Steps p.tables e below (T3.setTop (mkF m 19 #[.val (.long (own_sh jb 2)), .second, .val (.int (7 : Int32)), .val (.ref a3), .val (.int (Int32.ofNat av)), .val (.int (4 : Int32))] [(.int (((own_sh jb 2).toInt32).toInt8.toInt32)), (.int ((Int32.ofNat av) + (4 : Int32))), (.ref a3)])) _
    refine st5 _ ?_
    show Steps p.tables e below (T5.setTop (mkF m 20 #[.val (.long (own_sh jb 2)), .second, .val (.int (7 : Int32)), .val (.ref a3), .val (.int (Int32.ofNat av)), .val (.int (4 : Int32))] [])) _
    refine XS.lloadN X5.here hx rfl (hb hby d1_20) rfl ?_
    show Steps p.tables e below (T5.setTop (mkF m 21 #[.val (.long (own_sh jb 2)), .second, .val (.int (7 : Int32)), .val (.ref a3), .val (.int (Int32.ofNat av)), .val (.int (4 : Int32))] [(.long (own_sh jb 2))])) _
    refine XS.bipush X5.here hx rfl (hb hby d1_21) ?_
    show Steps p.tables e below (T5.setTop (mkF m 23 #[.val (.long (own_sh jb 2)), .second, .val (.int (7 : Int32)), .val (.ref a3), .val (.int (Int32.ofNat av)), .val (.int (4 : Int32))] [(.int (8 : Int32)), (.long (own_sh jb 2))])) _
    refine XS.lushr X5.here hx rfl (hb hby d1_23) rfl ?_
    show Steps p.tables e below (T5.setTop (mkF m 24 #[.val (.long (own_sh jb 2)), .second, .val (.int (7 : Int32)), .val (.ref a3), .val (.int (Int32.ofNat av)), .val (.int (4 : Int32))] [(.long (((own_sh jb 2).toUInt64 >>> ((8 : Int32) &&& 0x3f).toInt64.toUInt64).toInt64))])) _
    refine XS.lstoreN X5.here hx rfl (hb hby d1_24) rfl (l' := #[.val (.long (((own_sh jb 2).toUInt64 >>> ((8 : Int32) &&& 0x3f).toInt64.toUInt64).toInt64)), .second, .val (.int (7 : Int32)), .val (.ref a3), .val (.int (Int32.ofNat av)), .val (.int (4 : Int32))]) rfl ?_
    show Steps p.tables e below (T5.setTop (mkF m 25 #[.val (.long (((own_sh jb 2).toUInt64 >>> ((8 : Int32) &&& 0x3f).toInt64.toUInt64).toInt64)), .second, .val (.int (7 : Int32)), .val (.ref a3), .val (.int (Int32.ofNat av)), .val (.int (4 : Int32))] [])) _
    refine XS.iinc X5.here hx rfl (hb hby d1_25) rfl (l' := #[.val (.long (((own_sh jb 2).toUInt64 >>> ((8 : Int32) &&& 0x3f).toInt64.toUInt64).toInt64)), .second, .val (.int (7 : Int32)), .val (.ref a3), .val (.int (Int32.ofNat av)), .val (.int (3 : Int32))]) rfl ?_
    show Steps p.tables e below (T5.setTop (mkF m 28 #[.val (.long (((own_sh jb 2).toUInt64 >>> ((8 : Int32) &&& 0x3f).toInt64.toUInt64).toInt64)), .second, .val (.int (7 : Int32)), .val (.ref a3), .val (.int (Int32.ofNat av)), .val (.int (3 : Int32))] [])) _
    refine XS.goto X5.here hx rfl (pc0 := 28) (pc' := 5) rfl (hb hby d1_28) (by decide) (by decide) ?_
    show Steps p.tables e below (T5.setTop (mkF m 5 #[.val (.long (((own_sh jb 2).toUInt64 >>> ((8 : Int32) &&& 0x3f).toInt64.toUInt64).toInt64)), .second, .val (.int (7 : Int32)), .val (.ref a3), .val (.int (Int32.ofNat av)), .val (.int (3 : Int32))] [])) _
    rw [own_shs jb 2 (by decide)]
    show Steps p.tables e below (T5.setTop (mkF m 5 #[.val (.long (own_sh jb 3)), .second, .val (.int (7 : Int32)), .val (.ref a3), .val (.int (Int32.ofNat av)), .val (.int (3 : Int32))] [])) _
    refine XS.iload X5.here hx rfl (hb hby d1_5) rfl ?_
    show Steps p.tables e below (T5.setTop (mkF m 7 #[.val (.long (own_sh jb 3)), .second, .val (.int (7 : Int32)), .val (.ref a3), .val (.int (Int32.ofNat av)), .val (.int (3 : Int32))] [(.int (3 : Int32))])) _
    refine XS.ifNo X5.here hx rfl (hb hby d1_7) rfl ((if0 _ _).trans (flt (by decide : ¬ ((3 : Int32) < (0 : Int32)))).1) ?_
    show Steps p.tables e below (T5.setTop (mkF m 10 #[.val (.long (own_sh jb 3)), .second, .val (.int (7 : Int32)), .val (.ref a3), .val (.int (Int32.ofNat av)), .val (.int (3 : Int32))] [])) _
    refine XS.aloadN X5.here hx rfl (hb hby d1_10) rfl rfl ?_
    show Steps p.tables e below (T5.setTop (mkF m 11 #[.val (.long (own_sh jb 3)), .second, .val (.int (7 : Int32)), .val (.ref a3), .val (.int (Int32.ofNat av)), .val (.int (3 : Int32))] [(.ref a3)])) _
    refine XS.iload X5.here hx rfl (hb hby d1_11) rfl ?_
    show Steps p.tables e below (T5.setTop (mkF m 13 #[.val (.long (own_sh jb 3)), .second, .val (.int (7 : Int32)), .val (.ref a3), .val (.int (Int32.ofNat av)), .val (.int (3 : Int32))] [(.int (Int32.ofNat av)), (.ref a3)])) _
    refine XS.iload X5.here hx rfl (hb hby d1_13) rfl ?_
    show Steps p.tables e below (T5.setTop (mkF m 15 #[.val (.long (own_sh jb 3)), .second, .val (.int (7 : Int32)), .val (.ref a3), .val (.int (Int32.ofNat av)), .val (.int (3 : Int32))] [(.int (3 : Int32)), (.int (Int32.ofNat av)), (.ref a3)])) _
    refine XS.iadd X5.here hx rfl (hb hby d1_15) rfl ?_
    show Steps p.tables e below (T5.setTop (mkF m 16 #[.val (.long (own_sh jb 3)), .second, .val (.int (7 : Int32)), .val (.ref a3), .val (.int (Int32.ofNat av)), .val (.int (3 : Int32))] [(.int ((Int32.ofNat av) + (3 : Int32))), (.ref a3)])) _
    refine XS.lloadN X5.here hx rfl (hb hby d1_16) rfl ?_
    show Steps p.tables e below (T5.setTop (mkF m 17 #[.val (.long (own_sh jb 3)), .second, .val (.int (7 : Int32)), .val (.ref a3), .val (.int (Int32.ofNat av)), .val (.int (3 : Int32))] [(.long (own_sh jb 3)), (.int ((Int32.ofNat av) + (3 : Int32))), (.ref a3)])) _
    refine XS.l2i X5.here hx rfl (hb hby d1_17) rfl ?_
    show Steps p.tables e below (T5.setTop (mkF m 18 #[.val (.long (own_sh jb 3)), .second, .val (.int (7 : Int32)), .val (.ref a3), .val (.int (Int32.ofNat av)), .val (.int (3 : Int32))] [(.int ((own_sh jb 3).toInt32)), (.int ((Int32.ofNat av) + (3 : Int32))), (.ref a3)])) _
    refine XS.i2b X5.here hx rfl (hb hby d1_18) rfl ?_
    show Steps p.tables e below (T5.setTop (mkF m 19 #[.val (.long (own_sh jb 3)), .second, .val (.int (7 : Int32)), .val (.ref a3), .val (.int (Int32.ofNat av)), .val (.int (3 : Int32))] [(.int (((own_sh jb 3).toInt32).toInt8.toInt32)), (.int ((Int32.ofNat av) + (3 : Int32))), (.ref a3)])) _
    refine st7 _ ?_
    show Steps p.tables e below (T7.setTop (mkF m 20 #[.val (.long (own_sh jb 3)), .second, .val (.int (7 : Int32)), .val (.ref a3), .val (.int (Int32.ofNat av)), .val (.int (3 : Int32))] [])) _
    refine XS.lloadN X7.here hx rfl (hb hby d1_20) rfl ?_
    show Steps p.tables e below (T7.setTop (mkF m 21 #[.val (.long (own_sh jb 3)), .second, .val (.int (7 : Int32)), .val (.ref a3), .val (.int (Int32.ofNat av)), .val (.int (3 : Int32))] [(.long (own_sh jb 3))])) _
    refine XS.bipush X7.here hx rfl (hb hby d1_21) ?_
    show Steps p.tables e below (T7.setTop (mkF m 23 #[.val (.long (own_sh jb 3)), .second, .val (.int (7 : Int32)), .val (.ref a3), .val (.int (Int32.ofNat av)), .val (.int (3 : Int32))] [(.int (8 : Int32)), (.long (own_sh jb 3))])) _
    refine XS.lushr X7.here hx rfl (hb hby d1_23) rfl ?_
    show Steps p.tables e below (T7.setTop (mkF m 24 #[.val (.long (own_sh jb 3)), .second, .val (.int (7 : Int32)), .val (.ref a3), .val (.int (Int32.ofNat av)), .val (.int (3 : Int32))] [(.long (((own_sh jb 3).toUInt64 >>> ((8 : Int32) &&& 0x3f).toInt64.toUInt64).toInt64))])) _
    refine XS.lstoreN X7.here hx rfl (hb hby d1_24) rfl (l' := #[.val (.long (((own_sh jb 3).toUInt64 >>> ((8 : Int32) &&& 0x3f).toInt64.toUInt64).toInt64)), .second, .val (.int (7 : Int32)), .val (.ref a3), .val (.int (Int32.ofNat av)), .val (.int (3 : Int32))]) rfl ?_
    show Steps p.tables e below (T7.setTop (mkF m 25 #[.val (.long (((own_sh jb 3).toUInt64 >>> ((8 : Int32) &&& 0x3f).toInt64.toUInt64).toInt64)), .second, .val (.int (7 : Int32)), .val (.ref a3), .val (.int (Int32.ofNat av)), .val (.int (3 : Int32))] [])) _
    refine XS.iinc X7.here hx rfl (hb hby d1_25) rfl (l' := #[.val (.long (((own_sh jb 3).toUInt64 >>> ((8 : Int32) &&& 0x3f).toInt64.toUInt64).toInt64)), .second, .val (.int (7 : Int32)), .val (.ref a3), .val (.int (Int32.ofNat av)), .val (.int (2 : Int32))]) rfl ?_
    show Steps p.tables e below (T7.setTop (mkF m 28 #[.val (.long (((own_sh jb 3).toUInt64 >>> ((8 : Int32) &&& 0x3f).toInt64.toUInt64).toInt64)), .second, .val (.int (7 : Int32)), .val (.ref a3), .val (.int (Int32.ofNat av)), .val (.int (2 : Int32))] [])) _
    refine XS.goto X7.here hx rfl (pc0 := 28) (pc' := 5) rfl (hb hby d1_28) (by decide) (by decide) ?_
    show Steps p.tables e below (T7.setTop (mkF m 5 #[.val (.long (((own_sh jb 3).toUInt64 >>> ((8 : Int32) &&& 0x3f).toInt64.toUInt64).toInt64)), .second, .val (.int (7 : Int32)), .val (.ref a3), .val (.int (Int32.ofNat av)), .val (.int (2 : Int32))] [])) _
    rw [own_shs jb 3 (by decide)]
    show Steps p.tables e below (T7.setTop (mkF m 5 #[.val (.long (own_sh jb 4)), .second, .val (.int (7 : Int32)), .val (.ref a3), .val (.int (Int32.ofNat av)), .val (.int (2 : Int32))] [])) _
    refine XS.iload X7.here hx rfl (hb hby d1_5) rfl ?_
    show Steps p.tables e below (T7.setTop (mkF m 7 #[.val (.long (own_sh jb 4)), .second, .val (.int (7 : Int32)), .val (.ref a3), .val (.int (Int32.ofNat av)), .val (.int (2 : Int32))] [(.int (2 : Int32))])) _
    refine XS.ifNo X7.here hx rfl (hb hby d1_7) rfl ((if0 _ _).trans (flt (by decide : ¬ ((2 : Int32) < (0 : Int32)))).1) ?_
    show Steps p.tables e below (T7.setTop (mkF m 10 #[.val (.long (own_sh jb 4)), .second, .val (.int (7 : Int32)), .val (.ref a3), .val (.int (Int32.ofNat av)), .val (.int (2 : Int32))] [])) _
    refine XS.aloadN X7.here hx rfl (hb hby d1_10) rfl rfl ?_
    show Steps p.tables e below (T7.setTop (mkF m 11 #[.val (.long (own_sh jb 4)), .second, .val (.int (7 : Int32)), .val (.ref a3), .val (.int (Int32.ofNat av)), .val (.int (2 : Int32))] [(.ref a3)])) _
    refine XS.iload X7.here hx rfl (hb hby d1_11) rfl ?_
    show Steps p.tables e below (T7.setTop (mkF m 13 #[.val (.long (own_sh jb 4)), .second, .val (.int (7 : Int32)), .val (.ref a3), .val (.int (Int32.ofNat av)), .val (.int (2 : Int32))] [(.int (Int32.ofNat av)), (.ref a3)])) _
    refine XS.iload X7.here hx rfl (hb hby d1_13) rfl ?_
    show Steps p.tables e below (T7.setTop (mkF m 15 #[.val (.long (own_sh jb 4)), .second, .val (.int (7 : Int32)), .val (.ref a3), .val (.int (Int32.ofNat av)), .val (.int (2 : Int32))] [(.int (2 : Int32)), (.int (Int32.ofNat av)), (.ref a3)])) _
    refine XS.iadd X7.here hx rfl (hb hby d1_15) rfl ?_
    show Steps p.tables e below (T7.setTop (mkF m 16 #[.val (.long (own_sh jb 4)), .second, .val (.int (7 : Int32)), .val (.ref a3), .val (.int (Int32.ofNat av)), .val (.int (2 : Int32))] [(.int ((Int32.ofNat av) + (2 : Int32))), (.ref a3)])) _
    refine XS.lloadN X7.here hx rfl (hb hby d1_16) rfl ?_
    show Steps p.tables e below (T7.setTop (mkF m 17 #[.val (.long (own_sh jb 4)), .second, .val (.int (7 : Int32)), .val (.ref a3), .val (.int (Int32.ofNat av)), .val (.int (2 : Int32))] [(.long (own_sh jb 4)), (.int ((Int32.ofNat av) + (2 : Int32))), (.ref a3)])) _
    refine XS.l2i X7.here hx rfl (hb hby d1_17) rfl ?_
    show Steps p.tables e below (T7.setTop (mkF m 18 #[.val (.long (own_sh jb 4)), .second, .val (.int (7 : Int32)), .val (.ref a3), .val (.int (Int32.ofNat av)), .val (.int (2 : Int32))] [(.int ((own_sh jb 4).toInt32)), (.int ((Int32.ofNat av) + (2 : Int32))), (.ref a3)])) _
    refine XS.i2b X7.here hx rfl (hb hby d1_18) rfl ?_
    show Steps p.tables e below (T7.setTop (mkF m 19 #[.val (.long (own_sh jb 4)), .second, .val (.int (7 : Int32)), .val (.ref a3), .val (.int (Int32.ofNat av)), .val (.int (2 : Int32))] [(.int (((own_sh jb 4).toInt32).toInt8.toInt32)), (.int ((Int32.ofNat av) + (2 : Int32))), (.ref a3)])) _
    refine st9 _ ?_
    show Steps p.tables e below (T9.setTop (mkF m 20 #[.val (.long (own_sh jb 4)), .second, .val (.int (7 : Int32)), .val (.ref a3), .val (.int (Int32.ofNat av)), .val (.int (2 : Int32))] [])) _
    refine XS.lloadN X9.here hx rfl (hb hby d1_20) rfl ?_
    show Steps p.tables e below (T9.setTop (mkF m 21 #[.val (.long (own_sh jb 4)), .second, .val (.int (7 : Int32)), .val (.ref a3), .val (.int (Int32.ofNat av)), .val (.int (2 : Int32))] [(.long (own_sh jb 4))])) _
    refine XS.bipush X9.here hx rfl (hb hby d1_21) ?_
    show Steps p.tables e below (T9.setTop (mkF m 23 #[.val (.long (own_sh jb 4)), .second, .val (.int (7 : Int32)), .val (.ref a3), .val (.int (Int32.ofNat av)), .val (.int (2 : Int32))] [(.int (8 : Int32)), (.long (own_sh jb 4))])) _
    refine XS.lushr X9.here hx rfl (hb hby d1_23) rfl ?_
    show Steps p.tables e below (T9.setTop (mkF m 24 #[.val (.long (own_sh jb 4)), .second, .val (.int (7 : Int32)), .val (.ref a3), .val (.int (Int32.ofNat av)), .val (.int (2 : Int32))] [(.long (((own_sh jb 4).toUInt64 >>> ((8 : Int32) &&& 0x3f).toInt64.toUInt64).toInt64))])) _
    refine XS.lstoreN X9.here hx rfl (hb hby d1_24) rfl (l' := #[.val (.long (((own_sh jb 4).toUInt64 >>> ((8 : Int32) &&& 0x3f).toInt64.toUInt64).toInt64)), .second, .val (.int (7 : Int32)), .val (.ref a3), .val (.int (Int32.ofNat av)), .val (.int (2 : Int32))]) rfl ?_
    show Steps p.tables e below (T9.setTop (mkF m 25 #[.val (.long (((own_sh jb 4).toUInt64 >>> ((8 : Int32) &&& 0x3f).toInt64.toUInt64).toInt64)), .second, .val (.int (7 : Int32)), .val (.ref a3), .val (.int (Int32.ofNat av)), .val (.int (2 : Int32))] [])) _
    refine XS.iinc X9.here hx rfl (hb hby d1_25) rfl (l' := #[.val (.long (((own_sh jb 4).toUInt64 >>> ((8 : Int32) &&& 0x3f).toInt64.toUInt64).toInt64)), .second, .val (.int (7 : Int32)), .val (.ref a3), .val (.int (Int32.ofNat av)), .val (.int (1 : Int32))]) rfl ?_
    show Steps p.tables e below (T9.setTop (mkF m 28 #[.val (.long (((own_sh jb 4).toUInt64 >>> ((8 : Int32) &&& 0x3f).toInt64.toUInt64).toInt64)), .second, .val (.int (7 : Int32)), .val (.ref a3), .val (.int (Int32.ofNat av)), .val (.int (1 : Int32))] [])) _
    refine XS.goto X9.here hx rfl (pc0 := 28) (pc' := 5) rfl (hb hby d1_28) (by decide) (by decide) ?_
    show Steps p.tables e below (T9.setTop (mkF m 5 #[.val (.long (((own_sh jb 4).toUInt64 >>> ((8 : Int32) &&& 0x3f).toInt64.toUInt64).toInt64)), .second, .val (.int (7 : Int32)), .val (.ref a3), .val (.int (Int32.ofNat av)), .val (.int (1 : Int32))] [])) _
    rw [own_shs jb 4 (by decide)]
    show Steps p.tables e below (T9.setTop (mkF m 5 #[.val (.long (own_sh jb 5)), .second, .val (.int (7 : Int32)), .val (.ref a3), .val (.int (Int32.ofNat av)), .val (.int (1 : Int32))] [])) _
    refine XS.iload X9.here hx rfl (hb hby d1_5) rfl ?_
    show Steps p.tables e below (T9.setTop (mkF m 7 #[.val (.long (own_sh jb 5)), .second, .val (.int (7 : Int32)), .val (.ref a3), .val (.int (Int32.ofNat av)), .val (.int (1 : Int32))] [(.int (1 : Int32))])) _
    refine XS.ifNo X9.here hx rfl (hb hby d1_7) rfl ((if0 _ _).trans (flt (by decide : ¬ ((1 : Int32) < (0 : Int32)))).1) ?_
    show Steps p.tables e below (T9.setTop (mkF m 10 #[.val (.long (own_sh jb 5)), .second, .val (.int (7 : Int32)), .val (.ref a3), .val (.int (Int32.ofNat av)), .val (.int (1 : Int32))] [])) _
    refine XS.aloadN X9.here hx rfl (hb hby d1_10) rfl rfl ?_
    show Steps p.tables e below (T9.setTop (mkF m 11 #[.val (.long (own_sh jb 5)), .second, .val (.int (7 : Int32)), .val (.ref a3), .val (.int (Int32.ofNat av)), .val (.int (1 : Int32))] [(.ref a3)])) _
    refine XS.iload X9.here hx rfl (hb hby d1_11) rfl ?_
    show Steps p.tables e below (T9.setTop (mkF m 13 #[.val (.long (own_sh jb 5)), .second, .val (.int (7 : Int32)), .val (.ref a3), .val (.int (Int32.ofNat av)), .val (.int (1 : Int32))] [(.int (Int32.ofNat av)), (.ref a3)])) _
    refine XS.iload X9.here hx rfl (hb hby d1_13) rfl ?_
    show Steps p.tables e below (T9.setTop (mkF m 15 #[.val (.long (own_sh jb 5)), .second, .val (.int (7 : Int32)), .val (.ref a3), .val (.int (Int32.ofNat av)), .val (.int (1 : Int32))] [(.int (1 : Int32)), (.int (Int32.ofNat av)), (.ref a3)])) _
    refine XS.iadd X9.here hx rfl (hb hby d1_15) rfl ?_
    show Steps p.tables e below (T9.setTop (mkF m 16 #[.val (.long (own_sh jb 5)), .second, .val (.int (7 : Int32)), .val (.ref a3), .val (.int (Int32.ofNat av)), .val (.int (1 : Int32))] [(.int ((Int32.ofNat av) + (1 : Int32))), (.ref a3)])) _
    refine XS.lloadN X9.here hx rfl (hb hby d1_16) rfl ?_
    show Steps p.tables e below (T9.setTop (mkF m 17 #[.val (.long (own_sh jb 5)), .second, .val (.int (7 : Int32)), .val (.ref a3), .val (.int (Int32.ofNat av)), .val (.int (1 : Int32))] [(.long (own_sh jb 5)), (.int ((Int32.ofNat av) + (1 : Int32))), (.ref a3)])) _
    refine XS.l2i X9.here hx rfl (hb hby d1_17) rfl ?_
    show Steps p.tables e below (T9.setTop (mkF m 18 #[.val (.long (own_sh jb 5)), .second, .val (.int (7 : Int32)), .val (.ref a3), .val (.int (Int32.ofNat av)), .val (.int (1 : Int32))] [(.int ((own_sh jb 5).toInt32)), (.int ((Int32.ofNat av) + (1 : Int32))), (.ref a3)])) _
    refine XS.i2b X9.here hx rfl (hb hby d1_18) rfl ?_
    show Steps p.tables e below (T9.setTop (mkF m 19 #[.val (.long (own_sh jb 5)), .second, .val (.int (7 : Int32)), .val (.ref a3), .val (.int (Int32.ofNat av)), .val (.int (1 : Int32))] [(.int (((own_sh jb 5).toInt32).toInt8.toInt32)), (.int ((Int32.ofNat av) + (1 : Int32))), (.ref a3)])) _
    refine st11 _ ?_
    show Steps p.tables e below (T11.setTop (mkF m 20 #[.val (.long (own_sh jb 5)), .second, .val (.int (7 : Int32)), .val (.ref a3), .val (.int (Int32.ofNat av)), .val (.int (1 : Int32))] [])) _
    refine XS.lloadN X11.here hx rfl (hb hby d1_20) rfl ?_
    show Steps p.tables e below (T11.setTop (mkF m 21 #[.val (.long (own_sh jb 5)), .second, .val (.int (7 : Int32)), .val (.ref a3), .val (.int (Int32.ofNat av)), .val (.int (1 : Int32))] [(.long (own_sh jb 5))])) _
    refine XS.bipush X11.here hx rfl (hb hby d1_21) ?_
    show Steps p.tables e below (T11.setTop (mkF m 23 #[.val (.long (own_sh jb 5)), .second, .val (.int (7 : Int32)), .val (.ref a3), .val (.int (Int32.ofNat av)), .val (.int (1 : Int32))] [(.int (8 : Int32)), (.long (own_sh jb 5))])) _
    refine XS.lushr X11.here hx rfl (hb hby d1_23) rfl ?_
    show Steps p.tables e below (T11.setTop (mkF m 24 #[.val (.long (own_sh jb 5)), .second, .val (.int (7 : Int32)), .val (.ref a3), .val (.int (Int32.ofNat av)), .val (.int (1 : Int32))] [(.long (((own_sh jb 5).toUInt64 >>> ((8 : Int32) &&& 0x3f).toInt64.toUInt64).toInt64))])) _
    refine XS.lstoreN X11.here hx rfl (hb hby d1_24) rfl (l' := #[.val (.long (((own_sh jb 5).toUInt64 >>> ((8 : Int32) &&& 0x3f).toInt64.toUInt64).toInt64)), .second, .val (.int (7 : Int32)), .val (.ref a3), .val (.int (Int32.ofNat av)), .val (.int (1 : Int32))]) rfl ?_
    show Steps p.tables e below (T11.setTop (mkF m 25 #[.val (.long (((own_sh jb 5).toUInt64 >>> ((8 : Int32) &&& 0x3f).toInt64.toUInt64).toInt64)), .second, .val (.int (7 : Int32)), .val (.ref a3), .val (.int (Int32.ofNat av)), .val (.int (1 : Int32))] [])) _
    refine XS.iinc X11.here hx rfl (hb hby d1_25) rfl (l' := #[.val (.long (((own_sh jb 5).toUInt64 >>> ((8 : Int32) &&& 0x3f).toInt64.toUInt64).toInt64)), .second, .val (.int (7 : Int32)), .val (.ref a3), .val (.int (Int32.ofNat av)), .val (.int (0 : Int32))]) rfl ?_
    show Steps p.tables e below (T11.setTop (mkF m 28 #[.val (.long (((own_sh jb 5).toUInt64 >>> ((8 : Int32) &&& 0x3f).toInt64.toUInt64).toInt64)), .second, .val (.int (7 : Int32)), .val (.ref a3), .val (.int (Int32.ofNat av)), .val (.int (0 : Int32))] [])) _
    refine XS.goto X11.here hx rfl (pc0 := 28) (pc' := 5) rfl (hb hby d1_28) (by decide) (by decide) ?_
    show Steps p.tables e below (T11.setTop (mkF m 5 #[.val (.long (((own_sh jb 5).toUInt64 >>> ((8 : Int32) &&& 0x3f).toInt64.toUInt64).toInt64)), .second, .val (.int (7 : Int32)), .val (.ref a3), .val (.int (Int32.ofNat av)), .val (.int (0 : Int32))] [])) _
    rw [own_shs jb 5 (by decide)]
    show Steps p.tables e below (T11.setTop (mkF m 5 #[.val (.long (own_sh jb 6)), .second, .val (.int (7 : Int32)), .val (.ref a3), .val (.int (Int32.ofNat av)), .val (.int (0 : Int32))] [])) _
    refine XS.iload X11.here hx rfl (hb hby d1_5) rfl ?_
    show Steps p.tables e below (T11.setTop (mkF m 7 #[.val (.long (own_sh jb 6)), .second, .val (.int (7 : Int32)), .val (.ref a3), .val (.int (Int32.ofNat av)), .val (.int (0 : Int32))] [(.int (0 : Int32))])) _
    refine XS.ifNo X11.here hx rfl (hb hby d1_7) rfl ((if0 _ _).trans (flt (by decide : ¬ ((0 : Int32) < (0 : Int32)))).1) ?_
    show Steps p.tables e below (T11.setTop (mkF m 10 #[.val (.long (own_sh jb 6)), .second, .val (.int (7 : Int32)), .val (.ref a3), .val (.int (Int32.ofNat av)), .val (.int (0 : Int32))] [])) _
    refine XS.aloadN X11.here hx rfl (hb hby d1_10) rfl rfl ?_
    show Steps p.tables e below (T11.setTop (mkF m 11 #[.val (.long (own_sh jb 6)), .second, .val (.int (7 : Int32)), .val (.ref a3), .val (.int (Int32.ofNat av)), .val (.int (0 : Int32))] [(.ref a3)])) _
    refine XS.iload X11.here hx rfl (hb hby d1_11) rfl ?_
    show Steps p.tables e below (T11.setTop (mkF m 13 #[.val (.long (own_sh jb 6)), .second, .val (.int (7 : Int32)), .val (.ref a3), .val (.int (Int32.ofNat av)), .val (.int (0 : Int32))] [(.int (Int32.ofNat av)), (.ref a3)])) _
    refine XS.iload X11.here hx rfl (hb hby d1_13) rfl ?_
    show Steps p.tables e below (T11.setTop (mkF m 15 #[.val (.long (own_sh jb 6)), .second, .val (.int (7 : Int32)), .val (.ref a3), .val (.int (Int32.ofNat av)), .val (.int (0 : Int32))] [(.int (0 : Int32)), (.int (Int32.ofNat av)), (.ref a3)])) _
    refine XS.iadd X11.here hx rfl (hb hby d1_15) rfl ?_
    show Steps p.tables e below (T11.setTop (mkF m 16 #[.val (.long (own_sh jb 6)), .second, .val (.int (7 : Int32)), .val (.ref a3), .val (.int (Int32.ofNat av)), .val (.int (0 : Int32))] [(.int ((Int32.ofNat av) + (0 : Int32))), (.ref a3)])) _
    refine XS.lloadN X11.here hx rfl (hb hby d1_16) rfl ?_
    show Steps p.tables e below (T11.setTop (mkF m 17 #[.val (.long (own_sh jb 6)), .second, .val (.int (7 : Int32)), .val (.ref a3), .val (.int (Int32.ofNat av)), .val (.int (0 : Int32))] [(.long (own_sh jb 6)), (.int ((Int32.ofNat av) + (0 : Int32))), (.ref a3)])) _
    refine XS.l2i X11.here hx rfl (hb hby d1_17) rfl ?_
    show Steps p.tables e below (T11.setTop (mkF m 18 #[.val (.long (own_sh jb 6)), .second, .val (.int (7 : Int32)), .val (.ref a3), .val (.int (Int32.ofNat av)), .val (.int (0 : Int32))] [(.int ((own_sh jb 6).toInt32)), (.int ((Int32.ofNat av) + (0 : Int32))), (.ref a3)])) _
    refine XS.i2b X11.here hx rfl (hb hby d1_18) rfl ?_
    show Steps p.tables e below (T11.setTop (mkF m 19 #[.val (.long (own_sh jb 6)), .second, .val (.int (7 : Int32)), .val (.ref a3), .val (.int (Int32.ofNat av)), .val (.int (0 : Int32))] [(.int (((own_sh jb 6).toInt32).toInt8.toInt32)), (.int ((Int32.ofNat av) + (0 : Int32))), (.ref a3)])) _
    refine st13 _ ?_
    show Steps p.tables e below (T13.setTop (mkF m 20 #[.val (.long (own_sh jb 6)), .second, .val (.int (7 : Int32)), .val (.ref a3), .val (.int (Int32.ofNat av)), .val (.int (0 : Int32))] [])) _
    refine XS.lloadN X13.here hx rfl (hb hby d1_20) rfl ?_
    show Steps p.tables e below (T13.setTop (mkF m 21 #[.val (.long (own_sh jb 6)), .second, .val (.int (7 : Int32)), .val (.ref a3), .val (.int (Int32.ofNat av)), .val (.int (0 : Int32))] [(.long (own_sh jb 6))])) _
    refine XS.bipush X13.here hx rfl (hb hby d1_21) ?_
    show Steps p.tables e below (T13.setTop (mkF m 23 #[.val (.long (own_sh jb 6)), .second, .val (.int (7 : Int32)), .val (.ref a3), .val (.int (Int32.ofNat av)), .val (.int (0 : Int32))] [(.int (8 : Int32)), (.long (own_sh jb 6))])) _
    refine XS.lushr X13.here hx rfl (hb hby d1_23) rfl ?_
    show Steps p.tables e below (T13.setTop (mkF m 24 #[.val (.long (own_sh jb 6)), .second, .val (.int (7 : Int32)), .val (.ref a3), .val (.int (Int32.ofNat av)), .val (.int (0 : Int32))] [(.long (((own_sh jb 6).toUInt64 >>> ((8 : Int32) &&& 0x3f).toInt64.toUInt64).toInt64))])) _
    refine XS.lstoreN X13.here hx rfl (hb hby d1_24) rfl (l' := #[.val (.long (((own_sh jb 6).toUInt64 >>> ((8 : Int32) &&& 0x3f).toInt64.toUInt64).toInt64)), .second, .val (.int (7 : Int32)), .val (.ref a3), .val (.int (Int32.ofNat av)), .val (.int (0 : Int32))]) rfl ?_
    show Steps p.tables e below (T13.setTop (mkF m 25 #[.val (.long (((own_sh jb 6).toUInt64 >>> ((8 : Int32) &&& 0x3f).toInt64.toUInt64).toInt64)), .second, .val (.int (7 : Int32)), .val (.ref a3), .val (.int (Int32.ofNat av)), .val (.int (0 : Int32))] [])) _
    refine XS.iinc X13.here hx rfl (hb hby d1_25) rfl (l' := #[.val (.long (((own_sh jb 6).toUInt64 >>> ((8 : Int32) &&& 0x3f).toInt64.toUInt64).toInt64)), .second, .val (.int (7 : Int32)), .val (.ref a3), .val (.int (Int32.ofNat av)), .val (.int (-1 : Int32))]) rfl ?_
    show Steps p.tables e below (T13.setTop (mkF m 28 #[.val (.long (((own_sh jb 6).toUInt64 >>> ((8 : Int32) &&& 0x3f).toInt64.toUInt64).toInt64)), .second, .val (.int (7 : Int32)), .val (.ref a3), .val (.int (Int32.ofNat av)), .val (.int (-1 : Int32))] [])) _
    refine XS.goto X13.here hx rfl (pc0 := 28) (pc' := 5) rfl (hb hby d1_28) (by decide) (by decide) ?_
    show Steps p.tables e below (T13.setTop (mkF m 5 #[.val (.long (((own_sh jb 6).toUInt64 >>> ((8 : Int32) &&& 0x3f).toInt64.toUInt64).toInt64)), .second, .val (.int (7 : Int32)), .val (.ref a3), .val (.int (Int32.ofNat av)), .val (.int (-1 : Int32))] [])) _
    rw [own_shs jb 6 (by decide)]
    show Steps p.tables e below (T13.setTop (mkF m 5 #[.val (.long (own_sh jb 7)), .second, .val (.int (7 : Int32)), .val (.ref a3), .val (.int (Int32.ofNat av)), .val (.int (-1 : Int32))] [])) _
    refine XS.iload X13.here hx rfl (hb hby d1_5) rfl ?_
    show Steps p.tables e below (T13.setTop (mkF m 7 #[.val (.long (own_sh jb 7)), .second, .val (.int (7 : Int32)), .val (.ref a3), .val (.int (Int32.ofNat av)), .val (.int (-1 : Int32))] [(.int (-1 : Int32))])) _
    refine XS.ifYes X13.here hx rfl (pc0 := 7) (pc' := 31) rfl (hb hby d1_7) rfl ((if0 _ _).trans (tlt (by decide : ((-1 : Int32) < (0 : Int32)))).1) (by decide) (by decide) ?_
    show Steps p.tables e below (T13.setTop (mkF m 31 #[.val (.long (own_sh jb 7)), .second, .val (.int (7 : Int32)), .val (.ref a3), .val (.int (Int32.ofNat av)), .val (.int (-1 : Int32))] [])) _
    exact X13.returnOut hx Bd.returns (hb hby d1_31) hr
  · show QP Z jb (7 : Int32) a3 av k1 f h0 n0 _ T13.heap _
    rw [e13]
    exact ⟨rfl, N13, K13, own_g7 jb av f ha ▸ U13⟩
theorem own_g8 (jb : Int64) (av : Nat) (f : Nat → Int32) (h : av ≤ 3) : own_vals (own_upd (own_upd (own_upd (own_upd (own_upd (own_upd (own_upd (own_upd f (av + 7) (own_by (own_sh jb 0))) (av + 6) (own_by (own_sh jb 1))) (av + 5) (own_by (own_sh jb 2))) (av + 4) (own_by (own_sh jb 3))) (av + 3) (own_by (own_sh jb 4))) (av + 2) (own_by (own_sh jb 5))) (av + 1) (own_by (own_sh jb 6))) (av + 0) (own_by (own_sh jb 7))) = own_vals (own_put f jb (8 : Int32) (Int32.ofNat av)) := own_gp f jb av 8 (by decide) h
theorem ef_1_8 (m : MethodId) (jb : Int64) (a3 : Addr) : entryFrame m #[(.long jb), (.int (8 : Int32)), (.ref a3), (.int (Int32.ofNat av))] 6 = mkF m 0 #[.val (.long jb), .second, .val (.int (8 : Int32)), .val (.ref a3), .val (.int (Int32.ofNat av)), .unset] [] := by first | (simp [entryFrame, mkF, argsToLocals, Value.category]; done) | rfl
set_option maxRecDepth 65536 in
set_option maxHeartbeats 40000000 in
theorem rm1_8 (l : Launch) (Z : State) (a0 : Array Value) (hw : ∀ d ∈ tables_1, d.before a0 Z = true) (ws : List Jvm.Cond) (jb : Int64) (a3 : Addr) (av : Nat) (k1 : ClassId) (f : Nat → Int32) (h0 : Heap) (n0 : Nat) (Z0 : n0 ≤ h0.size) (ha : av ≤ 3) (V_1 : Arv Z h0 a3 k1 .byte (12 : Int32) (own_vals f) (.int (0 : Int32))) (g_a3 : n0 ≤ a3) :
    MetFree l (⟨"com/example/backstitch/backstitch/stream/StreamTable", "putBits", "(JI[BI)V"⟩ : MethodName) (head1 (Jvm.Cond.code (⟨"com/example/backstitch/backstitch/stream/StreamTable", "putBits", "(JI[BI)V"⟩ : MethodName) prog_55_method_40_code 6 none :: ws) ({ frames := 0, cells := 0, slots := 0, locals := 0 } : Room)) (fun a U => a = #[(.long jb), (.int (8 : Int32)), (.ref a3), (.int (Int32.ofNat av))] ∧ Z.Warmed39 U.vm ∧ U.heap = h0) (fun _ _ _ _ _ => True) (fun _ U o U' => ∃ v L, o = .returned v ∧ QP Z jb (8 : Int32) a3 av k1 f h0 n0 v U'.heap L ∧ FrameEnd U o U' L ({ frames := 0, cells := 0, slots := 0, locals := 0 } : Room).cells ({ frames := 0, cells := 0, slots := 0, locals := 0 } : Room).slots) := by
  refine MetFree.of_bodySF (plainFor_of_name pn_1) hisR ?_
  intro p e s m args below meth c s₁ Bd hml0 hP hK
  obtain ⟨rfl, hZ, hh⟩ := hP
  have hx := Bd.exec
  have hby := Bd.bytes
  have hml : c.maxLocals = 6 := hml0
  have hown : s.vm.findClass "com/example/backstitch/backstitch/stream/StreamTable" = some m.cls := findClass_of_methodNamed Bd.named
  have hnm := (name_of_methodNamed Bd.named Bd.method).1
  have X0 : Stand p l e ({ frames := 0, cells := 0, slots := 0, locals := 0 } : Room) s m #[(.long jb), (.int (8 : Int32)), (.ref a3), (.int (Int32.ofNat av))] below meth c s₁ [] 0 0 := Stand.of_body Bd
  have e0 : s₁.heap = h0 := by rw [← hh, Bd.state]; rfl
  have N0 := Fr.nil n0
  have pre0 : ∀ t, Steps p.tables e below (s₁.setTop (mkF m 0 #[.val (.long jb), .second, .val (.int (8 : Int32)), .val (.ref a3), .val (.int (Int32.ofNat av)), .unset] [])) t → Steps p.tables e below (s₁.setTop (entryFrame m #[(.long jb), (.int (8 : Int32)), (.ref a3), (.int (Int32.ofNat av))] 6)) t := fun t k => castTop (ef_1_8 m jb a3) k
  have K0 : Keep h0 h0 [a3] := Keep.refl h0 [a3]
  obtain ⟨cl1, Ar1, q1, S1, M1, H1, G1⟩ := id V_1
  have hin1 : ¬ (((Int32.ofNat av) + (7 : Int32)) < 0 ∨ cl1.slots.size ≤ (((Int32.ofNat av) + (7 : Int32))).toNatClampNeg) := inb_of S1 (own_in av ha 7 (by decide)).1
  obtain ⟨T1, h1, X1, e1, W1, st1⟩ := stB X0 hx hZ e0 Ar1 (j := ((Int32.ofNat av) + (7 : Int32))) hin1 (g := (mkF m 19 #[.val (.long (own_sh jb 0)), .second, .val (.int (8 : Int32)), .val (.ref a3), .val (.int (Int32.ofNat av)), .val (.int (7 : Int32))] [(.int (((own_sh jb 0).toInt32).toInt8.toInt32)), (.int ((Int32.ofNat av) + (7 : Int32))), (.ref a3)])) rfl rfl (hb hby d1_19)
  have V1 := Arv.set Ar1 q1 S1 M1 H1 G1 (fits_nar_byte _) W1 (av + 7) (own_in av ha 7 (by decide)).2.1 (own_in av ha 7 (by decide)).2.2
  have K1 : Keep h0 h1 [a3] := K0.wr W1 (Or.inl (List.mem_of_getElem? (i := 0) rfl))
  have N1 := Fr.snoc X1 N0 g_a3
  have Z1 : n0 ≤ h1.size := Nat.le_trans Z0 (Keep.of_wr W1).1
  have U1 : Arv Z h1 a3 k1 .byte (12 : Int32) (own_vals (own_upd f (av + 7) (own_by (own_sh jb 0)))) (.int (0 : Int32)) := by rw [← own_set _ _ _ (own_in av ha 7 (by decide)).2.2]; exact V1
  obtain ⟨cl3, Ar3, q3, S3, M3, H3, G3⟩ := id U1
  have hin3 : ¬ (((Int32.ofNat av) + (6 : Int32)) < 0 ∨ cl3.slots.size ≤ (((Int32.ofNat av) + (6 : Int32))).toNatClampNeg) := inb_of S3 (own_in av ha 6 (by decide)).1
  obtain ⟨T3, h3, X3, e3, W3, st3⟩ := stB X1 hx hZ e1 Ar3 (j := ((Int32.ofNat av) + (6 : Int32))) hin3 (g := (mkF m 19 #[.val (.long (own_sh jb 1)), .second, .val (.int (8 : Int32)), .val (.ref a3), .val (.int (Int32.ofNat av)), .val (.int (6 : Int32))] [(.int (((own_sh jb 1).toInt32).toInt8.toInt32)), (.int ((Int32.ofNat av) + (6 : Int32))), (.ref a3)])) rfl rfl (hb hby d1_19)
  have V3 := Arv.set Ar3 q3 S3 M3 H3 G3 (fits_nar_byte _) W3 (av + 6) (own_in av ha 6 (by decide)).2.1 (own_in av ha 6 (by decide)).2.2
  have K3 : Keep h0 h3 [a3] := K1.wr W3 (Or.inl (List.mem_of_getElem? (i := 0) rfl))
  have N3 := Fr.snoc X3 N1 g_a3
  have Z3 : n0 ≤ h3.size := Nat.le_trans Z1 (Keep.of_wr W3).1
  have U3 : Arv Z h3 a3 k1 .byte (12 : Int32) (own_vals (own_upd (own_upd f (av + 7) (own_by (own_sh jb 0))) (av + 6) (own_by (own_sh jb 1)))) (.int (0 : Int32)) := by rw [← own_set _ _ _ (own_in av ha 6 (by decide)).2.2]; exact V3
  obtain ⟨cl5, Ar5, q5, S5, M5, H5, G5⟩ := id U3
  have hin5 : ¬ (((Int32.ofNat av) + (5 : Int32)) < 0 ∨ cl5.slots.size ≤ (((Int32.ofNat av) + (5 : Int32))).toNatClampNeg) := inb_of S5 (own_in av ha 5 (by decide)).1
  obtain ⟨T5, h5, X5, e5, W5, st5⟩ := stB X3 hx hZ e3 Ar5 (j := ((Int32.ofNat av) + (5 : Int32))) hin5 (g := (mkF m 19 #[.val (.long (own_sh jb 2)), .second, .val (.int (8 : Int32)), .val (.ref a3), .val (.int (Int32.ofNat av)), .val (.int (5 : Int32))] [(.int (((own_sh jb 2).toInt32).toInt8.toInt32)), (.int ((Int32.ofNat av) + (5 : Int32))), (.ref a3)])) rfl rfl (hb hby d1_19)
  have V5 := Arv.set Ar5 q5 S5 M5 H5 G5 (fits_nar_byte _) W5 (av + 5) (own_in av ha 5 (by decide)).2.1 (own_in av ha 5 (by decide)).2.2
  have K5 : Keep h0 h5 [a3] := K3.wr W5 (Or.inl (List.mem_of_getElem? (i := 0) rfl))
  have N5 := Fr.snoc X5 N3 g_a3
  have Z5 : n0 ≤ h5.size := Nat.le_trans Z3 (Keep.of_wr W5).1
  have U5 : Arv Z h5 a3 k1 .byte (12 : Int32) (own_vals (own_upd (own_upd (own_upd f (av + 7) (own_by (own_sh jb 0))) (av + 6) (own_by (own_sh jb 1))) (av + 5) (own_by (own_sh jb 2)))) (.int (0 : Int32)) := by rw [← own_set _ _ _ (own_in av ha 5 (by decide)).2.2]; exact V5
  obtain ⟨cl7, Ar7, q7, S7, M7, H7, G7⟩ := id U5
  have hin7 : ¬ (((Int32.ofNat av) + (4 : Int32)) < 0 ∨ cl7.slots.size ≤ (((Int32.ofNat av) + (4 : Int32))).toNatClampNeg) := inb_of S7 (own_in av ha 4 (by decide)).1
  obtain ⟨T7, h7, X7, e7, W7, st7⟩ := stB X5 hx hZ e5 Ar7 (j := ((Int32.ofNat av) + (4 : Int32))) hin7 (g := (mkF m 19 #[.val (.long (own_sh jb 3)), .second, .val (.int (8 : Int32)), .val (.ref a3), .val (.int (Int32.ofNat av)), .val (.int (4 : Int32))] [(.int (((own_sh jb 3).toInt32).toInt8.toInt32)), (.int ((Int32.ofNat av) + (4 : Int32))), (.ref a3)])) rfl rfl (hb hby d1_19)
  have V7 := Arv.set Ar7 q7 S7 M7 H7 G7 (fits_nar_byte _) W7 (av + 4) (own_in av ha 4 (by decide)).2.1 (own_in av ha 4 (by decide)).2.2
  have K7 : Keep h0 h7 [a3] := K5.wr W7 (Or.inl (List.mem_of_getElem? (i := 0) rfl))
  have N7 := Fr.snoc X7 N5 g_a3
  have Z7 : n0 ≤ h7.size := Nat.le_trans Z5 (Keep.of_wr W7).1
  have U7 : Arv Z h7 a3 k1 .byte (12 : Int32) (own_vals (own_upd (own_upd (own_upd (own_upd f (av + 7) (own_by (own_sh jb 0))) (av + 6) (own_by (own_sh jb 1))) (av + 5) (own_by (own_sh jb 2))) (av + 4) (own_by (own_sh jb 3)))) (.int (0 : Int32)) := by rw [← own_set _ _ _ (own_in av ha 4 (by decide)).2.2]; exact V7
  obtain ⟨cl9, Ar9, q9, S9, M9, H9, G9⟩ := id U7
  have hin9 : ¬ (((Int32.ofNat av) + (3 : Int32)) < 0 ∨ cl9.slots.size ≤ (((Int32.ofNat av) + (3 : Int32))).toNatClampNeg) := inb_of S9 (own_in av ha 3 (by decide)).1
  obtain ⟨T9, h9, X9, e9, W9, st9⟩ := stB X7 hx hZ e7 Ar9 (j := ((Int32.ofNat av) + (3 : Int32))) hin9 (g := (mkF m 19 #[.val (.long (own_sh jb 4)), .second, .val (.int (8 : Int32)), .val (.ref a3), .val (.int (Int32.ofNat av)), .val (.int (3 : Int32))] [(.int (((own_sh jb 4).toInt32).toInt8.toInt32)), (.int ((Int32.ofNat av) + (3 : Int32))), (.ref a3)])) rfl rfl (hb hby d1_19)
  have V9 := Arv.set Ar9 q9 S9 M9 H9 G9 (fits_nar_byte _) W9 (av + 3) (own_in av ha 3 (by decide)).2.1 (own_in av ha 3 (by decide)).2.2
  have K9 : Keep h0 h9 [a3] := K7.wr W9 (Or.inl (List.mem_of_getElem? (i := 0) rfl))
  have N9 := Fr.snoc X9 N7 g_a3
  have Z9 : n0 ≤ h9.size := Nat.le_trans Z7 (Keep.of_wr W9).1
  have U9 : Arv Z h9 a3 k1 .byte (12 : Int32) (own_vals (own_upd (own_upd (own_upd (own_upd (own_upd f (av + 7) (own_by (own_sh jb 0))) (av + 6) (own_by (own_sh jb 1))) (av + 5) (own_by (own_sh jb 2))) (av + 4) (own_by (own_sh jb 3))) (av + 3) (own_by (own_sh jb 4)))) (.int (0 : Int32)) := by rw [← own_set _ _ _ (own_in av ha 3 (by decide)).2.2]; exact V9
  obtain ⟨cl11, Ar11, q11, S11, M11, H11, G11⟩ := id U9
  have hin11 : ¬ (((Int32.ofNat av) + (2 : Int32)) < 0 ∨ cl11.slots.size ≤ (((Int32.ofNat av) + (2 : Int32))).toNatClampNeg) := inb_of S11 (own_in av ha 2 (by decide)).1
  obtain ⟨T11, h11, X11, e11, W11, st11⟩ := stB X9 hx hZ e9 Ar11 (j := ((Int32.ofNat av) + (2 : Int32))) hin11 (g := (mkF m 19 #[.val (.long (own_sh jb 5)), .second, .val (.int (8 : Int32)), .val (.ref a3), .val (.int (Int32.ofNat av)), .val (.int (2 : Int32))] [(.int (((own_sh jb 5).toInt32).toInt8.toInt32)), (.int ((Int32.ofNat av) + (2 : Int32))), (.ref a3)])) rfl rfl (hb hby d1_19)
  have V11 := Arv.set Ar11 q11 S11 M11 H11 G11 (fits_nar_byte _) W11 (av + 2) (own_in av ha 2 (by decide)).2.1 (own_in av ha 2 (by decide)).2.2
  have K11 : Keep h0 h11 [a3] := K9.wr W11 (Or.inl (List.mem_of_getElem? (i := 0) rfl))
  have N11 := Fr.snoc X11 N9 g_a3
  have Z11 : n0 ≤ h11.size := Nat.le_trans Z9 (Keep.of_wr W11).1
  have U11 : Arv Z h11 a3 k1 .byte (12 : Int32) (own_vals (own_upd (own_upd (own_upd (own_upd (own_upd (own_upd f (av + 7) (own_by (own_sh jb 0))) (av + 6) (own_by (own_sh jb 1))) (av + 5) (own_by (own_sh jb 2))) (av + 4) (own_by (own_sh jb 3))) (av + 3) (own_by (own_sh jb 4))) (av + 2) (own_by (own_sh jb 5)))) (.int (0 : Int32)) := by rw [← own_set _ _ _ (own_in av ha 2 (by decide)).2.2]; exact V11
  obtain ⟨cl13, Ar13, q13, S13, M13, H13, G13⟩ := id U11
  have hin13 : ¬ (((Int32.ofNat av) + (1 : Int32)) < 0 ∨ cl13.slots.size ≤ (((Int32.ofNat av) + (1 : Int32))).toNatClampNeg) := inb_of S13 (own_in av ha 1 (by decide)).1
  obtain ⟨T13, h13, X13, e13, W13, st13⟩ := stB X11 hx hZ e11 Ar13 (j := ((Int32.ofNat av) + (1 : Int32))) hin13 (g := (mkF m 19 #[.val (.long (own_sh jb 6)), .second, .val (.int (8 : Int32)), .val (.ref a3), .val (.int (Int32.ofNat av)), .val (.int (1 : Int32))] [(.int (((own_sh jb 6).toInt32).toInt8.toInt32)), (.int ((Int32.ofNat av) + (1 : Int32))), (.ref a3)])) rfl rfl (hb hby d1_19)
  have V13 := Arv.set Ar13 q13 S13 M13 H13 G13 (fits_nar_byte _) W13 (av + 1) (own_in av ha 1 (by decide)).2.1 (own_in av ha 1 (by decide)).2.2
  have K13 : Keep h0 h13 [a3] := K11.wr W13 (Or.inl (List.mem_of_getElem? (i := 0) rfl))
  have N13 := Fr.snoc X13 N11 g_a3
  have Z13 : n0 ≤ h13.size := Nat.le_trans Z11 (Keep.of_wr W13).1
  have U13 : Arv Z h13 a3 k1 .byte (12 : Int32) (own_vals (own_upd (own_upd (own_upd (own_upd (own_upd (own_upd (own_upd f (av + 7) (own_by (own_sh jb 0))) (av + 6) (own_by (own_sh jb 1))) (av + 5) (own_by (own_sh jb 2))) (av + 4) (own_by (own_sh jb 3))) (av + 3) (own_by (own_sh jb 4))) (av + 2) (own_by (own_sh jb 5))) (av + 1) (own_by (own_sh jb 6)))) (.int (0 : Int32)) := by rw [← own_set _ _ _ (own_in av ha 1 (by decide)).2.2]; exact V13
  obtain ⟨cl15, Ar15, q15, S15, M15, H15, G15⟩ := id U13
  have hin15 : ¬ (((Int32.ofNat av) + (0 : Int32)) < 0 ∨ cl15.slots.size ≤ (((Int32.ofNat av) + (0 : Int32))).toNatClampNeg) := inb_of S15 (own_in av ha 0 (by decide)).1
  obtain ⟨T15, h15, X15, e15, W15, st15⟩ := stB X13 hx hZ e13 Ar15 (j := ((Int32.ofNat av) + (0 : Int32))) hin15 (g := (mkF m 19 #[.val (.long (own_sh jb 7)), .second, .val (.int (8 : Int32)), .val (.ref a3), .val (.int (Int32.ofNat av)), .val (.int (0 : Int32))] [(.int (((own_sh jb 7).toInt32).toInt8.toInt32)), (.int ((Int32.ofNat av) + (0 : Int32))), (.ref a3)])) rfl rfl (hb hby d1_19)
  have V15 := Arv.set Ar15 q15 S15 M15 H15 G15 (fits_nar_byte _) W15 (av + 0) (own_in av ha 0 (by decide)).2.1 (own_in av ha 0 (by decide)).2.2
  have K15 : Keep h0 h15 [a3] := K13.wr W15 (Or.inl (List.mem_of_getElem? (i := 0) rfl))
  have N15 := Fr.snoc X15 N13 g_a3
  have Z15 : n0 ≤ h15.size := Nat.le_trans Z13 (Keep.of_wr W15).1
  have U15 : Arv Z h15 a3 k1 .byte (12 : Int32) (own_vals (own_upd (own_upd (own_upd (own_upd (own_upd (own_upd (own_upd (own_upd f (av + 7) (own_by (own_sh jb 0))) (av + 6) (own_by (own_sh jb 1))) (av + 5) (own_by (own_sh jb 2))) (av + 4) (own_by (own_sh jb 3))) (av + 3) (own_by (own_sh jb 4))) (av + 2) (own_by (own_sh jb 5))) (av + 1) (own_by (own_sh jb 6))) (av + 0) (own_by (own_sh jb 7)))) (.int (0 : Int32)) := by rw [← own_set _ _ _ (own_in av ha 0 (by decide)).2.2]; exact V15
  obtain ⟨fs, hr, hrun, hended, hW, hsame⟩ := X15.leave (v := none) (fun _ => rfl)
  refine ⟨_, _, pre0 _ ?_, hrun, hended, _, _, rfl, ?_, ⟨_, rfl⟩, hW, hsame.mono (by decide) (by decide)⟩
  · show Steps p.tables e below (s₁.setTop (mkF m 0 #[.val (.long jb), .second, .val (.int (8 : Int32)), .val (.ref a3), .val (.int (Int32.ofNat av)), .unset] [])) _
    refine XS.iloadN X0.here hx rfl (hb hby d1_0) rfl ?_
    show Steps p.tables e below (s₁.setTop (mkF m 1 #[.val (.long jb), .second, .val (.int (8 : Int32)), .val (.ref a3), .val (.int (Int32.ofNat av)), .unset] [(.int (8 : Int32))])) _
    refine XS.iconst X0.here hx rfl (hb hby d1_1) ?_
    show Steps p.tables e below (s₁.setTop (mkF m 2 #[.val (.long jb), .second, .val (.int (8 : Int32)), .val (.ref a3), .val (.int (Int32.ofNat av)), .unset] [(.int (1 : Int32)), (.int (8 : Int32))])) _
    refine XS.isub X0.here hx rfl (hb hby d1_2) rfl ?_
    show Steps p.tables e below (s₁.setTop (mkF m 3 #[.val (.long jb), .second, .val (.int (8 : Int32)), .val (.ref a3), .val (.int (Int32.ofNat av)), .unset] [(.int (7 : Int32))])) _
    refine XS.istore X0.here hx rfl (hb hby d1_3) rfl (l' := #[.val (.long jb), .second, .val (.int (8 : Int32)), .val (.ref a3), .val (.int (Int32.ofNat av)), .val (.int (7 : Int32))]) rfl ?_
    show Steps p.tables e below (s₁.setTop (mkF m 5 #[.val (.long jb), .second, .val (.int (8 : Int32)), .val (.ref a3), .val (.int (Int32.ofNat av)), .val (.int (7 : Int32))] [])) _
    rw [show (Value.long jb) = Value.long (own_sh jb 0) from congrArg Value.long (own_sh0 jb)]
    show Steps p.tables e below (s₁.setTop (mkF m 5 #[.val (.long (own_sh jb 0)), .second, .val (.int (8 : Int32)), .val (.ref a3), .val (.int (Int32.ofNat av)), .val (.int (7 : Int32))] [])) _
    refine XS.iload X0.here hx rfl (hb hby d1_5) rfl ?_
    show Steps p.tables e below (s₁.setTop (mkF m 7 #[.val (.long (own_sh jb 0)), .second, .val (.int (8 : Int32)), .val (.ref a3), .val (.int (Int32.ofNat av)), .val (.int (7 : Int32))] [(.int (7 : Int32))])) _
    refine XS.ifNo X0.here hx rfl (hb hby d1_7) rfl ((if0 _ _).trans (flt (by decide : ¬ ((7 : Int32) < (0 : Int32)))).1) ?_
    show Steps p.tables e below (s₁.setTop (mkF m 10 #[.val (.long (own_sh jb 0)), .second, .val (.int (8 : Int32)), .val (.ref a3), .val (.int (Int32.ofNat av)), .val (.int (7 : Int32))] [])) _
    refine XS.aloadN X0.here hx rfl (hb hby d1_10) rfl rfl ?_
    show Steps p.tables e below (s₁.setTop (mkF m 11 #[.val (.long (own_sh jb 0)), .second, .val (.int (8 : Int32)), .val (.ref a3), .val (.int (Int32.ofNat av)), .val (.int (7 : Int32))] [(.ref a3)])) _
    refine XS.iload X0.here hx rfl (hb hby d1_11) rfl ?_
    show Steps p.tables e below (s₁.setTop (mkF m 13 #[.val (.long (own_sh jb 0)), .second, .val (.int (8 : Int32)), .val (.ref a3), .val (.int (Int32.ofNat av)), .val (.int (7 : Int32))] [(.int (Int32.ofNat av)), (.ref a3)])) _
    refine XS.iload X0.here hx rfl (hb hby d1_13) rfl ?_
    show Steps p.tables e below (s₁.setTop (mkF m 15 #[.val (.long (own_sh jb 0)), .second, .val (.int (8 : Int32)), .val (.ref a3), .val (.int (Int32.ofNat av)), .val (.int (7 : Int32))] [(.int (7 : Int32)), (.int (Int32.ofNat av)), (.ref a3)])) _
    refine XS.iadd X0.here hx rfl (hb hby d1_15) rfl ?_
    show Steps p.tables e below (s₁.setTop (mkF m 16 #[.val (.long (own_sh jb 0)), .second, .val (.int (8 : Int32)), .val (.ref a3), .val (.int (Int32.ofNat av)), .val (.int (7 : Int32))] [(.int ((Int32.ofNat av) + (7 : Int32))), (.ref a3)])) _
    refine XS.lloadN X0.here hx rfl (hb hby d1_16) rfl ?_
    show Steps p.tables e below (s₁.setTop (mkF m 17 #[.val (.long (own_sh jb 0)), .second, .val (.int (8 : Int32)), .val (.ref a3), .val (.int (Int32.ofNat av)), .val (.int (7 : Int32))] [(.long (own_sh jb 0)), (.int ((Int32.ofNat av) + (7 : Int32))), (.ref a3)])) _
    refine XS.l2i X0.here hx rfl (hb hby d1_17) rfl ?_
    show Steps p.tables e below (s₁.setTop (mkF m 18 #[.val (.long (own_sh jb 0)), .second, .val (.int (8 : Int32)), .val (.ref a3), .val (.int (Int32.ofNat av)), .val (.int (7 : Int32))] [(.int ((own_sh jb 0).toInt32)), (.int ((Int32.ofNat av) + (7 : Int32))), (.ref a3)])) _
    refine XS.i2b X0.here hx rfl (hb hby d1_18) rfl ?_
    show Steps p.tables e below (s₁.setTop (mkF m 19 #[.val (.long (own_sh jb 0)), .second, .val (.int (8 : Int32)), .val (.ref a3), .val (.int (Int32.ofNat av)), .val (.int (7 : Int32))] [(.int (((own_sh jb 0).toInt32).toInt8.toInt32)), (.int ((Int32.ofNat av) + (7 : Int32))), (.ref a3)])) _
    refine st1 _ ?_
    show Steps p.tables e below (T1.setTop (mkF m 20 #[.val (.long (own_sh jb 0)), .second, .val (.int (8 : Int32)), .val (.ref a3), .val (.int (Int32.ofNat av)), .val (.int (7 : Int32))] [])) _
    refine XS.lloadN X1.here hx rfl (hb hby d1_20) rfl ?_
    show Steps p.tables e below (T1.setTop (mkF m 21 #[.val (.long (own_sh jb 0)), .second, .val (.int (8 : Int32)), .val (.ref a3), .val (.int (Int32.ofNat av)), .val (.int (7 : Int32))] [(.long (own_sh jb 0))])) _
    refine XS.bipush X1.here hx rfl (hb hby d1_21) ?_
    show Steps p.tables e below (T1.setTop (mkF m 23 #[.val (.long (own_sh jb 0)), .second, .val (.int (8 : Int32)), .val (.ref a3), .val (.int (Int32.ofNat av)), .val (.int (7 : Int32))] [(.int (8 : Int32)), (.long (own_sh jb 0))])) _
    refine XS.lushr X1.here hx rfl (hb hby d1_23) rfl ?_
    show Steps p.tables e below (T1.setTop (mkF m 24 #[.val (.long (own_sh jb 0)), .second, .val (.int (8 : Int32)), .val (.ref a3), .val (.int (Int32.ofNat av)), .val (.int (7 : Int32))] [(.long (((own_sh jb 0).toUInt64 >>> ((8 : Int32) &&& 0x3f).toInt64.toUInt64).toInt64))])) _
    refine XS.lstoreN X1.here hx rfl (hb hby d1_24) rfl (l' := #[.val (.long (((own_sh jb 0).toUInt64 >>> ((8 : Int32) &&& 0x3f).toInt64.toUInt64).toInt64)), .second, .val (.int (8 : Int32)), .val (.ref a3), .val (.int (Int32.ofNat av)), .val (.int (7 : Int32))]) rfl ?_
    show Steps p.tables e below (T1.setTop (mkF m 25 #[.val (.long (((own_sh jb 0).toUInt64 >>> ((8 : Int32) &&& 0x3f).toInt64.toUInt64).toInt64)), .second, .val (.int (8 : Int32)), .val (.ref a3), .val (.int (Int32.ofNat av)), .val (.int (7 : Int32))] [])) _
    refine XS.iinc X1.here hx rfl (hb hby d1_25) rfl (l' := #[.val (.long (((own_sh jb 0).toUInt64 >>> ((8 : Int32) &&& 0x3f).toInt64.toUInt64).toInt64)), .second, .val (.int (8 : Int32)), .val (.ref a3), .val (.int (Int32.ofNat av)), .val (.int (6 : Int32))]) rfl ?_
    show Steps p.tables e below (T1.setTop (mkF m 28 #[.val (.long (((own_sh jb 0).toUInt64 >>> ((8 : Int32) &&& 0x3f).toInt64.toUInt64).toInt64)), .second, .val (.int (8 : Int32)), .val (.ref a3), .val (.int (Int32.ofNat av)), .val (.int (6 : Int32))] [])) _
    refine XS.goto X1.here hx rfl (pc0 := 28) (pc' := 5) rfl (hb hby d1_28) (by decide) (by decide) ?_
    show Steps p.tables e below (T1.setTop (mkF m 5 #[.val (.long (((own_sh jb 0).toUInt64 >>> ((8 : Int32) &&& 0x3f).toInt64.toUInt64).toInt64)), .second, .val (.int (8 : Int32)), .val (.ref a3), .val (.int (Int32.ofNat av)), .val (.int (6 : Int32))] [])) _
    rw [own_shs jb 0 (by decide)]
    show Steps p.tables e below (T1.setTop (mkF m 5 #[.val (.long (own_sh jb 1)), .second, .val (.int (8 : Int32)), .val (.ref a3), .val (.int (Int32.ofNat av)), .val (.int (6 : Int32))] [])) _
    refine XS.iload X1.here hx rfl (hb hby d1_5) rfl ?_
    show Steps p.tables e below (T1.setTop (mkF m 7 #[.val (.long (own_sh jb 1)), .second, .val (.int (8 : Int32)), .val (.ref a3), .val (.int (Int32.ofNat av)), .val (.int (6 : Int32))] [(.int (6 : Int32))])) _
    refine XS.ifNo X1.here hx rfl (hb hby d1_7) rfl ((if0 _ _).trans (flt (by decide : ¬ ((6 : Int32) < (0 : Int32)))).1) ?_
    show Steps p.tables e below (T1.setTop (mkF m 10 #[.val (.long (own_sh jb 1)), .second, .val (.int (8 : Int32)), .val (.ref a3), .val (.int (Int32.ofNat av)), .val (.int (6 : Int32))] [])) _
    refine XS.aloadN X1.here hx rfl (hb hby d1_10) rfl rfl ?_
    show Steps p.tables e below (T1.setTop (mkF m 11 #[.val (.long (own_sh jb 1)), .second, .val (.int (8 : Int32)), .val (.ref a3), .val (.int (Int32.ofNat av)), .val (.int (6 : Int32))] [(.ref a3)])) _
    refine XS.iload X1.here hx rfl (hb hby d1_11) rfl ?_
    show Steps p.tables e below (T1.setTop (mkF m 13 #[.val (.long (own_sh jb 1)), .second, .val (.int (8 : Int32)), .val (.ref a3), .val (.int (Int32.ofNat av)), .val (.int (6 : Int32))] [(.int (Int32.ofNat av)), (.ref a3)])) _
    refine XS.iload X1.here hx rfl (hb hby d1_13) rfl ?_
    show Steps p.tables e below (T1.setTop (mkF m 15 #[.val (.long (own_sh jb 1)), .second, .val (.int (8 : Int32)), .val (.ref a3), .val (.int (Int32.ofNat av)), .val (.int (6 : Int32))] [(.int (6 : Int32)), (.int (Int32.ofNat av)), (.ref a3)])) _
    refine XS.iadd X1.here hx rfl (hb hby d1_15) rfl ?_
    show Steps p.tables e below (T1.setTop (mkF m 16 #[.val (.long (own_sh jb 1)), .second, .val (.int (8 : Int32)), .val (.ref a3), .val (.int (Int32.ofNat av)), .val (.int (6 : Int32))] [(.int ((Int32.ofNat av) + (6 : Int32))), (.ref a3)])) _
    refine XS.lloadN X1.here hx rfl (hb hby d1_16) rfl ?_
    show Steps p.tables e below (T1.setTop (mkF m 17 #[.val (.long (own_sh jb 1)), .second, .val (.int (8 : Int32)), .val (.ref a3), .val (.int (Int32.ofNat av)), .val (.int (6 : Int32))] [(.long (own_sh jb 1)), (.int ((Int32.ofNat av) + (6 : Int32))), (.ref a3)])) _
    refine XS.l2i X1.here hx rfl (hb hby d1_17) rfl ?_
    show Steps p.tables e below (T1.setTop (mkF m 18 #[.val (.long (own_sh jb 1)), .second, .val (.int (8 : Int32)), .val (.ref a3), .val (.int (Int32.ofNat av)), .val (.int (6 : Int32))] [(.int ((own_sh jb 1).toInt32)), (.int ((Int32.ofNat av) + (6 : Int32))), (.ref a3)])) _
    refine XS.i2b X1.here hx rfl (hb hby d1_18) rfl ?_
    show Steps p.tables e below (T1.setTop (mkF m 19 #[.val (.long (own_sh jb 1)), .second, .val (.int (8 : Int32)), .val (.ref a3), .val (.int (Int32.ofNat av)), .val (.int (6 : Int32))] [(.int (((own_sh jb 1).toInt32).toInt8.toInt32)), (.int ((Int32.ofNat av) + (6 : Int32))), (.ref a3)])) _
    refine st3 _ ?_
    show Steps p.tables e below (T3.setTop (mkF m 20 #[.val (.long (own_sh jb 1)), .second, .val (.int (8 : Int32)), .val (.ref a3), .val (.int (Int32.ofNat av)), .val (.int (6 : Int32))] [])) _
    refine XS.lloadN X3.here hx rfl (hb hby d1_20) rfl ?_
    show Steps p.tables e below (T3.setTop (mkF m 21 #[.val (.long (own_sh jb 1)), .second, .val (.int (8 : Int32)), .val (.ref a3), .val (.int (Int32.ofNat av)), .val (.int (6 : Int32))] [(.long (own_sh jb 1))])) _
    refine XS.bipush X3.here hx rfl (hb hby d1_21) ?_
    show Steps p.tables e below (T3.setTop (mkF m 23 #[.val (.long (own_sh jb 1)), .second, .val (.int (8 : Int32)), .val (.ref a3), .val (.int (Int32.ofNat av)), .val (.int (6 : Int32))] [(.int (8 : Int32)), (.long (own_sh jb 1))])) _
    refine XS.lushr X3.here hx rfl (hb hby d1_23) rfl ?_
    show Steps p.tables e below (T3.setTop (mkF m 24 #[.val (.long (own_sh jb 1)), .second, .val (.int (8 : Int32)), .val (.ref a3), .val (.int (Int32.ofNat av)), .val (.int (6 : Int32))] [(.long (((own_sh jb 1).toUInt64 >>> ((8 : Int32) &&& 0x3f).toInt64.toUInt64).toInt64))])) _
    refine XS.lstoreN X3.here hx rfl (hb hby d1_24) rfl (l' := #[.val (.long (((own_sh jb 1).toUInt64 >>> ((8 : Int32) &&& 0x3f).toInt64.toUInt64).toInt64)), .second, .val (.int (8 : Int32)), .val (.ref a3), .val (.int (Int32.ofNat av)), .val (.int (6 : Int32))]) rfl ?_
    show Steps p.tables e below (T3.setTop (mkF m 25 #[.val (.long (((own_sh jb 1).toUInt64 >>> ((8 : Int32) &&& 0x3f).toInt64.toUInt64).toInt64)), .second, .val (.int (8 : Int32)), .val (.ref a3), .val (.int (Int32.ofNat av)), .val (.int (6 : Int32))] [])) _
    refine XS.iinc X3.here hx rfl (hb hby d1_25) rfl (l' := #[.val (.long (((own_sh jb 1).toUInt64 >>> ((8 : Int32) &&& 0x3f).toInt64.toUInt64).toInt64)), .second, .val (.int (8 : Int32)), .val (.ref a3), .val (.int (Int32.ofNat av)), .val (.int (5 : Int32))]) rfl ?_
    show Steps p.tables e below (T3.setTop (mkF m 28 #[.val (.long (((own_sh jb 1).toUInt64 >>> ((8 : Int32) &&& 0x3f).toInt64.toUInt64).toInt64)), .second, .val (.int (8 : Int32)), .val (.ref a3), .val (.int (Int32.ofNat av)), .val (.int (5 : Int32))] [])) _
    refine XS.goto X3.here hx rfl (pc0 := 28) (pc' := 5) rfl (hb hby d1_28) (by decide) (by decide) ?_
    show Steps p.tables e below (T3.setTop (mkF m 5 #[.val (.long (((own_sh jb 1).toUInt64 >>> ((8 : Int32) &&& 0x3f).toInt64.toUInt64).toInt64)), .second, .val (.int (8 : Int32)), .val (.ref a3), .val (.int (Int32.ofNat av)), .val (.int (5 : Int32))] [])) _
    rw [own_shs jb 1 (by decide)]
    show Steps p.tables e below (T3.setTop (mkF m 5 #[.val (.long (own_sh jb 2)), .second, .val (.int (8 : Int32)), .val (.ref a3), .val (.int (Int32.ofNat av)), .val (.int (5 : Int32))] [])) _
    refine XS.iload X3.here hx rfl (hb hby d1_5) rfl ?_
    show Steps p.tables e below (T3.setTop (mkF m 7 #[.val (.long (own_sh jb 2)), .second, .val (.int (8 : Int32)), .val (.ref a3), .val (.int (Int32.ofNat av)), .val (.int (5 : Int32))] [(.int (5 : Int32))])) _
    refine XS.ifNo X3.here hx rfl (hb hby d1_7) rfl ((if0 _ _).trans (flt (by decide : ¬ ((5 : Int32) < (0 : Int32)))).1) ?_
    show Steps p.tables e below (T3.setTop (mkF m 10 #[.val (.long (own_sh jb 2)), .second, .val (.int (8 : Int32)), .val (.ref a3), .val (.int (Int32.ofNat av)), .val (.int (5 : Int32))] [])) _
    refine XS.aloadN X3.here hx rfl (hb hby d1_10) rfl rfl ?_
    show Steps p.tables e below (T3.setTop (mkF m 11 #[.val (.long (own_sh jb 2)), .second, .val (.int (8 : Int32)), .val (.ref a3), .val (.int (Int32.ofNat av)), .val (.int (5 : Int32))] [(.ref a3)])) _
    refine XS.iload X3.here hx rfl (hb hby d1_11) rfl ?_
    show Steps p.tables e below (T3.setTop (mkF m 13 #[.val (.long (own_sh jb 2)), .second, .val (.int (8 : Int32)), .val (.ref a3), .val (.int (Int32.ofNat av)), .val (.int (5 : Int32))] [(.int (Int32.ofNat av)), (.ref a3)])) _
    refine XS.iload X3.here hx rfl (hb hby d1_13) rfl ?_
    show Steps p.tables e below (T3.setTop (mkF m 15 #[.val (.long (own_sh jb 2)), .second, .val (.int (8 : Int32)), .val (.ref a3), .val (.int (Int32.ofNat av)), .val (.int (5 : Int32))] [(.int (5 : Int32)), (.int (Int32.ofNat av)), (.ref a3)])) _
    refine XS.iadd X3.here hx rfl (hb hby d1_15) rfl ?_
    show Steps p.tables e below (T3.setTop (mkF m 16 #[.val (.long (own_sh jb 2)), .second, .val (.int (8 : Int32)), .val (.ref a3), .val (.int (Int32.ofNat av)), .val (.int (5 : Int32))] [(.int ((Int32.ofNat av) + (5 : Int32))), (.ref a3)])) _
    refine XS.lloadN X3.here hx rfl (hb hby d1_16) rfl ?_
    show Steps p.tables e below (T3.setTop (mkF m 17 #[.val (.long (own_sh jb 2)), .second, .val (.int (8 : Int32)), .val (.ref a3), .val (.int (Int32.ofNat av)), .val (.int (5 : Int32))] [(.long (own_sh jb 2)), (.int ((Int32.ofNat av) + (5 : Int32))), (.ref a3)])) _
    refine XS.l2i X3.here hx rfl (hb hby d1_17) rfl ?_
    show Steps p.tables e below (T3.setTop (mkF m 18 #[.val (.long (own_sh jb 2)), .second, .val (.int (8 : Int32)), .val (.ref a3), .val (.int (Int32.ofNat av)), .val (.int (5 : Int32))] [(.int ((own_sh jb 2).toInt32)), (.int ((Int32.ofNat av) + (5 : Int32))), (.ref a3)])) _
    refine XS.i2b X3.here hx rfl (hb hby d1_18) rfl ?_
    show Steps p.tables e below (T3.setTop (mkF m 19 #[.val (.long (own_sh jb 2)), .second, .val (.int (8 : Int32)), .val (.ref a3), .val (.int (Int32.ofNat av)), .val (.int (5 : Int32))] [(.int (((own_sh jb 2).toInt32).toInt8.toInt32)), (.int ((Int32.ofNat av) + (5 : Int32))), (.ref a3)])) _
    refine st5 _ ?_
    show Steps p.tables e below (T5.setTop (mkF m 20 #[.val (.long (own_sh jb 2)), .second, .val (.int (8 : Int32)), .val (.ref a3), .val (.int (Int32.ofNat av)), .val (.int (5 : Int32))] [])) _
    refine XS.lloadN X5.here hx rfl (hb hby d1_20) rfl ?_
    show Steps p.tables e below (T5.setTop (mkF m 21 #[.val (.long (own_sh jb 2)), .second, .val (.int (8 : Int32)), .val (.ref a3), .val (.int (Int32.ofNat av)), .val (.int (5 : Int32))] [(.long (own_sh jb 2))])) _
    refine XS.bipush X5.here hx rfl (hb hby d1_21) ?_
    show Steps p.tables e below (T5.setTop (mkF m 23 #[.val (.long (own_sh jb 2)), .second, .val (.int (8 : Int32)), .val (.ref a3), .val (.int (Int32.ofNat av)), .val (.int (5 : Int32))] [(.int (8 : Int32)), (.long (own_sh jb 2))])) _
    refine XS.lushr X5.here hx rfl (hb hby d1_23) rfl ?_
    show Steps p.tables e below (T5.setTop (mkF m 24 #[.val (.long (own_sh jb 2)), .second, .val (.int (8 : Int32)), .val (.ref a3), .val (.int (Int32.ofNat av)), .val (.int (5 : Int32))] [(.long (((own_sh jb 2).toUInt64 >>> ((8 : Int32) &&& 0x3f).toInt64.toUInt64).toInt64))])) _
    refine XS.lstoreN X5.here hx rfl (hb hby d1_24) rfl (l' := #[.val (.long (((own_sh jb 2).toUInt64 >>> ((8 : Int32) &&& 0x3f).toInt64.toUInt64).toInt64)), .second, .val (.int (8 : Int32)), .val (.ref a3), .val (.int (Int32.ofNat av)), .val (.int (5 : Int32))]) rfl ?_
    show Steps p.tables e below (T5.setTop (mkF m 25 #[.val (.long (((own_sh jb 2).toUInt64 >>> ((8 : Int32) &&& 0x3f).toInt64.toUInt64).toInt64)), .second, .val (.int (8 : Int32)), .val (.ref a3), .val (.int (Int32.ofNat av)), .val (.int (5 : Int32))] [])) _
    refine XS.iinc X5.here hx rfl (hb hby d1_25) rfl (l' := #[.val (.long (((own_sh jb 2).toUInt64 >>> ((8 : Int32) &&& 0x3f).toInt64.toUInt64).toInt64)), .second, .val (.int (8 : Int32)), .val (.ref a3), .val (.int (Int32.ofNat av)), .val (.int (4 : Int32))]) rfl ?_
    show Steps p.tables e below (T5.setTop (mkF m 28 #[.val (.long (((own_sh jb 2).toUInt64 >>> ((8 : Int32) &&& 0x3f).toInt64.toUInt64).toInt64)), .second, .val (.int (8 : Int32)), .val (.ref a3), .val (.int (Int32.ofNat av)), .val (.int (4 : Int32))] [])) _
    refine XS.goto X5.here hx rfl (pc0 := 28) (pc' := 5) rfl (hb hby d1_28) (by decide) (by decide) ?_
    show Steps p.tables e below (T5.setTop (mkF m 5 #[.val (.long (((own_sh jb 2).toUInt64 >>> ((8 : Int32) &&& 0x3f).toInt64.toUInt64).toInt64)), .second, .val (.int (8 : Int32)), .val (.ref a3), .val (.int (Int32.ofNat av)), .val (.int (4 : Int32))] [])) _
    rw [own_shs jb 2 (by decide)]
    show Steps p.tables e below (T5.setTop (mkF m 5 #[.val (.long (own_sh jb 3)), .second, .val (.int (8 : Int32)), .val (.ref a3), .val (.int (Int32.ofNat av)), .val (.int (4 : Int32))] [])) _
    refine XS.iload X5.here hx rfl (hb hby d1_5) rfl ?_
    show Steps p.tables e below (T5.setTop (mkF m 7 #[.val (.long (own_sh jb 3)), .second, .val (.int (8 : Int32)), .val (.ref a3), .val (.int (Int32.ofNat av)), .val (.int (4 : Int32))] [(.int (4 : Int32))])) _
    refine XS.ifNo X5.here hx rfl (hb hby d1_7) rfl ((if0 _ _).trans (flt (by decide : ¬ ((4 : Int32) < (0 : Int32)))).1) ?_
    show Steps p.tables e below (T5.setTop (mkF m 10 #[.val (.long (own_sh jb 3)), .second, .val (.int (8 : Int32)), .val (.ref a3), .val (.int (Int32.ofNat av)), .val (.int (4 : Int32))] [])) _
    refine XS.aloadN X5.here hx rfl (hb hby d1_10) rfl rfl ?_
    show Steps p.tables e below (T5.setTop (mkF m 11 #[.val (.long (own_sh jb 3)), .second, .val (.int (8 : Int32)), .val (.ref a3), .val (.int (Int32.ofNat av)), .val (.int (4 : Int32))] [(.ref a3)])) _
    refine XS.iload X5.here hx rfl (hb hby d1_11) rfl ?_
    show Steps p.tables e below (T5.setTop (mkF m 13 #[.val (.long (own_sh jb 3)), .second, .val (.int (8 : Int32)), .val (.ref a3), .val (.int (Int32.ofNat av)), .val (.int (4 : Int32))] [(.int (Int32.ofNat av)), (.ref a3)])) _
    refine XS.iload X5.here hx rfl (hb hby d1_13) rfl ?_
    show Steps p.tables e below (T5.setTop (mkF m 15 #[.val (.long (own_sh jb 3)), .second, .val (.int (8 : Int32)), .val (.ref a3), .val (.int (Int32.ofNat av)), .val (.int (4 : Int32))] [(.int (4 : Int32)), (.int (Int32.ofNat av)), (.ref a3)])) _
    refine XS.iadd X5.here hx rfl (hb hby d1_15) rfl ?_
    show Steps p.tables e below (T5.setTop (mkF m 16 #[.val (.long (own_sh jb 3)), .second, .val (.int (8 : Int32)), .val (.ref a3), .val (.int (Int32.ofNat av)), .val (.int (4 : Int32))] [(.int ((Int32.ofNat av) + (4 : Int32))), (.ref a3)])) _
    refine XS.lloadN X5.here hx rfl (hb hby d1_16) rfl ?_
    show Steps p.tables e below (T5.setTop (mkF m 17 #[.val (.long (own_sh jb 3)), .second, .val (.int (8 : Int32)), .val (.ref a3), .val (.int (Int32.ofNat av)), .val (.int (4 : Int32))] [(.long (own_sh jb 3)), (.int ((Int32.ofNat av) + (4 : Int32))), (.ref a3)])) _
    refine XS.l2i X5.here hx rfl (hb hby d1_17) rfl ?_
    show Steps p.tables e below (T5.setTop (mkF m 18 #[.val (.long (own_sh jb 3)), .second, .val (.int (8 : Int32)), .val (.ref a3), .val (.int (Int32.ofNat av)), .val (.int (4 : Int32))] [(.int ((own_sh jb 3).toInt32)), (.int ((Int32.ofNat av) + (4 : Int32))), (.ref a3)])) _
    refine XS.i2b X5.here hx rfl (hb hby d1_18) rfl ?_
    show Steps p.tables e below (T5.setTop (mkF m 19 #[.val (.long (own_sh jb 3)), .second, .val (.int (8 : Int32)), .val (.ref a3), .val (.int (Int32.ofNat av)), .val (.int (4 : Int32))] [(.int (((own_sh jb 3).toInt32).toInt8.toInt32)), (.int ((Int32.ofNat av) + (4 : Int32))), (.ref a3)])) _
    refine st7 _ ?_
    show Steps p.tables e below (T7.setTop (mkF m 20 #[.val (.long (own_sh jb 3)), .second, .val (.int (8 : Int32)), .val (.ref a3), .val (.int (Int32.ofNat av)), .val (.int (4 : Int32))] [])) _
    refine XS.lloadN X7.here hx rfl (hb hby d1_20) rfl ?_
    show Steps p.tables e below (T7.setTop (mkF m 21 #[.val (.long (own_sh jb 3)), .second, .val (.int (8 : Int32)), .val (.ref a3), .val (.int (Int32.ofNat av)), .val (.int (4 : Int32))] [(.long (own_sh jb 3))])) _
    refine XS.bipush X7.here hx rfl (hb hby d1_21) ?_
    show Steps p.tables e below (T7.setTop (mkF m 23 #[.val (.long (own_sh jb 3)), .second, .val (.int (8 : Int32)), .val (.ref a3), .val (.int (Int32.ofNat av)), .val (.int (4 : Int32))] [(.int (8 : Int32)), (.long (own_sh jb 3))])) _
    refine XS.lushr X7.here hx rfl (hb hby d1_23) rfl ?_
    show Steps p.tables e below (T7.setTop (mkF m 24 #[.val (.long (own_sh jb 3)), .second, .val (.int (8 : Int32)), .val (.ref a3), .val (.int (Int32.ofNat av)), .val (.int (4 : Int32))] [(.long (((own_sh jb 3).toUInt64 >>> ((8 : Int32) &&& 0x3f).toInt64.toUInt64).toInt64))])) _
    refine XS.lstoreN X7.here hx rfl (hb hby d1_24) rfl (l' := #[.val (.long (((own_sh jb 3).toUInt64 >>> ((8 : Int32) &&& 0x3f).toInt64.toUInt64).toInt64)), .second, .val (.int (8 : Int32)), .val (.ref a3), .val (.int (Int32.ofNat av)), .val (.int (4 : Int32))]) rfl ?_
    show Steps p.tables e below (T7.setTop (mkF m 25 #[.val (.long (((own_sh jb 3).toUInt64 >>> ((8 : Int32) &&& 0x3f).toInt64.toUInt64).toInt64)), .second, .val (.int (8 : Int32)), .val (.ref a3), .val (.int (Int32.ofNat av)), .val (.int (4 : Int32))] [])) _
    refine XS.iinc X7.here hx rfl (hb hby d1_25) rfl (l' := #[.val (.long (((own_sh jb 3).toUInt64 >>> ((8 : Int32) &&& 0x3f).toInt64.toUInt64).toInt64)), .second, .val (.int (8 : Int32)), .val (.ref a3), .val (.int (Int32.ofNat av)), .val (.int (3 : Int32))]) rfl ?_
    show Steps p.tables e below (T7.setTop (mkF m 28 #[.val (.long (((own_sh jb 3).toUInt64 >>> ((8 : Int32) &&& 0x3f).toInt64.toUInt64).toInt64)), .second, .val (.int (8 : Int32)), .val (.ref a3), .val (.int (Int32.ofNat av)), .val (.int (3 : Int32))] [])) _
    refine XS.goto X7.here hx rfl (pc0 := 28) (pc' := 5) rfl (hb hby d1_28) (by decide) (by decide) ?_
    show Steps p.tables e below (T7.setTop (mkF m 5 #[.val (.long (((own_sh jb 3).toUInt64 >>> ((8 : Int32) &&& 0x3f).toInt64.toUInt64).toInt64)), .second, .val (.int (8 : Int32)), .val (.ref a3), .val (.int (Int32.ofNat av)), .val (.int (3 : Int32))] [])) _
    rw [own_shs jb 3 (by decide)]
    show Steps p.tables e below (T7.setTop (mkF m 5 #[.val (.long (own_sh jb 4)), .second, .val (.int (8 : Int32)), .val (.ref a3), .val (.int (Int32.ofNat av)), .val (.int (3 : Int32))] [])) _
    refine XS.iload X7.here hx rfl (hb hby d1_5) rfl ?_
    show Steps p.tables e below (T7.setTop (mkF m 7 #[.val (.long (own_sh jb 4)), .second, .val (.int (8 : Int32)), .val (.ref a3), .val (.int (Int32.ofNat av)), .val (.int (3 : Int32))] [(.int (3 : Int32))])) _
    refine XS.ifNo X7.here hx rfl (hb hby d1_7) rfl ((if0 _ _).trans (flt (by decide : ¬ ((3 : Int32) < (0 : Int32)))).1) ?_
    show Steps p.tables e below (T7.setTop (mkF m 10 #[.val (.long (own_sh jb 4)), .second, .val (.int (8 : Int32)), .val (.ref a3), .val (.int (Int32.ofNat av)), .val (.int (3 : Int32))] [])) _
    refine XS.aloadN X7.here hx rfl (hb hby d1_10) rfl rfl ?_
    show Steps p.tables e below (T7.setTop (mkF m 11 #[.val (.long (own_sh jb 4)), .second, .val (.int (8 : Int32)), .val (.ref a3), .val (.int (Int32.ofNat av)), .val (.int (3 : Int32))] [(.ref a3)])) _
    refine XS.iload X7.here hx rfl (hb hby d1_11) rfl ?_
    show Steps p.tables e below (T7.setTop (mkF m 13 #[.val (.long (own_sh jb 4)), .second, .val (.int (8 : Int32)), .val (.ref a3), .val (.int (Int32.ofNat av)), .val (.int (3 : Int32))] [(.int (Int32.ofNat av)), (.ref a3)])) _
    refine XS.iload X7.here hx rfl (hb hby d1_13) rfl ?_
    show Steps p.tables e below (T7.setTop (mkF m 15 #[.val (.long (own_sh jb 4)), .second, .val (.int (8 : Int32)), .val (.ref a3), .val (.int (Int32.ofNat av)), .val (.int (3 : Int32))] [(.int (3 : Int32)), (.int (Int32.ofNat av)), (.ref a3)])) _
    refine XS.iadd X7.here hx rfl (hb hby d1_15) rfl ?_
    show Steps p.tables e below (T7.setTop (mkF m 16 #[.val (.long (own_sh jb 4)), .second, .val (.int (8 : Int32)), .val (.ref a3), .val (.int (Int32.ofNat av)), .val (.int (3 : Int32))] [(.int ((Int32.ofNat av) + (3 : Int32))), (.ref a3)])) _
    refine XS.lloadN X7.here hx rfl (hb hby d1_16) rfl ?_
    show Steps p.tables e below (T7.setTop (mkF m 17 #[.val (.long (own_sh jb 4)), .second, .val (.int (8 : Int32)), .val (.ref a3), .val (.int (Int32.ofNat av)), .val (.int (3 : Int32))] [(.long (own_sh jb 4)), (.int ((Int32.ofNat av) + (3 : Int32))), (.ref a3)])) _
    refine XS.l2i X7.here hx rfl (hb hby d1_17) rfl ?_
    show Steps p.tables e below (T7.setTop (mkF m 18 #[.val (.long (own_sh jb 4)), .second, .val (.int (8 : Int32)), .val (.ref a3), .val (.int (Int32.ofNat av)), .val (.int (3 : Int32))] [(.int ((own_sh jb 4).toInt32)), (.int ((Int32.ofNat av) + (3 : Int32))), (.ref a3)])) _
    refine XS.i2b X7.here hx rfl (hb hby d1_18) rfl ?_
    show Steps p.tables e below (T7.setTop (mkF m 19 #[.val (.long (own_sh jb 4)), .second, .val (.int (8 : Int32)), .val (.ref a3), .val (.int (Int32.ofNat av)), .val (.int (3 : Int32))] [(.int (((own_sh jb 4).toInt32).toInt8.toInt32)), (.int ((Int32.ofNat av) + (3 : Int32))), (.ref a3)])) _
    refine st9 _ ?_
    show Steps p.tables e below (T9.setTop (mkF m 20 #[.val (.long (own_sh jb 4)), .second, .val (.int (8 : Int32)), .val (.ref a3), .val (.int (Int32.ofNat av)), .val (.int (3 : Int32))] [])) _
    refine XS.lloadN X9.here hx rfl (hb hby d1_20) rfl ?_
    show Steps p.tables e below (T9.setTop (mkF m 21 #[.val (.long (own_sh jb 4)), .second, .val (.int (8 : Int32)), .val (.ref a3), .val (.int (Int32.ofNat av)), .val (.int (3 : Int32))] [(.long (own_sh jb 4))])) _
    refine XS.bipush X9.here hx rfl (hb hby d1_21) ?_
    show Steps p.tables e below (T9.setTop (mkF m 23 #[.val (.long (own_sh jb 4)), .second, .val (.int (8 : Int32)), .val (.ref a3), .val (.int (Int32.ofNat av)), .val (.int (3 : Int32))] [(.int (8 : Int32)), (.long (own_sh jb 4))])) _
    refine XS.lushr X9.here hx rfl (hb hby d1_23) rfl ?_
    show Steps p.tables e below (T9.setTop (mkF m 24 #[.val (.long (own_sh jb 4)), .second, .val (.int (8 : Int32)), .val (.ref a3), .val (.int (Int32.ofNat av)), .val (.int (3 : Int32))] [(.long (((own_sh jb 4).toUInt64 >>> ((8 : Int32) &&& 0x3f).toInt64.toUInt64).toInt64))])) _
    refine XS.lstoreN X9.here hx rfl (hb hby d1_24) rfl (l' := #[.val (.long (((own_sh jb 4).toUInt64 >>> ((8 : Int32) &&& 0x3f).toInt64.toUInt64).toInt64)), .second, .val (.int (8 : Int32)), .val (.ref a3), .val (.int (Int32.ofNat av)), .val (.int (3 : Int32))]) rfl ?_
    show Steps p.tables e below (T9.setTop (mkF m 25 #[.val (.long (((own_sh jb 4).toUInt64 >>> ((8 : Int32) &&& 0x3f).toInt64.toUInt64).toInt64)), .second, .val (.int (8 : Int32)), .val (.ref a3), .val (.int (Int32.ofNat av)), .val (.int (3 : Int32))] [])) _
    refine XS.iinc X9.here hx rfl (hb hby d1_25) rfl (l' := #[.val (.long (((own_sh jb 4).toUInt64 >>> ((8 : Int32) &&& 0x3f).toInt64.toUInt64).toInt64)), .second, .val (.int (8 : Int32)), .val (.ref a3), .val (.int (Int32.ofNat av)), .val (.int (2 : Int32))]) rfl ?_
    show Steps p.tables e below (T9.setTop (mkF m 28 #[.val (.long (((own_sh jb 4).toUInt64 >>> ((8 : Int32) &&& 0x3f).toInt64.toUInt64).toInt64)), .second, .val (.int (8 : Int32)), .val (.ref a3), .val (.int (Int32.ofNat av)), .val (.int (2 : Int32))] [])) _
    refine XS.goto X9.here hx rfl (pc0 := 28) (pc' := 5) rfl (hb hby d1_28) (by decide) (by decide) ?_
    show Steps p.tables e below (T9.setTop (mkF m 5 #[.val (.long (((own_sh jb 4).toUInt64 >>> ((8 : Int32) &&& 0x3f).toInt64.toUInt64).toInt64)), .second, .val (.int (8 : Int32)), .val (.ref a3), .val (.int (Int32.ofNat av)), .val (.int (2 : Int32))] [])) _
    rw [own_shs jb 4 (by decide)]
    show Steps p.tables e below (T9.setTop (mkF m 5 #[.val (.long (own_sh jb 5)), .second, .val (.int (8 : Int32)), .val (.ref a3), .val (.int (Int32.ofNat av)), .val (.int (2 : Int32))] [])) _
    refine XS.iload X9.here hx rfl (hb hby d1_5) rfl ?_
    show Steps p.tables e below (T9.setTop (mkF m 7 #[.val (.long (own_sh jb 5)), .second, .val (.int (8 : Int32)), .val (.ref a3), .val (.int (Int32.ofNat av)), .val (.int (2 : Int32))] [(.int (2 : Int32))])) _
    refine XS.ifNo X9.here hx rfl (hb hby d1_7) rfl ((if0 _ _).trans (flt (by decide : ¬ ((2 : Int32) < (0 : Int32)))).1) ?_
    show Steps p.tables e below (T9.setTop (mkF m 10 #[.val (.long (own_sh jb 5)), .second, .val (.int (8 : Int32)), .val (.ref a3), .val (.int (Int32.ofNat av)), .val (.int (2 : Int32))] [])) _
    refine XS.aloadN X9.here hx rfl (hb hby d1_10) rfl rfl ?_
    show Steps p.tables e below (T9.setTop (mkF m 11 #[.val (.long (own_sh jb 5)), .second, .val (.int (8 : Int32)), .val (.ref a3), .val (.int (Int32.ofNat av)), .val (.int (2 : Int32))] [(.ref a3)])) _
    refine XS.iload X9.here hx rfl (hb hby d1_11) rfl ?_
    show Steps p.tables e below (T9.setTop (mkF m 13 #[.val (.long (own_sh jb 5)), .second, .val (.int (8 : Int32)), .val (.ref a3), .val (.int (Int32.ofNat av)), .val (.int (2 : Int32))] [(.int (Int32.ofNat av)), (.ref a3)])) _
    refine XS.iload X9.here hx rfl (hb hby d1_13) rfl ?_
    show Steps p.tables e below (T9.setTop (mkF m 15 #[.val (.long (own_sh jb 5)), .second, .val (.int (8 : Int32)), .val (.ref a3), .val (.int (Int32.ofNat av)), .val (.int (2 : Int32))] [(.int (2 : Int32)), (.int (Int32.ofNat av)), (.ref a3)])) _
    refine XS.iadd X9.here hx rfl (hb hby d1_15) rfl ?_
    show Steps p.tables e below (T9.setTop (mkF m 16 #[.val (.long (own_sh jb 5)), .second, .val (.int (8 : Int32)), .val (.ref a3), .val (.int (Int32.ofNat av)), .val (.int (2 : Int32))] [(.int ((Int32.ofNat av) + (2 : Int32))), (.ref a3)])) _
    refine XS.lloadN X9.here hx rfl (hb hby d1_16) rfl ?_
    show Steps p.tables e below (T9.setTop (mkF m 17 #[.val (.long (own_sh jb 5)), .second, .val (.int (8 : Int32)), .val (.ref a3), .val (.int (Int32.ofNat av)), .val (.int (2 : Int32))] [(.long (own_sh jb 5)), (.int ((Int32.ofNat av) + (2 : Int32))), (.ref a3)])) _
    refine XS.l2i X9.here hx rfl (hb hby d1_17) rfl ?_
    show Steps p.tables e below (T9.setTop (mkF m 18 #[.val (.long (own_sh jb 5)), .second, .val (.int (8 : Int32)), .val (.ref a3), .val (.int (Int32.ofNat av)), .val (.int (2 : Int32))] [(.int ((own_sh jb 5).toInt32)), (.int ((Int32.ofNat av) + (2 : Int32))), (.ref a3)])) _
    refine XS.i2b X9.here hx rfl (hb hby d1_18) rfl ?_
    show Steps p.tables e below (T9.setTop (mkF m 19 #[.val (.long (own_sh jb 5)), .second, .val (.int (8 : Int32)), .val (.ref a3), .val (.int (Int32.ofNat av)), .val (.int (2 : Int32))] [(.int (((own_sh jb 5).toInt32).toInt8.toInt32)), (.int ((Int32.ofNat av) + (2 : Int32))), (.ref a3)])) _
    refine st11 _ ?_
    show Steps p.tables e below (T11.setTop (mkF m 20 #[.val (.long (own_sh jb 5)), .second, .val (.int (8 : Int32)), .val (.ref a3), .val (.int (Int32.ofNat av)), .val (.int (2 : Int32))] [])) _
    refine XS.lloadN X11.here hx rfl (hb hby d1_20) rfl ?_
    show Steps p.tables e below (T11.setTop (mkF m 21 #[.val (.long (own_sh jb 5)), .second, .val (.int (8 : Int32)), .val (.ref a3), .val (.int (Int32.ofNat av)), .val (.int (2 : Int32))] [(.long (own_sh jb 5))])) _
    refine XS.bipush X11.here hx rfl (hb hby d1_21) ?_
    show Steps p.tables e below (T11.setTop (mkF m 23 #[.val (.long (own_sh jb 5)), .second, .val (.int (8 : Int32)), .val (.ref a3), .val (.int (Int32.ofNat av)), .val (.int (2 : Int32))] [(.int (8 : Int32)), (.long (own_sh jb 5))])) _
    refine XS.lushr X11.here hx rfl (hb hby d1_23) rfl ?_
    show Steps p.tables e below (T11.setTop (mkF m 24 #[.val (.long (own_sh jb 5)), .second, .val (.int (8 : Int32)), .val (.ref a3), .val (.int (Int32.ofNat av)), .val (.int (2 : Int32))] [(.long (((own_sh jb 5).toUInt64 >>> ((8 : Int32) &&& 0x3f).toInt64.toUInt64).toInt64))])) _
    refine XS.lstoreN X11.here hx rfl (hb hby d1_24) rfl (l' := #[.val (.long (((own_sh jb 5).toUInt64 >>> ((8 : Int32) &&& 0x3f).toInt64.toUInt64).toInt64)), .second, .val (.int (8 : Int32)), .val (.ref a3), .val (.int (Int32.ofNat av)), .val (.int (2 : Int32))]) rfl ?_
    show Steps p.tables e below (T11.setTop (mkF m 25 #[.val (.long (((own_sh jb 5).toUInt64 >>> ((8 : Int32) &&& 0x3f).toInt64.toUInt64).toInt64)), .second, .val (.int (8 : Int32)), .val (.ref a3), .val (.int (Int32.ofNat av)), .val (.int (2 : Int32))] [])) _
    refine XS.iinc X11.here hx rfl (hb hby d1_25) rfl (l' := #[.val (.long (((own_sh jb 5).toUInt64 >>> ((8 : Int32) &&& 0x3f).toInt64.toUInt64).toInt64)), .second, .val (.int (8 : Int32)), .val (.ref a3), .val (.int (Int32.ofNat av)), .val (.int (1 : Int32))]) rfl ?_
    show Steps p.tables e below (T11.setTop (mkF m 28 #[.val (.long (((own_sh jb 5).toUInt64 >>> ((8 : Int32) &&& 0x3f).toInt64.toUInt64).toInt64)), .second, .val (.int (8 : Int32)), .val (.ref a3), .val (.int (Int32.ofNat av)), .val (.int (1 : Int32))] [])) _
    refine XS.goto X11.here hx rfl (pc0 := 28) (pc' := 5) rfl (hb hby d1_28) (by decide) (by decide) ?_
    show Steps p.tables e below (T11.setTop (mkF m 5 #[.val (.long (((own_sh jb 5).toUInt64 >>> ((8 : Int32) &&& 0x3f).toInt64.toUInt64).toInt64)), .second, .val (.int (8 : Int32)), .val (.ref a3), .val (.int (Int32.ofNat av)), .val (.int (1 : Int32))] [])) _
    rw [own_shs jb 5 (by decide)]
    show Steps p.tables e below (T11.setTop (mkF m 5 #[.val (.long (own_sh jb 6)), .second, .val (.int (8 : Int32)), .val (.ref a3), .val (.int (Int32.ofNat av)), .val (.int (1 : Int32))] [])) _
    refine XS.iload X11.here hx rfl (hb hby d1_5) rfl ?_
    show Steps p.tables e below (T11.setTop (mkF m 7 #[.val (.long (own_sh jb 6)), .second, .val (.int (8 : Int32)), .val (.ref a3), .val (.int (Int32.ofNat av)), .val (.int (1 : Int32))] [(.int (1 : Int32))])) _
    refine XS.ifNo X11.here hx rfl (hb hby d1_7) rfl ((if0 _ _).trans (flt (by decide : ¬ ((1 : Int32) < (0 : Int32)))).1) ?_
    show Steps p.tables e below (T11.setTop (mkF m 10 #[.val (.long (own_sh jb 6)), .second, .val (.int (8 : Int32)), .val (.ref a3), .val (.int (Int32.ofNat av)), .val (.int (1 : Int32))] [])) _
    refine XS.aloadN X11.here hx rfl (hb hby d1_10) rfl rfl ?_
    show Steps p.tables e below (T11.setTop (mkF m 11 #[.val (.long (own_sh jb 6)), .second, .val (.int (8 : Int32)), .val (.ref a3), .val (.int (Int32.ofNat av)), .val (.int (1 : Int32))] [(.ref a3)])) _
    refine XS.iload X11.here hx rfl (hb hby d1_11) rfl ?_
    show Steps p.tables e below (T11.setTop (mkF m 13 #[.val (.long (own_sh jb 6)), .second, .val (.int (8 : Int32)), .val (.ref a3), .val (.int (Int32.ofNat av)), .val (.int (1 : Int32))] [(.int (Int32.ofNat av)), (.ref a3)])) _
    refine XS.iload X11.here hx rfl (hb hby d1_13) rfl ?_
    show Steps p.tables e below (T11.setTop (mkF m 15 #[.val (.long (own_sh jb 6)), .second, .val (.int (8 : Int32)), .val (.ref a3), .val (.int (Int32.ofNat av)), .val (.int (1 : Int32))] [(.int (1 : Int32)), (.int (Int32.ofNat av)), (.ref a3)])) _
    refine XS.iadd X11.here hx rfl (hb hby d1_15) rfl ?_
    show Steps p.tables e below (T11.setTop (mkF m 16 #[.val (.long (own_sh jb 6)), .second, .val (.int (8 : Int32)), .val (.ref a3), .val (.int (Int32.ofNat av)), .val (.int (1 : Int32))] [(.int ((Int32.ofNat av) + (1 : Int32))), (.ref a3)])) _
    refine XS.lloadN X11.here hx rfl (hb hby d1_16) rfl ?_
    show Steps p.tables e below (T11.setTop (mkF m 17 #[.val (.long (own_sh jb 6)), .second, .val (.int (8 : Int32)), .val (.ref a3), .val (.int (Int32.ofNat av)), .val (.int (1 : Int32))] [(.long (own_sh jb 6)), (.int ((Int32.ofNat av) + (1 : Int32))), (.ref a3)])) _
    refine XS.l2i X11.here hx rfl (hb hby d1_17) rfl ?_
    show Steps p.tables e below (T11.setTop (mkF m 18 #[.val (.long (own_sh jb 6)), .second, .val (.int (8 : Int32)), .val (.ref a3), .val (.int (Int32.ofNat av)), .val (.int (1 : Int32))] [(.int ((own_sh jb 6).toInt32)), (.int ((Int32.ofNat av) + (1 : Int32))), (.ref a3)])) _
    refine XS.i2b X11.here hx rfl (hb hby d1_18) rfl ?_
    show Steps p.tables e below (T11.setTop (mkF m 19 #[.val (.long (own_sh jb 6)), .second, .val (.int (8 : Int32)), .val (.ref a3), .val (.int (Int32.ofNat av)), .val (.int (1 : Int32))] [(.int (((own_sh jb 6).toInt32).toInt8.toInt32)), (.int ((Int32.ofNat av) + (1 : Int32))), (.ref a3)])) _
    refine st13 _ ?_
    show Steps p.tables e below (T13.setTop (mkF m 20 #[.val (.long (own_sh jb 6)), .second, .val (.int (8 : Int32)), .val (.ref a3), .val (.int (Int32.ofNat av)), .val (.int (1 : Int32))] [])) _
    refine XS.lloadN X13.here hx rfl (hb hby d1_20) rfl ?_
    show Steps p.tables e below (T13.setTop (mkF m 21 #[.val (.long (own_sh jb 6)), .second, .val (.int (8 : Int32)), .val (.ref a3), .val (.int (Int32.ofNat av)), .val (.int (1 : Int32))] [(.long (own_sh jb 6))])) _
    refine XS.bipush X13.here hx rfl (hb hby d1_21) ?_
    show Steps p.tables e below (T13.setTop (mkF m 23 #[.val (.long (own_sh jb 6)), .second, .val (.int (8 : Int32)), .val (.ref a3), .val (.int (Int32.ofNat av)), .val (.int (1 : Int32))] [(.int (8 : Int32)), (.long (own_sh jb 6))])) _
    refine XS.lushr X13.here hx rfl (hb hby d1_23) rfl ?_
    show Steps p.tables e below (T13.setTop (mkF m 24 #[.val (.long (own_sh jb 6)), .second, .val (.int (8 : Int32)), .val (.ref a3), .val (.int (Int32.ofNat av)), .val (.int (1 : Int32))] [(.long (((own_sh jb 6).toUInt64 >>> ((8 : Int32) &&& 0x3f).toInt64.toUInt64).toInt64))])) _
    refine XS.lstoreN X13.here hx rfl (hb hby d1_24) rfl (l' := #[.val (.long (((own_sh jb 6).toUInt64 >>> ((8 : Int32) &&& 0x3f).toInt64.toUInt64).toInt64)), .second, .val (.int (8 : Int32)), .val (.ref a3), .val (.int (Int32.ofNat av)), .val (.int (1 : Int32))]) rfl ?_
    show Steps p.tables e below (T13.setTop (mkF m 25 #[.val (.long (((own_sh jb 6).toUInt64 >>> ((8 : Int32) &&& 0x3f).toInt64.toUInt64).toInt64)), .second, .val (.int (8 : Int32)), .val (.ref a3), .val (.int (Int32.ofNat av)), .val (.int (1 : Int32))] [])) _
    refine XS.iinc X13.here hx rfl (hb hby d1_25) rfl (l' := #[.val (.long (((own_sh jb 6).toUInt64 >>> ((8 : Int32) &&& 0x3f).toInt64.toUInt64).toInt64)), .second, .val (.int (8 : Int32)), .val (.ref a3), .val (.int (Int32.ofNat av)), .val (.int (0 : Int32))]) rfl ?_
    show Steps p.tables e below (T13.setTop (mkF m 28 #[.val (.long (((own_sh jb 6).toUInt64 >>> ((8 : Int32) &&& 0x3f).toInt64.toUInt64).toInt64)), .second, .val (.int (8 : Int32)), .val (.ref a3), .val (.int (Int32.ofNat av)), .val (.int (0 : Int32))] [])) _
    refine XS.goto X13.here hx rfl (pc0 := 28) (pc' := 5) rfl (hb hby d1_28) (by decide) (by decide) ?_
    show Steps p.tables e below (T13.setTop (mkF m 5 #[.val (.long (((own_sh jb 6).toUInt64 >>> ((8 : Int32) &&& 0x3f).toInt64.toUInt64).toInt64)), .second, .val (.int (8 : Int32)), .val (.ref a3), .val (.int (Int32.ofNat av)), .val (.int (0 : Int32))] [])) _
    rw [own_shs jb 6 (by decide)]
    show Steps p.tables e below (T13.setTop (mkF m 5 #[.val (.long (own_sh jb 7)), .second, .val (.int (8 : Int32)), .val (.ref a3), .val (.int (Int32.ofNat av)), .val (.int (0 : Int32))] [])) _
    refine XS.iload X13.here hx rfl (hb hby d1_5) rfl ?_
    show Steps p.tables e below (T13.setTop (mkF m 7 #[.val (.long (own_sh jb 7)), .second, .val (.int (8 : Int32)), .val (.ref a3), .val (.int (Int32.ofNat av)), .val (.int (0 : Int32))] [(.int (0 : Int32))])) _
    refine XS.ifNo X13.here hx rfl (hb hby d1_7) rfl ((if0 _ _).trans (flt (by decide : ¬ ((0 : Int32) < (0 : Int32)))).1) ?_
    show Steps p.tables e below (T13.setTop (mkF m 10 #[.val (.long (own_sh jb 7)), .second, .val (.int (8 : Int32)), .val (.ref a3), .val (.int (Int32.ofNat av)), .val (.int (0 : Int32))] [])) _
    refine XS.aloadN X13.here hx rfl (hb hby d1_10) rfl rfl ?_
    show Steps p.tables e below (T13.setTop (mkF m 11 #[.val (.long (own_sh jb 7)), .second, .val (.int (8 : Int32)), .val (.ref a3), .val (.int (Int32.ofNat av)), .val (.int (0 : Int32))] [(.ref a3)])) _
    refine XS.iload X13.here hx rfl (hb hby d1_11) rfl ?_
    show Steps p.tables e below (T13.setTop (mkF m 13 #[.val (.long (own_sh jb 7)), .second, .val (.int (8 : Int32)), .val (.ref a3), .val (.int (Int32.ofNat av)), .val (.int (0 : Int32))] [(.int (Int32.ofNat av)), (.ref a3)])) _
    refine XS.iload X13.here hx rfl (hb hby d1_13) rfl ?_
    show Steps p.tables e below (T13.setTop (mkF m 15 #[.val (.long (own_sh jb 7)), .second, .val (.int (8 : Int32)), .val (.ref a3), .val (.int (Int32.ofNat av)), .val (.int (0 : Int32))] [(.int (0 : Int32)), (.int (Int32.ofNat av)), (.ref a3)])) _
    refine XS.iadd X13.here hx rfl (hb hby d1_15) rfl ?_
    show Steps p.tables e below (T13.setTop (mkF m 16 #[.val (.long (own_sh jb 7)), .second, .val (.int (8 : Int32)), .val (.ref a3), .val (.int (Int32.ofNat av)), .val (.int (0 : Int32))] [(.int ((Int32.ofNat av) + (0 : Int32))), (.ref a3)])) _
    refine XS.lloadN X13.here hx rfl (hb hby d1_16) rfl ?_
    show Steps p.tables e below (T13.setTop (mkF m 17 #[.val (.long (own_sh jb 7)), .second, .val (.int (8 : Int32)), .val (.ref a3), .val (.int (Int32.ofNat av)), .val (.int (0 : Int32))] [(.long (own_sh jb 7)), (.int ((Int32.ofNat av) + (0 : Int32))), (.ref a3)])) _
    refine XS.l2i X13.here hx rfl (hb hby d1_17) rfl ?_
    show Steps p.tables e below (T13.setTop (mkF m 18 #[.val (.long (own_sh jb 7)), .second, .val (.int (8 : Int32)), .val (.ref a3), .val (.int (Int32.ofNat av)), .val (.int (0 : Int32))] [(.int ((own_sh jb 7).toInt32)), (.int ((Int32.ofNat av) + (0 : Int32))), (.ref a3)])) _
    refine XS.i2b X13.here hx rfl (hb hby d1_18) rfl ?_
    show Steps p.tables e below (T13.setTop (mkF m 19 #[.val (.long (own_sh jb 7)), .second, .val (.int (8 : Int32)), .val (.ref a3), .val (.int (Int32.ofNat av)), .val (.int (0 : Int32))] [(.int (((own_sh jb 7).toInt32).toInt8.toInt32)), (.int ((Int32.ofNat av) + (0 : Int32))), (.ref a3)])) _
    refine st15 _ ?_
    show Steps p.tables e below (T15.setTop (mkF m 20 #[.val (.long (own_sh jb 7)), .second, .val (.int (8 : Int32)), .val (.ref a3), .val (.int (Int32.ofNat av)), .val (.int (0 : Int32))] [])) _
    refine XS.lloadN X15.here hx rfl (hb hby d1_20) rfl ?_
    show Steps p.tables e below (T15.setTop (mkF m 21 #[.val (.long (own_sh jb 7)), .second, .val (.int (8 : Int32)), .val (.ref a3), .val (.int (Int32.ofNat av)), .val (.int (0 : Int32))] [(.long (own_sh jb 7))])) _
    refine XS.bipush X15.here hx rfl (hb hby d1_21) ?_
    show Steps p.tables e below (T15.setTop (mkF m 23 #[.val (.long (own_sh jb 7)), .second, .val (.int (8 : Int32)), .val (.ref a3), .val (.int (Int32.ofNat av)), .val (.int (0 : Int32))] [(.int (8 : Int32)), (.long (own_sh jb 7))])) _
    refine XS.lushr X15.here hx rfl (hb hby d1_23) rfl ?_
    show Steps p.tables e below (T15.setTop (mkF m 24 #[.val (.long (own_sh jb 7)), .second, .val (.int (8 : Int32)), .val (.ref a3), .val (.int (Int32.ofNat av)), .val (.int (0 : Int32))] [(.long (((own_sh jb 7).toUInt64 >>> ((8 : Int32) &&& 0x3f).toInt64.toUInt64).toInt64))])) _
    refine XS.lstoreN X15.here hx rfl (hb hby d1_24) rfl (l' := #[.val (.long (((own_sh jb 7).toUInt64 >>> ((8 : Int32) &&& 0x3f).toInt64.toUInt64).toInt64)), .second, .val (.int (8 : Int32)), .val (.ref a3), .val (.int (Int32.ofNat av)), .val (.int (0 : Int32))]) rfl ?_
    show Steps p.tables e below (T15.setTop (mkF m 25 #[.val (.long (((own_sh jb 7).toUInt64 >>> ((8 : Int32) &&& 0x3f).toInt64.toUInt64).toInt64)), .second, .val (.int (8 : Int32)), .val (.ref a3), .val (.int (Int32.ofNat av)), .val (.int (0 : Int32))] [])) _
    refine XS.iinc X15.here hx rfl (hb hby d1_25) rfl (l' := #[.val (.long (((own_sh jb 7).toUInt64 >>> ((8 : Int32) &&& 0x3f).toInt64.toUInt64).toInt64)), .second, .val (.int (8 : Int32)), .val (.ref a3), .val (.int (Int32.ofNat av)), .val (.int (-1 : Int32))]) rfl ?_
    show Steps p.tables e below (T15.setTop (mkF m 28 #[.val (.long (((own_sh jb 7).toUInt64 >>> ((8 : Int32) &&& 0x3f).toInt64.toUInt64).toInt64)), .second, .val (.int (8 : Int32)), .val (.ref a3), .val (.int (Int32.ofNat av)), .val (.int (-1 : Int32))] [])) _
    refine XS.goto X15.here hx rfl (pc0 := 28) (pc' := 5) rfl (hb hby d1_28) (by decide) (by decide) ?_
    show Steps p.tables e below (T15.setTop (mkF m 5 #[.val (.long (((own_sh jb 7).toUInt64 >>> ((8 : Int32) &&& 0x3f).toInt64.toUInt64).toInt64)), .second, .val (.int (8 : Int32)), .val (.ref a3), .val (.int (Int32.ofNat av)), .val (.int (-1 : Int32))] [])) _
    refine XS.iload X15.here hx rfl (hb hby d1_5) rfl ?_
    show Steps p.tables e below (T15.setTop (mkF m 7 #[.val (.long (((own_sh jb 7).toUInt64 >>> ((8 : Int32) &&& 0x3f).toInt64.toUInt64).toInt64)), .second, .val (.int (8 : Int32)), .val (.ref a3), .val (.int (Int32.ofNat av)), .val (.int (-1 : Int32))] [(.int (-1 : Int32))])) _
    refine XS.ifYes X15.here hx rfl (pc0 := 7) (pc' := 31) rfl (hb hby d1_7) rfl ((if0 _ _).trans (tlt (by decide : ((-1 : Int32) < (0 : Int32)))).1) (by decide) (by decide) ?_
    show Steps p.tables e below (T15.setTop (mkF m 31 #[.val (.long (((own_sh jb 7).toUInt64 >>> ((8 : Int32) &&& 0x3f).toInt64.toUInt64).toInt64)), .second, .val (.int (8 : Int32)), .val (.ref a3), .val (.int (Int32.ofNat av)), .val (.int (-1 : Int32))] [])) _
    exact X15.returnOut hx Bd.returns (hb hby d1_31) hr
  · show QP Z jb (8 : Int32) a3 av k1 f h0 n0 _ T15.heap _
    rw [e15]
    exact ⟨rfl, N15, K15, own_g8 jb av f ha ▸ U15⟩
theorem rm1 (l : Launch) (Z : State) (a0 : Array Value) (hw : ∀ d ∈ tables_1, d.before a0 Z = true) (ws : List Jvm.Cond) (jb : Int64) (p2 : Int32) (a3 : Addr) (av : Nat) (k1 : ClassId) (f : Nat → Int32) (h0 : Heap) (n0 : Nat) (Z0 : n0 ≤ h0.size) (hcn : p2 = 0 ∨ p2 = 1 ∨ p2 = 2 ∨ p2 = 3 ∨ p2 = 4 ∨ p2 = 5 ∨ p2 = 6 ∨ p2 = 7 ∨ p2 = 8) (ha : av ≤ 3) (V_1 : Arv Z h0 a3 k1 .byte (12 : Int32) (own_vals f) (.int (0 : Int32))) (g_a3 : n0 ≤ a3) :
    MetFree l (⟨"com/example/backstitch/backstitch/stream/StreamTable", "putBits", "(JI[BI)V"⟩ : MethodName) (head1 (Jvm.Cond.code (⟨"com/example/backstitch/backstitch/stream/StreamTable", "putBits", "(JI[BI)V"⟩ : MethodName) prog_55_method_40_code 6 none :: ws) ({ frames := 0, cells := 0, slots := 0, locals := 0 } : Room)) (fun a U => a = #[(.long jb), (.int p2), (.ref a3), (.int (Int32.ofNat av))] ∧ Z.Warmed39 U.vm ∧ U.heap = h0) (fun _ _ _ _ _ => True) (fun _ U o U' => ∃ v L, o = .returned v ∧ QP Z jb p2 a3 av k1 f h0 n0 v U'.heap L ∧ FrameEnd U o U' L ({ frames := 0, cells := 0, slots := 0, locals := 0 } : Room).cells ({ frames := 0, cells := 0, slots := 0, locals := 0 } : Room).slots) := by
  rcases hcn with rfl | rfl | rfl | rfl | rfl | rfl | rfl | rfl | rfl
  · exact rm1_0 l Z a0 hw ws jb a3 av k1 f h0 n0 Z0 ha V_1 g_a3
  · exact rm1_1 l Z a0 hw ws jb a3 av k1 f h0 n0 Z0 ha V_1 g_a3
  · exact rm1_2 l Z a0 hw ws jb a3 av k1 f h0 n0 Z0 ha V_1 g_a3
  · exact rm1_3 l Z a0 hw ws jb a3 av k1 f h0 n0 Z0 ha V_1 g_a3
  · exact rm1_4 l Z a0 hw ws jb a3 av k1 f h0 n0 Z0 ha V_1 g_a3
  · exact rm1_5 l Z a0 hw ws jb a3 av k1 f h0 n0 Z0 ha V_1 g_a3
  · exact rm1_6 l Z a0 hw ws jb a3 av k1 f h0 n0 Z0 ha V_1 g_a3
  · exact rm1_7 l Z a0 hw ws jb a3 av k1 f h0 n0 Z0 ha V_1 g_a3
  · exact rm1_8 l Z a0 hw ws jb a3 av k1 f h0 n0 Z0 ha V_1 g_a3
theorem d2_0 : decode method_3_code 0 = .ok (.iload_n 1, 1) := by decide +kernel
theorem d2_1 : decode method_3_code 1 = .ok (.iload 5, 2) := by decide +kernel
theorem d2_3 : decode method_3_code 3 = .ok (.if_icmp .lt 44, 3) := by decide +kernel
theorem d2_6 : decode method_3_code 6 = .ok (.iload_n 1, 1) := by decide +kernel
theorem d2_7 : decode method_3_code 7 = .ok (.iload 5, 2) := by decide +kernel
theorem d2_9 : decode method_3_code 9 = .ok (.iload 4, 2) := by decide +kernel
theorem d2_11 : decode method_3_code 11 = .ok (.iadd, 1) := by decide +kernel
theorem d2_12 : decode method_3_code 12 = .ok (.if_icmp .ge 35, 3) := by decide +kernel
theorem d2_15 : decode method_3_code 15 = .ok (.bipush 8, 2) := by decide +kernel
theorem d2_17 : decode method_3_code 17 = .ok (.iload 4, 2) := by decide +kernel
theorem d2_19 : decode method_3_code 19 = .ok (.iconst 1, 1) := by decide +kernel
theorem d2_20 : decode method_3_code 20 = .ok (.isub, 1) := by decide +kernel
theorem d2_21 : decode method_3_code 21 = .ok (.iload_n 1, 1) := by decide +kernel
theorem d2_22 : decode method_3_code 22 = .ok (.iload 5, 2) := by decide +kernel
theorem d2_24 : decode method_3_code 24 = .ok (.isub, 1) := by decide +kernel
theorem d2_25 : decode method_3_code 25 = .ok (.isub, 1) := by decide +kernel
theorem d2_26 : decode method_3_code 26 = .ok (.imul, 1) := by decide +kernel
theorem d2_27 : decode method_3_code 27 = .ok (.istore 7, 2) := by decide +kernel
theorem d2_29 : decode method_3_code 29 = .ok (.aload_n 0, 1) := by decide +kernel
theorem d2_30 : decode method_3_code 30 = .ok (.iload_n 1, 1) := by decide +kernel
theorem d2_31 : decode method_3_code 31 = .ok (.baload, 1) := by decide +kernel
theorem d2_32 : decode method_3_code 32 = .ok (.lload_n 2, 1) := by decide +kernel
theorem d2_33 : decode method_3_code 33 = .ok (.iload 7, 2) := by decide +kernel
theorem d2_35 : decode method_3_code 35 = .ok (.lushr, 1) := by decide +kernel
theorem d2_36 : decode method_3_code 36 = .ok (.l2i, 1) := by decide +kernel
theorem d2_37 : decode method_3_code 37 = .ok (.i2b, 1) := by decide +kernel
theorem d2_38 : decode method_3_code 38 = .ok (.if_icmp .ne 7, 3) := by decide +kernel
theorem d2_41 : decode method_3_code 41 = .ok (.iconst 1, 1) := by decide +kernel
theorem d2_42 : decode method_3_code 42 = .ok (.goto 4, 3) := by decide +kernel
theorem d2_45 : decode method_3_code 45 = .ok (.iconst 0, 1) := by decide +kernel
theorem d2_46 : decode method_3_code 46 = .ok (.ireturn, 1) := by decide +kernel
theorem d2_47 : decode method_3_code 47 = .ok (.aload_n 0, 1) := by decide +kernel
theorem d2_48 : decode method_3_code 48 = .ok (.iload_n 1, 1) := by decide +kernel
theorem d2_49 : decode method_3_code 49 = .ok (.baload, 1) := by decide +kernel
theorem d2_50 : decode method_3_code 50 = .ok (.iload 6, 2) := by decide +kernel
theorem d2_52 : decode method_3_code 52 = .ok (.if_icmp .ne 7, 3) := by decide +kernel
theorem d2_55 : decode method_3_code 55 = .ok (.iconst 1, 1) := by decide +kernel
theorem d2_56 : decode method_3_code 56 = .ok (.goto 4, 3) := by decide +kernel
theorem d2_59 : decode method_3_code 59 = .ok (.iconst 0, 1) := by decide +kernel
theorem d2_60 : decode method_3_code 60 = .ok (.ireturn, 1) := by decide +kernel
theorem pn_2 : plainName "com/example/backstitch/backstitch/stream/StreamTablePutBitsPinLaw" = true := by first | (simp [plainName, overriddenIn]; done) | decide +kernel
theorem ef_2 (m : MethodId) (a1 : Addr) (p2 : Int32) (jb : Int64) (p4 : Int32) (p5 : Int32) (p6 : Int32) : entryFrame m #[(.ref a1), (.int p2), (.long jb), (.int p4), (.int p5), (.int p6)] 8 = mkF m 0 #[.val (.ref a1), .val (.int p2), .val (.long jb), .second, .val (.int p4), .val (.int p5), .val (.int p6), .unset] [] := by first | (simp [entryFrame, mkF, argsToLocals, Value.category]; done) | rfl
def Q2 (Z : State) (a1 : Addr) (p2 : Int32) (jb : Int64) (p4 : Int32) (p5 : Int32) (p6 : Int32) (k1 : ClassId) (g : Nat → Int32) (y1 : Int32) (h0 : Heap) (n0 : Nat) (v : Option Value) (h : Heap) (L : List Loc) : Prop := v = some (.int (own_cell y1 p2 jb p4 p5 p6)) ∧ Fr n0 L ∧ h = h0
set_option maxRecDepth 65536 in
set_option maxHeartbeats 40000000 in
theorem rm2 (l : Launch) (Z : State) (a0 : Array Value) (hw : ∀ d ∈ tables_1, d.before a0 Z = true) (ws : List Jvm.Cond) (a1 : Addr) (p2 : Int32) (jb : Int64) (p4 : Int32) (p5 : Int32) (p6 : Int32) (k1 : ClassId) (g : Nat → Int32) (y1 : Int32) (h0 : Heap) (n0 : Nat) (Z0 : n0 ≤ h0.size) (V_1 : Arv Z h0 a1 k1 .byte (12 : Int32) (own_vals g) (.int (0 : Int32))) (hi : ¬ p2 < (0 : Int32) ∧ p2 < (12 : Int32)) (hy : (own_vals g).getD p2.toNatClampNeg (.int (0 : Int32)) = .int y1) :
    MetFree l (⟨"com/example/backstitch/backstitch/stream/StreamTablePutBitsPinLaw", "cell", "([BIJIIB)Z"⟩ : MethodName) (head1 (Jvm.Cond.code (⟨"com/example/backstitch/backstitch/stream/StreamTablePutBitsPinLaw", "cell", "([BIJIIB)Z"⟩ : MethodName) method_3_code 8 (some .boolean) :: ws) ({ frames := 0, cells := 0, slots := 0, locals := 0 } : Room)) (fun a U => a = #[(.ref a1), (.int p2), (.long jb), (.int p4), (.int p5), (.int p6)] ∧ Z.Warmed39 U.vm ∧ U.heap = h0) (fun _ _ _ _ _ => True) (fun _ U o U' => ∃ v L, o = .returned v ∧ Q2 Z a1 p2 jb p4 p5 p6 k1 g y1 h0 n0 v U'.heap L ∧ FrameEnd U o U' L ({ frames := 0, cells := 0, slots := 0, locals := 0 } : Room).cells ({ frames := 0, cells := 0, slots := 0, locals := 0 } : Room).slots) := by
  refine MetFree.of_bodySF (plainFor_of_name pn_2) hisR ?_
  intro p e s m args below meth c s₁ Bd hml0 hP hK
  obtain ⟨rfl, hZ, hh⟩ := hP
  have hx := Bd.exec
  have hby := Bd.bytes
  have hml : c.maxLocals = 8 := hml0
  have hown : s.vm.findClass "com/example/backstitch/backstitch/stream/StreamTablePutBitsPinLaw" = some m.cls := findClass_of_methodNamed Bd.named
  have hnm := (name_of_methodNamed Bd.named Bd.method).1
  have X0 : Stand p l e ({ frames := 0, cells := 0, slots := 0, locals := 0 } : Room) s m #[(.ref a1), (.int p2), (.long jb), (.int p4), (.int p5), (.int p6)] below meth c s₁ [] 0 0 := Stand.of_body Bd
  have e0 : s₁.heap = h0 := by rw [← hh, Bd.state]; rfl
  have N0 := Fr.nil n0
  have pre0 : ∀ t, Steps p.tables e below (s₁.setTop (mkF m 0 #[.val (.ref a1), .val (.int p2), .val (.long jb), .second, .val (.int p4), .val (.int p5), .val (.int p6), .unset] [])) t → Steps p.tables e below (s₁.setTop (entryFrame m #[(.ref a1), (.int p2), (.long jb), (.int p4), (.int p5), (.int p6)] 8)) t := fun t k => castTop (ef_2 m a1 p2 jb p4 p5 p6) k
  have K0 : Keep h0 h0 [] := Keep.refl h0 []
  have ch1 : Goes p e below s₁ (entryFrame m #[(.ref a1), (.int p2), (.long jb), (.int p4), (.int p5), (.int p6)] 8) s₁ (mkF m 3 #[.val (.ref a1), .val (.int p2), .val (.long jb), .second, .val (.int p4), .val (.int p5), .val (.int p6), .unset] [(.int p5), (.int p2)]) := fun t kt => pre0 t (by
    show Steps p.tables e below (s₁.setTop (mkF m 0 #[.val (.ref a1), .val (.int p2), .val (.long jb), .second, .val (.int p4), .val (.int p5), .val (.int p6), .unset] [])) _
    refine XS.iloadN X0.here hx rfl (hb hby d2_0) rfl ?_
    show Steps p.tables e below (s₁.setTop (mkF m 1 #[.val (.ref a1), .val (.int p2), .val (.long jb), .second, .val (.int p4), .val (.int p5), .val (.int p6), .unset] [(.int p2)])) _
    refine XS.iload X0.here hx rfl (hb hby d2_1) rfl ?_
    show Steps p.tables e below (s₁.setTop (mkF m 3 #[.val (.ref a1), .val (.int p2), .val (.long jb), .second, .val (.int p4), .val (.int p5), .val (.int p6), .unset] [(.int p5), (.int p2)])) _
    exact kt)
  by_cases hc2 : p2 < p5
  · obtain ⟨cl3, Ar3, -, S3, M3, H3, G3⟩ := id V_1
    have hin3 : ¬ (p2 < 0 ∨ cl3.slots.size ≤ (p2).toNatClampNeg) := inb_of S3 hi
    have hat3 : cl3.slots[(p2).toNatClampNeg]? = some (.int y1) := Has.at H3 hin3 hy
    have ch4 : Goes p e below s₁ (entryFrame m #[(.ref a1), (.int p2), (.long jb), (.int p4), (.int p5), (.int p6)] 8) s₁ (mkF m 52 #[.val (.ref a1), .val (.int p2), .val (.long jb), .second, .val (.int p4), .val (.int p5), .val (.int p6), .unset] [(.int p6), (.int y1)]) := fun t kt => ch1 t (by
      show Steps p.tables e below (s₁.setTop (mkF m 3 #[.val (.ref a1), .val (.int p2), .val (.long jb), .second, .val (.int p4), .val (.int p5), .val (.int p6), .unset] [(.int p5), (.int p2)])) _
      refine XS.icmpYes X0.here hx rfl (pc0 := 3) (pc' := 47) rfl (hb hby d2_3) rfl (tlt hc2).1 (by decide) (by decide) ?_
      show Steps p.tables e below (s₁.setTop (mkF m 47 #[.val (.ref a1), .val (.int p2), .val (.long jb), .second, .val (.int p4), .val (.int p5), .val (.int p6), .unset] [])) _
      refine XS.aloadN X0.here hx rfl (hb hby d2_47) rfl rfl ?_
      show Steps p.tables e below (s₁.setTop (mkF m 48 #[.val (.ref a1), .val (.int p2), .val (.long jb), .second, .val (.int p4), .val (.int p5), .val (.int p6), .unset] [(.ref a1)])) _
      refine XS.iloadN X0.here hx rfl (hb hby d2_48) rfl ?_
      show Steps p.tables e below (s₁.setTop (mkF m 49 #[.val (.ref a1), .val (.int p2), .val (.long jb), .second, .val (.int p4), .val (.int p5), .val (.int p6), .unset] [(.int p2), (.ref a1)])) _
      refine X0.baloadBytes hx (j := p2) (v := (.int y1)) (by rw [e0]; exact Ar3.1) (State.isArrayOf_alike hZ.alike Ar3.2.1) Ar3.2.2 hin3 hat3 (g := (mkF m 49 #[.val (.ref a1), .val (.int p2), .val (.long jb), .second, .val (.int p4), .val (.int p5), .val (.int p6), .unset] [(.int p2), (.ref a1)])) rfl rfl (hb hby d2_49) _ ?_
      show Steps p.tables e below (s₁.setTop (mkF m 50 #[.val (.ref a1), .val (.int p2), .val (.long jb), .second, .val (.int p4), .val (.int p5), .val (.int p6), .unset] [(.int y1)])) _
      refine XS.iload X0.here hx rfl (hb hby d2_50) rfl ?_
      show Steps p.tables e below (s₁.setTop (mkF m 52 #[.val (.ref a1), .val (.int p2), .val (.long jb), .second, .val (.int p4), .val (.int p5), .val (.int p6), .unset] [(.int p6), (.int y1)])) _
      exact kt)
    by_cases hc5 : y1 = p6
    · have hv : (1 : Int32) = own_cell y1 p2 jb p4 p5 p6 := by
        unfold own_cell own_cv
        simp only [if_pos hc2, if_pos hc5]
      obtain ⟨fs, hr, hrun, hended, hW, hsame⟩ := X0.leave (v := some (.int (1 : Int32))) (fun h => by rw [Bd.returns] at h; cases h)
      refine ⟨_, _, ch4 _ ?_, hrun, hended, _, _, rfl, ?_, ⟨_, rfl⟩, hW, hsame.mono (by decide) (by decide)⟩
      · show Steps p.tables e below (s₁.setTop (mkF m 52 #[.val (.ref a1), .val (.int p2), .val (.long jb), .second, .val (.int p4), .val (.int p5), .val (.int p6), .unset] [(.int p6), (.int y1)])) _
        refine XS.icmpNo X0.here hx rfl (hb hby d2_52) rfl (teq hc5).2 ?_
        show Steps p.tables e below (s₁.setTop (mkF m 55 #[.val (.ref a1), .val (.int p2), .val (.long jb), .second, .val (.int p4), .val (.int p5), .val (.int p6), .unset] [])) _
        refine XS.iconst X0.here hx rfl (hb hby d2_55) ?_
        show Steps p.tables e below (s₁.setTop (mkF m 56 #[.val (.ref a1), .val (.int p2), .val (.long jb), .second, .val (.int p4), .val (.int p5), .val (.int p6), .unset] [(.int (1 : Int32))])) _
        refine XS.goto X0.here hx rfl (pc0 := 56) (pc' := 60) rfl (hb hby d2_56) (by decide) (by decide) ?_
        show Steps p.tables e below (s₁.setTop (mkF m 60 #[.val (.ref a1), .val (.int p2), .val (.long jb), .second, .val (.int p4), .val (.int p5), .val (.int p6), .unset] [(.int (1 : Int32))])) _
        exact retN X0 hx (t := .boolean) Bd.returns (by simp) (hb hby d2_60) hr
      · show Q2 Z a1 p2 jb p4 p5 p6 k1 g y1 h0 n0 _ s₁.heap _
        rw [e0]
        exact ⟨congrArg (fun z => some (Value.int z)) hv, N0, rfl⟩
    · have hv : (0 : Int32) = own_cell y1 p2 jb p4 p5 p6 := by
        unfold own_cell own_cv
        simp only [if_pos hc2, if_neg hc5]
      obtain ⟨fs, hr, hrun, hended, hW, hsame⟩ := X0.leave (v := some (.int (0 : Int32))) (fun h => by rw [Bd.returns] at h; cases h)
      refine ⟨_, _, ch4 _ ?_, hrun, hended, _, _, rfl, ?_, ⟨_, rfl⟩, hW, hsame.mono (by decide) (by decide)⟩
      · show Steps p.tables e below (s₁.setTop (mkF m 52 #[.val (.ref a1), .val (.int p2), .val (.long jb), .second, .val (.int p4), .val (.int p5), .val (.int p6), .unset] [(.int p6), (.int y1)])) _
        refine XS.icmpYes X0.here hx rfl (pc0 := 52) (pc' := 59) rfl (hb hby d2_52) rfl (feq hc5).2 (by decide) (by decide) ?_
        show Steps p.tables e below (s₁.setTop (mkF m 59 #[.val (.ref a1), .val (.int p2), .val (.long jb), .second, .val (.int p4), .val (.int p5), .val (.int p6), .unset] [])) _
        refine XS.iconst X0.here hx rfl (hb hby d2_59) ?_
        show Steps p.tables e below (s₁.setTop (mkF m 60 #[.val (.ref a1), .val (.int p2), .val (.long jb), .second, .val (.int p4), .val (.int p5), .val (.int p6), .unset] [(.int (0 : Int32))])) _
        exact retN X0 hx (t := .boolean) Bd.returns (by simp) (hb hby d2_60) hr
      · show Q2 Z a1 p2 jb p4 p5 p6 k1 g y1 h0 n0 _ s₁.heap _
        rw [e0]
        exact ⟨congrArg (fun z => some (Value.int z)) hv, N0, rfl⟩
  · have ch6 : Goes p e below s₁ (entryFrame m #[(.ref a1), (.int p2), (.long jb), (.int p4), (.int p5), (.int p6)] 8) s₁ (mkF m 12 #[.val (.ref a1), .val (.int p2), .val (.long jb), .second, .val (.int p4), .val (.int p5), .val (.int p6), .unset] [(.int (p5 + p4)), (.int p2)]) := fun t kt => ch1 t (by
      show Steps p.tables e below (s₁.setTop (mkF m 3 #[.val (.ref a1), .val (.int p2), .val (.long jb), .second, .val (.int p4), .val (.int p5), .val (.int p6), .unset] [(.int p5), (.int p2)])) _
      refine XS.icmpNo X0.here hx rfl (hb hby d2_3) rfl (flt hc2).1 ?_
      show Steps p.tables e below (s₁.setTop (mkF m 6 #[.val (.ref a1), .val (.int p2), .val (.long jb), .second, .val (.int p4), .val (.int p5), .val (.int p6), .unset] [])) _
      refine XS.iloadN X0.here hx rfl (hb hby d2_6) rfl ?_
      show Steps p.tables e below (s₁.setTop (mkF m 7 #[.val (.ref a1), .val (.int p2), .val (.long jb), .second, .val (.int p4), .val (.int p5), .val (.int p6), .unset] [(.int p2)])) _
      refine XS.iload X0.here hx rfl (hb hby d2_7) rfl ?_
      show Steps p.tables e below (s₁.setTop (mkF m 9 #[.val (.ref a1), .val (.int p2), .val (.long jb), .second, .val (.int p4), .val (.int p5), .val (.int p6), .unset] [(.int p5), (.int p2)])) _
      refine XS.iload X0.here hx rfl (hb hby d2_9) rfl ?_
      show Steps p.tables e below (s₁.setTop (mkF m 11 #[.val (.ref a1), .val (.int p2), .val (.long jb), .second, .val (.int p4), .val (.int p5), .val (.int p6), .unset] [(.int p4), (.int p5), (.int p2)])) _
      refine XS.iadd X0.here hx rfl (hb hby d2_11) rfl ?_
      show Steps p.tables e below (s₁.setTop (mkF m 12 #[.val (.ref a1), .val (.int p2), .val (.long jb), .second, .val (.int p4), .val (.int p5), .val (.int p6), .unset] [(.int (p5 + p4)), (.int p2)])) _
      exact kt)
    by_cases hc7 : p2 < (p5 + p4)
    · obtain ⟨cl8, Ar8, -, S8, M8, H8, G8⟩ := id V_1
      have hin8 : ¬ (p2 < 0 ∨ cl8.slots.size ≤ (p2).toNatClampNeg) := inb_of S8 hi
      have hat8 : cl8.slots[(p2).toNatClampNeg]? = some (.int y1) := Has.at H8 hin8 hy
      have ch9 : Goes p e below s₁ (entryFrame m #[(.ref a1), (.int p2), (.long jb), (.int p4), (.int p5), (.int p6)] 8) s₁ (mkF m 38 #[.val (.ref a1), .val (.int p2), .val (.long jb), .second, .val (.int p4), .val (.int p5), .val (.int p6), .val (.int ((8 : Int32) * ((p4 - (1 : Int32)) - (p2 - p5))))] [(.int ((((jb.toUInt64 >>> (((8 : Int32) * ((p4 - (1 : Int32)) - (p2 - p5))) &&& 0x3f).toInt64.toUInt64).toInt64).toInt32).toInt8.toInt32)), (.int y1)]) := fun t kt => ch6 t (by
        show Steps p.tables e below (s₁.setTop (mkF m 12 #[.val (.ref a1), .val (.int p2), .val (.long jb), .second, .val (.int p4), .val (.int p5), .val (.int p6), .unset] [(.int (p5 + p4)), (.int p2)])) _
        refine XS.icmpNo X0.here hx rfl (hb hby d2_12) rfl (tlt hc7).2.1 ?_
        show Steps p.tables e below (s₁.setTop (mkF m 15 #[.val (.ref a1), .val (.int p2), .val (.long jb), .second, .val (.int p4), .val (.int p5), .val (.int p6), .unset] [])) _
        refine XS.bipush X0.here hx rfl (hb hby d2_15) ?_
        show Steps p.tables e below (s₁.setTop (mkF m 17 #[.val (.ref a1), .val (.int p2), .val (.long jb), .second, .val (.int p4), .val (.int p5), .val (.int p6), .unset] [(.int (8 : Int32))])) _
        refine XS.iload X0.here hx rfl (hb hby d2_17) rfl ?_
        show Steps p.tables e below (s₁.setTop (mkF m 19 #[.val (.ref a1), .val (.int p2), .val (.long jb), .second, .val (.int p4), .val (.int p5), .val (.int p6), .unset] [(.int p4), (.int (8 : Int32))])) _
        refine XS.iconst X0.here hx rfl (hb hby d2_19) ?_
        show Steps p.tables e below (s₁.setTop (mkF m 20 #[.val (.ref a1), .val (.int p2), .val (.long jb), .second, .val (.int p4), .val (.int p5), .val (.int p6), .unset] [(.int (1 : Int32)), (.int p4), (.int (8 : Int32))])) _
        refine XS.isub X0.here hx rfl (hb hby d2_20) rfl ?_
        show Steps p.tables e below (s₁.setTop (mkF m 21 #[.val (.ref a1), .val (.int p2), .val (.long jb), .second, .val (.int p4), .val (.int p5), .val (.int p6), .unset] [(.int (p4 - (1 : Int32))), (.int (8 : Int32))])) _
        refine XS.iloadN X0.here hx rfl (hb hby d2_21) rfl ?_
        show Steps p.tables e below (s₁.setTop (mkF m 22 #[.val (.ref a1), .val (.int p2), .val (.long jb), .second, .val (.int p4), .val (.int p5), .val (.int p6), .unset] [(.int p2), (.int (p4 - (1 : Int32))), (.int (8 : Int32))])) _
        refine XS.iload X0.here hx rfl (hb hby d2_22) rfl ?_
        show Steps p.tables e below (s₁.setTop (mkF m 24 #[.val (.ref a1), .val (.int p2), .val (.long jb), .second, .val (.int p4), .val (.int p5), .val (.int p6), .unset] [(.int p5), (.int p2), (.int (p4 - (1 : Int32))), (.int (8 : Int32))])) _
        refine XS.isub X0.here hx rfl (hb hby d2_24) rfl ?_
        show Steps p.tables e below (s₁.setTop (mkF m 25 #[.val (.ref a1), .val (.int p2), .val (.long jb), .second, .val (.int p4), .val (.int p5), .val (.int p6), .unset] [(.int (p2 - p5)), (.int (p4 - (1 : Int32))), (.int (8 : Int32))])) _
        refine XS.isub X0.here hx rfl (hb hby d2_25) rfl ?_
        show Steps p.tables e below (s₁.setTop (mkF m 26 #[.val (.ref a1), .val (.int p2), .val (.long jb), .second, .val (.int p4), .val (.int p5), .val (.int p6), .unset] [(.int ((p4 - (1 : Int32)) - (p2 - p5))), (.int (8 : Int32))])) _
        refine XS.imul X0.here hx rfl (hb hby d2_26) rfl ?_
        show Steps p.tables e below (s₁.setTop (mkF m 27 #[.val (.ref a1), .val (.int p2), .val (.long jb), .second, .val (.int p4), .val (.int p5), .val (.int p6), .unset] [(.int ((8 : Int32) * ((p4 - (1 : Int32)) - (p2 - p5))))])) _
        refine XS.istore X0.here hx rfl (hb hby d2_27) rfl (l' := #[.val (.ref a1), .val (.int p2), .val (.long jb), .second, .val (.int p4), .val (.int p5), .val (.int p6), .val (.int ((8 : Int32) * ((p4 - (1 : Int32)) - (p2 - p5))))]) rfl ?_
        show Steps p.tables e below (s₁.setTop (mkF m 29 #[.val (.ref a1), .val (.int p2), .val (.long jb), .second, .val (.int p4), .val (.int p5), .val (.int p6), .val (.int ((8 : Int32) * ((p4 - (1 : Int32)) - (p2 - p5))))] [])) _
        refine XS.aloadN X0.here hx rfl (hb hby d2_29) rfl rfl ?_
        show Steps p.tables e below (s₁.setTop (mkF m 30 #[.val (.ref a1), .val (.int p2), .val (.long jb), .second, .val (.int p4), .val (.int p5), .val (.int p6), .val (.int ((8 : Int32) * ((p4 - (1 : Int32)) - (p2 - p5))))] [(.ref a1)])) _
        refine XS.iloadN X0.here hx rfl (hb hby d2_30) rfl ?_
        show Steps p.tables e below (s₁.setTop (mkF m 31 #[.val (.ref a1), .val (.int p2), .val (.long jb), .second, .val (.int p4), .val (.int p5), .val (.int p6), .val (.int ((8 : Int32) * ((p4 - (1 : Int32)) - (p2 - p5))))] [(.int p2), (.ref a1)])) _
        refine X0.baloadBytes hx (j := p2) (v := (.int y1)) (by rw [e0]; exact Ar8.1) (State.isArrayOf_alike hZ.alike Ar8.2.1) Ar8.2.2 hin8 hat8 (g := (mkF m 31 #[.val (.ref a1), .val (.int p2), .val (.long jb), .second, .val (.int p4), .val (.int p5), .val (.int p6), .val (.int ((8 : Int32) * ((p4 - (1 : Int32)) - (p2 - p5))))] [(.int p2), (.ref a1)])) rfl rfl (hb hby d2_31) _ ?_
        show Steps p.tables e below (s₁.setTop (mkF m 32 #[.val (.ref a1), .val (.int p2), .val (.long jb), .second, .val (.int p4), .val (.int p5), .val (.int p6), .val (.int ((8 : Int32) * ((p4 - (1 : Int32)) - (p2 - p5))))] [(.int y1)])) _
        refine XS.lloadN X0.here hx rfl (hb hby d2_32) rfl ?_
        show Steps p.tables e below (s₁.setTop (mkF m 33 #[.val (.ref a1), .val (.int p2), .val (.long jb), .second, .val (.int p4), .val (.int p5), .val (.int p6), .val (.int ((8 : Int32) * ((p4 - (1 : Int32)) - (p2 - p5))))] [(.long jb), (.int y1)])) _
        refine XS.iload X0.here hx rfl (hb hby d2_33) rfl ?_
        show Steps p.tables e below (s₁.setTop (mkF m 35 #[.val (.ref a1), .val (.int p2), .val (.long jb), .second, .val (.int p4), .val (.int p5), .val (.int p6), .val (.int ((8 : Int32) * ((p4 - (1 : Int32)) - (p2 - p5))))] [(.int ((8 : Int32) * ((p4 - (1 : Int32)) - (p2 - p5)))), (.long jb), (.int y1)])) _
        refine XS.lushr X0.here hx rfl (hb hby d2_35) rfl ?_
        show Steps p.tables e below (s₁.setTop (mkF m 36 #[.val (.ref a1), .val (.int p2), .val (.long jb), .second, .val (.int p4), .val (.int p5), .val (.int p6), .val (.int ((8 : Int32) * ((p4 - (1 : Int32)) - (p2 - p5))))] [(.long ((jb.toUInt64 >>> (((8 : Int32) * ((p4 - (1 : Int32)) - (p2 - p5))) &&& 0x3f).toInt64.toUInt64).toInt64)), (.int y1)])) _
        refine XS.l2i X0.here hx rfl (hb hby d2_36) rfl ?_
        show Steps p.tables e below (s₁.setTop (mkF m 37 #[.val (.ref a1), .val (.int p2), .val (.long jb), .second, .val (.int p4), .val (.int p5), .val (.int p6), .val (.int ((8 : Int32) * ((p4 - (1 : Int32)) - (p2 - p5))))] [(.int (((jb.toUInt64 >>> (((8 : Int32) * ((p4 - (1 : Int32)) - (p2 - p5))) &&& 0x3f).toInt64.toUInt64).toInt64).toInt32)), (.int y1)])) _
        refine XS.i2b X0.here hx rfl (hb hby d2_37) rfl ?_
        show Steps p.tables e below (s₁.setTop (mkF m 38 #[.val (.ref a1), .val (.int p2), .val (.long jb), .second, .val (.int p4), .val (.int p5), .val (.int p6), .val (.int ((8 : Int32) * ((p4 - (1 : Int32)) - (p2 - p5))))] [(.int ((((jb.toUInt64 >>> (((8 : Int32) * ((p4 - (1 : Int32)) - (p2 - p5))) &&& 0x3f).toInt64.toUInt64).toInt64).toInt32).toInt8.toInt32)), (.int y1)])) _
        exact kt)
      by_cases hc10 : y1 = ((((jb.toUInt64 >>> (((8 : Int32) * ((p4 - (1 : Int32)) - (p2 - p5))) &&& 0x3f).toInt64.toUInt64).toInt64).toInt32).toInt8.toInt32)
      · have hv : (1 : Int32) = own_cell y1 p2 jb p4 p5 p6 := by
          unfold own_cell own_cv
          simp only [if_neg hc2, if_pos hc7, if_pos hc10]
        obtain ⟨fs, hr, hrun, hended, hW, hsame⟩ := X0.leave (v := some (.int (1 : Int32))) (fun h => by rw [Bd.returns] at h; cases h)
        refine ⟨_, _, ch9 _ ?_, hrun, hended, _, _, rfl, ?_, ⟨_, rfl⟩, hW, hsame.mono (by decide) (by decide)⟩
        · show Steps p.tables e below (s₁.setTop (mkF m 38 #[.val (.ref a1), .val (.int p2), .val (.long jb), .second, .val (.int p4), .val (.int p5), .val (.int p6), .val (.int ((8 : Int32) * ((p4 - (1 : Int32)) - (p2 - p5))))] [(.int ((((jb.toUInt64 >>> (((8 : Int32) * ((p4 - (1 : Int32)) - (p2 - p5))) &&& 0x3f).toInt64.toUInt64).toInt64).toInt32).toInt8.toInt32)), (.int y1)])) _
          refine XS.icmpNo X0.here hx rfl (hb hby d2_38) rfl (teq hc10).2 ?_
          show Steps p.tables e below (s₁.setTop (mkF m 41 #[.val (.ref a1), .val (.int p2), .val (.long jb), .second, .val (.int p4), .val (.int p5), .val (.int p6), .val (.int ((8 : Int32) * ((p4 - (1 : Int32)) - (p2 - p5))))] [])) _
          refine XS.iconst X0.here hx rfl (hb hby d2_41) ?_
          show Steps p.tables e below (s₁.setTop (mkF m 42 #[.val (.ref a1), .val (.int p2), .val (.long jb), .second, .val (.int p4), .val (.int p5), .val (.int p6), .val (.int ((8 : Int32) * ((p4 - (1 : Int32)) - (p2 - p5))))] [(.int (1 : Int32))])) _
          refine XS.goto X0.here hx rfl (pc0 := 42) (pc' := 46) rfl (hb hby d2_42) (by decide) (by decide) ?_
          show Steps p.tables e below (s₁.setTop (mkF m 46 #[.val (.ref a1), .val (.int p2), .val (.long jb), .second, .val (.int p4), .val (.int p5), .val (.int p6), .val (.int ((8 : Int32) * ((p4 - (1 : Int32)) - (p2 - p5))))] [(.int (1 : Int32))])) _
          exact retN X0 hx (t := .boolean) Bd.returns (by simp) (hb hby d2_46) hr
        · show Q2 Z a1 p2 jb p4 p5 p6 k1 g y1 h0 n0 _ s₁.heap _
          rw [e0]
          exact ⟨congrArg (fun z => some (Value.int z)) hv, N0, rfl⟩
      · have hv : (0 : Int32) = own_cell y1 p2 jb p4 p5 p6 := by
          unfold own_cell own_cv
          simp only [if_neg hc2, if_pos hc7, if_neg hc10]
        obtain ⟨fs, hr, hrun, hended, hW, hsame⟩ := X0.leave (v := some (.int (0 : Int32))) (fun h => by rw [Bd.returns] at h; cases h)
        refine ⟨_, _, ch9 _ ?_, hrun, hended, _, _, rfl, ?_, ⟨_, rfl⟩, hW, hsame.mono (by decide) (by decide)⟩
        · show Steps p.tables e below (s₁.setTop (mkF m 38 #[.val (.ref a1), .val (.int p2), .val (.long jb), .second, .val (.int p4), .val (.int p5), .val (.int p6), .val (.int ((8 : Int32) * ((p4 - (1 : Int32)) - (p2 - p5))))] [(.int ((((jb.toUInt64 >>> (((8 : Int32) * ((p4 - (1 : Int32)) - (p2 - p5))) &&& 0x3f).toInt64.toUInt64).toInt64).toInt32).toInt8.toInt32)), (.int y1)])) _
          refine XS.icmpYes X0.here hx rfl (pc0 := 38) (pc' := 45) rfl (hb hby d2_38) rfl (feq hc10).2 (by decide) (by decide) ?_
          show Steps p.tables e below (s₁.setTop (mkF m 45 #[.val (.ref a1), .val (.int p2), .val (.long jb), .second, .val (.int p4), .val (.int p5), .val (.int p6), .val (.int ((8 : Int32) * ((p4 - (1 : Int32)) - (p2 - p5))))] [])) _
          refine XS.iconst X0.here hx rfl (hb hby d2_45) ?_
          show Steps p.tables e below (s₁.setTop (mkF m 46 #[.val (.ref a1), .val (.int p2), .val (.long jb), .second, .val (.int p4), .val (.int p5), .val (.int p6), .val (.int ((8 : Int32) * ((p4 - (1 : Int32)) - (p2 - p5))))] [(.int (0 : Int32))])) _
          exact retN X0 hx (t := .boolean) Bd.returns (by simp) (hb hby d2_46) hr
        · show Q2 Z a1 p2 jb p4 p5 p6 k1 g y1 h0 n0 _ s₁.heap _
          rw [e0]
          exact ⟨congrArg (fun z => some (Value.int z)) hv, N0, rfl⟩
    · obtain ⟨cl11, Ar11, -, S11, M11, H11, G11⟩ := id V_1
      have hin11 : ¬ (p2 < 0 ∨ cl11.slots.size ≤ (p2).toNatClampNeg) := inb_of S11 hi
      have hat11 : cl11.slots[(p2).toNatClampNeg]? = some (.int y1) := Has.at H11 hin11 hy
      have ch12 : Goes p e below s₁ (entryFrame m #[(.ref a1), (.int p2), (.long jb), (.int p4), (.int p5), (.int p6)] 8) s₁ (mkF m 52 #[.val (.ref a1), .val (.int p2), .val (.long jb), .second, .val (.int p4), .val (.int p5), .val (.int p6), .unset] [(.int p6), (.int y1)]) := fun t kt => ch6 t (by
        show Steps p.tables e below (s₁.setTop (mkF m 12 #[.val (.ref a1), .val (.int p2), .val (.long jb), .second, .val (.int p4), .val (.int p5), .val (.int p6), .unset] [(.int (p5 + p4)), (.int p2)])) _
        refine XS.icmpYes X0.here hx rfl (pc0 := 12) (pc' := 47) rfl (hb hby d2_12) rfl (flt hc7).2.1 (by decide) (by decide) ?_
        show Steps p.tables e below (s₁.setTop (mkF m 47 #[.val (.ref a1), .val (.int p2), .val (.long jb), .second, .val (.int p4), .val (.int p5), .val (.int p6), .unset] [])) _
        refine XS.aloadN X0.here hx rfl (hb hby d2_47) rfl rfl ?_
        show Steps p.tables e below (s₁.setTop (mkF m 48 #[.val (.ref a1), .val (.int p2), .val (.long jb), .second, .val (.int p4), .val (.int p5), .val (.int p6), .unset] [(.ref a1)])) _
        refine XS.iloadN X0.here hx rfl (hb hby d2_48) rfl ?_
        show Steps p.tables e below (s₁.setTop (mkF m 49 #[.val (.ref a1), .val (.int p2), .val (.long jb), .second, .val (.int p4), .val (.int p5), .val (.int p6), .unset] [(.int p2), (.ref a1)])) _
        refine X0.baloadBytes hx (j := p2) (v := (.int y1)) (by rw [e0]; exact Ar11.1) (State.isArrayOf_alike hZ.alike Ar11.2.1) Ar11.2.2 hin11 hat11 (g := (mkF m 49 #[.val (.ref a1), .val (.int p2), .val (.long jb), .second, .val (.int p4), .val (.int p5), .val (.int p6), .unset] [(.int p2), (.ref a1)])) rfl rfl (hb hby d2_49) _ ?_
        show Steps p.tables e below (s₁.setTop (mkF m 50 #[.val (.ref a1), .val (.int p2), .val (.long jb), .second, .val (.int p4), .val (.int p5), .val (.int p6), .unset] [(.int y1)])) _
        refine XS.iload X0.here hx rfl (hb hby d2_50) rfl ?_
        show Steps p.tables e below (s₁.setTop (mkF m 52 #[.val (.ref a1), .val (.int p2), .val (.long jb), .second, .val (.int p4), .val (.int p5), .val (.int p6), .unset] [(.int p6), (.int y1)])) _
        exact kt)
      by_cases hc13 : y1 = p6
      · have hv : (1 : Int32) = own_cell y1 p2 jb p4 p5 p6 := by
          unfold own_cell own_cv
          simp only [if_neg hc2, if_neg hc7, if_pos hc13]
        obtain ⟨fs, hr, hrun, hended, hW, hsame⟩ := X0.leave (v := some (.int (1 : Int32))) (fun h => by rw [Bd.returns] at h; cases h)
        refine ⟨_, _, ch12 _ ?_, hrun, hended, _, _, rfl, ?_, ⟨_, rfl⟩, hW, hsame.mono (by decide) (by decide)⟩
        · show Steps p.tables e below (s₁.setTop (mkF m 52 #[.val (.ref a1), .val (.int p2), .val (.long jb), .second, .val (.int p4), .val (.int p5), .val (.int p6), .unset] [(.int p6), (.int y1)])) _
          refine XS.icmpNo X0.here hx rfl (hb hby d2_52) rfl (teq hc13).2 ?_
          show Steps p.tables e below (s₁.setTop (mkF m 55 #[.val (.ref a1), .val (.int p2), .val (.long jb), .second, .val (.int p4), .val (.int p5), .val (.int p6), .unset] [])) _
          refine XS.iconst X0.here hx rfl (hb hby d2_55) ?_
          show Steps p.tables e below (s₁.setTop (mkF m 56 #[.val (.ref a1), .val (.int p2), .val (.long jb), .second, .val (.int p4), .val (.int p5), .val (.int p6), .unset] [(.int (1 : Int32))])) _
          refine XS.goto X0.here hx rfl (pc0 := 56) (pc' := 60) rfl (hb hby d2_56) (by decide) (by decide) ?_
          show Steps p.tables e below (s₁.setTop (mkF m 60 #[.val (.ref a1), .val (.int p2), .val (.long jb), .second, .val (.int p4), .val (.int p5), .val (.int p6), .unset] [(.int (1 : Int32))])) _
          exact retN X0 hx (t := .boolean) Bd.returns (by simp) (hb hby d2_60) hr
        · show Q2 Z a1 p2 jb p4 p5 p6 k1 g y1 h0 n0 _ s₁.heap _
          rw [e0]
          exact ⟨congrArg (fun z => some (Value.int z)) hv, N0, rfl⟩
      · have hv : (0 : Int32) = own_cell y1 p2 jb p4 p5 p6 := by
          unfold own_cell own_cv
          simp only [if_neg hc2, if_neg hc7, if_neg hc13]
        obtain ⟨fs, hr, hrun, hended, hW, hsame⟩ := X0.leave (v := some (.int (0 : Int32))) (fun h => by rw [Bd.returns] at h; cases h)
        refine ⟨_, _, ch12 _ ?_, hrun, hended, _, _, rfl, ?_, ⟨_, rfl⟩, hW, hsame.mono (by decide) (by decide)⟩
        · show Steps p.tables e below (s₁.setTop (mkF m 52 #[.val (.ref a1), .val (.int p2), .val (.long jb), .second, .val (.int p4), .val (.int p5), .val (.int p6), .unset] [(.int p6), (.int y1)])) _
          refine XS.icmpYes X0.here hx rfl (pc0 := 52) (pc' := 59) rfl (hb hby d2_52) rfl (feq hc13).2 (by decide) (by decide) ?_
          show Steps p.tables e below (s₁.setTop (mkF m 59 #[.val (.ref a1), .val (.int p2), .val (.long jb), .second, .val (.int p4), .val (.int p5), .val (.int p6), .unset] [])) _
          refine XS.iconst X0.here hx rfl (hb hby d2_59) ?_
          show Steps p.tables e below (s₁.setTop (mkF m 60 #[.val (.ref a1), .val (.int p2), .val (.long jb), .second, .val (.int p4), .val (.int p5), .val (.int p6), .unset] [(.int (0 : Int32))])) _
          exact retN X0 hx (t := .boolean) Bd.returns (by simp) (hb hby d2_60) hr
        · show Q2 Z a1 p2 jb p4 p5 p6 k1 g y1 h0 n0 _ s₁.heap _
          rw [e0]
          exact ⟨congrArg (fun z => some (Value.int z)) hv, N0, rfl⟩
theorem own_c9 (x : Int32) : ((x &&& (2147483647 : Int32)) % (9 : Int32)) = 0 ∨ ((x &&& (2147483647 : Int32)) % (9 : Int32)) = 1 ∨ ((x &&& (2147483647 : Int32)) % (9 : Int32)) = 2 ∨ ((x &&& (2147483647 : Int32)) % (9 : Int32)) = 3 ∨ ((x &&& (2147483647 : Int32)) % (9 : Int32)) = 4 ∨ ((x &&& (2147483647 : Int32)) % (9 : Int32)) = 5 ∨ ((x &&& (2147483647 : Int32)) % (9 : Int32)) = 6 ∨ ((x &&& (2147483647 : Int32)) % (9 : Int32)) = 7 ∨ ((x &&& (2147483647 : Int32)) % (9 : Int32)) = 8 := by
  have h := (c_iremV (x &&& (2147483647 : Int32)) (9 : Int32)).1 (c_and x (2147483647 : Int32) (by decide)).1 (by decide)
  have e1 : (9 : Int32).toInt = 9 := by decide
  have e : ∀ (k j : Int32), k = j ↔ k.toInt = j.toInt := fun k j => Int32.toInt_inj.symm
  simp only [e]
  generalize ((x &&& (2147483647 : Int32)) % (9 : Int32)).toInt = z at *
  have q : z = 0 ∨ z = 1 ∨ z = 2 ∨ z = 3 ∨ z = 4 ∨ z = 5 ∨ z = 6 ∨ z = 7 ∨ z = 8 := by omega
  exact q
theorem own_c4 (x : Int32) : ∃ av : Nat, av ≤ 3 ∧ (x &&& (3 : Int32)) = Int32.ofNat av := by
  have h := c_and x (3 : Int32) (by decide)
  have e1 : (3 : Int32).toInt = 3 := by decide
  refine ⟨(x &&& (3 : Int32)).toInt.toNat, by omega, ?_⟩
  apply Int32.toInt_inj.mp
  rw [own_t _ (by omega)]
  omega
theorem own_fin (x : Int64) (cnt a fl z : Int32) (hz : z = fl) (j : Nat) : ¬ own_cell (own_put (fun _ => z) x cnt a j) (Int32.ofNat j) x cnt a fl = (0 : Int32) := by
  subst hz
  unfold own_cell own_put
  by_cases h1 : Int32.ofNat j < a
  · simp [h1]
  · by_cases h2 : Int32.ofNat j < a + cnt
    · simp [h1, h2]
    · simp [h1, h2]
theorem pn_0 : plainName "com/example/backstitch/backstitch/stream/StreamTablePutBitsPinLaw" = true := by first | (simp [plainName, overriddenIn]; done) | decide +kernel
theorem ef_0 (m : MethodId) (jb : Int64) (p2 : Int32) (p3 : Int32) (p4 : Int32) : entryFrame m #[(.long jb), (.int p2), (.int p3), (.int p4)] maxLocals = mkF m 0 #[.val (.long jb), .second, .val (.int p2), .val (.int p3), .val (.int p4), .unset, .unset, .unset, .unset] [] := by first | (simp [entryFrame, mkF, argsToLocals, Value.category, maxLocals]; done) | rfl
theorem pd_0 : parseMethodDescriptor "(JI[BI)V" = some ⟨[.long, .int, (.array .byte), .int], none⟩ := by decide +kernel
theorem pd_1 : parseMethodDescriptor "([BIJIIB)Z" = some ⟨[(.array .byte), .int, .long, .int, .int, .byte], some .boolean⟩ := by decide +kernel
def Q0 (Z : State) (jb : Int64) (p2 : Int32) (p3 : Int32) (p4 : Int32) (h0 : Heap) (n0 : Nat) (v : Option Value) (h : Heap) (L : List Loc) : Prop := v = some (.int (1 : Int32)) ∧ Fr n0 L
set_option maxRecDepth 65536 in
set_option maxHeartbeats 40000000 in
theorem rm0 (l : Launch) (Z : State) (a0 : Array Value) (hw : ∀ d ∈ tables_1, d.before a0 Z = true) (ws : List Jvm.Cond) (jb : Int64) (p2 : Int32) (p3 : Int32) (p4 : Int32) (h0 : Heap) (n0 : Nat) (Z0 : n0 ≤ h0.size) :
    MetFree l x (head1 (Jvm.Cond.code x code maxLocals ret :: ws) room_1) (fun a U => a = #[(.long jb), (.int p2), (.int p3), (.int p4)] ∧ Z.Warmed39 U.vm ∧ U.heap = h0) (fun _ _ _ _ _ => True) (fun _ U o U' => ∃ v L, o = .returned v ∧ Q0 Z jb p2 p3 p4 h0 n0 v U'.heap L ∧ FrameEnd U o U' L room_1.cells room_1.slots) := by
  refine MetFree.of_bodySF (plainFor_of_name pn_0) hisR ?_
  intro p e s m args below meth c s₁ Bd hml0 hP hK
  obtain ⟨rfl, hZ, hh⟩ := hP
  have hx := Bd.exec
  have hby := Bd.bytes
  have hml : c.maxLocals = 9 := hml0
  have hown : s.vm.findClass "com/example/backstitch/backstitch/stream/StreamTablePutBitsPinLaw" = some m.cls := findClass_of_methodNamed Bd.named
  have hnm := (name_of_methodNamed Bd.named Bd.method).1
  have X0 : Stand p l e room_1 s m #[(.long jb), (.int p2), (.int p3), (.int p4)] below meth c s₁ [] 0 0 := Stand.of_body Bd
  have e0 : s₁.heap = h0 := by rw [← hh, Bd.state]; rfl
  have N0 := Fr.nil n0
  have pre0 : ∀ t, Steps p.tables e below (s₁.setTop (mkF m 0 #[.val (.long jb), .second, .val (.int p2), .val (.int p3), .val (.int p4), .unset, .unset, .unset, .unset] [])) t → Steps p.tables e below (s₁.setTop (entryFrame m #[(.long jb), (.int p2), (.int p3), (.int p4)] maxLocals)) t := fun t k => castTop (ef_0 m jb p2 p3 p4) k
  have K0 : Keep h0 h0 [] := Keep.refl h0 []
  obtain ⟨av, ha, hpa⟩ := own_c4 p3
  obtain ⟨fl, hfl⟩ : ∃ z : Int32, z = (p4.toInt8.toInt32) := ⟨_, rfl⟩
  have hfb : (fl).toInt8.toInt32 = fl := by rw [hfl]; exact own_bb _
  obtain ⟨T1, h1, k1, X1, e1, E1, A1, st1⟩ := newP X0 hx hZ (hw _ (List.mem_of_getElem? (i := 1) rfl)) e0 (g := (mkF m 21 #[.val (.long jb), .second, .val (.int p2), .val (.int p3), .val (.int p4), .val (.int ((p2 &&& (2147483647 : Int32)) % (9 : Int32))), .val (.int (Int32.ofNat av)), .val (.int fl), .unset] [(.int (12 : Int32))])) rfl (hb hby at_21) rfl (by decide) (cap := 12) (by decide) (by decide) (by decide) (by decide)
  obtain ⟨b1, g1⟩ : ∃ z, z = h0.size := ⟨_, rfl⟩
  rw [← g1] at A1 st1
  have g_b1 : n0 ≤ b1 := Nat.le_trans Z0 (Nat.le_of_eq g1.symm)
  have sz_b1 : h0.size ≤ b1 := Nat.le_trans K0.1 (Nat.le_of_eq g1.symm)
  have K1 : Keep h0 h1 [] := K0.ext E1
  have Z1 : n0 ≤ h1.size := Nat.le_trans Z0 E1.1
  have V1 : Arv Z h1 b1 k1 .byte (12 : Int32) [(.int (0 : Int32)), (.int (0 : Int32)), (.int (0 : Int32)), (.int (0 : Int32)), (.int (0 : Int32)), (.int (0 : Int32)), (.int (0 : Int32)), (.int (0 : Int32)), (.int (0 : Int32)), (.int (0 : Int32)), (.int (0 : Int32)), (.int (0 : Int32))] (.int (0 : Int32)) := (Arv.new A1 (by decide)).pad (pad_rep [] (.int (0 : Int32)) 12)
  obtain ⟨cl2, Ar2, q2, S2, M2, H2, G2⟩ := id V1
  have hin2 : ¬ ((0 : Int32) < 0 ∨ cl2.slots.size ≤ ((0 : Int32)).toNatClampNeg) := inb_of S2 ⟨by decide, by decide⟩
  obtain ⟨T2, h2, X2, e2, W2, st2⟩ := stB X1 hx hZ e1 Ar2 (j := (0 : Int32)) hin2 (g := (mkF m 30 #[.val (.long jb), .second, .val (.int p2), .val (.int p3), .val (.int p4), .val (.int ((p2 &&& (2147483647 : Int32)) % (9 : Int32))), .val (.int (Int32.ofNat av)), .val (.int fl), .val (.ref b1)] [(.int fl), (.int (0 : Int32)), (.ref b1)])) rfl rfl (hb hby at_30)
  have V2 := Arv.set Ar2 q2 S2 M2 H2 G2 (fits_nar_byte _) W2 0 rfl (Nat.le_of_ble_eq_true rfl)
  have K2 : Keep h0 h2 [] := K1.wr W2 (Or.inr sz_b1)
  have N2 := Fr.snoc X2 N0 g_b1
  have Z2 : n0 ≤ h2.size := Nat.le_trans Z1 (Keep.of_wr W2).1
  have U2 : Arv Z h2 b1 k1 .byte (12 : Int32) [(.int (fl).toInt8.toInt32), (.int (0 : Int32)), (.int (0 : Int32)), (.int (0 : Int32)), (.int (0 : Int32)), (.int (0 : Int32)), (.int (0 : Int32)), (.int (0 : Int32)), (.int (0 : Int32)), (.int (0 : Int32)), (.int (0 : Int32)), (.int (0 : Int32))] (.int (0 : Int32)) := V2
  obtain ⟨cl4, Ar4, q4, S4, M4, H4, G4⟩ := id U2
  have hin4 : ¬ ((1 : Int32) < 0 ∨ cl4.slots.size ≤ ((1 : Int32)).toNatClampNeg) := inb_of S4 ⟨by decide, by decide⟩
  obtain ⟨T4, h4, X4, e4, W4, st4⟩ := stB X2 hx hZ e2 Ar4 (j := (1 : Int32)) hin4 (g := (mkF m 36 #[.val (.long jb), .second, .val (.int p2), .val (.int p3), .val (.int p4), .val (.int ((p2 &&& (2147483647 : Int32)) % (9 : Int32))), .val (.int (Int32.ofNat av)), .val (.int fl), .val (.ref b1)] [(.int fl), (.int (1 : Int32)), (.ref b1)])) rfl rfl (hb hby at_36)
  have V4 := Arv.set Ar4 q4 S4 M4 H4 G4 (fits_nar_byte _) W4 1 rfl (Nat.le_of_ble_eq_true rfl)
  have K4 : Keep h0 h4 [] := K2.wr W4 (Or.inr sz_b1)
  have N4 := Fr.snoc X4 N2 g_b1
  have Z4 : n0 ≤ h4.size := Nat.le_trans Z2 (Keep.of_wr W4).1
  have U4 : Arv Z h4 b1 k1 .byte (12 : Int32) [(.int (fl).toInt8.toInt32), (.int (fl).toInt8.toInt32), (.int (0 : Int32)), (.int (0 : Int32)), (.int (0 : Int32)), (.int (0 : Int32)), (.int (0 : Int32)), (.int (0 : Int32)), (.int (0 : Int32)), (.int (0 : Int32)), (.int (0 : Int32)), (.int (0 : Int32))] (.int (0 : Int32)) := V4
  obtain ⟨cl6, Ar6, q6, S6, M6, H6, G6⟩ := id U4
  have hin6 : ¬ ((2 : Int32) < 0 ∨ cl6.slots.size ≤ ((2 : Int32)).toNatClampNeg) := inb_of S6 ⟨by decide, by decide⟩
  obtain ⟨T6, h6, X6, e6, W6, st6⟩ := stB X4 hx hZ e4 Ar6 (j := (2 : Int32)) hin6 (g := (mkF m 42 #[.val (.long jb), .second, .val (.int p2), .val (.int p3), .val (.int p4), .val (.int ((p2 &&& (2147483647 : Int32)) % (9 : Int32))), .val (.int (Int32.ofNat av)), .val (.int fl), .val (.ref b1)] [(.int fl), (.int (2 : Int32)), (.ref b1)])) rfl rfl (hb hby at_42)
  have V6 := Arv.set Ar6 q6 S6 M6 H6 G6 (fits_nar_byte _) W6 2 rfl (Nat.le_of_ble_eq_true rfl)
  have K6 : Keep h0 h6 [] := K4.wr W6 (Or.inr sz_b1)
  have N6 := Fr.snoc X6 N4 g_b1
  have Z6 : n0 ≤ h6.size := Nat.le_trans Z4 (Keep.of_wr W6).1
  have U6 : Arv Z h6 b1 k1 .byte (12 : Int32) [(.int (fl).toInt8.toInt32), (.int (fl).toInt8.toInt32), (.int (fl).toInt8.toInt32), (.int (0 : Int32)), (.int (0 : Int32)), (.int (0 : Int32)), (.int (0 : Int32)), (.int (0 : Int32)), (.int (0 : Int32)), (.int (0 : Int32)), (.int (0 : Int32)), (.int (0 : Int32))] (.int (0 : Int32)) := V6
  obtain ⟨cl8, Ar8, q8, S8, M8, H8, G8⟩ := id U6
  have hin8 : ¬ ((3 : Int32) < 0 ∨ cl8.slots.size ≤ ((3 : Int32)).toNatClampNeg) := inb_of S8 ⟨by decide, by decide⟩
  obtain ⟨T8, h8, X8, e8, W8, st8⟩ := stB X6 hx hZ e6 Ar8 (j := (3 : Int32)) hin8 (g := (mkF m 48 #[.val (.long jb), .second, .val (.int p2), .val (.int p3), .val (.int p4), .val (.int ((p2 &&& (2147483647 : Int32)) % (9 : Int32))), .val (.int (Int32.ofNat av)), .val (.int fl), .val (.ref b1)] [(.int fl), (.int (3 : Int32)), (.ref b1)])) rfl rfl (hb hby at_48)
  have V8 := Arv.set Ar8 q8 S8 M8 H8 G8 (fits_nar_byte _) W8 3 rfl (Nat.le_of_ble_eq_true rfl)
  have K8 : Keep h0 h8 [] := K6.wr W8 (Or.inr sz_b1)
  have N8 := Fr.snoc X8 N6 g_b1
  have Z8 : n0 ≤ h8.size := Nat.le_trans Z6 (Keep.of_wr W8).1
  have U8 : Arv Z h8 b1 k1 .byte (12 : Int32) [(.int (fl).toInt8.toInt32), (.int (fl).toInt8.toInt32), (.int (fl).toInt8.toInt32), (.int (fl).toInt8.toInt32), (.int (0 : Int32)), (.int (0 : Int32)), (.int (0 : Int32)), (.int (0 : Int32)), (.int (0 : Int32)), (.int (0 : Int32)), (.int (0 : Int32)), (.int (0 : Int32))] (.int (0 : Int32)) := V8
  obtain ⟨cl10, Ar10, q10, S10, M10, H10, G10⟩ := id U8
  have hin10 : ¬ ((4 : Int32) < 0 ∨ cl10.slots.size ≤ ((4 : Int32)).toNatClampNeg) := inb_of S10 ⟨by decide, by decide⟩
  obtain ⟨T10, h10, X10, e10, W10, st10⟩ := stB X8 hx hZ e8 Ar10 (j := (4 : Int32)) hin10 (g := (mkF m 54 #[.val (.long jb), .second, .val (.int p2), .val (.int p3), .val (.int p4), .val (.int ((p2 &&& (2147483647 : Int32)) % (9 : Int32))), .val (.int (Int32.ofNat av)), .val (.int fl), .val (.ref b1)] [(.int fl), (.int (4 : Int32)), (.ref b1)])) rfl rfl (hb hby at_54)
  have V10 := Arv.set Ar10 q10 S10 M10 H10 G10 (fits_nar_byte _) W10 4 rfl (Nat.le_of_ble_eq_true rfl)
  have K10 : Keep h0 h10 [] := K8.wr W10 (Or.inr sz_b1)
  have N10 := Fr.snoc X10 N8 g_b1
  have Z10 : n0 ≤ h10.size := Nat.le_trans Z8 (Keep.of_wr W10).1
  have U10 : Arv Z h10 b1 k1 .byte (12 : Int32) [(.int (fl).toInt8.toInt32), (.int (fl).toInt8.toInt32), (.int (fl).toInt8.toInt32), (.int (fl).toInt8.toInt32), (.int (fl).toInt8.toInt32), (.int (0 : Int32)), (.int (0 : Int32)), (.int (0 : Int32)), (.int (0 : Int32)), (.int (0 : Int32)), (.int (0 : Int32)), (.int (0 : Int32))] (.int (0 : Int32)) := V10
  obtain ⟨cl12, Ar12, q12, S12, M12, H12, G12⟩ := id U10
  have hin12 : ¬ ((5 : Int32) < 0 ∨ cl12.slots.size ≤ ((5 : Int32)).toNatClampNeg) := inb_of S12 ⟨by decide, by decide⟩
  obtain ⟨T12, h12, X12, e12, W12, st12⟩ := stB X10 hx hZ e10 Ar12 (j := (5 : Int32)) hin12 (g := (mkF m 60 #[.val (.long jb), .second, .val (.int p2), .val (.int p3), .val (.int p4), .val (.int ((p2 &&& (2147483647 : Int32)) % (9 : Int32))), .val (.int (Int32.ofNat av)), .val (.int fl), .val (.ref b1)] [(.int fl), (.int (5 : Int32)), (.ref b1)])) rfl rfl (hb hby at_60)
  have V12 := Arv.set Ar12 q12 S12 M12 H12 G12 (fits_nar_byte _) W12 5 rfl (Nat.le_of_ble_eq_true rfl)
  have K12 : Keep h0 h12 [] := K10.wr W12 (Or.inr sz_b1)
  have N12 := Fr.snoc X12 N10 g_b1
  have Z12 : n0 ≤ h12.size := Nat.le_trans Z10 (Keep.of_wr W12).1
  have U12 : Arv Z h12 b1 k1 .byte (12 : Int32) [(.int (fl).toInt8.toInt32), (.int (fl).toInt8.toInt32), (.int (fl).toInt8.toInt32), (.int (fl).toInt8.toInt32), (.int (fl).toInt8.toInt32), (.int (fl).toInt8.toInt32), (.int (0 : Int32)), (.int (0 : Int32)), (.int (0 : Int32)), (.int (0 : Int32)), (.int (0 : Int32)), (.int (0 : Int32))] (.int (0 : Int32)) := V12
  obtain ⟨cl14, Ar14, q14, S14, M14, H14, G14⟩ := id U12
  have hin14 : ¬ ((6 : Int32) < 0 ∨ cl14.slots.size ≤ ((6 : Int32)).toNatClampNeg) := inb_of S14 ⟨by decide, by decide⟩
  obtain ⟨T14, h14, X14, e14, W14, st14⟩ := stB X12 hx hZ e12 Ar14 (j := (6 : Int32)) hin14 (g := (mkF m 67 #[.val (.long jb), .second, .val (.int p2), .val (.int p3), .val (.int p4), .val (.int ((p2 &&& (2147483647 : Int32)) % (9 : Int32))), .val (.int (Int32.ofNat av)), .val (.int fl), .val (.ref b1)] [(.int fl), (.int (6 : Int32)), (.ref b1)])) rfl rfl (hb hby at_67)
  have V14 := Arv.set Ar14 q14 S14 M14 H14 G14 (fits_nar_byte _) W14 6 rfl (Nat.le_of_ble_eq_true rfl)
  have K14 : Keep h0 h14 [] := K12.wr W14 (Or.inr sz_b1)
  have N14 := Fr.snoc X14 N12 g_b1
  have Z14 : n0 ≤ h14.size := Nat.le_trans Z12 (Keep.of_wr W14).1
  have U14 : Arv Z h14 b1 k1 .byte (12 : Int32) [(.int (fl).toInt8.toInt32), (.int (fl).toInt8.toInt32), (.int (fl).toInt8.toInt32), (.int (fl).toInt8.toInt32), (.int (fl).toInt8.toInt32), (.int (fl).toInt8.toInt32), (.int (fl).toInt8.toInt32), (.int (0 : Int32)), (.int (0 : Int32)), (.int (0 : Int32)), (.int (0 : Int32)), (.int (0 : Int32))] (.int (0 : Int32)) := V14
  obtain ⟨cl16, Ar16, q16, S16, M16, H16, G16⟩ := id U14
  have hin16 : ¬ ((7 : Int32) < 0 ∨ cl16.slots.size ≤ ((7 : Int32)).toNatClampNeg) := inb_of S16 ⟨by decide, by decide⟩
  obtain ⟨T16, h16, X16, e16, W16, st16⟩ := stB X14 hx hZ e14 Ar16 (j := (7 : Int32)) hin16 (g := (mkF m 74 #[.val (.long jb), .second, .val (.int p2), .val (.int p3), .val (.int p4), .val (.int ((p2 &&& (2147483647 : Int32)) % (9 : Int32))), .val (.int (Int32.ofNat av)), .val (.int fl), .val (.ref b1)] [(.int fl), (.int (7 : Int32)), (.ref b1)])) rfl rfl (hb hby at_74)
  have V16 := Arv.set Ar16 q16 S16 M16 H16 G16 (fits_nar_byte _) W16 7 rfl (Nat.le_of_ble_eq_true rfl)
  have K16 : Keep h0 h16 [] := K14.wr W16 (Or.inr sz_b1)
  have N16 := Fr.snoc X16 N14 g_b1
  have Z16 : n0 ≤ h16.size := Nat.le_trans Z14 (Keep.of_wr W16).1
  have U16 : Arv Z h16 b1 k1 .byte (12 : Int32) [(.int (fl).toInt8.toInt32), (.int (fl).toInt8.toInt32), (.int (fl).toInt8.toInt32), (.int (fl).toInt8.toInt32), (.int (fl).toInt8.toInt32), (.int (fl).toInt8.toInt32), (.int (fl).toInt8.toInt32), (.int (fl).toInt8.toInt32), (.int (0 : Int32)), (.int (0 : Int32)), (.int (0 : Int32)), (.int (0 : Int32))] (.int (0 : Int32)) := V16
  obtain ⟨cl18, Ar18, q18, S18, M18, H18, G18⟩ := id U16
  have hin18 : ¬ ((8 : Int32) < 0 ∨ cl18.slots.size ≤ ((8 : Int32)).toNatClampNeg) := inb_of S18 ⟨by decide, by decide⟩
  obtain ⟨T18, h18, X18, e18, W18, st18⟩ := stB X16 hx hZ e16 Ar18 (j := (8 : Int32)) hin18 (g := (mkF m 81 #[.val (.long jb), .second, .val (.int p2), .val (.int p3), .val (.int p4), .val (.int ((p2 &&& (2147483647 : Int32)) % (9 : Int32))), .val (.int (Int32.ofNat av)), .val (.int fl), .val (.ref b1)] [(.int fl), (.int (8 : Int32)), (.ref b1)])) rfl rfl (hb hby at_81)
  have V18 := Arv.set Ar18 q18 S18 M18 H18 G18 (fits_nar_byte _) W18 8 rfl (Nat.le_of_ble_eq_true rfl)
  have K18 : Keep h0 h18 [] := K16.wr W18 (Or.inr sz_b1)
  have N18 := Fr.snoc X18 N16 g_b1
  have Z18 : n0 ≤ h18.size := Nat.le_trans Z16 (Keep.of_wr W18).1
  have U18 : Arv Z h18 b1 k1 .byte (12 : Int32) [(.int (fl).toInt8.toInt32), (.int (fl).toInt8.toInt32), (.int (fl).toInt8.toInt32), (.int (fl).toInt8.toInt32), (.int (fl).toInt8.toInt32), (.int (fl).toInt8.toInt32), (.int (fl).toInt8.toInt32), (.int (fl).toInt8.toInt32), (.int (fl).toInt8.toInt32), (.int (0 : Int32)), (.int (0 : Int32)), (.int (0 : Int32))] (.int (0 : Int32)) := V18
  obtain ⟨cl20, Ar20, q20, S20, M20, H20, G20⟩ := id U18
  have hin20 : ¬ ((9 : Int32) < 0 ∨ cl20.slots.size ≤ ((9 : Int32)).toNatClampNeg) := inb_of S20 ⟨by decide, by decide⟩
  obtain ⟨T20, h20, X20, e20, W20, st20⟩ := stB X18 hx hZ e18 Ar20 (j := (9 : Int32)) hin20 (g := (mkF m 88 #[.val (.long jb), .second, .val (.int p2), .val (.int p3), .val (.int p4), .val (.int ((p2 &&& (2147483647 : Int32)) % (9 : Int32))), .val (.int (Int32.ofNat av)), .val (.int fl), .val (.ref b1)] [(.int fl), (.int (9 : Int32)), (.ref b1)])) rfl rfl (hb hby at_88)
  have V20 := Arv.set Ar20 q20 S20 M20 H20 G20 (fits_nar_byte _) W20 9 rfl (Nat.le_of_ble_eq_true rfl)
  have K20 : Keep h0 h20 [] := K18.wr W20 (Or.inr sz_b1)
  have N20 := Fr.snoc X20 N18 g_b1
  have Z20 : n0 ≤ h20.size := Nat.le_trans Z18 (Keep.of_wr W20).1
  have U20 : Arv Z h20 b1 k1 .byte (12 : Int32) [(.int (fl).toInt8.toInt32), (.int (fl).toInt8.toInt32), (.int (fl).toInt8.toInt32), (.int (fl).toInt8.toInt32), (.int (fl).toInt8.toInt32), (.int (fl).toInt8.toInt32), (.int (fl).toInt8.toInt32), (.int (fl).toInt8.toInt32), (.int (fl).toInt8.toInt32), (.int (fl).toInt8.toInt32), (.int (0 : Int32)), (.int (0 : Int32))] (.int (0 : Int32)) := V20
  obtain ⟨cl22, Ar22, q22, S22, M22, H22, G22⟩ := id U20
  have hin22 : ¬ ((10 : Int32) < 0 ∨ cl22.slots.size ≤ ((10 : Int32)).toNatClampNeg) := inb_of S22 ⟨by decide, by decide⟩
  obtain ⟨T22, h22, X22, e22, W22, st22⟩ := stB X20 hx hZ e20 Ar22 (j := (10 : Int32)) hin22 (g := (mkF m 95 #[.val (.long jb), .second, .val (.int p2), .val (.int p3), .val (.int p4), .val (.int ((p2 &&& (2147483647 : Int32)) % (9 : Int32))), .val (.int (Int32.ofNat av)), .val (.int fl), .val (.ref b1)] [(.int fl), (.int (10 : Int32)), (.ref b1)])) rfl rfl (hb hby at_95)
  have V22 := Arv.set Ar22 q22 S22 M22 H22 G22 (fits_nar_byte _) W22 10 rfl (Nat.le_of_ble_eq_true rfl)
  have K22 : Keep h0 h22 [] := K20.wr W22 (Or.inr sz_b1)
  have N22 := Fr.snoc X22 N20 g_b1
  have Z22 : n0 ≤ h22.size := Nat.le_trans Z20 (Keep.of_wr W22).1
  have U22 : Arv Z h22 b1 k1 .byte (12 : Int32) [(.int (fl).toInt8.toInt32), (.int (fl).toInt8.toInt32), (.int (fl).toInt8.toInt32), (.int (fl).toInt8.toInt32), (.int (fl).toInt8.toInt32), (.int (fl).toInt8.toInt32), (.int (fl).toInt8.toInt32), (.int (fl).toInt8.toInt32), (.int (fl).toInt8.toInt32), (.int (fl).toInt8.toInt32), (.int (fl).toInt8.toInt32), (.int (0 : Int32))] (.int (0 : Int32)) := V22
  obtain ⟨cl24, Ar24, q24, S24, M24, H24, G24⟩ := id U22
  have hin24 : ¬ ((11 : Int32) < 0 ∨ cl24.slots.size ≤ ((11 : Int32)).toNatClampNeg) := inb_of S24 ⟨by decide, by decide⟩
  obtain ⟨T24, h24, X24, e24, W24, st24⟩ := stB X22 hx hZ e22 Ar24 (j := (11 : Int32)) hin24 (g := (mkF m 102 #[.val (.long jb), .second, .val (.int p2), .val (.int p3), .val (.int p4), .val (.int ((p2 &&& (2147483647 : Int32)) % (9 : Int32))), .val (.int (Int32.ofNat av)), .val (.int fl), .val (.ref b1)] [(.int fl), (.int (11 : Int32)), (.ref b1)])) rfl rfl (hb hby at_102)
  have V24 := Arv.set Ar24 q24 S24 M24 H24 G24 (fits_nar_byte _) W24 11 rfl (Nat.le_of_ble_eq_true rfl)
  have K24 : Keep h0 h24 [] := K22.wr W24 (Or.inr sz_b1)
  have N24 := Fr.snoc X24 N22 g_b1
  have Z24 : n0 ≤ h24.size := Nat.le_trans Z22 (Keep.of_wr W24).1
  have U24 : Arv Z h24 b1 k1 .byte (12 : Int32) [(.int (fl).toInt8.toInt32), (.int (fl).toInt8.toInt32), (.int (fl).toInt8.toInt32), (.int (fl).toInt8.toInt32), (.int (fl).toInt8.toInt32), (.int (fl).toInt8.toInt32), (.int (fl).toInt8.toInt32), (.int (fl).toInt8.toInt32), (.int (fl).toInt8.toInt32), (.int (fl).toInt8.toInt32), (.int (fl).toInt8.toInt32), (.int (fl).toInt8.toInt32)] (.int (0 : Int32)) := V24
  have VV : Arv Z h24 b1 k1 .byte (12 : Int32) (own_vals (fun _ => (fl).toInt8.toInt32)) (.int (0 : Int32)) := U24
  obtain ⟨_, T26, lo26, Lc26, X26, N26, hQ26, st26⟩ := own_after (Q := (QP Z jb ((p2 &&& (2147483647 : Int32)) % (9 : Int32)) b1 av k1 (fun _ => (fl).toInt8.toInt32) h24 n0)) (cells := 1) (rc := 0) (slots := 12) (rs := 0) (cells' := 1) (slots' := 12) (Jvm.LawKit.callS X24 hx (y := (⟨"com/example/backstitch/backstitch/stream/StreamTable", "putBits", "(JI[BI)V"⟩ : MethodName)) hown (mvT hZ (hw _ (List.mem_of_getElem? (i := 2) rfl))) (mvT hZ (hw _ (List.mem_of_getElem? (i := 3) rfl))) (mvT hZ (hw _ (List.mem_of_getElem? (i := 4) rfl))) (mvT hZ (hw _ (List.mem_of_getElem? (i := 5) rfl))) (by decide) (backOf (W := 0) (rm1 l Z a0 hw [] jb ((p2 &&& (2147483647 : Int32)) % (9 : Int32)) b1 av k1 (fun _ => (fl).toInt8.toInt32) h24 n0 Z24 (own_c9 p2) ha VV g_b1) hZ (hw _ (List.mem_of_getElem? (i := 5) rfl)) (hw _ (List.mem_of_getElem? (i := 4) rfl)) (by decide) (by decide)) (g := (mkF m 110 #[.val (.long jb), .second, .val (.int p2), .val (.int p3), .val (.int p4), .val (.int ((p2 &&& (2147483647 : Int32)) % (9 : Int32))), .val (.int (Int32.ofNat av)), .val (.int fl), .val (.ref b1)] [(.int (Int32.ofNat av)), (.ref b1), (.int ((p2 &&& (2147483647 : Int32)) % (9 : Int32))), (.long jb)])) rfl (by rw [hml]; rfl) (argsL := [(.long jb), (.int ((p2 &&& (2147483647 : Int32)) % (9 : Int32))), (.ref b1), (.int (Int32.ofNat av))]) (rest := []) (lenOf pd_0 rfl) rfl (by show 2 * 0 + _ ≤ _; exact Nat.le_of_eq rfl) (hb hby at_110) (fun _ _ => ⟨rfl, e24, (by decide : 1 + 0 ≤ _), (by decide : 12 + 0 ≤ _)⟩)) N24 (fun _ _ _ q => by obtain ⟨-, N, -⟩ := q; exact N) rfl rfl
  dsimp only at st26
  obtain ⟨rfl, N26q, r26_0, r26_1⟩ := hQ26
  have K26 : Keep h0 T26.heap [] := K24.trans r26_0 (allS (Or.inr sz_b1) all0)
  have Z26 : n0 ≤ T26.heap.size := Nat.le_trans Z24 r26_0.1
  obtain ⟨_, T28, lo28, Lc28, X28, N28, hQ28, st28⟩ := own_after (Q := (Q2 Z b1 (0 : Int32) jb ((p2 &&& (2147483647 : Int32)) % (9 : Int32)) (Int32.ofNat av) fl k1 (own_put (fun _ => (fl).toInt8.toInt32) jb ((p2 &&& (2147483647 : Int32)) % (9 : Int32)) (Int32.ofNat av)) ((own_put (fun _ => (fl).toInt8.toInt32) jb ((p2 &&& (2147483647 : Int32)) % (9 : Int32)) (Int32.ofNat av)) 0) T26.heap n0)) (cells := 1) (rc := 0) (slots := 12) (rs := 0) (cells' := 1) (slots' := 12) (Jvm.LawKit.callS X26 hx (y := (⟨"com/example/backstitch/backstitch/stream/StreamTablePutBitsPinLaw", "cell", "([BIJIIB)Z"⟩ : MethodName)) hown (mvT hZ (hw _ (List.mem_of_getElem? (i := 6) rfl))) (mvT hZ (hw _ (List.mem_of_getElem? (i := 7) rfl))) (mvT hZ (hw _ (List.mem_of_getElem? (i := 8) rfl))) (mvT hZ (hw _ (List.mem_of_getElem? (i := 9) rfl))) (by decide) (backOf (W := 0) (rm2 l Z a0 hw [] b1 (0 : Int32) jb ((p2 &&& (2147483647 : Int32)) % (9 : Int32)) (Int32.ofNat av) fl k1 (own_put (fun _ => (fl).toInt8.toInt32) jb ((p2 &&& (2147483647 : Int32)) % (9 : Int32)) (Int32.ofNat av)) ((own_put (fun _ => (fl).toInt8.toInt32) jb ((p2 &&& (2147483647 : Int32)) % (9 : Int32)) (Int32.ofNat av)) 0) T26.heap n0 Z26 r26_1 ⟨by decide, by decide⟩ rfl) hZ (hw _ (List.mem_of_getElem? (i := 9) rfl)) (hw _ (List.mem_of_getElem? (i := 8) rfl)) (by decide) (by decide)) (g := (mkF m 123 #[.val (.long jb), .second, .val (.int p2), .val (.int p3), .val (.int p4), .val (.int ((p2 &&& (2147483647 : Int32)) % (9 : Int32))), .val (.int (Int32.ofNat av)), .val (.int fl), .val (.ref b1)] [(.int fl), (.int (Int32.ofNat av)), (.int ((p2 &&& (2147483647 : Int32)) % (9 : Int32))), (.long jb), (.int (0 : Int32)), (.ref b1)])) rfl (by rw [hml]; rfl) (argsL := [(.ref b1), (.int (0 : Int32)), (.long jb), (.int ((p2 &&& (2147483647 : Int32)) % (9 : Int32))), (.int (Int32.ofNat av)), (.int fl)]) (rest := []) (lenOf pd_1 rfl) rfl (by show 2 * 0 + _ ≤ _; exact Nat.le_of_eq rfl) (hb hby at_123) (fun _ _ => ⟨rfl, rfl, (by decide : 1 + 0 ≤ _), (by decide : 12 + 0 ≤ _)⟩)) N26 (fun _ _ _ q => by obtain ⟨-, N, -⟩ := q; exact N) rfl rfl
  dsimp only at st28
  obtain ⟨rfl, N28q, r28_0⟩ := hQ28
  obtain ⟨_, T29, lo29, Lc29, X29, N29, hQ29, st29⟩ := own_after (Q := (Q2 Z b1 (1 : Int32) jb ((p2 &&& (2147483647 : Int32)) % (9 : Int32)) (Int32.ofNat av) fl k1 (own_put (fun _ => (fl).toInt8.toInt32) jb ((p2 &&& (2147483647 : Int32)) % (9 : Int32)) (Int32.ofNat av)) ((own_put (fun _ => (fl).toInt8.toInt32) jb ((p2 &&& (2147483647 : Int32)) % (9 : Int32)) (Int32.ofNat av)) 1) T26.heap n0)) (cells := 1) (rc := 0) (slots := 12) (rs := 0) (cells' := 1) (slots' := 12) (Jvm.LawKit.callS X28 hx (y := (⟨"com/example/backstitch/backstitch/stream/StreamTablePutBitsPinLaw", "cell", "([BIJIIB)Z"⟩ : MethodName)) hown (mvT hZ (hw _ (List.mem_of_getElem? (i := 6) rfl))) (mvT hZ (hw _ (List.mem_of_getElem? (i := 7) rfl))) (mvT hZ (hw _ (List.mem_of_getElem? (i := 8) rfl))) (mvT hZ (hw _ (List.mem_of_getElem? (i := 9) rfl))) (by decide) (backOf (W := 0) (rm2 l Z a0 hw [] b1 (1 : Int32) jb ((p2 &&& (2147483647 : Int32)) % (9 : Int32)) (Int32.ofNat av) fl k1 (own_put (fun _ => (fl).toInt8.toInt32) jb ((p2 &&& (2147483647 : Int32)) % (9 : Int32)) (Int32.ofNat av)) ((own_put (fun _ => (fl).toInt8.toInt32) jb ((p2 &&& (2147483647 : Int32)) % (9 : Int32)) (Int32.ofNat av)) 1) T26.heap n0 Z26 r26_1 ⟨by decide, by decide⟩ rfl) hZ (hw _ (List.mem_of_getElem? (i := 9) rfl)) (hw _ (List.mem_of_getElem? (i := 8) rfl)) (by decide) (by decide)) (g := (mkF m 139 #[.val (.long jb), .second, .val (.int p2), .val (.int p3), .val (.int p4), .val (.int ((p2 &&& (2147483647 : Int32)) % (9 : Int32))), .val (.int (Int32.ofNat av)), .val (.int fl), .val (.ref b1)] [(.int fl), (.int (Int32.ofNat av)), (.int ((p2 &&& (2147483647 : Int32)) % (9 : Int32))), (.long jb), (.int (1 : Int32)), (.ref b1)])) rfl (by rw [hml]; rfl) (argsL := [(.ref b1), (.int (1 : Int32)), (.long jb), (.int ((p2 &&& (2147483647 : Int32)) % (9 : Int32))), (.int (Int32.ofNat av)), (.int fl)]) (rest := []) (lenOf pd_1 rfl) rfl (by show 2 * 0 + _ ≤ _; exact Nat.le_of_eq rfl) (hb hby at_139) (fun _ _ => ⟨rfl, r28_0, (by decide : 1 + 0 ≤ _), (by decide : 12 + 0 ≤ _)⟩)) N28 (fun _ _ _ q => by obtain ⟨-, N, -⟩ := q; exact N) rfl rfl
  dsimp only at st29
  obtain ⟨rfl, N29q, r29_0⟩ := hQ29
  obtain ⟨_, T30, lo30, Lc30, X30, N30, hQ30, st30⟩ := own_after (Q := (Q2 Z b1 (2 : Int32) jb ((p2 &&& (2147483647 : Int32)) % (9 : Int32)) (Int32.ofNat av) fl k1 (own_put (fun _ => (fl).toInt8.toInt32) jb ((p2 &&& (2147483647 : Int32)) % (9 : Int32)) (Int32.ofNat av)) ((own_put (fun _ => (fl).toInt8.toInt32) jb ((p2 &&& (2147483647 : Int32)) % (9 : Int32)) (Int32.ofNat av)) 2) T26.heap n0)) (cells := 1) (rc := 0) (slots := 12) (rs := 0) (cells' := 1) (slots' := 12) (Jvm.LawKit.callS X29 hx (y := (⟨"com/example/backstitch/backstitch/stream/StreamTablePutBitsPinLaw", "cell", "([BIJIIB)Z"⟩ : MethodName)) hown (mvT hZ (hw _ (List.mem_of_getElem? (i := 6) rfl))) (mvT hZ (hw _ (List.mem_of_getElem? (i := 7) rfl))) (mvT hZ (hw _ (List.mem_of_getElem? (i := 8) rfl))) (mvT hZ (hw _ (List.mem_of_getElem? (i := 9) rfl))) (by decide) (backOf (W := 0) (rm2 l Z a0 hw [] b1 (2 : Int32) jb ((p2 &&& (2147483647 : Int32)) % (9 : Int32)) (Int32.ofNat av) fl k1 (own_put (fun _ => (fl).toInt8.toInt32) jb ((p2 &&& (2147483647 : Int32)) % (9 : Int32)) (Int32.ofNat av)) ((own_put (fun _ => (fl).toInt8.toInt32) jb ((p2 &&& (2147483647 : Int32)) % (9 : Int32)) (Int32.ofNat av)) 2) T26.heap n0 Z26 r26_1 ⟨by decide, by decide⟩ rfl) hZ (hw _ (List.mem_of_getElem? (i := 9) rfl)) (hw _ (List.mem_of_getElem? (i := 8) rfl)) (by decide) (by decide)) (g := (mkF m 155 #[.val (.long jb), .second, .val (.int p2), .val (.int p3), .val (.int p4), .val (.int ((p2 &&& (2147483647 : Int32)) % (9 : Int32))), .val (.int (Int32.ofNat av)), .val (.int fl), .val (.ref b1)] [(.int fl), (.int (Int32.ofNat av)), (.int ((p2 &&& (2147483647 : Int32)) % (9 : Int32))), (.long jb), (.int (2 : Int32)), (.ref b1)])) rfl (by rw [hml]; rfl) (argsL := [(.ref b1), (.int (2 : Int32)), (.long jb), (.int ((p2 &&& (2147483647 : Int32)) % (9 : Int32))), (.int (Int32.ofNat av)), (.int fl)]) (rest := []) (lenOf pd_1 rfl) rfl (by show 2 * 0 + _ ≤ _; exact Nat.le_of_eq rfl) (hb hby at_155) (fun _ _ => ⟨rfl, r29_0, (by decide : 1 + 0 ≤ _), (by decide : 12 + 0 ≤ _)⟩)) N29 (fun _ _ _ q => by obtain ⟨-, N, -⟩ := q; exact N) rfl rfl
  dsimp only at st30
  obtain ⟨rfl, N30q, r30_0⟩ := hQ30
  obtain ⟨_, T31, lo31, Lc31, X31, N31, hQ31, st31⟩ := own_after (Q := (Q2 Z b1 (3 : Int32) jb ((p2 &&& (2147483647 : Int32)) % (9 : Int32)) (Int32.ofNat av) fl k1 (own_put (fun _ => (fl).toInt8.toInt32) jb ((p2 &&& (2147483647 : Int32)) % (9 : Int32)) (Int32.ofNat av)) ((own_put (fun _ => (fl).toInt8.toInt32) jb ((p2 &&& (2147483647 : Int32)) % (9 : Int32)) (Int32.ofNat av)) 3) T26.heap n0)) (cells := 1) (rc := 0) (slots := 12) (rs := 0) (cells' := 1) (slots' := 12) (Jvm.LawKit.callS X30 hx (y := (⟨"com/example/backstitch/backstitch/stream/StreamTablePutBitsPinLaw", "cell", "([BIJIIB)Z"⟩ : MethodName)) hown (mvT hZ (hw _ (List.mem_of_getElem? (i := 6) rfl))) (mvT hZ (hw _ (List.mem_of_getElem? (i := 7) rfl))) (mvT hZ (hw _ (List.mem_of_getElem? (i := 8) rfl))) (mvT hZ (hw _ (List.mem_of_getElem? (i := 9) rfl))) (by decide) (backOf (W := 0) (rm2 l Z a0 hw [] b1 (3 : Int32) jb ((p2 &&& (2147483647 : Int32)) % (9 : Int32)) (Int32.ofNat av) fl k1 (own_put (fun _ => (fl).toInt8.toInt32) jb ((p2 &&& (2147483647 : Int32)) % (9 : Int32)) (Int32.ofNat av)) ((own_put (fun _ => (fl).toInt8.toInt32) jb ((p2 &&& (2147483647 : Int32)) % (9 : Int32)) (Int32.ofNat av)) 3) T26.heap n0 Z26 r26_1 ⟨by decide, by decide⟩ rfl) hZ (hw _ (List.mem_of_getElem? (i := 9) rfl)) (hw _ (List.mem_of_getElem? (i := 8) rfl)) (by decide) (by decide)) (g := (mkF m 171 #[.val (.long jb), .second, .val (.int p2), .val (.int p3), .val (.int p4), .val (.int ((p2 &&& (2147483647 : Int32)) % (9 : Int32))), .val (.int (Int32.ofNat av)), .val (.int fl), .val (.ref b1)] [(.int fl), (.int (Int32.ofNat av)), (.int ((p2 &&& (2147483647 : Int32)) % (9 : Int32))), (.long jb), (.int (3 : Int32)), (.ref b1)])) rfl (by rw [hml]; rfl) (argsL := [(.ref b1), (.int (3 : Int32)), (.long jb), (.int ((p2 &&& (2147483647 : Int32)) % (9 : Int32))), (.int (Int32.ofNat av)), (.int fl)]) (rest := []) (lenOf pd_1 rfl) rfl (by show 2 * 0 + _ ≤ _; exact Nat.le_of_eq rfl) (hb hby at_171) (fun _ _ => ⟨rfl, r30_0, (by decide : 1 + 0 ≤ _), (by decide : 12 + 0 ≤ _)⟩)) N30 (fun _ _ _ q => by obtain ⟨-, N, -⟩ := q; exact N) rfl rfl
  dsimp only at st31
  obtain ⟨rfl, N31q, r31_0⟩ := hQ31
  obtain ⟨_, T32, lo32, Lc32, X32, N32, hQ32, st32⟩ := own_after (Q := (Q2 Z b1 (4 : Int32) jb ((p2 &&& (2147483647 : Int32)) % (9 : Int32)) (Int32.ofNat av) fl k1 (own_put (fun _ => (fl).toInt8.toInt32) jb ((p2 &&& (2147483647 : Int32)) % (9 : Int32)) (Int32.ofNat av)) ((own_put (fun _ => (fl).toInt8.toInt32) jb ((p2 &&& (2147483647 : Int32)) % (9 : Int32)) (Int32.ofNat av)) 4) T26.heap n0)) (cells := 1) (rc := 0) (slots := 12) (rs := 0) (cells' := 1) (slots' := 12) (Jvm.LawKit.callS X31 hx (y := (⟨"com/example/backstitch/backstitch/stream/StreamTablePutBitsPinLaw", "cell", "([BIJIIB)Z"⟩ : MethodName)) hown (mvT hZ (hw _ (List.mem_of_getElem? (i := 6) rfl))) (mvT hZ (hw _ (List.mem_of_getElem? (i := 7) rfl))) (mvT hZ (hw _ (List.mem_of_getElem? (i := 8) rfl))) (mvT hZ (hw _ (List.mem_of_getElem? (i := 9) rfl))) (by decide) (backOf (W := 0) (rm2 l Z a0 hw [] b1 (4 : Int32) jb ((p2 &&& (2147483647 : Int32)) % (9 : Int32)) (Int32.ofNat av) fl k1 (own_put (fun _ => (fl).toInt8.toInt32) jb ((p2 &&& (2147483647 : Int32)) % (9 : Int32)) (Int32.ofNat av)) ((own_put (fun _ => (fl).toInt8.toInt32) jb ((p2 &&& (2147483647 : Int32)) % (9 : Int32)) (Int32.ofNat av)) 4) T26.heap n0 Z26 r26_1 ⟨by decide, by decide⟩ rfl) hZ (hw _ (List.mem_of_getElem? (i := 9) rfl)) (hw _ (List.mem_of_getElem? (i := 8) rfl)) (by decide) (by decide)) (g := (mkF m 187 #[.val (.long jb), .second, .val (.int p2), .val (.int p3), .val (.int p4), .val (.int ((p2 &&& (2147483647 : Int32)) % (9 : Int32))), .val (.int (Int32.ofNat av)), .val (.int fl), .val (.ref b1)] [(.int fl), (.int (Int32.ofNat av)), (.int ((p2 &&& (2147483647 : Int32)) % (9 : Int32))), (.long jb), (.int (4 : Int32)), (.ref b1)])) rfl (by rw [hml]; rfl) (argsL := [(.ref b1), (.int (4 : Int32)), (.long jb), (.int ((p2 &&& (2147483647 : Int32)) % (9 : Int32))), (.int (Int32.ofNat av)), (.int fl)]) (rest := []) (lenOf pd_1 rfl) rfl (by show 2 * 0 + _ ≤ _; exact Nat.le_of_eq rfl) (hb hby at_187) (fun _ _ => ⟨rfl, r31_0, (by decide : 1 + 0 ≤ _), (by decide : 12 + 0 ≤ _)⟩)) N31 (fun _ _ _ q => by obtain ⟨-, N, -⟩ := q; exact N) rfl rfl
  dsimp only at st32
  obtain ⟨rfl, N32q, r32_0⟩ := hQ32
  obtain ⟨_, T33, lo33, Lc33, X33, N33, hQ33, st33⟩ := own_after (Q := (Q2 Z b1 (5 : Int32) jb ((p2 &&& (2147483647 : Int32)) % (9 : Int32)) (Int32.ofNat av) fl k1 (own_put (fun _ => (fl).toInt8.toInt32) jb ((p2 &&& (2147483647 : Int32)) % (9 : Int32)) (Int32.ofNat av)) ((own_put (fun _ => (fl).toInt8.toInt32) jb ((p2 &&& (2147483647 : Int32)) % (9 : Int32)) (Int32.ofNat av)) 5) T26.heap n0)) (cells := 1) (rc := 0) (slots := 12) (rs := 0) (cells' := 1) (slots' := 12) (Jvm.LawKit.callS X32 hx (y := (⟨"com/example/backstitch/backstitch/stream/StreamTablePutBitsPinLaw", "cell", "([BIJIIB)Z"⟩ : MethodName)) hown (mvT hZ (hw _ (List.mem_of_getElem? (i := 6) rfl))) (mvT hZ (hw _ (List.mem_of_getElem? (i := 7) rfl))) (mvT hZ (hw _ (List.mem_of_getElem? (i := 8) rfl))) (mvT hZ (hw _ (List.mem_of_getElem? (i := 9) rfl))) (by decide) (backOf (W := 0) (rm2 l Z a0 hw [] b1 (5 : Int32) jb ((p2 &&& (2147483647 : Int32)) % (9 : Int32)) (Int32.ofNat av) fl k1 (own_put (fun _ => (fl).toInt8.toInt32) jb ((p2 &&& (2147483647 : Int32)) % (9 : Int32)) (Int32.ofNat av)) ((own_put (fun _ => (fl).toInt8.toInt32) jb ((p2 &&& (2147483647 : Int32)) % (9 : Int32)) (Int32.ofNat av)) 5) T26.heap n0 Z26 r26_1 ⟨by decide, by decide⟩ rfl) hZ (hw _ (List.mem_of_getElem? (i := 9) rfl)) (hw _ (List.mem_of_getElem? (i := 8) rfl)) (by decide) (by decide)) (g := (mkF m 203 #[.val (.long jb), .second, .val (.int p2), .val (.int p3), .val (.int p4), .val (.int ((p2 &&& (2147483647 : Int32)) % (9 : Int32))), .val (.int (Int32.ofNat av)), .val (.int fl), .val (.ref b1)] [(.int fl), (.int (Int32.ofNat av)), (.int ((p2 &&& (2147483647 : Int32)) % (9 : Int32))), (.long jb), (.int (5 : Int32)), (.ref b1)])) rfl (by rw [hml]; rfl) (argsL := [(.ref b1), (.int (5 : Int32)), (.long jb), (.int ((p2 &&& (2147483647 : Int32)) % (9 : Int32))), (.int (Int32.ofNat av)), (.int fl)]) (rest := []) (lenOf pd_1 rfl) rfl (by show 2 * 0 + _ ≤ _; exact Nat.le_of_eq rfl) (hb hby at_203) (fun _ _ => ⟨rfl, r32_0, (by decide : 1 + 0 ≤ _), (by decide : 12 + 0 ≤ _)⟩)) N32 (fun _ _ _ q => by obtain ⟨-, N, -⟩ := q; exact N) rfl rfl
  dsimp only at st33
  obtain ⟨rfl, N33q, r33_0⟩ := hQ33
  obtain ⟨_, T34, lo34, Lc34, X34, N34, hQ34, st34⟩ := own_after (Q := (Q2 Z b1 (6 : Int32) jb ((p2 &&& (2147483647 : Int32)) % (9 : Int32)) (Int32.ofNat av) fl k1 (own_put (fun _ => (fl).toInt8.toInt32) jb ((p2 &&& (2147483647 : Int32)) % (9 : Int32)) (Int32.ofNat av)) ((own_put (fun _ => (fl).toInt8.toInt32) jb ((p2 &&& (2147483647 : Int32)) % (9 : Int32)) (Int32.ofNat av)) 6) T26.heap n0)) (cells := 1) (rc := 0) (slots := 12) (rs := 0) (cells' := 1) (slots' := 12) (Jvm.LawKit.callS X33 hx (y := (⟨"com/example/backstitch/backstitch/stream/StreamTablePutBitsPinLaw", "cell", "([BIJIIB)Z"⟩ : MethodName)) hown (mvT hZ (hw _ (List.mem_of_getElem? (i := 6) rfl))) (mvT hZ (hw _ (List.mem_of_getElem? (i := 7) rfl))) (mvT hZ (hw _ (List.mem_of_getElem? (i := 8) rfl))) (mvT hZ (hw _ (List.mem_of_getElem? (i := 9) rfl))) (by decide) (backOf (W := 0) (rm2 l Z a0 hw [] b1 (6 : Int32) jb ((p2 &&& (2147483647 : Int32)) % (9 : Int32)) (Int32.ofNat av) fl k1 (own_put (fun _ => (fl).toInt8.toInt32) jb ((p2 &&& (2147483647 : Int32)) % (9 : Int32)) (Int32.ofNat av)) ((own_put (fun _ => (fl).toInt8.toInt32) jb ((p2 &&& (2147483647 : Int32)) % (9 : Int32)) (Int32.ofNat av)) 6) T26.heap n0 Z26 r26_1 ⟨by decide, by decide⟩ rfl) hZ (hw _ (List.mem_of_getElem? (i := 9) rfl)) (hw _ (List.mem_of_getElem? (i := 8) rfl)) (by decide) (by decide)) (g := (mkF m 220 #[.val (.long jb), .second, .val (.int p2), .val (.int p3), .val (.int p4), .val (.int ((p2 &&& (2147483647 : Int32)) % (9 : Int32))), .val (.int (Int32.ofNat av)), .val (.int fl), .val (.ref b1)] [(.int fl), (.int (Int32.ofNat av)), (.int ((p2 &&& (2147483647 : Int32)) % (9 : Int32))), (.long jb), (.int (6 : Int32)), (.ref b1)])) rfl (by rw [hml]; rfl) (argsL := [(.ref b1), (.int (6 : Int32)), (.long jb), (.int ((p2 &&& (2147483647 : Int32)) % (9 : Int32))), (.int (Int32.ofNat av)), (.int fl)]) (rest := []) (lenOf pd_1 rfl) rfl (by show 2 * 0 + _ ≤ _; exact Nat.le_of_eq rfl) (hb hby at_220) (fun _ _ => ⟨rfl, r33_0, (by decide : 1 + 0 ≤ _), (by decide : 12 + 0 ≤ _)⟩)) N33 (fun _ _ _ q => by obtain ⟨-, N, -⟩ := q; exact N) rfl rfl
  dsimp only at st34
  obtain ⟨rfl, N34q, r34_0⟩ := hQ34
  obtain ⟨_, T35, lo35, Lc35, X35, N35, hQ35, st35⟩ := own_after (Q := (Q2 Z b1 (7 : Int32) jb ((p2 &&& (2147483647 : Int32)) % (9 : Int32)) (Int32.ofNat av) fl k1 (own_put (fun _ => (fl).toInt8.toInt32) jb ((p2 &&& (2147483647 : Int32)) % (9 : Int32)) (Int32.ofNat av)) ((own_put (fun _ => (fl).toInt8.toInt32) jb ((p2 &&& (2147483647 : Int32)) % (9 : Int32)) (Int32.ofNat av)) 7) T26.heap n0)) (cells := 1) (rc := 0) (slots := 12) (rs := 0) (cells' := 1) (slots' := 12) (Jvm.LawKit.callS X34 hx (y := (⟨"com/example/backstitch/backstitch/stream/StreamTablePutBitsPinLaw", "cell", "([BIJIIB)Z"⟩ : MethodName)) hown (mvT hZ (hw _ (List.mem_of_getElem? (i := 6) rfl))) (mvT hZ (hw _ (List.mem_of_getElem? (i := 7) rfl))) (mvT hZ (hw _ (List.mem_of_getElem? (i := 8) rfl))) (mvT hZ (hw _ (List.mem_of_getElem? (i := 9) rfl))) (by decide) (backOf (W := 0) (rm2 l Z a0 hw [] b1 (7 : Int32) jb ((p2 &&& (2147483647 : Int32)) % (9 : Int32)) (Int32.ofNat av) fl k1 (own_put (fun _ => (fl).toInt8.toInt32) jb ((p2 &&& (2147483647 : Int32)) % (9 : Int32)) (Int32.ofNat av)) ((own_put (fun _ => (fl).toInt8.toInt32) jb ((p2 &&& (2147483647 : Int32)) % (9 : Int32)) (Int32.ofNat av)) 7) T26.heap n0 Z26 r26_1 ⟨by decide, by decide⟩ rfl) hZ (hw _ (List.mem_of_getElem? (i := 9) rfl)) (hw _ (List.mem_of_getElem? (i := 8) rfl)) (by decide) (by decide)) (g := (mkF m 237 #[.val (.long jb), .second, .val (.int p2), .val (.int p3), .val (.int p4), .val (.int ((p2 &&& (2147483647 : Int32)) % (9 : Int32))), .val (.int (Int32.ofNat av)), .val (.int fl), .val (.ref b1)] [(.int fl), (.int (Int32.ofNat av)), (.int ((p2 &&& (2147483647 : Int32)) % (9 : Int32))), (.long jb), (.int (7 : Int32)), (.ref b1)])) rfl (by rw [hml]; rfl) (argsL := [(.ref b1), (.int (7 : Int32)), (.long jb), (.int ((p2 &&& (2147483647 : Int32)) % (9 : Int32))), (.int (Int32.ofNat av)), (.int fl)]) (rest := []) (lenOf pd_1 rfl) rfl (by show 2 * 0 + _ ≤ _; exact Nat.le_of_eq rfl) (hb hby at_237) (fun _ _ => ⟨rfl, r34_0, (by decide : 1 + 0 ≤ _), (by decide : 12 + 0 ≤ _)⟩)) N34 (fun _ _ _ q => by obtain ⟨-, N, -⟩ := q; exact N) rfl rfl
  dsimp only at st35
  obtain ⟨rfl, N35q, r35_0⟩ := hQ35
  obtain ⟨_, T36, lo36, Lc36, X36, N36, hQ36, st36⟩ := own_after (Q := (Q2 Z b1 (8 : Int32) jb ((p2 &&& (2147483647 : Int32)) % (9 : Int32)) (Int32.ofNat av) fl k1 (own_put (fun _ => (fl).toInt8.toInt32) jb ((p2 &&& (2147483647 : Int32)) % (9 : Int32)) (Int32.ofNat av)) ((own_put (fun _ => (fl).toInt8.toInt32) jb ((p2 &&& (2147483647 : Int32)) % (9 : Int32)) (Int32.ofNat av)) 8) T26.heap n0)) (cells := 1) (rc := 0) (slots := 12) (rs := 0) (cells' := 1) (slots' := 12) (Jvm.LawKit.callS X35 hx (y := (⟨"com/example/backstitch/backstitch/stream/StreamTablePutBitsPinLaw", "cell", "([BIJIIB)Z"⟩ : MethodName)) hown (mvT hZ (hw _ (List.mem_of_getElem? (i := 6) rfl))) (mvT hZ (hw _ (List.mem_of_getElem? (i := 7) rfl))) (mvT hZ (hw _ (List.mem_of_getElem? (i := 8) rfl))) (mvT hZ (hw _ (List.mem_of_getElem? (i := 9) rfl))) (by decide) (backOf (W := 0) (rm2 l Z a0 hw [] b1 (8 : Int32) jb ((p2 &&& (2147483647 : Int32)) % (9 : Int32)) (Int32.ofNat av) fl k1 (own_put (fun _ => (fl).toInt8.toInt32) jb ((p2 &&& (2147483647 : Int32)) % (9 : Int32)) (Int32.ofNat av)) ((own_put (fun _ => (fl).toInt8.toInt32) jb ((p2 &&& (2147483647 : Int32)) % (9 : Int32)) (Int32.ofNat av)) 8) T26.heap n0 Z26 r26_1 ⟨by decide, by decide⟩ rfl) hZ (hw _ (List.mem_of_getElem? (i := 9) rfl)) (hw _ (List.mem_of_getElem? (i := 8) rfl)) (by decide) (by decide)) (g := (mkF m 254 #[.val (.long jb), .second, .val (.int p2), .val (.int p3), .val (.int p4), .val (.int ((p2 &&& (2147483647 : Int32)) % (9 : Int32))), .val (.int (Int32.ofNat av)), .val (.int fl), .val (.ref b1)] [(.int fl), (.int (Int32.ofNat av)), (.int ((p2 &&& (2147483647 : Int32)) % (9 : Int32))), (.long jb), (.int (8 : Int32)), (.ref b1)])) rfl (by rw [hml]; rfl) (argsL := [(.ref b1), (.int (8 : Int32)), (.long jb), (.int ((p2 &&& (2147483647 : Int32)) % (9 : Int32))), (.int (Int32.ofNat av)), (.int fl)]) (rest := []) (lenOf pd_1 rfl) rfl (by show 2 * 0 + _ ≤ _; exact Nat.le_of_eq rfl) (hb hby at_254) (fun _ _ => ⟨rfl, r35_0, (by decide : 1 + 0 ≤ _), (by decide : 12 + 0 ≤ _)⟩)) N35 (fun _ _ _ q => by obtain ⟨-, N, -⟩ := q; exact N) rfl rfl
  dsimp only at st36
  obtain ⟨rfl, N36q, r36_0⟩ := hQ36
  obtain ⟨_, T37, lo37, Lc37, X37, N37, hQ37, st37⟩ := own_after (Q := (Q2 Z b1 (9 : Int32) jb ((p2 &&& (2147483647 : Int32)) % (9 : Int32)) (Int32.ofNat av) fl k1 (own_put (fun _ => (fl).toInt8.toInt32) jb ((p2 &&& (2147483647 : Int32)) % (9 : Int32)) (Int32.ofNat av)) ((own_put (fun _ => (fl).toInt8.toInt32) jb ((p2 &&& (2147483647 : Int32)) % (9 : Int32)) (Int32.ofNat av)) 9) T26.heap n0)) (cells := 1) (rc := 0) (slots := 12) (rs := 0) (cells' := 1) (slots' := 12) (Jvm.LawKit.callS X36 hx (y := (⟨"com/example/backstitch/backstitch/stream/StreamTablePutBitsPinLaw", "cell", "([BIJIIB)Z"⟩ : MethodName)) hown (mvT hZ (hw _ (List.mem_of_getElem? (i := 6) rfl))) (mvT hZ (hw _ (List.mem_of_getElem? (i := 7) rfl))) (mvT hZ (hw _ (List.mem_of_getElem? (i := 8) rfl))) (mvT hZ (hw _ (List.mem_of_getElem? (i := 9) rfl))) (by decide) (backOf (W := 0) (rm2 l Z a0 hw [] b1 (9 : Int32) jb ((p2 &&& (2147483647 : Int32)) % (9 : Int32)) (Int32.ofNat av) fl k1 (own_put (fun _ => (fl).toInt8.toInt32) jb ((p2 &&& (2147483647 : Int32)) % (9 : Int32)) (Int32.ofNat av)) ((own_put (fun _ => (fl).toInt8.toInt32) jb ((p2 &&& (2147483647 : Int32)) % (9 : Int32)) (Int32.ofNat av)) 9) T26.heap n0 Z26 r26_1 ⟨by decide, by decide⟩ rfl) hZ (hw _ (List.mem_of_getElem? (i := 9) rfl)) (hw _ (List.mem_of_getElem? (i := 8) rfl)) (by decide) (by decide)) (g := (mkF m 271 #[.val (.long jb), .second, .val (.int p2), .val (.int p3), .val (.int p4), .val (.int ((p2 &&& (2147483647 : Int32)) % (9 : Int32))), .val (.int (Int32.ofNat av)), .val (.int fl), .val (.ref b1)] [(.int fl), (.int (Int32.ofNat av)), (.int ((p2 &&& (2147483647 : Int32)) % (9 : Int32))), (.long jb), (.int (9 : Int32)), (.ref b1)])) rfl (by rw [hml]; rfl) (argsL := [(.ref b1), (.int (9 : Int32)), (.long jb), (.int ((p2 &&& (2147483647 : Int32)) % (9 : Int32))), (.int (Int32.ofNat av)), (.int fl)]) (rest := []) (lenOf pd_1 rfl) rfl (by show 2 * 0 + _ ≤ _; exact Nat.le_of_eq rfl) (hb hby at_271) (fun _ _ => ⟨rfl, r36_0, (by decide : 1 + 0 ≤ _), (by decide : 12 + 0 ≤ _)⟩)) N36 (fun _ _ _ q => by obtain ⟨-, N, -⟩ := q; exact N) rfl rfl
  dsimp only at st37
  obtain ⟨rfl, N37q, r37_0⟩ := hQ37
  obtain ⟨_, T38, lo38, Lc38, X38, N38, hQ38, st38⟩ := own_after (Q := (Q2 Z b1 (10 : Int32) jb ((p2 &&& (2147483647 : Int32)) % (9 : Int32)) (Int32.ofNat av) fl k1 (own_put (fun _ => (fl).toInt8.toInt32) jb ((p2 &&& (2147483647 : Int32)) % (9 : Int32)) (Int32.ofNat av)) ((own_put (fun _ => (fl).toInt8.toInt32) jb ((p2 &&& (2147483647 : Int32)) % (9 : Int32)) (Int32.ofNat av)) 10) T26.heap n0)) (cells := 1) (rc := 0) (slots := 12) (rs := 0) (cells' := 1) (slots' := 12) (Jvm.LawKit.callS X37 hx (y := (⟨"com/example/backstitch/backstitch/stream/StreamTablePutBitsPinLaw", "cell", "([BIJIIB)Z"⟩ : MethodName)) hown (mvT hZ (hw _ (List.mem_of_getElem? (i := 6) rfl))) (mvT hZ (hw _ (List.mem_of_getElem? (i := 7) rfl))) (mvT hZ (hw _ (List.mem_of_getElem? (i := 8) rfl))) (mvT hZ (hw _ (List.mem_of_getElem? (i := 9) rfl))) (by decide) (backOf (W := 0) (rm2 l Z a0 hw [] b1 (10 : Int32) jb ((p2 &&& (2147483647 : Int32)) % (9 : Int32)) (Int32.ofNat av) fl k1 (own_put (fun _ => (fl).toInt8.toInt32) jb ((p2 &&& (2147483647 : Int32)) % (9 : Int32)) (Int32.ofNat av)) ((own_put (fun _ => (fl).toInt8.toInt32) jb ((p2 &&& (2147483647 : Int32)) % (9 : Int32)) (Int32.ofNat av)) 10) T26.heap n0 Z26 r26_1 ⟨by decide, by decide⟩ rfl) hZ (hw _ (List.mem_of_getElem? (i := 9) rfl)) (hw _ (List.mem_of_getElem? (i := 8) rfl)) (by decide) (by decide)) (g := (mkF m 288 #[.val (.long jb), .second, .val (.int p2), .val (.int p3), .val (.int p4), .val (.int ((p2 &&& (2147483647 : Int32)) % (9 : Int32))), .val (.int (Int32.ofNat av)), .val (.int fl), .val (.ref b1)] [(.int fl), (.int (Int32.ofNat av)), (.int ((p2 &&& (2147483647 : Int32)) % (9 : Int32))), (.long jb), (.int (10 : Int32)), (.ref b1)])) rfl (by rw [hml]; rfl) (argsL := [(.ref b1), (.int (10 : Int32)), (.long jb), (.int ((p2 &&& (2147483647 : Int32)) % (9 : Int32))), (.int (Int32.ofNat av)), (.int fl)]) (rest := []) (lenOf pd_1 rfl) rfl (by show 2 * 0 + _ ≤ _; exact Nat.le_of_eq rfl) (hb hby at_288) (fun _ _ => ⟨rfl, r37_0, (by decide : 1 + 0 ≤ _), (by decide : 12 + 0 ≤ _)⟩)) N37 (fun _ _ _ q => by obtain ⟨-, N, -⟩ := q; exact N) rfl rfl
  dsimp only at st38
  obtain ⟨rfl, N38q, r38_0⟩ := hQ38
  obtain ⟨_, T39, lo39, Lc39, X39, N39, hQ39, st39⟩ := own_after (Q := (Q2 Z b1 (11 : Int32) jb ((p2 &&& (2147483647 : Int32)) % (9 : Int32)) (Int32.ofNat av) fl k1 (own_put (fun _ => (fl).toInt8.toInt32) jb ((p2 &&& (2147483647 : Int32)) % (9 : Int32)) (Int32.ofNat av)) ((own_put (fun _ => (fl).toInt8.toInt32) jb ((p2 &&& (2147483647 : Int32)) % (9 : Int32)) (Int32.ofNat av)) 11) T26.heap n0)) (cells := 1) (rc := 0) (slots := 12) (rs := 0) (cells' := 1) (slots' := 12) (Jvm.LawKit.callS X38 hx (y := (⟨"com/example/backstitch/backstitch/stream/StreamTablePutBitsPinLaw", "cell", "([BIJIIB)Z"⟩ : MethodName)) hown (mvT hZ (hw _ (List.mem_of_getElem? (i := 6) rfl))) (mvT hZ (hw _ (List.mem_of_getElem? (i := 7) rfl))) (mvT hZ (hw _ (List.mem_of_getElem? (i := 8) rfl))) (mvT hZ (hw _ (List.mem_of_getElem? (i := 9) rfl))) (by decide) (backOf (W := 0) (rm2 l Z a0 hw [] b1 (11 : Int32) jb ((p2 &&& (2147483647 : Int32)) % (9 : Int32)) (Int32.ofNat av) fl k1 (own_put (fun _ => (fl).toInt8.toInt32) jb ((p2 &&& (2147483647 : Int32)) % (9 : Int32)) (Int32.ofNat av)) ((own_put (fun _ => (fl).toInt8.toInt32) jb ((p2 &&& (2147483647 : Int32)) % (9 : Int32)) (Int32.ofNat av)) 11) T26.heap n0 Z26 r26_1 ⟨by decide, by decide⟩ rfl) hZ (hw _ (List.mem_of_getElem? (i := 9) rfl)) (hw _ (List.mem_of_getElem? (i := 8) rfl)) (by decide) (by decide)) (g := (mkF m 305 #[.val (.long jb), .second, .val (.int p2), .val (.int p3), .val (.int p4), .val (.int ((p2 &&& (2147483647 : Int32)) % (9 : Int32))), .val (.int (Int32.ofNat av)), .val (.int fl), .val (.ref b1)] [(.int fl), (.int (Int32.ofNat av)), (.int ((p2 &&& (2147483647 : Int32)) % (9 : Int32))), (.long jb), (.int (11 : Int32)), (.ref b1)])) rfl (by rw [hml]; rfl) (argsL := [(.ref b1), (.int (11 : Int32)), (.long jb), (.int ((p2 &&& (2147483647 : Int32)) % (9 : Int32))), (.int (Int32.ofNat av)), (.int fl)]) (rest := []) (lenOf pd_1 rfl) rfl (by show 2 * 0 + _ ≤ _; exact Nat.le_of_eq rfl) (hb hby at_305) (fun _ _ => ⟨rfl, r38_0, (by decide : 1 + 0 ≤ _), (by decide : 12 + 0 ≤ _)⟩)) N38 (fun _ _ _ q => by obtain ⟨-, N, -⟩ := q; exact N) rfl rfl
  dsimp only at st39
  obtain ⟨rfl, N39q, r39_0⟩ := hQ39
  obtain ⟨fs, hr, hrun, hended, hW, hsame⟩ := X39.leave (v := some (.int (1 : Int32))) (fun h => by rw [Bd.returns] at h; cases h)
  refine ⟨_, _, pre0 _ ?_, hrun, hended, _, _, rfl, ?_, ⟨_, rfl⟩, hW, hsame.mono (by decide) (by decide)⟩
  · show Steps p.tables e below (s₁.setTop (mkF m 0 #[.val (.long jb), .second, .val (.int p2), .val (.int p3), .val (.int p4), .unset, .unset, .unset, .unset] [])) _
    refine XS.iloadN X0.here hx rfl (hb hby at_0) rfl ?_
    show Steps p.tables e below (s₁.setTop (mkF m 1 #[.val (.long jb), .second, .val (.int p2), .val (.int p3), .val (.int p4), .unset, .unset, .unset, .unset] [(.int p2)])) _
    refine X0.ldcInt hx hown (mvT hZ (hw _ (List.mem_of_getElem? (i := 0) rfl))) (g := (mkF m 1 #[.val (.long jb), .second, .val (.int p2), .val (.int p3), .val (.int p4), .unset, .unset, .unset, .unset] [(.int p2)])) rfl (hb hby at_1) _ ?_
    show Steps p.tables e below (s₁.setTop (mkF m 3 #[.val (.long jb), .second, .val (.int p2), .val (.int p3), .val (.int p4), .unset, .unset, .unset, .unset] [(.int (2147483647 : Int32)), (.int p2)])) _
    refine XS.iand X0.here hx rfl (hb hby at_3) rfl ?_
    show Steps p.tables e below (s₁.setTop (mkF m 4 #[.val (.long jb), .second, .val (.int p2), .val (.int p3), .val (.int p4), .unset, .unset, .unset, .unset] [(.int (p2 &&& (2147483647 : Int32)))])) _
    refine XS.bipush X0.here hx rfl (hb hby at_4) ?_
    show Steps p.tables e below (s₁.setTop (mkF m 6 #[.val (.long jb), .second, .val (.int p2), .val (.int p3), .val (.int p4), .unset, .unset, .unset, .unset] [(.int (9 : Int32)), (.int (p2 &&& (2147483647 : Int32)))])) _
    refine iremM X0 hx rfl (hb hby at_6) rfl (by decide) ?_
    show Steps p.tables e below (s₁.setTop (mkF m 7 #[.val (.long jb), .second, .val (.int p2), .val (.int p3), .val (.int p4), .unset, .unset, .unset, .unset] [(.int ((p2 &&& (2147483647 : Int32)) % (9 : Int32)))])) _
    refine XS.istore X0.here hx rfl (hb hby at_7) rfl (l' := #[.val (.long jb), .second, .val (.int p2), .val (.int p3), .val (.int p4), .val (.int ((p2 &&& (2147483647 : Int32)) % (9 : Int32))), .unset, .unset, .unset]) rfl ?_
    show Steps p.tables e below (s₁.setTop (mkF m 9 #[.val (.long jb), .second, .val (.int p2), .val (.int p3), .val (.int p4), .val (.int ((p2 &&& (2147483647 : Int32)) % (9 : Int32))), .unset, .unset, .unset] [])) _
    refine XS.iloadN X0.here hx rfl (hb hby at_9) rfl ?_
    show Steps p.tables e below (s₁.setTop (mkF m 10 #[.val (.long jb), .second, .val (.int p2), .val (.int p3), .val (.int p4), .val (.int ((p2 &&& (2147483647 : Int32)) % (9 : Int32))), .unset, .unset, .unset] [(.int p3)])) _
    refine XS.iconst X0.here hx rfl (hb hby at_10) ?_
    show Steps p.tables e below (s₁.setTop (mkF m 11 #[.val (.long jb), .second, .val (.int p2), .val (.int p3), .val (.int p4), .val (.int ((p2 &&& (2147483647 : Int32)) % (9 : Int32))), .unset, .unset, .unset] [(.int (3 : Int32)), (.int p3)])) _
    refine XS.iand X0.here hx rfl (hb hby at_11) rfl ?_
    show Steps p.tables e below (s₁.setTop (mkF m 12 #[.val (.long jb), .second, .val (.int p2), .val (.int p3), .val (.int p4), .val (.int ((p2 &&& (2147483647 : Int32)) % (9 : Int32))), .unset, .unset, .unset] [(.int (p3 &&& (3 : Int32)))])) _
    refine XS.istore X0.here hx rfl (hb hby at_12) rfl (l' := #[.val (.long jb), .second, .val (.int p2), .val (.int p3), .val (.int p4), .val (.int ((p2 &&& (2147483647 : Int32)) % (9 : Int32))), .val (.int (p3 &&& (3 : Int32))), .unset, .unset]) rfl ?_
    show Steps p.tables e below (s₁.setTop (mkF m 14 #[.val (.long jb), .second, .val (.int p2), .val (.int p3), .val (.int p4), .val (.int ((p2 &&& (2147483647 : Int32)) % (9 : Int32))), .val (.int (p3 &&& (3 : Int32))), .unset, .unset] [])) _
    rw [hpa]
    show Steps p.tables e below (s₁.setTop (mkF m 14 #[.val (.long jb), .second, .val (.int p2), .val (.int p3), .val (.int p4), .val (.int ((p2 &&& (2147483647 : Int32)) % (9 : Int32))), .val (.int (Int32.ofNat av)), .unset, .unset] [])) _
    refine XS.iload X0.here hx rfl (hb hby at_14) rfl ?_
    show Steps p.tables e below (s₁.setTop (mkF m 16 #[.val (.long jb), .second, .val (.int p2), .val (.int p3), .val (.int p4), .val (.int ((p2 &&& (2147483647 : Int32)) % (9 : Int32))), .val (.int (Int32.ofNat av)), .unset, .unset] [(.int p4)])) _
    refine XS.i2b X0.here hx rfl (hb hby at_16) rfl ?_
    show Steps p.tables e below (s₁.setTop (mkF m 17 #[.val (.long jb), .second, .val (.int p2), .val (.int p3), .val (.int p4), .val (.int ((p2 &&& (2147483647 : Int32)) % (9 : Int32))), .val (.int (Int32.ofNat av)), .unset, .unset] [(.int (p4.toInt8.toInt32))])) _
    refine XS.istore X0.here hx rfl (hb hby at_17) rfl (l' := #[.val (.long jb), .second, .val (.int p2), .val (.int p3), .val (.int p4), .val (.int ((p2 &&& (2147483647 : Int32)) % (9 : Int32))), .val (.int (Int32.ofNat av)), .val (.int (p4.toInt8.toInt32)), .unset]) rfl ?_
    show Steps p.tables e below (s₁.setTop (mkF m 19 #[.val (.long jb), .second, .val (.int p2), .val (.int p3), .val (.int p4), .val (.int ((p2 &&& (2147483647 : Int32)) % (9 : Int32))), .val (.int (Int32.ofNat av)), .val (.int (p4.toInt8.toInt32)), .unset] [])) _
    rw [← hfl]
    show Steps p.tables e below (s₁.setTop (mkF m 19 #[.val (.long jb), .second, .val (.int p2), .val (.int p3), .val (.int p4), .val (.int ((p2 &&& (2147483647 : Int32)) % (9 : Int32))), .val (.int (Int32.ofNat av)), .val (.int fl), .unset] [])) _
    refine XS.bipush X0.here hx rfl (hb hby at_19) ?_
    show Steps p.tables e below (s₁.setTop (mkF m 21 #[.val (.long jb), .second, .val (.int p2), .val (.int p3), .val (.int p4), .val (.int ((p2 &&& (2147483647 : Int32)) % (9 : Int32))), .val (.int (Int32.ofNat av)), .val (.int fl), .unset] [(.int (12 : Int32))])) _
    refine st1 _ ?_
    show Steps p.tables e below (T1.setTop (mkF m 23 #[.val (.long jb), .second, .val (.int p2), .val (.int p3), .val (.int p4), .val (.int ((p2 &&& (2147483647 : Int32)) % (9 : Int32))), .val (.int (Int32.ofNat av)), .val (.int fl), .unset] [(.ref b1)])) _
    refine XS.astore X1.here hx rfl (hb hby at_23) rfl rfl (l' := #[.val (.long jb), .second, .val (.int p2), .val (.int p3), .val (.int p4), .val (.int ((p2 &&& (2147483647 : Int32)) % (9 : Int32))), .val (.int (Int32.ofNat av)), .val (.int fl), .val (.ref b1)]) rfl ?_
    show Steps p.tables e below (T1.setTop (mkF m 25 #[.val (.long jb), .second, .val (.int p2), .val (.int p3), .val (.int p4), .val (.int ((p2 &&& (2147483647 : Int32)) % (9 : Int32))), .val (.int (Int32.ofNat av)), .val (.int fl), .val (.ref b1)] [])) _
    refine XS.aload X1.here hx rfl (hb hby at_25) rfl rfl ?_
    show Steps p.tables e below (T1.setTop (mkF m 27 #[.val (.long jb), .second, .val (.int p2), .val (.int p3), .val (.int p4), .val (.int ((p2 &&& (2147483647 : Int32)) % (9 : Int32))), .val (.int (Int32.ofNat av)), .val (.int fl), .val (.ref b1)] [(.ref b1)])) _
    refine XS.iconst X1.here hx rfl (hb hby at_27) ?_
    show Steps p.tables e below (T1.setTop (mkF m 28 #[.val (.long jb), .second, .val (.int p2), .val (.int p3), .val (.int p4), .val (.int ((p2 &&& (2147483647 : Int32)) % (9 : Int32))), .val (.int (Int32.ofNat av)), .val (.int fl), .val (.ref b1)] [(.int (0 : Int32)), (.ref b1)])) _
    refine XS.iload X1.here hx rfl (hb hby at_28) rfl ?_
    show Steps p.tables e below (T1.setTop (mkF m 30 #[.val (.long jb), .second, .val (.int p2), .val (.int p3), .val (.int p4), .val (.int ((p2 &&& (2147483647 : Int32)) % (9 : Int32))), .val (.int (Int32.ofNat av)), .val (.int fl), .val (.ref b1)] [(.int fl), (.int (0 : Int32)), (.ref b1)])) _
    refine st2 _ ?_
    show Steps p.tables e below (T2.setTop (mkF m 31 #[.val (.long jb), .second, .val (.int p2), .val (.int p3), .val (.int p4), .val (.int ((p2 &&& (2147483647 : Int32)) % (9 : Int32))), .val (.int (Int32.ofNat av)), .val (.int fl), .val (.ref b1)] [])) _
    refine XS.aload X2.here hx rfl (hb hby at_31) rfl rfl ?_
    show Steps p.tables e below (T2.setTop (mkF m 33 #[.val (.long jb), .second, .val (.int p2), .val (.int p3), .val (.int p4), .val (.int ((p2 &&& (2147483647 : Int32)) % (9 : Int32))), .val (.int (Int32.ofNat av)), .val (.int fl), .val (.ref b1)] [(.ref b1)])) _
    refine XS.iconst X2.here hx rfl (hb hby at_33) ?_
    show Steps p.tables e below (T2.setTop (mkF m 34 #[.val (.long jb), .second, .val (.int p2), .val (.int p3), .val (.int p4), .val (.int ((p2 &&& (2147483647 : Int32)) % (9 : Int32))), .val (.int (Int32.ofNat av)), .val (.int fl), .val (.ref b1)] [(.int (1 : Int32)), (.ref b1)])) _
    refine XS.iload X2.here hx rfl (hb hby at_34) rfl ?_
    show Steps p.tables e below (T2.setTop (mkF m 36 #[.val (.long jb), .second, .val (.int p2), .val (.int p3), .val (.int p4), .val (.int ((p2 &&& (2147483647 : Int32)) % (9 : Int32))), .val (.int (Int32.ofNat av)), .val (.int fl), .val (.ref b1)] [(.int fl), (.int (1 : Int32)), (.ref b1)])) _
    refine st4 _ ?_
    show Steps p.tables e below (T4.setTop (mkF m 37 #[.val (.long jb), .second, .val (.int p2), .val (.int p3), .val (.int p4), .val (.int ((p2 &&& (2147483647 : Int32)) % (9 : Int32))), .val (.int (Int32.ofNat av)), .val (.int fl), .val (.ref b1)] [])) _
    refine XS.aload X4.here hx rfl (hb hby at_37) rfl rfl ?_
    show Steps p.tables e below (T4.setTop (mkF m 39 #[.val (.long jb), .second, .val (.int p2), .val (.int p3), .val (.int p4), .val (.int ((p2 &&& (2147483647 : Int32)) % (9 : Int32))), .val (.int (Int32.ofNat av)), .val (.int fl), .val (.ref b1)] [(.ref b1)])) _
    refine XS.iconst X4.here hx rfl (hb hby at_39) ?_
    show Steps p.tables e below (T4.setTop (mkF m 40 #[.val (.long jb), .second, .val (.int p2), .val (.int p3), .val (.int p4), .val (.int ((p2 &&& (2147483647 : Int32)) % (9 : Int32))), .val (.int (Int32.ofNat av)), .val (.int fl), .val (.ref b1)] [(.int (2 : Int32)), (.ref b1)])) _
    refine XS.iload X4.here hx rfl (hb hby at_40) rfl ?_
    show Steps p.tables e below (T4.setTop (mkF m 42 #[.val (.long jb), .second, .val (.int p2), .val (.int p3), .val (.int p4), .val (.int ((p2 &&& (2147483647 : Int32)) % (9 : Int32))), .val (.int (Int32.ofNat av)), .val (.int fl), .val (.ref b1)] [(.int fl), (.int (2 : Int32)), (.ref b1)])) _
    refine st6 _ ?_
    show Steps p.tables e below (T6.setTop (mkF m 43 #[.val (.long jb), .second, .val (.int p2), .val (.int p3), .val (.int p4), .val (.int ((p2 &&& (2147483647 : Int32)) % (9 : Int32))), .val (.int (Int32.ofNat av)), .val (.int fl), .val (.ref b1)] [])) _
    refine XS.aload X6.here hx rfl (hb hby at_43) rfl rfl ?_
    show Steps p.tables e below (T6.setTop (mkF m 45 #[.val (.long jb), .second, .val (.int p2), .val (.int p3), .val (.int p4), .val (.int ((p2 &&& (2147483647 : Int32)) % (9 : Int32))), .val (.int (Int32.ofNat av)), .val (.int fl), .val (.ref b1)] [(.ref b1)])) _
    refine XS.iconst X6.here hx rfl (hb hby at_45) ?_
    show Steps p.tables e below (T6.setTop (mkF m 46 #[.val (.long jb), .second, .val (.int p2), .val (.int p3), .val (.int p4), .val (.int ((p2 &&& (2147483647 : Int32)) % (9 : Int32))), .val (.int (Int32.ofNat av)), .val (.int fl), .val (.ref b1)] [(.int (3 : Int32)), (.ref b1)])) _
    refine XS.iload X6.here hx rfl (hb hby at_46) rfl ?_
    show Steps p.tables e below (T6.setTop (mkF m 48 #[.val (.long jb), .second, .val (.int p2), .val (.int p3), .val (.int p4), .val (.int ((p2 &&& (2147483647 : Int32)) % (9 : Int32))), .val (.int (Int32.ofNat av)), .val (.int fl), .val (.ref b1)] [(.int fl), (.int (3 : Int32)), (.ref b1)])) _
    refine st8 _ ?_
    show Steps p.tables e below (T8.setTop (mkF m 49 #[.val (.long jb), .second, .val (.int p2), .val (.int p3), .val (.int p4), .val (.int ((p2 &&& (2147483647 : Int32)) % (9 : Int32))), .val (.int (Int32.ofNat av)), .val (.int fl), .val (.ref b1)] [])) _
    refine XS.aload X8.here hx rfl (hb hby at_49) rfl rfl ?_
    show Steps p.tables e below (T8.setTop (mkF m 51 #[.val (.long jb), .second, .val (.int p2), .val (.int p3), .val (.int p4), .val (.int ((p2 &&& (2147483647 : Int32)) % (9 : Int32))), .val (.int (Int32.ofNat av)), .val (.int fl), .val (.ref b1)] [(.ref b1)])) _
    refine XS.iconst X8.here hx rfl (hb hby at_51) ?_
    show Steps p.tables e below (T8.setTop (mkF m 52 #[.val (.long jb), .second, .val (.int p2), .val (.int p3), .val (.int p4), .val (.int ((p2 &&& (2147483647 : Int32)) % (9 : Int32))), .val (.int (Int32.ofNat av)), .val (.int fl), .val (.ref b1)] [(.int (4 : Int32)), (.ref b1)])) _
    refine XS.iload X8.here hx rfl (hb hby at_52) rfl ?_
    show Steps p.tables e below (T8.setTop (mkF m 54 #[.val (.long jb), .second, .val (.int p2), .val (.int p3), .val (.int p4), .val (.int ((p2 &&& (2147483647 : Int32)) % (9 : Int32))), .val (.int (Int32.ofNat av)), .val (.int fl), .val (.ref b1)] [(.int fl), (.int (4 : Int32)), (.ref b1)])) _
    refine st10 _ ?_
    show Steps p.tables e below (T10.setTop (mkF m 55 #[.val (.long jb), .second, .val (.int p2), .val (.int p3), .val (.int p4), .val (.int ((p2 &&& (2147483647 : Int32)) % (9 : Int32))), .val (.int (Int32.ofNat av)), .val (.int fl), .val (.ref b1)] [])) _
    refine XS.aload X10.here hx rfl (hb hby at_55) rfl rfl ?_
    show Steps p.tables e below (T10.setTop (mkF m 57 #[.val (.long jb), .second, .val (.int p2), .val (.int p3), .val (.int p4), .val (.int ((p2 &&& (2147483647 : Int32)) % (9 : Int32))), .val (.int (Int32.ofNat av)), .val (.int fl), .val (.ref b1)] [(.ref b1)])) _
    refine XS.iconst X10.here hx rfl (hb hby at_57) ?_
    show Steps p.tables e below (T10.setTop (mkF m 58 #[.val (.long jb), .second, .val (.int p2), .val (.int p3), .val (.int p4), .val (.int ((p2 &&& (2147483647 : Int32)) % (9 : Int32))), .val (.int (Int32.ofNat av)), .val (.int fl), .val (.ref b1)] [(.int (5 : Int32)), (.ref b1)])) _
    refine XS.iload X10.here hx rfl (hb hby at_58) rfl ?_
    show Steps p.tables e below (T10.setTop (mkF m 60 #[.val (.long jb), .second, .val (.int p2), .val (.int p3), .val (.int p4), .val (.int ((p2 &&& (2147483647 : Int32)) % (9 : Int32))), .val (.int (Int32.ofNat av)), .val (.int fl), .val (.ref b1)] [(.int fl), (.int (5 : Int32)), (.ref b1)])) _
    refine st12 _ ?_
    show Steps p.tables e below (T12.setTop (mkF m 61 #[.val (.long jb), .second, .val (.int p2), .val (.int p3), .val (.int p4), .val (.int ((p2 &&& (2147483647 : Int32)) % (9 : Int32))), .val (.int (Int32.ofNat av)), .val (.int fl), .val (.ref b1)] [])) _
    refine XS.aload X12.here hx rfl (hb hby at_61) rfl rfl ?_
    show Steps p.tables e below (T12.setTop (mkF m 63 #[.val (.long jb), .second, .val (.int p2), .val (.int p3), .val (.int p4), .val (.int ((p2 &&& (2147483647 : Int32)) % (9 : Int32))), .val (.int (Int32.ofNat av)), .val (.int fl), .val (.ref b1)] [(.ref b1)])) _
    refine XS.bipush X12.here hx rfl (hb hby at_63) ?_
    show Steps p.tables e below (T12.setTop (mkF m 65 #[.val (.long jb), .second, .val (.int p2), .val (.int p3), .val (.int p4), .val (.int ((p2 &&& (2147483647 : Int32)) % (9 : Int32))), .val (.int (Int32.ofNat av)), .val (.int fl), .val (.ref b1)] [(.int (6 : Int32)), (.ref b1)])) _
    refine XS.iload X12.here hx rfl (hb hby at_65) rfl ?_
    show Steps p.tables e below (T12.setTop (mkF m 67 #[.val (.long jb), .second, .val (.int p2), .val (.int p3), .val (.int p4), .val (.int ((p2 &&& (2147483647 : Int32)) % (9 : Int32))), .val (.int (Int32.ofNat av)), .val (.int fl), .val (.ref b1)] [(.int fl), (.int (6 : Int32)), (.ref b1)])) _
    refine st14 _ ?_
    show Steps p.tables e below (T14.setTop (mkF m 68 #[.val (.long jb), .second, .val (.int p2), .val (.int p3), .val (.int p4), .val (.int ((p2 &&& (2147483647 : Int32)) % (9 : Int32))), .val (.int (Int32.ofNat av)), .val (.int fl), .val (.ref b1)] [])) _
    refine XS.aload X14.here hx rfl (hb hby at_68) rfl rfl ?_
    show Steps p.tables e below (T14.setTop (mkF m 70 #[.val (.long jb), .second, .val (.int p2), .val (.int p3), .val (.int p4), .val (.int ((p2 &&& (2147483647 : Int32)) % (9 : Int32))), .val (.int (Int32.ofNat av)), .val (.int fl), .val (.ref b1)] [(.ref b1)])) _
    refine XS.bipush X14.here hx rfl (hb hby at_70) ?_
    show Steps p.tables e below (T14.setTop (mkF m 72 #[.val (.long jb), .second, .val (.int p2), .val (.int p3), .val (.int p4), .val (.int ((p2 &&& (2147483647 : Int32)) % (9 : Int32))), .val (.int (Int32.ofNat av)), .val (.int fl), .val (.ref b1)] [(.int (7 : Int32)), (.ref b1)])) _
    refine XS.iload X14.here hx rfl (hb hby at_72) rfl ?_
    show Steps p.tables e below (T14.setTop (mkF m 74 #[.val (.long jb), .second, .val (.int p2), .val (.int p3), .val (.int p4), .val (.int ((p2 &&& (2147483647 : Int32)) % (9 : Int32))), .val (.int (Int32.ofNat av)), .val (.int fl), .val (.ref b1)] [(.int fl), (.int (7 : Int32)), (.ref b1)])) _
    refine st16 _ ?_
    show Steps p.tables e below (T16.setTop (mkF m 75 #[.val (.long jb), .second, .val (.int p2), .val (.int p3), .val (.int p4), .val (.int ((p2 &&& (2147483647 : Int32)) % (9 : Int32))), .val (.int (Int32.ofNat av)), .val (.int fl), .val (.ref b1)] [])) _
    refine XS.aload X16.here hx rfl (hb hby at_75) rfl rfl ?_
    show Steps p.tables e below (T16.setTop (mkF m 77 #[.val (.long jb), .second, .val (.int p2), .val (.int p3), .val (.int p4), .val (.int ((p2 &&& (2147483647 : Int32)) % (9 : Int32))), .val (.int (Int32.ofNat av)), .val (.int fl), .val (.ref b1)] [(.ref b1)])) _
    refine XS.bipush X16.here hx rfl (hb hby at_77) ?_
    show Steps p.tables e below (T16.setTop (mkF m 79 #[.val (.long jb), .second, .val (.int p2), .val (.int p3), .val (.int p4), .val (.int ((p2 &&& (2147483647 : Int32)) % (9 : Int32))), .val (.int (Int32.ofNat av)), .val (.int fl), .val (.ref b1)] [(.int (8 : Int32)), (.ref b1)])) _
    refine XS.iload X16.here hx rfl (hb hby at_79) rfl ?_
    show Steps p.tables e below (T16.setTop (mkF m 81 #[.val (.long jb), .second, .val (.int p2), .val (.int p3), .val (.int p4), .val (.int ((p2 &&& (2147483647 : Int32)) % (9 : Int32))), .val (.int (Int32.ofNat av)), .val (.int fl), .val (.ref b1)] [(.int fl), (.int (8 : Int32)), (.ref b1)])) _
    refine st18 _ ?_
    show Steps p.tables e below (T18.setTop (mkF m 82 #[.val (.long jb), .second, .val (.int p2), .val (.int p3), .val (.int p4), .val (.int ((p2 &&& (2147483647 : Int32)) % (9 : Int32))), .val (.int (Int32.ofNat av)), .val (.int fl), .val (.ref b1)] [])) _
    refine XS.aload X18.here hx rfl (hb hby at_82) rfl rfl ?_
    show Steps p.tables e below (T18.setTop (mkF m 84 #[.val (.long jb), .second, .val (.int p2), .val (.int p3), .val (.int p4), .val (.int ((p2 &&& (2147483647 : Int32)) % (9 : Int32))), .val (.int (Int32.ofNat av)), .val (.int fl), .val (.ref b1)] [(.ref b1)])) _
    refine XS.bipush X18.here hx rfl (hb hby at_84) ?_
    show Steps p.tables e below (T18.setTop (mkF m 86 #[.val (.long jb), .second, .val (.int p2), .val (.int p3), .val (.int p4), .val (.int ((p2 &&& (2147483647 : Int32)) % (9 : Int32))), .val (.int (Int32.ofNat av)), .val (.int fl), .val (.ref b1)] [(.int (9 : Int32)), (.ref b1)])) _
    refine XS.iload X18.here hx rfl (hb hby at_86) rfl ?_
    show Steps p.tables e below (T18.setTop (mkF m 88 #[.val (.long jb), .second, .val (.int p2), .val (.int p3), .val (.int p4), .val (.int ((p2 &&& (2147483647 : Int32)) % (9 : Int32))), .val (.int (Int32.ofNat av)), .val (.int fl), .val (.ref b1)] [(.int fl), (.int (9 : Int32)), (.ref b1)])) _
    refine st20 _ ?_
    show Steps p.tables e below (T20.setTop (mkF m 89 #[.val (.long jb), .second, .val (.int p2), .val (.int p3), .val (.int p4), .val (.int ((p2 &&& (2147483647 : Int32)) % (9 : Int32))), .val (.int (Int32.ofNat av)), .val (.int fl), .val (.ref b1)] [])) _
    refine XS.aload X20.here hx rfl (hb hby at_89) rfl rfl ?_
    show Steps p.tables e below (T20.setTop (mkF m 91 #[.val (.long jb), .second, .val (.int p2), .val (.int p3), .val (.int p4), .val (.int ((p2 &&& (2147483647 : Int32)) % (9 : Int32))), .val (.int (Int32.ofNat av)), .val (.int fl), .val (.ref b1)] [(.ref b1)])) _
    refine XS.bipush X20.here hx rfl (hb hby at_91) ?_
    show Steps p.tables e below (T20.setTop (mkF m 93 #[.val (.long jb), .second, .val (.int p2), .val (.int p3), .val (.int p4), .val (.int ((p2 &&& (2147483647 : Int32)) % (9 : Int32))), .val (.int (Int32.ofNat av)), .val (.int fl), .val (.ref b1)] [(.int (10 : Int32)), (.ref b1)])) _
    refine XS.iload X20.here hx rfl (hb hby at_93) rfl ?_
    show Steps p.tables e below (T20.setTop (mkF m 95 #[.val (.long jb), .second, .val (.int p2), .val (.int p3), .val (.int p4), .val (.int ((p2 &&& (2147483647 : Int32)) % (9 : Int32))), .val (.int (Int32.ofNat av)), .val (.int fl), .val (.ref b1)] [(.int fl), (.int (10 : Int32)), (.ref b1)])) _
    refine st22 _ ?_
    show Steps p.tables e below (T22.setTop (mkF m 96 #[.val (.long jb), .second, .val (.int p2), .val (.int p3), .val (.int p4), .val (.int ((p2 &&& (2147483647 : Int32)) % (9 : Int32))), .val (.int (Int32.ofNat av)), .val (.int fl), .val (.ref b1)] [])) _
    refine XS.aload X22.here hx rfl (hb hby at_96) rfl rfl ?_
    show Steps p.tables e below (T22.setTop (mkF m 98 #[.val (.long jb), .second, .val (.int p2), .val (.int p3), .val (.int p4), .val (.int ((p2 &&& (2147483647 : Int32)) % (9 : Int32))), .val (.int (Int32.ofNat av)), .val (.int fl), .val (.ref b1)] [(.ref b1)])) _
    refine XS.bipush X22.here hx rfl (hb hby at_98) ?_
    show Steps p.tables e below (T22.setTop (mkF m 100 #[.val (.long jb), .second, .val (.int p2), .val (.int p3), .val (.int p4), .val (.int ((p2 &&& (2147483647 : Int32)) % (9 : Int32))), .val (.int (Int32.ofNat av)), .val (.int fl), .val (.ref b1)] [(.int (11 : Int32)), (.ref b1)])) _
    refine XS.iload X22.here hx rfl (hb hby at_100) rfl ?_
    show Steps p.tables e below (T22.setTop (mkF m 102 #[.val (.long jb), .second, .val (.int p2), .val (.int p3), .val (.int p4), .val (.int ((p2 &&& (2147483647 : Int32)) % (9 : Int32))), .val (.int (Int32.ofNat av)), .val (.int fl), .val (.ref b1)] [(.int fl), (.int (11 : Int32)), (.ref b1)])) _
    refine st24 _ ?_
    show Steps p.tables e below (T24.setTop (mkF m 103 #[.val (.long jb), .second, .val (.int p2), .val (.int p3), .val (.int p4), .val (.int ((p2 &&& (2147483647 : Int32)) % (9 : Int32))), .val (.int (Int32.ofNat av)), .val (.int fl), .val (.ref b1)] [])) _
    refine XS.lloadN X24.here hx rfl (hb hby at_103) rfl ?_
    show Steps p.tables e below (T24.setTop (mkF m 104 #[.val (.long jb), .second, .val (.int p2), .val (.int p3), .val (.int p4), .val (.int ((p2 &&& (2147483647 : Int32)) % (9 : Int32))), .val (.int (Int32.ofNat av)), .val (.int fl), .val (.ref b1)] [(.long jb)])) _
    refine XS.iload X24.here hx rfl (hb hby at_104) rfl ?_
    show Steps p.tables e below (T24.setTop (mkF m 106 #[.val (.long jb), .second, .val (.int p2), .val (.int p3), .val (.int p4), .val (.int ((p2 &&& (2147483647 : Int32)) % (9 : Int32))), .val (.int (Int32.ofNat av)), .val (.int fl), .val (.ref b1)] [(.int ((p2 &&& (2147483647 : Int32)) % (9 : Int32))), (.long jb)])) _
    refine XS.aload X24.here hx rfl (hb hby at_106) rfl rfl ?_
    show Steps p.tables e below (T24.setTop (mkF m 108 #[.val (.long jb), .second, .val (.int p2), .val (.int p3), .val (.int p4), .val (.int ((p2 &&& (2147483647 : Int32)) % (9 : Int32))), .val (.int (Int32.ofNat av)), .val (.int fl), .val (.ref b1)] [(.ref b1), (.int ((p2 &&& (2147483647 : Int32)) % (9 : Int32))), (.long jb)])) _
    refine XS.iload X24.here hx rfl (hb hby at_108) rfl ?_
    show Steps p.tables e below (T24.setTop (mkF m 110 #[.val (.long jb), .second, .val (.int p2), .val (.int p3), .val (.int p4), .val (.int ((p2 &&& (2147483647 : Int32)) % (9 : Int32))), .val (.int (Int32.ofNat av)), .val (.int fl), .val (.ref b1)] [(.int (Int32.ofNat av)), (.ref b1), (.int ((p2 &&& (2147483647 : Int32)) % (9 : Int32))), (.long jb)])) _
    refine st26 _ ?_
    show Steps p.tables e below (T26.setTop (mkF m 113 #[.val (.long jb), .second, .val (.int p2), .val (.int p3), .val (.int p4), .val (.int ((p2 &&& (2147483647 : Int32)) % (9 : Int32))), .val (.int (Int32.ofNat av)), .val (.int fl), .val (.ref b1)] [])) _
    refine XS.aload X26.here hx rfl (hb hby at_113) rfl rfl ?_
    show Steps p.tables e below (T26.setTop (mkF m 115 #[.val (.long jb), .second, .val (.int p2), .val (.int p3), .val (.int p4), .val (.int ((p2 &&& (2147483647 : Int32)) % (9 : Int32))), .val (.int (Int32.ofNat av)), .val (.int fl), .val (.ref b1)] [(.ref b1)])) _
    refine XS.iconst X26.here hx rfl (hb hby at_115) ?_
    show Steps p.tables e below (T26.setTop (mkF m 116 #[.val (.long jb), .second, .val (.int p2), .val (.int p3), .val (.int p4), .val (.int ((p2 &&& (2147483647 : Int32)) % (9 : Int32))), .val (.int (Int32.ofNat av)), .val (.int fl), .val (.ref b1)] [(.int (0 : Int32)), (.ref b1)])) _
    refine XS.lloadN X26.here hx rfl (hb hby at_116) rfl ?_
    show Steps p.tables e below (T26.setTop (mkF m 117 #[.val (.long jb), .second, .val (.int p2), .val (.int p3), .val (.int p4), .val (.int ((p2 &&& (2147483647 : Int32)) % (9 : Int32))), .val (.int (Int32.ofNat av)), .val (.int fl), .val (.ref b1)] [(.long jb), (.int (0 : Int32)), (.ref b1)])) _
    refine XS.iload X26.here hx rfl (hb hby at_117) rfl ?_
    show Steps p.tables e below (T26.setTop (mkF m 119 #[.val (.long jb), .second, .val (.int p2), .val (.int p3), .val (.int p4), .val (.int ((p2 &&& (2147483647 : Int32)) % (9 : Int32))), .val (.int (Int32.ofNat av)), .val (.int fl), .val (.ref b1)] [(.int ((p2 &&& (2147483647 : Int32)) % (9 : Int32))), (.long jb), (.int (0 : Int32)), (.ref b1)])) _
    refine XS.iload X26.here hx rfl (hb hby at_119) rfl ?_
    show Steps p.tables e below (T26.setTop (mkF m 121 #[.val (.long jb), .second, .val (.int p2), .val (.int p3), .val (.int p4), .val (.int ((p2 &&& (2147483647 : Int32)) % (9 : Int32))), .val (.int (Int32.ofNat av)), .val (.int fl), .val (.ref b1)] [(.int (Int32.ofNat av)), (.int ((p2 &&& (2147483647 : Int32)) % (9 : Int32))), (.long jb), (.int (0 : Int32)), (.ref b1)])) _
    refine XS.iload X26.here hx rfl (hb hby at_121) rfl ?_
    show Steps p.tables e below (T26.setTop (mkF m 123 #[.val (.long jb), .second, .val (.int p2), .val (.int p3), .val (.int p4), .val (.int ((p2 &&& (2147483647 : Int32)) % (9 : Int32))), .val (.int (Int32.ofNat av)), .val (.int fl), .val (.ref b1)] [(.int fl), (.int (Int32.ofNat av)), (.int ((p2 &&& (2147483647 : Int32)) % (9 : Int32))), (.long jb), (.int (0 : Int32)), (.ref b1)])) _
    refine st28 _ ?_
    show Steps p.tables e below (T28.setTop (mkF m 126 #[.val (.long jb), .second, .val (.int p2), .val (.int p3), .val (.int p4), .val (.int ((p2 &&& (2147483647 : Int32)) % (9 : Int32))), .val (.int (Int32.ofNat av)), .val (.int fl), .val (.ref b1)] [(.int (own_cell ((own_put (fun _ => (fl).toInt8.toInt32) jb ((p2 &&& (2147483647 : Int32)) % (9 : Int32)) (Int32.ofNat av)) 0) (0 : Int32) jb ((p2 &&& (2147483647 : Int32)) % (9 : Int32)) (Int32.ofNat av) fl))])) _
    refine XS.ifNo X28.here hx rfl (hb hby at_126) rfl ((if0 _ _).trans (feq (own_fin jb ((p2 &&& (2147483647 : Int32)) % (9 : Int32)) (Int32.ofNat av) fl _ hfb 0 : ¬ ((own_cell ((own_put (fun _ => (fl).toInt8.toInt32) jb ((p2 &&& (2147483647 : Int32)) % (9 : Int32)) (Int32.ofNat av)) 0) (0 : Int32) jb ((p2 &&& (2147483647 : Int32)) % (9 : Int32)) (Int32.ofNat av) fl) = (0 : Int32)))).1) ?_
    show Steps p.tables e below (T28.setTop (mkF m 129 #[.val (.long jb), .second, .val (.int p2), .val (.int p3), .val (.int p4), .val (.int ((p2 &&& (2147483647 : Int32)) % (9 : Int32))), .val (.int (Int32.ofNat av)), .val (.int fl), .val (.ref b1)] [])) _
    refine XS.aload X28.here hx rfl (hb hby at_129) rfl rfl ?_
    show Steps p.tables e below (T28.setTop (mkF m 131 #[.val (.long jb), .second, .val (.int p2), .val (.int p3), .val (.int p4), .val (.int ((p2 &&& (2147483647 : Int32)) % (9 : Int32))), .val (.int (Int32.ofNat av)), .val (.int fl), .val (.ref b1)] [(.ref b1)])) _
    refine XS.iconst X28.here hx rfl (hb hby at_131) ?_
    show Steps p.tables e below (T28.setTop (mkF m 132 #[.val (.long jb), .second, .val (.int p2), .val (.int p3), .val (.int p4), .val (.int ((p2 &&& (2147483647 : Int32)) % (9 : Int32))), .val (.int (Int32.ofNat av)), .val (.int fl), .val (.ref b1)] [(.int (1 : Int32)), (.ref b1)])) _
    refine XS.lloadN X28.here hx rfl (hb hby at_132) rfl ?_
    show Steps p.tables e below (T28.setTop (mkF m 133 #[.val (.long jb), .second, .val (.int p2), .val (.int p3), .val (.int p4), .val (.int ((p2 &&& (2147483647 : Int32)) % (9 : Int32))), .val (.int (Int32.ofNat av)), .val (.int fl), .val (.ref b1)] [(.long jb), (.int (1 : Int32)), (.ref b1)])) _
    refine XS.iload X28.here hx rfl (hb hby at_133) rfl ?_
    show Steps p.tables e below (T28.setTop (mkF m 135 #[.val (.long jb), .second, .val (.int p2), .val (.int p3), .val (.int p4), .val (.int ((p2 &&& (2147483647 : Int32)) % (9 : Int32))), .val (.int (Int32.ofNat av)), .val (.int fl), .val (.ref b1)] [(.int ((p2 &&& (2147483647 : Int32)) % (9 : Int32))), (.long jb), (.int (1 : Int32)), (.ref b1)])) _
    refine XS.iload X28.here hx rfl (hb hby at_135) rfl ?_
    show Steps p.tables e below (T28.setTop (mkF m 137 #[.val (.long jb), .second, .val (.int p2), .val (.int p3), .val (.int p4), .val (.int ((p2 &&& (2147483647 : Int32)) % (9 : Int32))), .val (.int (Int32.ofNat av)), .val (.int fl), .val (.ref b1)] [(.int (Int32.ofNat av)), (.int ((p2 &&& (2147483647 : Int32)) % (9 : Int32))), (.long jb), (.int (1 : Int32)), (.ref b1)])) _
    refine XS.iload X28.here hx rfl (hb hby at_137) rfl ?_
    show Steps p.tables e below (T28.setTop (mkF m 139 #[.val (.long jb), .second, .val (.int p2), .val (.int p3), .val (.int p4), .val (.int ((p2 &&& (2147483647 : Int32)) % (9 : Int32))), .val (.int (Int32.ofNat av)), .val (.int fl), .val (.ref b1)] [(.int fl), (.int (Int32.ofNat av)), (.int ((p2 &&& (2147483647 : Int32)) % (9 : Int32))), (.long jb), (.int (1 : Int32)), (.ref b1)])) _
    refine st29 _ ?_
    show Steps p.tables e below (T29.setTop (mkF m 142 #[.val (.long jb), .second, .val (.int p2), .val (.int p3), .val (.int p4), .val (.int ((p2 &&& (2147483647 : Int32)) % (9 : Int32))), .val (.int (Int32.ofNat av)), .val (.int fl), .val (.ref b1)] [(.int (own_cell ((own_put (fun _ => (fl).toInt8.toInt32) jb ((p2 &&& (2147483647 : Int32)) % (9 : Int32)) (Int32.ofNat av)) 1) (1 : Int32) jb ((p2 &&& (2147483647 : Int32)) % (9 : Int32)) (Int32.ofNat av) fl))])) _
    refine XS.ifNo X29.here hx rfl (hb hby at_142) rfl ((if0 _ _).trans (feq (own_fin jb ((p2 &&& (2147483647 : Int32)) % (9 : Int32)) (Int32.ofNat av) fl _ hfb 1 : ¬ ((own_cell ((own_put (fun _ => (fl).toInt8.toInt32) jb ((p2 &&& (2147483647 : Int32)) % (9 : Int32)) (Int32.ofNat av)) 1) (1 : Int32) jb ((p2 &&& (2147483647 : Int32)) % (9 : Int32)) (Int32.ofNat av) fl) = (0 : Int32)))).1) ?_
    show Steps p.tables e below (T29.setTop (mkF m 145 #[.val (.long jb), .second, .val (.int p2), .val (.int p3), .val (.int p4), .val (.int ((p2 &&& (2147483647 : Int32)) % (9 : Int32))), .val (.int (Int32.ofNat av)), .val (.int fl), .val (.ref b1)] [])) _
    refine XS.aload X29.here hx rfl (hb hby at_145) rfl rfl ?_
    show Steps p.tables e below (T29.setTop (mkF m 147 #[.val (.long jb), .second, .val (.int p2), .val (.int p3), .val (.int p4), .val (.int ((p2 &&& (2147483647 : Int32)) % (9 : Int32))), .val (.int (Int32.ofNat av)), .val (.int fl), .val (.ref b1)] [(.ref b1)])) _
    refine XS.iconst X29.here hx rfl (hb hby at_147) ?_
    show Steps p.tables e below (T29.setTop (mkF m 148 #[.val (.long jb), .second, .val (.int p2), .val (.int p3), .val (.int p4), .val (.int ((p2 &&& (2147483647 : Int32)) % (9 : Int32))), .val (.int (Int32.ofNat av)), .val (.int fl), .val (.ref b1)] [(.int (2 : Int32)), (.ref b1)])) _
    refine XS.lloadN X29.here hx rfl (hb hby at_148) rfl ?_
    show Steps p.tables e below (T29.setTop (mkF m 149 #[.val (.long jb), .second, .val (.int p2), .val (.int p3), .val (.int p4), .val (.int ((p2 &&& (2147483647 : Int32)) % (9 : Int32))), .val (.int (Int32.ofNat av)), .val (.int fl), .val (.ref b1)] [(.long jb), (.int (2 : Int32)), (.ref b1)])) _
    refine XS.iload X29.here hx rfl (hb hby at_149) rfl ?_
    show Steps p.tables e below (T29.setTop (mkF m 151 #[.val (.long jb), .second, .val (.int p2), .val (.int p3), .val (.int p4), .val (.int ((p2 &&& (2147483647 : Int32)) % (9 : Int32))), .val (.int (Int32.ofNat av)), .val (.int fl), .val (.ref b1)] [(.int ((p2 &&& (2147483647 : Int32)) % (9 : Int32))), (.long jb), (.int (2 : Int32)), (.ref b1)])) _
    refine XS.iload X29.here hx rfl (hb hby at_151) rfl ?_
    show Steps p.tables e below (T29.setTop (mkF m 153 #[.val (.long jb), .second, .val (.int p2), .val (.int p3), .val (.int p4), .val (.int ((p2 &&& (2147483647 : Int32)) % (9 : Int32))), .val (.int (Int32.ofNat av)), .val (.int fl), .val (.ref b1)] [(.int (Int32.ofNat av)), (.int ((p2 &&& (2147483647 : Int32)) % (9 : Int32))), (.long jb), (.int (2 : Int32)), (.ref b1)])) _
    refine XS.iload X29.here hx rfl (hb hby at_153) rfl ?_
    show Steps p.tables e below (T29.setTop (mkF m 155 #[.val (.long jb), .second, .val (.int p2), .val (.int p3), .val (.int p4), .val (.int ((p2 &&& (2147483647 : Int32)) % (9 : Int32))), .val (.int (Int32.ofNat av)), .val (.int fl), .val (.ref b1)] [(.int fl), (.int (Int32.ofNat av)), (.int ((p2 &&& (2147483647 : Int32)) % (9 : Int32))), (.long jb), (.int (2 : Int32)), (.ref b1)])) _
    refine st30 _ ?_
    show Steps p.tables e below (T30.setTop (mkF m 158 #[.val (.long jb), .second, .val (.int p2), .val (.int p3), .val (.int p4), .val (.int ((p2 &&& (2147483647 : Int32)) % (9 : Int32))), .val (.int (Int32.ofNat av)), .val (.int fl), .val (.ref b1)] [(.int (own_cell ((own_put (fun _ => (fl).toInt8.toInt32) jb ((p2 &&& (2147483647 : Int32)) % (9 : Int32)) (Int32.ofNat av)) 2) (2 : Int32) jb ((p2 &&& (2147483647 : Int32)) % (9 : Int32)) (Int32.ofNat av) fl))])) _
    refine XS.ifNo X30.here hx rfl (hb hby at_158) rfl ((if0 _ _).trans (feq (own_fin jb ((p2 &&& (2147483647 : Int32)) % (9 : Int32)) (Int32.ofNat av) fl _ hfb 2 : ¬ ((own_cell ((own_put (fun _ => (fl).toInt8.toInt32) jb ((p2 &&& (2147483647 : Int32)) % (9 : Int32)) (Int32.ofNat av)) 2) (2 : Int32) jb ((p2 &&& (2147483647 : Int32)) % (9 : Int32)) (Int32.ofNat av) fl) = (0 : Int32)))).1) ?_
    show Steps p.tables e below (T30.setTop (mkF m 161 #[.val (.long jb), .second, .val (.int p2), .val (.int p3), .val (.int p4), .val (.int ((p2 &&& (2147483647 : Int32)) % (9 : Int32))), .val (.int (Int32.ofNat av)), .val (.int fl), .val (.ref b1)] [])) _
    refine XS.aload X30.here hx rfl (hb hby at_161) rfl rfl ?_
    show Steps p.tables e below (T30.setTop (mkF m 163 #[.val (.long jb), .second, .val (.int p2), .val (.int p3), .val (.int p4), .val (.int ((p2 &&& (2147483647 : Int32)) % (9 : Int32))), .val (.int (Int32.ofNat av)), .val (.int fl), .val (.ref b1)] [(.ref b1)])) _
    refine XS.iconst X30.here hx rfl (hb hby at_163) ?_
    show Steps p.tables e below (T30.setTop (mkF m 164 #[.val (.long jb), .second, .val (.int p2), .val (.int p3), .val (.int p4), .val (.int ((p2 &&& (2147483647 : Int32)) % (9 : Int32))), .val (.int (Int32.ofNat av)), .val (.int fl), .val (.ref b1)] [(.int (3 : Int32)), (.ref b1)])) _
    refine XS.lloadN X30.here hx rfl (hb hby at_164) rfl ?_
    show Steps p.tables e below (T30.setTop (mkF m 165 #[.val (.long jb), .second, .val (.int p2), .val (.int p3), .val (.int p4), .val (.int ((p2 &&& (2147483647 : Int32)) % (9 : Int32))), .val (.int (Int32.ofNat av)), .val (.int fl), .val (.ref b1)] [(.long jb), (.int (3 : Int32)), (.ref b1)])) _
    refine XS.iload X30.here hx rfl (hb hby at_165) rfl ?_
    show Steps p.tables e below (T30.setTop (mkF m 167 #[.val (.long jb), .second, .val (.int p2), .val (.int p3), .val (.int p4), .val (.int ((p2 &&& (2147483647 : Int32)) % (9 : Int32))), .val (.int (Int32.ofNat av)), .val (.int fl), .val (.ref b1)] [(.int ((p2 &&& (2147483647 : Int32)) % (9 : Int32))), (.long jb), (.int (3 : Int32)), (.ref b1)])) _
    refine XS.iload X30.here hx rfl (hb hby at_167) rfl ?_
    show Steps p.tables e below (T30.setTop (mkF m 169 #[.val (.long jb), .second, .val (.int p2), .val (.int p3), .val (.int p4), .val (.int ((p2 &&& (2147483647 : Int32)) % (9 : Int32))), .val (.int (Int32.ofNat av)), .val (.int fl), .val (.ref b1)] [(.int (Int32.ofNat av)), (.int ((p2 &&& (2147483647 : Int32)) % (9 : Int32))), (.long jb), (.int (3 : Int32)), (.ref b1)])) _
    refine XS.iload X30.here hx rfl (hb hby at_169) rfl ?_
    show Steps p.tables e below (T30.setTop (mkF m 171 #[.val (.long jb), .second, .val (.int p2), .val (.int p3), .val (.int p4), .val (.int ((p2 &&& (2147483647 : Int32)) % (9 : Int32))), .val (.int (Int32.ofNat av)), .val (.int fl), .val (.ref b1)] [(.int fl), (.int (Int32.ofNat av)), (.int ((p2 &&& (2147483647 : Int32)) % (9 : Int32))), (.long jb), (.int (3 : Int32)), (.ref b1)])) _
    refine st31 _ ?_
    show Steps p.tables e below (T31.setTop (mkF m 174 #[.val (.long jb), .second, .val (.int p2), .val (.int p3), .val (.int p4), .val (.int ((p2 &&& (2147483647 : Int32)) % (9 : Int32))), .val (.int (Int32.ofNat av)), .val (.int fl), .val (.ref b1)] [(.int (own_cell ((own_put (fun _ => (fl).toInt8.toInt32) jb ((p2 &&& (2147483647 : Int32)) % (9 : Int32)) (Int32.ofNat av)) 3) (3 : Int32) jb ((p2 &&& (2147483647 : Int32)) % (9 : Int32)) (Int32.ofNat av) fl))])) _
    refine XS.ifNo X31.here hx rfl (hb hby at_174) rfl ((if0 _ _).trans (feq (own_fin jb ((p2 &&& (2147483647 : Int32)) % (9 : Int32)) (Int32.ofNat av) fl _ hfb 3 : ¬ ((own_cell ((own_put (fun _ => (fl).toInt8.toInt32) jb ((p2 &&& (2147483647 : Int32)) % (9 : Int32)) (Int32.ofNat av)) 3) (3 : Int32) jb ((p2 &&& (2147483647 : Int32)) % (9 : Int32)) (Int32.ofNat av) fl) = (0 : Int32)))).1) ?_
    show Steps p.tables e below (T31.setTop (mkF m 177 #[.val (.long jb), .second, .val (.int p2), .val (.int p3), .val (.int p4), .val (.int ((p2 &&& (2147483647 : Int32)) % (9 : Int32))), .val (.int (Int32.ofNat av)), .val (.int fl), .val (.ref b1)] [])) _
    refine XS.aload X31.here hx rfl (hb hby at_177) rfl rfl ?_
    show Steps p.tables e below (T31.setTop (mkF m 179 #[.val (.long jb), .second, .val (.int p2), .val (.int p3), .val (.int p4), .val (.int ((p2 &&& (2147483647 : Int32)) % (9 : Int32))), .val (.int (Int32.ofNat av)), .val (.int fl), .val (.ref b1)] [(.ref b1)])) _
    refine XS.iconst X31.here hx rfl (hb hby at_179) ?_
    show Steps p.tables e below (T31.setTop (mkF m 180 #[.val (.long jb), .second, .val (.int p2), .val (.int p3), .val (.int p4), .val (.int ((p2 &&& (2147483647 : Int32)) % (9 : Int32))), .val (.int (Int32.ofNat av)), .val (.int fl), .val (.ref b1)] [(.int (4 : Int32)), (.ref b1)])) _
    refine XS.lloadN X31.here hx rfl (hb hby at_180) rfl ?_
    show Steps p.tables e below (T31.setTop (mkF m 181 #[.val (.long jb), .second, .val (.int p2), .val (.int p3), .val (.int p4), .val (.int ((p2 &&& (2147483647 : Int32)) % (9 : Int32))), .val (.int (Int32.ofNat av)), .val (.int fl), .val (.ref b1)] [(.long jb), (.int (4 : Int32)), (.ref b1)])) _
    refine XS.iload X31.here hx rfl (hb hby at_181) rfl ?_
    show Steps p.tables e below (T31.setTop (mkF m 183 #[.val (.long jb), .second, .val (.int p2), .val (.int p3), .val (.int p4), .val (.int ((p2 &&& (2147483647 : Int32)) % (9 : Int32))), .val (.int (Int32.ofNat av)), .val (.int fl), .val (.ref b1)] [(.int ((p2 &&& (2147483647 : Int32)) % (9 : Int32))), (.long jb), (.int (4 : Int32)), (.ref b1)])) _
    refine XS.iload X31.here hx rfl (hb hby at_183) rfl ?_
    show Steps p.tables e below (T31.setTop (mkF m 185 #[.val (.long jb), .second, .val (.int p2), .val (.int p3), .val (.int p4), .val (.int ((p2 &&& (2147483647 : Int32)) % (9 : Int32))), .val (.int (Int32.ofNat av)), .val (.int fl), .val (.ref b1)] [(.int (Int32.ofNat av)), (.int ((p2 &&& (2147483647 : Int32)) % (9 : Int32))), (.long jb), (.int (4 : Int32)), (.ref b1)])) _
    refine XS.iload X31.here hx rfl (hb hby at_185) rfl ?_
    show Steps p.tables e below (T31.setTop (mkF m 187 #[.val (.long jb), .second, .val (.int p2), .val (.int p3), .val (.int p4), .val (.int ((p2 &&& (2147483647 : Int32)) % (9 : Int32))), .val (.int (Int32.ofNat av)), .val (.int fl), .val (.ref b1)] [(.int fl), (.int (Int32.ofNat av)), (.int ((p2 &&& (2147483647 : Int32)) % (9 : Int32))), (.long jb), (.int (4 : Int32)), (.ref b1)])) _
    refine st32 _ ?_
    show Steps p.tables e below (T32.setTop (mkF m 190 #[.val (.long jb), .second, .val (.int p2), .val (.int p3), .val (.int p4), .val (.int ((p2 &&& (2147483647 : Int32)) % (9 : Int32))), .val (.int (Int32.ofNat av)), .val (.int fl), .val (.ref b1)] [(.int (own_cell ((own_put (fun _ => (fl).toInt8.toInt32) jb ((p2 &&& (2147483647 : Int32)) % (9 : Int32)) (Int32.ofNat av)) 4) (4 : Int32) jb ((p2 &&& (2147483647 : Int32)) % (9 : Int32)) (Int32.ofNat av) fl))])) _
    refine XS.ifNo X32.here hx rfl (hb hby at_190) rfl ((if0 _ _).trans (feq (own_fin jb ((p2 &&& (2147483647 : Int32)) % (9 : Int32)) (Int32.ofNat av) fl _ hfb 4 : ¬ ((own_cell ((own_put (fun _ => (fl).toInt8.toInt32) jb ((p2 &&& (2147483647 : Int32)) % (9 : Int32)) (Int32.ofNat av)) 4) (4 : Int32) jb ((p2 &&& (2147483647 : Int32)) % (9 : Int32)) (Int32.ofNat av) fl) = (0 : Int32)))).1) ?_
    show Steps p.tables e below (T32.setTop (mkF m 193 #[.val (.long jb), .second, .val (.int p2), .val (.int p3), .val (.int p4), .val (.int ((p2 &&& (2147483647 : Int32)) % (9 : Int32))), .val (.int (Int32.ofNat av)), .val (.int fl), .val (.ref b1)] [])) _
    refine XS.aload X32.here hx rfl (hb hby at_193) rfl rfl ?_
    show Steps p.tables e below (T32.setTop (mkF m 195 #[.val (.long jb), .second, .val (.int p2), .val (.int p3), .val (.int p4), .val (.int ((p2 &&& (2147483647 : Int32)) % (9 : Int32))), .val (.int (Int32.ofNat av)), .val (.int fl), .val (.ref b1)] [(.ref b1)])) _
    refine XS.iconst X32.here hx rfl (hb hby at_195) ?_
    show Steps p.tables e below (T32.setTop (mkF m 196 #[.val (.long jb), .second, .val (.int p2), .val (.int p3), .val (.int p4), .val (.int ((p2 &&& (2147483647 : Int32)) % (9 : Int32))), .val (.int (Int32.ofNat av)), .val (.int fl), .val (.ref b1)] [(.int (5 : Int32)), (.ref b1)])) _
    refine XS.lloadN X32.here hx rfl (hb hby at_196) rfl ?_
    show Steps p.tables e below (T32.setTop (mkF m 197 #[.val (.long jb), .second, .val (.int p2), .val (.int p3), .val (.int p4), .val (.int ((p2 &&& (2147483647 : Int32)) % (9 : Int32))), .val (.int (Int32.ofNat av)), .val (.int fl), .val (.ref b1)] [(.long jb), (.int (5 : Int32)), (.ref b1)])) _
    refine XS.iload X32.here hx rfl (hb hby at_197) rfl ?_
    show Steps p.tables e below (T32.setTop (mkF m 199 #[.val (.long jb), .second, .val (.int p2), .val (.int p3), .val (.int p4), .val (.int ((p2 &&& (2147483647 : Int32)) % (9 : Int32))), .val (.int (Int32.ofNat av)), .val (.int fl), .val (.ref b1)] [(.int ((p2 &&& (2147483647 : Int32)) % (9 : Int32))), (.long jb), (.int (5 : Int32)), (.ref b1)])) _
    refine XS.iload X32.here hx rfl (hb hby at_199) rfl ?_
    show Steps p.tables e below (T32.setTop (mkF m 201 #[.val (.long jb), .second, .val (.int p2), .val (.int p3), .val (.int p4), .val (.int ((p2 &&& (2147483647 : Int32)) % (9 : Int32))), .val (.int (Int32.ofNat av)), .val (.int fl), .val (.ref b1)] [(.int (Int32.ofNat av)), (.int ((p2 &&& (2147483647 : Int32)) % (9 : Int32))), (.long jb), (.int (5 : Int32)), (.ref b1)])) _
    refine XS.iload X32.here hx rfl (hb hby at_201) rfl ?_
    show Steps p.tables e below (T32.setTop (mkF m 203 #[.val (.long jb), .second, .val (.int p2), .val (.int p3), .val (.int p4), .val (.int ((p2 &&& (2147483647 : Int32)) % (9 : Int32))), .val (.int (Int32.ofNat av)), .val (.int fl), .val (.ref b1)] [(.int fl), (.int (Int32.ofNat av)), (.int ((p2 &&& (2147483647 : Int32)) % (9 : Int32))), (.long jb), (.int (5 : Int32)), (.ref b1)])) _
    refine st33 _ ?_
    show Steps p.tables e below (T33.setTop (mkF m 206 #[.val (.long jb), .second, .val (.int p2), .val (.int p3), .val (.int p4), .val (.int ((p2 &&& (2147483647 : Int32)) % (9 : Int32))), .val (.int (Int32.ofNat av)), .val (.int fl), .val (.ref b1)] [(.int (own_cell ((own_put (fun _ => (fl).toInt8.toInt32) jb ((p2 &&& (2147483647 : Int32)) % (9 : Int32)) (Int32.ofNat av)) 5) (5 : Int32) jb ((p2 &&& (2147483647 : Int32)) % (9 : Int32)) (Int32.ofNat av) fl))])) _
    refine XS.ifNo X33.here hx rfl (hb hby at_206) rfl ((if0 _ _).trans (feq (own_fin jb ((p2 &&& (2147483647 : Int32)) % (9 : Int32)) (Int32.ofNat av) fl _ hfb 5 : ¬ ((own_cell ((own_put (fun _ => (fl).toInt8.toInt32) jb ((p2 &&& (2147483647 : Int32)) % (9 : Int32)) (Int32.ofNat av)) 5) (5 : Int32) jb ((p2 &&& (2147483647 : Int32)) % (9 : Int32)) (Int32.ofNat av) fl) = (0 : Int32)))).1) ?_
    show Steps p.tables e below (T33.setTop (mkF m 209 #[.val (.long jb), .second, .val (.int p2), .val (.int p3), .val (.int p4), .val (.int ((p2 &&& (2147483647 : Int32)) % (9 : Int32))), .val (.int (Int32.ofNat av)), .val (.int fl), .val (.ref b1)] [])) _
    refine XS.aload X33.here hx rfl (hb hby at_209) rfl rfl ?_
    show Steps p.tables e below (T33.setTop (mkF m 211 #[.val (.long jb), .second, .val (.int p2), .val (.int p3), .val (.int p4), .val (.int ((p2 &&& (2147483647 : Int32)) % (9 : Int32))), .val (.int (Int32.ofNat av)), .val (.int fl), .val (.ref b1)] [(.ref b1)])) _
    refine XS.bipush X33.here hx rfl (hb hby at_211) ?_
    show Steps p.tables e below (T33.setTop (mkF m 213 #[.val (.long jb), .second, .val (.int p2), .val (.int p3), .val (.int p4), .val (.int ((p2 &&& (2147483647 : Int32)) % (9 : Int32))), .val (.int (Int32.ofNat av)), .val (.int fl), .val (.ref b1)] [(.int (6 : Int32)), (.ref b1)])) _
    refine XS.lloadN X33.here hx rfl (hb hby at_213) rfl ?_
    show Steps p.tables e below (T33.setTop (mkF m 214 #[.val (.long jb), .second, .val (.int p2), .val (.int p3), .val (.int p4), .val (.int ((p2 &&& (2147483647 : Int32)) % (9 : Int32))), .val (.int (Int32.ofNat av)), .val (.int fl), .val (.ref b1)] [(.long jb), (.int (6 : Int32)), (.ref b1)])) _
    refine XS.iload X33.here hx rfl (hb hby at_214) rfl ?_
    show Steps p.tables e below (T33.setTop (mkF m 216 #[.val (.long jb), .second, .val (.int p2), .val (.int p3), .val (.int p4), .val (.int ((p2 &&& (2147483647 : Int32)) % (9 : Int32))), .val (.int (Int32.ofNat av)), .val (.int fl), .val (.ref b1)] [(.int ((p2 &&& (2147483647 : Int32)) % (9 : Int32))), (.long jb), (.int (6 : Int32)), (.ref b1)])) _
    refine XS.iload X33.here hx rfl (hb hby at_216) rfl ?_
    show Steps p.tables e below (T33.setTop (mkF m 218 #[.val (.long jb), .second, .val (.int p2), .val (.int p3), .val (.int p4), .val (.int ((p2 &&& (2147483647 : Int32)) % (9 : Int32))), .val (.int (Int32.ofNat av)), .val (.int fl), .val (.ref b1)] [(.int (Int32.ofNat av)), (.int ((p2 &&& (2147483647 : Int32)) % (9 : Int32))), (.long jb), (.int (6 : Int32)), (.ref b1)])) _
    refine XS.iload X33.here hx rfl (hb hby at_218) rfl ?_
    show Steps p.tables e below (T33.setTop (mkF m 220 #[.val (.long jb), .second, .val (.int p2), .val (.int p3), .val (.int p4), .val (.int ((p2 &&& (2147483647 : Int32)) % (9 : Int32))), .val (.int (Int32.ofNat av)), .val (.int fl), .val (.ref b1)] [(.int fl), (.int (Int32.ofNat av)), (.int ((p2 &&& (2147483647 : Int32)) % (9 : Int32))), (.long jb), (.int (6 : Int32)), (.ref b1)])) _
    refine st34 _ ?_
    show Steps p.tables e below (T34.setTop (mkF m 223 #[.val (.long jb), .second, .val (.int p2), .val (.int p3), .val (.int p4), .val (.int ((p2 &&& (2147483647 : Int32)) % (9 : Int32))), .val (.int (Int32.ofNat av)), .val (.int fl), .val (.ref b1)] [(.int (own_cell ((own_put (fun _ => (fl).toInt8.toInt32) jb ((p2 &&& (2147483647 : Int32)) % (9 : Int32)) (Int32.ofNat av)) 6) (6 : Int32) jb ((p2 &&& (2147483647 : Int32)) % (9 : Int32)) (Int32.ofNat av) fl))])) _
    refine XS.ifNo X34.here hx rfl (hb hby at_223) rfl ((if0 _ _).trans (feq (own_fin jb ((p2 &&& (2147483647 : Int32)) % (9 : Int32)) (Int32.ofNat av) fl _ hfb 6 : ¬ ((own_cell ((own_put (fun _ => (fl).toInt8.toInt32) jb ((p2 &&& (2147483647 : Int32)) % (9 : Int32)) (Int32.ofNat av)) 6) (6 : Int32) jb ((p2 &&& (2147483647 : Int32)) % (9 : Int32)) (Int32.ofNat av) fl) = (0 : Int32)))).1) ?_
    show Steps p.tables e below (T34.setTop (mkF m 226 #[.val (.long jb), .second, .val (.int p2), .val (.int p3), .val (.int p4), .val (.int ((p2 &&& (2147483647 : Int32)) % (9 : Int32))), .val (.int (Int32.ofNat av)), .val (.int fl), .val (.ref b1)] [])) _
    refine XS.aload X34.here hx rfl (hb hby at_226) rfl rfl ?_
    show Steps p.tables e below (T34.setTop (mkF m 228 #[.val (.long jb), .second, .val (.int p2), .val (.int p3), .val (.int p4), .val (.int ((p2 &&& (2147483647 : Int32)) % (9 : Int32))), .val (.int (Int32.ofNat av)), .val (.int fl), .val (.ref b1)] [(.ref b1)])) _
    refine XS.bipush X34.here hx rfl (hb hby at_228) ?_
    show Steps p.tables e below (T34.setTop (mkF m 230 #[.val (.long jb), .second, .val (.int p2), .val (.int p3), .val (.int p4), .val (.int ((p2 &&& (2147483647 : Int32)) % (9 : Int32))), .val (.int (Int32.ofNat av)), .val (.int fl), .val (.ref b1)] [(.int (7 : Int32)), (.ref b1)])) _
    refine XS.lloadN X34.here hx rfl (hb hby at_230) rfl ?_
    show Steps p.tables e below (T34.setTop (mkF m 231 #[.val (.long jb), .second, .val (.int p2), .val (.int p3), .val (.int p4), .val (.int ((p2 &&& (2147483647 : Int32)) % (9 : Int32))), .val (.int (Int32.ofNat av)), .val (.int fl), .val (.ref b1)] [(.long jb), (.int (7 : Int32)), (.ref b1)])) _
    refine XS.iload X34.here hx rfl (hb hby at_231) rfl ?_
    show Steps p.tables e below (T34.setTop (mkF m 233 #[.val (.long jb), .second, .val (.int p2), .val (.int p3), .val (.int p4), .val (.int ((p2 &&& (2147483647 : Int32)) % (9 : Int32))), .val (.int (Int32.ofNat av)), .val (.int fl), .val (.ref b1)] [(.int ((p2 &&& (2147483647 : Int32)) % (9 : Int32))), (.long jb), (.int (7 : Int32)), (.ref b1)])) _
    refine XS.iload X34.here hx rfl (hb hby at_233) rfl ?_
    show Steps p.tables e below (T34.setTop (mkF m 235 #[.val (.long jb), .second, .val (.int p2), .val (.int p3), .val (.int p4), .val (.int ((p2 &&& (2147483647 : Int32)) % (9 : Int32))), .val (.int (Int32.ofNat av)), .val (.int fl), .val (.ref b1)] [(.int (Int32.ofNat av)), (.int ((p2 &&& (2147483647 : Int32)) % (9 : Int32))), (.long jb), (.int (7 : Int32)), (.ref b1)])) _
    refine XS.iload X34.here hx rfl (hb hby at_235) rfl ?_
    show Steps p.tables e below (T34.setTop (mkF m 237 #[.val (.long jb), .second, .val (.int p2), .val (.int p3), .val (.int p4), .val (.int ((p2 &&& (2147483647 : Int32)) % (9 : Int32))), .val (.int (Int32.ofNat av)), .val (.int fl), .val (.ref b1)] [(.int fl), (.int (Int32.ofNat av)), (.int ((p2 &&& (2147483647 : Int32)) % (9 : Int32))), (.long jb), (.int (7 : Int32)), (.ref b1)])) _
    refine st35 _ ?_
    show Steps p.tables e below (T35.setTop (mkF m 240 #[.val (.long jb), .second, .val (.int p2), .val (.int p3), .val (.int p4), .val (.int ((p2 &&& (2147483647 : Int32)) % (9 : Int32))), .val (.int (Int32.ofNat av)), .val (.int fl), .val (.ref b1)] [(.int (own_cell ((own_put (fun _ => (fl).toInt8.toInt32) jb ((p2 &&& (2147483647 : Int32)) % (9 : Int32)) (Int32.ofNat av)) 7) (7 : Int32) jb ((p2 &&& (2147483647 : Int32)) % (9 : Int32)) (Int32.ofNat av) fl))])) _
    refine XS.ifNo X35.here hx rfl (hb hby at_240) rfl ((if0 _ _).trans (feq (own_fin jb ((p2 &&& (2147483647 : Int32)) % (9 : Int32)) (Int32.ofNat av) fl _ hfb 7 : ¬ ((own_cell ((own_put (fun _ => (fl).toInt8.toInt32) jb ((p2 &&& (2147483647 : Int32)) % (9 : Int32)) (Int32.ofNat av)) 7) (7 : Int32) jb ((p2 &&& (2147483647 : Int32)) % (9 : Int32)) (Int32.ofNat av) fl) = (0 : Int32)))).1) ?_
    show Steps p.tables e below (T35.setTop (mkF m 243 #[.val (.long jb), .second, .val (.int p2), .val (.int p3), .val (.int p4), .val (.int ((p2 &&& (2147483647 : Int32)) % (9 : Int32))), .val (.int (Int32.ofNat av)), .val (.int fl), .val (.ref b1)] [])) _
    refine XS.aload X35.here hx rfl (hb hby at_243) rfl rfl ?_
    show Steps p.tables e below (T35.setTop (mkF m 245 #[.val (.long jb), .second, .val (.int p2), .val (.int p3), .val (.int p4), .val (.int ((p2 &&& (2147483647 : Int32)) % (9 : Int32))), .val (.int (Int32.ofNat av)), .val (.int fl), .val (.ref b1)] [(.ref b1)])) _
    refine XS.bipush X35.here hx rfl (hb hby at_245) ?_
    show Steps p.tables e below (T35.setTop (mkF m 247 #[.val (.long jb), .second, .val (.int p2), .val (.int p3), .val (.int p4), .val (.int ((p2 &&& (2147483647 : Int32)) % (9 : Int32))), .val (.int (Int32.ofNat av)), .val (.int fl), .val (.ref b1)] [(.int (8 : Int32)), (.ref b1)])) _
    refine XS.lloadN X35.here hx rfl (hb hby at_247) rfl ?_
    show Steps p.tables e below (T35.setTop (mkF m 248 #[.val (.long jb), .second, .val (.int p2), .val (.int p3), .val (.int p4), .val (.int ((p2 &&& (2147483647 : Int32)) % (9 : Int32))), .val (.int (Int32.ofNat av)), .val (.int fl), .val (.ref b1)] [(.long jb), (.int (8 : Int32)), (.ref b1)])) _
    refine XS.iload X35.here hx rfl (hb hby at_248) rfl ?_
    show Steps p.tables e below (T35.setTop (mkF m 250 #[.val (.long jb), .second, .val (.int p2), .val (.int p3), .val (.int p4), .val (.int ((p2 &&& (2147483647 : Int32)) % (9 : Int32))), .val (.int (Int32.ofNat av)), .val (.int fl), .val (.ref b1)] [(.int ((p2 &&& (2147483647 : Int32)) % (9 : Int32))), (.long jb), (.int (8 : Int32)), (.ref b1)])) _
    refine XS.iload X35.here hx rfl (hb hby at_250) rfl ?_
    show Steps p.tables e below (T35.setTop (mkF m 252 #[.val (.long jb), .second, .val (.int p2), .val (.int p3), .val (.int p4), .val (.int ((p2 &&& (2147483647 : Int32)) % (9 : Int32))), .val (.int (Int32.ofNat av)), .val (.int fl), .val (.ref b1)] [(.int (Int32.ofNat av)), (.int ((p2 &&& (2147483647 : Int32)) % (9 : Int32))), (.long jb), (.int (8 : Int32)), (.ref b1)])) _
    refine XS.iload X35.here hx rfl (hb hby at_252) rfl ?_
    show Steps p.tables e below (T35.setTop (mkF m 254 #[.val (.long jb), .second, .val (.int p2), .val (.int p3), .val (.int p4), .val (.int ((p2 &&& (2147483647 : Int32)) % (9 : Int32))), .val (.int (Int32.ofNat av)), .val (.int fl), .val (.ref b1)] [(.int fl), (.int (Int32.ofNat av)), (.int ((p2 &&& (2147483647 : Int32)) % (9 : Int32))), (.long jb), (.int (8 : Int32)), (.ref b1)])) _
    refine st36 _ ?_
    show Steps p.tables e below (T36.setTop (mkF m 257 #[.val (.long jb), .second, .val (.int p2), .val (.int p3), .val (.int p4), .val (.int ((p2 &&& (2147483647 : Int32)) % (9 : Int32))), .val (.int (Int32.ofNat av)), .val (.int fl), .val (.ref b1)] [(.int (own_cell ((own_put (fun _ => (fl).toInt8.toInt32) jb ((p2 &&& (2147483647 : Int32)) % (9 : Int32)) (Int32.ofNat av)) 8) (8 : Int32) jb ((p2 &&& (2147483647 : Int32)) % (9 : Int32)) (Int32.ofNat av) fl))])) _
    refine XS.ifNo X36.here hx rfl (hb hby at_257) rfl ((if0 _ _).trans (feq (own_fin jb ((p2 &&& (2147483647 : Int32)) % (9 : Int32)) (Int32.ofNat av) fl _ hfb 8 : ¬ ((own_cell ((own_put (fun _ => (fl).toInt8.toInt32) jb ((p2 &&& (2147483647 : Int32)) % (9 : Int32)) (Int32.ofNat av)) 8) (8 : Int32) jb ((p2 &&& (2147483647 : Int32)) % (9 : Int32)) (Int32.ofNat av) fl) = (0 : Int32)))).1) ?_
    show Steps p.tables e below (T36.setTop (mkF m 260 #[.val (.long jb), .second, .val (.int p2), .val (.int p3), .val (.int p4), .val (.int ((p2 &&& (2147483647 : Int32)) % (9 : Int32))), .val (.int (Int32.ofNat av)), .val (.int fl), .val (.ref b1)] [])) _
    refine XS.aload X36.here hx rfl (hb hby at_260) rfl rfl ?_
    show Steps p.tables e below (T36.setTop (mkF m 262 #[.val (.long jb), .second, .val (.int p2), .val (.int p3), .val (.int p4), .val (.int ((p2 &&& (2147483647 : Int32)) % (9 : Int32))), .val (.int (Int32.ofNat av)), .val (.int fl), .val (.ref b1)] [(.ref b1)])) _
    refine XS.bipush X36.here hx rfl (hb hby at_262) ?_
    show Steps p.tables e below (T36.setTop (mkF m 264 #[.val (.long jb), .second, .val (.int p2), .val (.int p3), .val (.int p4), .val (.int ((p2 &&& (2147483647 : Int32)) % (9 : Int32))), .val (.int (Int32.ofNat av)), .val (.int fl), .val (.ref b1)] [(.int (9 : Int32)), (.ref b1)])) _
    refine XS.lloadN X36.here hx rfl (hb hby at_264) rfl ?_
    show Steps p.tables e below (T36.setTop (mkF m 265 #[.val (.long jb), .second, .val (.int p2), .val (.int p3), .val (.int p4), .val (.int ((p2 &&& (2147483647 : Int32)) % (9 : Int32))), .val (.int (Int32.ofNat av)), .val (.int fl), .val (.ref b1)] [(.long jb), (.int (9 : Int32)), (.ref b1)])) _
    refine XS.iload X36.here hx rfl (hb hby at_265) rfl ?_
    show Steps p.tables e below (T36.setTop (mkF m 267 #[.val (.long jb), .second, .val (.int p2), .val (.int p3), .val (.int p4), .val (.int ((p2 &&& (2147483647 : Int32)) % (9 : Int32))), .val (.int (Int32.ofNat av)), .val (.int fl), .val (.ref b1)] [(.int ((p2 &&& (2147483647 : Int32)) % (9 : Int32))), (.long jb), (.int (9 : Int32)), (.ref b1)])) _
    refine XS.iload X36.here hx rfl (hb hby at_267) rfl ?_
    show Steps p.tables e below (T36.setTop (mkF m 269 #[.val (.long jb), .second, .val (.int p2), .val (.int p3), .val (.int p4), .val (.int ((p2 &&& (2147483647 : Int32)) % (9 : Int32))), .val (.int (Int32.ofNat av)), .val (.int fl), .val (.ref b1)] [(.int (Int32.ofNat av)), (.int ((p2 &&& (2147483647 : Int32)) % (9 : Int32))), (.long jb), (.int (9 : Int32)), (.ref b1)])) _
    refine XS.iload X36.here hx rfl (hb hby at_269) rfl ?_
    show Steps p.tables e below (T36.setTop (mkF m 271 #[.val (.long jb), .second, .val (.int p2), .val (.int p3), .val (.int p4), .val (.int ((p2 &&& (2147483647 : Int32)) % (9 : Int32))), .val (.int (Int32.ofNat av)), .val (.int fl), .val (.ref b1)] [(.int fl), (.int (Int32.ofNat av)), (.int ((p2 &&& (2147483647 : Int32)) % (9 : Int32))), (.long jb), (.int (9 : Int32)), (.ref b1)])) _
    refine st37 _ ?_
    show Steps p.tables e below (T37.setTop (mkF m 274 #[.val (.long jb), .second, .val (.int p2), .val (.int p3), .val (.int p4), .val (.int ((p2 &&& (2147483647 : Int32)) % (9 : Int32))), .val (.int (Int32.ofNat av)), .val (.int fl), .val (.ref b1)] [(.int (own_cell ((own_put (fun _ => (fl).toInt8.toInt32) jb ((p2 &&& (2147483647 : Int32)) % (9 : Int32)) (Int32.ofNat av)) 9) (9 : Int32) jb ((p2 &&& (2147483647 : Int32)) % (9 : Int32)) (Int32.ofNat av) fl))])) _
    refine XS.ifNo X37.here hx rfl (hb hby at_274) rfl ((if0 _ _).trans (feq (own_fin jb ((p2 &&& (2147483647 : Int32)) % (9 : Int32)) (Int32.ofNat av) fl _ hfb 9 : ¬ ((own_cell ((own_put (fun _ => (fl).toInt8.toInt32) jb ((p2 &&& (2147483647 : Int32)) % (9 : Int32)) (Int32.ofNat av)) 9) (9 : Int32) jb ((p2 &&& (2147483647 : Int32)) % (9 : Int32)) (Int32.ofNat av) fl) = (0 : Int32)))).1) ?_
    show Steps p.tables e below (T37.setTop (mkF m 277 #[.val (.long jb), .second, .val (.int p2), .val (.int p3), .val (.int p4), .val (.int ((p2 &&& (2147483647 : Int32)) % (9 : Int32))), .val (.int (Int32.ofNat av)), .val (.int fl), .val (.ref b1)] [])) _
    refine XS.aload X37.here hx rfl (hb hby at_277) rfl rfl ?_
    show Steps p.tables e below (T37.setTop (mkF m 279 #[.val (.long jb), .second, .val (.int p2), .val (.int p3), .val (.int p4), .val (.int ((p2 &&& (2147483647 : Int32)) % (9 : Int32))), .val (.int (Int32.ofNat av)), .val (.int fl), .val (.ref b1)] [(.ref b1)])) _
    refine XS.bipush X37.here hx rfl (hb hby at_279) ?_
    show Steps p.tables e below (T37.setTop (mkF m 281 #[.val (.long jb), .second, .val (.int p2), .val (.int p3), .val (.int p4), .val (.int ((p2 &&& (2147483647 : Int32)) % (9 : Int32))), .val (.int (Int32.ofNat av)), .val (.int fl), .val (.ref b1)] [(.int (10 : Int32)), (.ref b1)])) _
    refine XS.lloadN X37.here hx rfl (hb hby at_281) rfl ?_
    show Steps p.tables e below (T37.setTop (mkF m 282 #[.val (.long jb), .second, .val (.int p2), .val (.int p3), .val (.int p4), .val (.int ((p2 &&& (2147483647 : Int32)) % (9 : Int32))), .val (.int (Int32.ofNat av)), .val (.int fl), .val (.ref b1)] [(.long jb), (.int (10 : Int32)), (.ref b1)])) _
    refine XS.iload X37.here hx rfl (hb hby at_282) rfl ?_
    show Steps p.tables e below (T37.setTop (mkF m 284 #[.val (.long jb), .second, .val (.int p2), .val (.int p3), .val (.int p4), .val (.int ((p2 &&& (2147483647 : Int32)) % (9 : Int32))), .val (.int (Int32.ofNat av)), .val (.int fl), .val (.ref b1)] [(.int ((p2 &&& (2147483647 : Int32)) % (9 : Int32))), (.long jb), (.int (10 : Int32)), (.ref b1)])) _
    refine XS.iload X37.here hx rfl (hb hby at_284) rfl ?_
    show Steps p.tables e below (T37.setTop (mkF m 286 #[.val (.long jb), .second, .val (.int p2), .val (.int p3), .val (.int p4), .val (.int ((p2 &&& (2147483647 : Int32)) % (9 : Int32))), .val (.int (Int32.ofNat av)), .val (.int fl), .val (.ref b1)] [(.int (Int32.ofNat av)), (.int ((p2 &&& (2147483647 : Int32)) % (9 : Int32))), (.long jb), (.int (10 : Int32)), (.ref b1)])) _
    refine XS.iload X37.here hx rfl (hb hby at_286) rfl ?_
    show Steps p.tables e below (T37.setTop (mkF m 288 #[.val (.long jb), .second, .val (.int p2), .val (.int p3), .val (.int p4), .val (.int ((p2 &&& (2147483647 : Int32)) % (9 : Int32))), .val (.int (Int32.ofNat av)), .val (.int fl), .val (.ref b1)] [(.int fl), (.int (Int32.ofNat av)), (.int ((p2 &&& (2147483647 : Int32)) % (9 : Int32))), (.long jb), (.int (10 : Int32)), (.ref b1)])) _
    refine st38 _ ?_
    show Steps p.tables e below (T38.setTop (mkF m 291 #[.val (.long jb), .second, .val (.int p2), .val (.int p3), .val (.int p4), .val (.int ((p2 &&& (2147483647 : Int32)) % (9 : Int32))), .val (.int (Int32.ofNat av)), .val (.int fl), .val (.ref b1)] [(.int (own_cell ((own_put (fun _ => (fl).toInt8.toInt32) jb ((p2 &&& (2147483647 : Int32)) % (9 : Int32)) (Int32.ofNat av)) 10) (10 : Int32) jb ((p2 &&& (2147483647 : Int32)) % (9 : Int32)) (Int32.ofNat av) fl))])) _
    refine XS.ifNo X38.here hx rfl (hb hby at_291) rfl ((if0 _ _).trans (feq (own_fin jb ((p2 &&& (2147483647 : Int32)) % (9 : Int32)) (Int32.ofNat av) fl _ hfb 10 : ¬ ((own_cell ((own_put (fun _ => (fl).toInt8.toInt32) jb ((p2 &&& (2147483647 : Int32)) % (9 : Int32)) (Int32.ofNat av)) 10) (10 : Int32) jb ((p2 &&& (2147483647 : Int32)) % (9 : Int32)) (Int32.ofNat av) fl) = (0 : Int32)))).1) ?_
    show Steps p.tables e below (T38.setTop (mkF m 294 #[.val (.long jb), .second, .val (.int p2), .val (.int p3), .val (.int p4), .val (.int ((p2 &&& (2147483647 : Int32)) % (9 : Int32))), .val (.int (Int32.ofNat av)), .val (.int fl), .val (.ref b1)] [])) _
    refine XS.aload X38.here hx rfl (hb hby at_294) rfl rfl ?_
    show Steps p.tables e below (T38.setTop (mkF m 296 #[.val (.long jb), .second, .val (.int p2), .val (.int p3), .val (.int p4), .val (.int ((p2 &&& (2147483647 : Int32)) % (9 : Int32))), .val (.int (Int32.ofNat av)), .val (.int fl), .val (.ref b1)] [(.ref b1)])) _
    refine XS.bipush X38.here hx rfl (hb hby at_296) ?_
    show Steps p.tables e below (T38.setTop (mkF m 298 #[.val (.long jb), .second, .val (.int p2), .val (.int p3), .val (.int p4), .val (.int ((p2 &&& (2147483647 : Int32)) % (9 : Int32))), .val (.int (Int32.ofNat av)), .val (.int fl), .val (.ref b1)] [(.int (11 : Int32)), (.ref b1)])) _
    refine XS.lloadN X38.here hx rfl (hb hby at_298) rfl ?_
    show Steps p.tables e below (T38.setTop (mkF m 299 #[.val (.long jb), .second, .val (.int p2), .val (.int p3), .val (.int p4), .val (.int ((p2 &&& (2147483647 : Int32)) % (9 : Int32))), .val (.int (Int32.ofNat av)), .val (.int fl), .val (.ref b1)] [(.long jb), (.int (11 : Int32)), (.ref b1)])) _
    refine XS.iload X38.here hx rfl (hb hby at_299) rfl ?_
    show Steps p.tables e below (T38.setTop (mkF m 301 #[.val (.long jb), .second, .val (.int p2), .val (.int p3), .val (.int p4), .val (.int ((p2 &&& (2147483647 : Int32)) % (9 : Int32))), .val (.int (Int32.ofNat av)), .val (.int fl), .val (.ref b1)] [(.int ((p2 &&& (2147483647 : Int32)) % (9 : Int32))), (.long jb), (.int (11 : Int32)), (.ref b1)])) _
    refine XS.iload X38.here hx rfl (hb hby at_301) rfl ?_
    show Steps p.tables e below (T38.setTop (mkF m 303 #[.val (.long jb), .second, .val (.int p2), .val (.int p3), .val (.int p4), .val (.int ((p2 &&& (2147483647 : Int32)) % (9 : Int32))), .val (.int (Int32.ofNat av)), .val (.int fl), .val (.ref b1)] [(.int (Int32.ofNat av)), (.int ((p2 &&& (2147483647 : Int32)) % (9 : Int32))), (.long jb), (.int (11 : Int32)), (.ref b1)])) _
    refine XS.iload X38.here hx rfl (hb hby at_303) rfl ?_
    show Steps p.tables e below (T38.setTop (mkF m 305 #[.val (.long jb), .second, .val (.int p2), .val (.int p3), .val (.int p4), .val (.int ((p2 &&& (2147483647 : Int32)) % (9 : Int32))), .val (.int (Int32.ofNat av)), .val (.int fl), .val (.ref b1)] [(.int fl), (.int (Int32.ofNat av)), (.int ((p2 &&& (2147483647 : Int32)) % (9 : Int32))), (.long jb), (.int (11 : Int32)), (.ref b1)])) _
    refine st39 _ ?_
    show Steps p.tables e below (T39.setTop (mkF m 308 #[.val (.long jb), .second, .val (.int p2), .val (.int p3), .val (.int p4), .val (.int ((p2 &&& (2147483647 : Int32)) % (9 : Int32))), .val (.int (Int32.ofNat av)), .val (.int fl), .val (.ref b1)] [(.int (own_cell ((own_put (fun _ => (fl).toInt8.toInt32) jb ((p2 &&& (2147483647 : Int32)) % (9 : Int32)) (Int32.ofNat av)) 11) (11 : Int32) jb ((p2 &&& (2147483647 : Int32)) % (9 : Int32)) (Int32.ofNat av) fl))])) _
    refine XS.ifNo X39.here hx rfl (hb hby at_308) rfl ((if0 _ _).trans (feq (own_fin jb ((p2 &&& (2147483647 : Int32)) % (9 : Int32)) (Int32.ofNat av) fl _ hfb 11 : ¬ ((own_cell ((own_put (fun _ => (fl).toInt8.toInt32) jb ((p2 &&& (2147483647 : Int32)) % (9 : Int32)) (Int32.ofNat av)) 11) (11 : Int32) jb ((p2 &&& (2147483647 : Int32)) % (9 : Int32)) (Int32.ofNat av) fl) = (0 : Int32)))).1) ?_
    show Steps p.tables e below (T39.setTop (mkF m 311 #[.val (.long jb), .second, .val (.int p2), .val (.int p3), .val (.int p4), .val (.int ((p2 &&& (2147483647 : Int32)) % (9 : Int32))), .val (.int (Int32.ofNat av)), .val (.int fl), .val (.ref b1)] [])) _
    refine XS.iconst X39.here hx rfl (hb hby at_311) ?_
    show Steps p.tables e below (T39.setTop (mkF m 312 #[.val (.long jb), .second, .val (.int p2), .val (.int p3), .val (.int p4), .val (.int ((p2 &&& (2147483647 : Int32)) % (9 : Int32))), .val (.int (Int32.ofNat av)), .val (.int fl), .val (.ref b1)] [(.int (1 : Int32))])) _
    refine XS.goto X39.here hx rfl (pc0 := 312) (pc' := 316) rfl (hb hby at_312) (by decide) (by decide) ?_
    show Steps p.tables e below (T39.setTop (mkF m 316 #[.val (.long jb), .second, .val (.int p2), .val (.int p3), .val (.int p4), .val (.int ((p2 &&& (2147483647 : Int32)) % (9 : Int32))), .val (.int (Int32.ofNat av)), .val (.int fl), .val (.ref b1)] [(.int (1 : Int32))])) _
    exact retN X39 hx (t := .boolean) Bd.returns (by simp) (hb hby at_316) hr
  · show Q0 Z jb p2 p3 p4 h0 n0 _ T39.heap _
    rw [r39_0]
    exact ⟨rfl, N39⟩
set_option maxRecDepth 65536 in
set_option maxHeartbeats 40000000 in
theorem comes_1 {Post : Tables → Env → Array Value → State → Outcome → State → Prop} (hpost : ∀ tb e args s v u, (limb_1_1.after args s (.returned v) u = true ∧ limb_1_2.after args s (.returned v) u = true ∧ True) → FrameEnd s (.returned v) u (Jvm.fieldLocs frame_1_writes args s ++ Jvm.arrayLocs frame_1_arrays args s ++ Jvm.staticLocs frame_1_statics s) 16 128 → Post tb e args s (.returned v) u) :
    ArmFor flags0 classFile x code maxLocals ret World_1 tables_1 room_1 Calls_1 rest_1 Pre_1 Post := by
  intro l hfl _ _ p e ha hc hk s m args below hf hA hF happ hP
  obtain ⟨hcalls, hrest, hpre⟩ := hP
  obtain ⟨-, -, -, hnamed, -, -, -, hat⟩ := (Spec.applies_iff hf).mp happ
  obtain ⟨hg, hn⟩ := and_e (Cond.before_iff.mp (show (Jvm.Cond.and given_1 narrow_1).before args s = true from hpre))
  obtain ⟨g1, g2⟩ := and_e hg
  obtain ⟨g3, g4⟩ := and_e g2
  obtain ⟨g5, g6⟩ := and_e g4
  obtain ⟨g7, g8⟩ := and_e g6
  obtain ⟨w0, w1, w2, w3, rfl⟩ : ∃ w0 w1 w2 w3 : Value, args = #[w0, w1, w2, w3] := by
    have hs : args.size = 4 := by simpa [Cond.value, given_1] using g1
    obtain ⟨L⟩ := args
    match L, hs with
    | [w0, w1, w2, w3], _ => exact ⟨w0, w1, w2, w3, rfl⟩
  have hw := fun d (hd : d ∈ tables_1) => atoms_spec (ws := Jvm.Cond.code x code maxLocals ret :: tables_1) hat d (List.mem_cons_of_mem _ hd)
  have hfit : Fit s := fun {y c} hc i hi => by
    obtain ⟨ha, rfl⟩ := Array.getElem?_eq_some_iff.mp hc
    have q := List.all_eq_true.mp ((Array.all_eq_true_iff_forall_mem.mp hF) _ (Array.getElem_mem ha)) i (List.mem_range.mpr hi)
    simpa [Array.getElem?_eq_getElem hi] using q
  obtain ⟨i0, ei0⟩ := isL_v g3
  obtain rfl : w0 = (.long i0) := Option.some.inj ei0
  obtain ⟨i1, ei1⟩ := is_v g5
  obtain rfl : w1 = (.int i1) := Option.some.inj ei1
  obtain ⟨i2, ei2⟩ := is_v g7
  obtain rfl : w2 = (.int i2) := Option.some.inj ei2
  obtain ⟨i3, ei3⟩ := is_v g8
  obtain rfl : w3 = (.int i3) := Option.some.inj ei3
  obtain ⟨n, o, h1, h2, h3, _, L, rfl, ⟨rfl, N⟩, hq⟩ := rm0 l s _ hw tables_1 i0 i1 i2 i3  s.heap s.heap.size (Nat.le_refl _)  p e ha hc hk s m _ below hf ((Spec.applies_iff_loose hf).mp happ).1 ⟨rfl, State.Warmed39.refl s, rfl⟩ trivial
  refine ⟨n, _, h1, h2, h3, hpost _ _ _ _ _ _ ⟨Cond.after_iff.mpr rfl, Cond.after_iff.mpr (eq_i res_at (Term.int_eval (1)) rfl), trivial⟩ ⟨hq.1, hq.2.1, (hq.2.2.sift fun y hy => Or.inr (N y hy)).mono (by decide) (by decide)⟩⟩
theorem main_1_1 : Claimed_1_1 := comes_1 fun _ _ _ _ _ _ h hF => ⟨h.1, hF⟩
theorem main_1_2 : Claimed_1_2 := comes_1 fun _ _ _ _ _ _ h hF => ⟨h.2.1, hF⟩
end Jvm.Pilot.@@N@@
namespace Jvm.Pilot.@@N@@
open Jvm Jvm.ClassFile Sem Op Lib Jvm.Free Jvm.Stand Jvm.Pilot.@@N@@.Jvm.D
/-! MADE BY PROGRAM (witnessworld.py) out of the Statement's table words and the real class files: 9 classes; the members and pool entries that the words name. The judged class is class 1, her method 1. -/
namespace start1
open Jvm.ClassFile
def u (s : String) : CpInfo := .utf8 (stringToUtf16 s)
/-- a pool by its gaps: so many unusable entries, then the entry; so many at the end -/
def gap : Nat → List CpInfo → List CpInfo
  | 0, r => r
  | n + 1, r => .unusable :: gap n r
def poolList (es : List (Nat × CpInfo)) (last : Nat) : List CpInfo := es.foldr (fun e r => gap e.1 (e.2 :: r)) (gap last [])
def pool (es : List (Nat × CpInfo)) (last : Nat) : Array CpInfo := ⟨poolList es last⟩
def fileOf (pool : Array CpInfo) (this : Nat) (attrs : Array Attribute := #[]) (ms : Array MethodInfo := #[]) (fl : Nat := 33) (sup : Nat := 0) (ifs : Array Nat := #[]) (fds : Array FieldInfo := #[]) : ClassFile where
  minorVersion := 0
  majorVersion := 65
  constantPool := pool
  accessFlags := fl
  thisClass := this
  superClass := sup
  interfaces := ifs
  fields := fds
  methods := ms
  attributes := attrs
def plain (name : String) (sup : Option ClassId) : Class where
  name := name
  kind := .ordinary
  loader := none
  accessFlags := 33
  super := sup
  interfaces := #[]
  cf := none
  fields := #[]
  methods := #[]
  instanceTypes := #[]
  staticTypes := #[]
  resolved := #[]
  callSites := []
  init := .initialized
  statics := none
  mirror := none

def pool0 : Array CpInfo := pool [(5, u "<init>"), (0, u "()V"), (1, .class_ 10), (1, u "java/lang/Object")] 113

def k0m0 : Method := { name := "<init>", desc := "()V", sig := { parameters := [], returnType := none }, accessFlags := 1, code := none }
/-- java/lang/Object -/
def k0 : Class := { plain "java/lang/Object" none with
  accessFlags := 33
  interfaces := #[]
  cf := some (fileOf pool0 8 #[] #[{ accessFlags := 1, nameIndex := 5, descriptorIndex := 6, attributes := #[] }] 33 0 #[] #[])
  fields := #[]
  methods := #[k0m0]
  instanceTypes := #[]
  staticTypes := #[]
  resolved := Array.replicate 124 none
  statics := none }

def pool1 : Array CpInfo := pool [(2, .class_ 4), (1, u "java/lang/Object"), (0, u "<init>"), (0, u "()V"), (0, .integer 2147483647), (0, .methodref 9 10), (0, .class_ 11), (0, .nameAndType 12 13), (0, u "com/example/backstitch/backstitch/stream/StreamTable"), (0, u "putBits"), (0, u "(JI[BI)V"), (0, .methodref 15 16), (0, .class_ 17), (0, .nameAndType 18 19), (0, u "com/example/backstitch/backstitch/stream/StreamTablePutBitsPinLaw"), (0, u "cell"), (0, u "([BIJIIB)Z"), (2, u "law"), (0, u "(JIII)Z")] 5

def k1m0 : Method := { name := "<init>", desc := "()V", sig := { parameters := [], returnType := none }, accessFlags := 2, code := none }
def k1c1 : Code := { maxStack := 7, maxLocals := 9, code := code, exceptionTable := #[], attributes := #[] }
def k1m1 : Method := { name := "law", desc := "(JIII)Z", sig := { parameters := [.long, .int, .int, .int], returnType := some .boolean }, accessFlags := 9, code := some k1c1 }
def k1c2 : Code := { maxStack := 4, maxLocals := 8, code := method_3_code, exceptionTable := #[], attributes := #[] }
def k1m2 : Method := { name := "cell", desc := "([BIJIIB)Z", sig := { parameters := [(.array .byte), .int, .long, .int, .int, .byte], returnType := some .boolean }, accessFlags := 10, code := some k1c2 }
/-- com/example/backstitch/backstitch/stream/StreamTablePutBitsPinLaw -/
def k1 : Class := { plain "com/example/backstitch/backstitch/stream/StreamTablePutBitsPinLaw" (some 0) with
  accessFlags := 49
  interfaces := #[]
  cf := some (fileOf pool1 15 #[] #[{ accessFlags := 2, nameIndex := 5, descriptorIndex := 6, attributes := #[] }, { accessFlags := 9, nameIndex := 22, descriptorIndex := 23, attributes := #[] }, { accessFlags := 10, nameIndex := 18, descriptorIndex := 19, attributes := #[] }] 49 2 #[] #[])
  fields := #[]
  methods := #[k1m0, k1m1, k1m2]
  instanceTypes := #[]
  staticTypes := #[]
  resolved := Array.replicate 29 none
  statics := none }

def pool2 : Array CpInfo := pool [(5, .class_ 6), (0, u "com/example/backstitch/backstitch/stream/StreamTable"), (2, .class_ 11), (1, u "java/lang/Object"), (3, .class_ 17), (1, u "com/example/backstitch/backstitch/stream/StreamTable$Builder"), (0, u "size"), (0, u "I"), (3, u "kinds"), (0, u "[B"), (3, u "classes"), (0, u "[I"), (3, u "dataAt"), (3, u "itemsAt"), (3, u "counts"), (3, u "data"), (3, u "items"), (3, u "layouts"), (12, u "[Lcom/example/backstitch/backstitch/stream/ClassLayout;"), (4, u "written"), (2, u "[Lcom/example/backstitch/backstitch/stream/StreamTable$Written;"), (4, u "interruptions"), (0, u "[J"), (16, u "epochStarts"), (3, u "epochCount"), (3, .class_ 106), (0, u "com/example/backstitch/backstitch/stream/StreamTable$Entries"), (3, .class_ 111), (0, u "com/example/backstitch/backstitch/stream/StreamTable$Epochs"), (6, u "contents"), (0, u "Lcom/example/backstitch/backstitch/stream/StreamContents;"), (8, u "KINDS"), (0, u "[Lcom/example/backstitch/backstitch/stream/StreamTable$Kind;"), (22, .class_ 154), (1, u "com/example/backstitch/backstitch/stream/StreamTable$Kind"), (183, .class_ 340), (1, u "com/example/backstitch/backstitch/stream/StreamTable$Written"), (42, .class_ 384), (0, u "com/example/backstitch/backstitch/stream/StreamTable$Elements"), (32, u "NULL"), (22, .class_ 442), (1, u "com/example/backstitch/backstitch/stream/StreamTable$1"), (4, u "INTS"), (0, u "Ljava/lang/invoke/VarHandle;"), (8, u "LONGS"), (111, u "NONE"), (0, u "LONG_FORM"), (1, u "ASCII"), (35, u "putBits"), (0, u "(JI[BI)V"), (10, .class_ 621), (0, u "com/example/backstitch/backstitch/stream/StreamTable$Builder$Mark"), (0, .class_ 623), (0, u "com/example/backstitch/backstitch/stream/StreamTable$Builder$Storage")] 51

def k2c0 : Code := { maxStack := 4, maxLocals := 6, code := prog_55_method_40_code, exceptionTable := #[], attributes := #[] }
def k2m0 : Method := { name := "putBits", desc := "(JI[BI)V", sig := { parameters := [.long, .int, (.array .byte), .int], returnType := none }, accessFlags := 8, code := some k2c0 }
/-- com/example/backstitch/backstitch/stream/StreamTable -/
def k2 : Class := { plain "com/example/backstitch/backstitch/stream/StreamTable" (some 0) with
  accessFlags := 49
  interfaces := #[]
  cf := some (fileOf pool2 5 #[.nestMembers #[440, 15, 620, 622, 383, 110, 105, 338, 152]] #[{ accessFlags := 8, nameIndex := 608, descriptorIndex := 609, attributes := #[] }] 49 9 #[] #[{ accessFlags := 24, nameIndex := 417, descriptorIndex := 19, attributes := #[] }, { accessFlags := 24, nameIndex := 569, descriptorIndex := 19, attributes := #[] }, { accessFlags := 24, nameIndex := 570, descriptorIndex := 19, attributes := #[] }, { accessFlags := 24, nameIndex := 572, descriptorIndex := 19, attributes := #[] }, { accessFlags := 26, nameIndex := 128, descriptorIndex := 129, attributes := #[] }, { accessFlags := 26, nameIndex := 447, descriptorIndex := 448, attributes := #[] }, { accessFlags := 26, nameIndex := 457, descriptorIndex := 448, attributes := #[] }, { accessFlags := 18, nameIndex := 18, descriptorIndex := 19, attributes := #[] }, { accessFlags := 18, nameIndex := 23, descriptorIndex := 24, attributes := #[] }, { accessFlags := 18, nameIndex := 28, descriptorIndex := 29, attributes := #[] }, { accessFlags := 18, nameIndex := 33, descriptorIndex := 29, attributes := #[] }, { accessFlags := 18, nameIndex := 37, descriptorIndex := 29, attributes := #[] }, { accessFlags := 18, nameIndex := 41, descriptorIndex := 29, attributes := #[] }, { accessFlags := 18, nameIndex := 45, descriptorIndex := 24, attributes := #[] }, { accessFlags := 18, nameIndex := 49, descriptorIndex := 29, attributes := #[] }, { accessFlags := 18, nameIndex := 53, descriptorIndex := 66, attributes := #[] }, { accessFlags := 18, nameIndex := 71, descriptorIndex := 74, attributes := #[] }, { accessFlags := 18, nameIndex := 79, descriptorIndex := 80, attributes := #[] }, { accessFlags := 18, nameIndex := 97, descriptorIndex := 29, attributes := #[] }, { accessFlags := 18, nameIndex := 101, descriptorIndex := 19, attributes := #[] }, { accessFlags := 18, nameIndex := 118, descriptorIndex := 119, attributes := #[] }])
  fields := #[{ name := "NULL", type := .int, accessFlags := 24, slot := 0, constantValue := 0 }, { name := "NONE", type := .int, accessFlags := 24, slot := 1, constantValue := 0 }, { name := "LONG_FORM", type := .int, accessFlags := 24, slot := 2, constantValue := 0 }, { name := "ASCII", type := .int, accessFlags := 24, slot := 3, constantValue := 0 }, { name := "KINDS", type := (.array (.object "com/example/backstitch/backstitch/stream/StreamTable$Kind")), accessFlags := 26, slot := 4, constantValue := 0 }, { name := "INTS", type := (.object "java/lang/invoke/VarHandle"), accessFlags := 26, slot := 5, constantValue := 0 }, { name := "LONGS", type := (.object "java/lang/invoke/VarHandle"), accessFlags := 26, slot := 6, constantValue := 0 }, { name := "size", type := .int, accessFlags := 18, slot := 0, constantValue := 0 }, { name := "kinds", type := (.array .byte), accessFlags := 18, slot := 1, constantValue := 0 }, { name := "classes", type := (.array .int), accessFlags := 18, slot := 2, constantValue := 0 }, { name := "dataAt", type := (.array .int), accessFlags := 18, slot := 3, constantValue := 0 }, { name := "itemsAt", type := (.array .int), accessFlags := 18, slot := 4, constantValue := 0 }, { name := "counts", type := (.array .int), accessFlags := 18, slot := 5, constantValue := 0 }, { name := "data", type := (.array .byte), accessFlags := 18, slot := 6, constantValue := 0 }, { name := "items", type := (.array .int), accessFlags := 18, slot := 7, constantValue := 0 }, { name := "layouts", type := (.array (.object "com/example/backstitch/backstitch/stream/ClassLayout")), accessFlags := 18, slot := 8, constantValue := 0 }, { name := "written", type := (.array (.object "com/example/backstitch/backstitch/stream/StreamTable$Written")), accessFlags := 18, slot := 9, constantValue := 0 }, { name := "interruptions", type := (.array .long), accessFlags := 18, slot := 10, constantValue := 0 }, { name := "epochStarts", type := (.array .int), accessFlags := 18, slot := 11, constantValue := 0 }, { name := "epochCount", type := .int, accessFlags := 18, slot := 12, constantValue := 0 }, { name := "contents", type := (.object "com/example/backstitch/backstitch/stream/StreamContents"), accessFlags := 18, slot := 13, constantValue := 0 }]
  methods := #[k2m0]
  instanceTypes := #[.int, (.array .byte), (.array .int), (.array .int), (.array .int), (.array .int), (.array .byte), (.array .int), (.array (.object "com/example/backstitch/backstitch/stream/ClassLayout")), (.array (.object "com/example/backstitch/backstitch/stream/StreamTable$Written")), (.array .long), (.array .int), .int, (.object "com/example/backstitch/backstitch/stream/StreamContents")]
  staticTypes := #[.int, .int, .int, .int, (.array (.object "com/example/backstitch/backstitch/stream/StreamTable$Kind")), (.object "java/lang/invoke/VarHandle"), (.object "java/lang/invoke/VarHandle")]
  resolved := Array.replicate 675 none
  statics := none }

def pool3 : Array CpInfo := pool [(1, u "java/lang/Cloneable"), (0, .class_ 1), (0, u "java/lang/Object"), (0, .class_ 3)] 3

/-- java/lang/Cloneable -/
def k3 : Class := { plain "java/lang/Cloneable" (some 0) with
  accessFlags := 1537
  interfaces := #[]
  cf := some (fileOf pool3 2 #[] #[] 1537 4 #[] #[])
  fields := #[]
  methods := #[]
  instanceTypes := #[]
  staticTypes := #[]
  resolved := Array.replicate 8 none
  statics := none }

def pool4 : Array CpInfo := pool [(1, u "java/io/Serializable"), (0, .class_ 1), (0, u "java/lang/Object"), (0, .class_ 3)] 3

/-- java/io/Serializable -/
def k4 : Class := { plain "java/io/Serializable" (some 0) with
  accessFlags := 1537
  interfaces := #[]
  cf := some (fileOf pool4 2 #[] #[] 1537 4 #[] #[])
  fields := #[]
  methods := #[]
  instanceTypes := #[]
  staticTypes := #[]
  resolved := Array.replicate 8 none
  statics := none }

/-- the primitive byte -/
def k5 : Class := { plain "byte" none with kind := .primitive 'B', accessFlags := 0x411 }
/-- [B -/
def k6 : Class := { plain "[B" (some 0) with kind := .array 5 .byte, interfaces := #[3, 4], accessFlags := 1041 }

/-- the primitive int -/
def k7 : Class := { plain "int" none with kind := .primitive 'I', accessFlags := 0x411 }
/-- [I -/
def k8 : Class := { plain "[I" (some 0) with kind := .array 7 .int, interfaces := #[3, 4], accessFlags := 1041 }

def heap : Heap := #[]
def classes : Array Class := #[k0, k1, k2, k3, k4, k5, k6, k7, k8]
def interned : List (Array UInt16 × Addr) := []
def slotsUsed : Nat := 0
def theMethod : MethodId := ⟨1, 1⟩
def args0 : Array Value := #[.long 77, .int 3, .int 1, .int 6]
def aboutOver (below : List Frame) : State where
  vm := { classes := classes, interned := interned.toArray }
  heap := heap
  slotsUsed := slotsUsed
  threads := #[{ frames := .invoking theMethod args0 :: below }]
def below0 : List Frame := [.native { method := ⟨0, 0⟩, args := #[] }]
def about1 : State := aboutOver below0
def p0 : Program := .bare "" "" ""
def e0 : Env := launch0.env 0 0 0
theorem w_frames : about1.frames = Frame.invoking theMethod args0 :: below0 := rfl
set_option maxRecDepth 65536 in
theorem w_args : argsFit about1.vm theMethod args0 = true := by decide +kernel
set_option maxRecDepth 65536 in
theorem w_heap : heapFits about1 = true := by decide +kernel
set_option maxRecDepth 65536 in
theorem w_runnable : about1.curStatus? = some .runnable := by decide +kernel
set_option maxRecDepth 65536 in
theorem w_alone : about1.alone = true := by decide +kernel
set_option maxRecDepth 65536 in
theorem w_named : about1.methodNamed? x = some theMethod := by decide +kernel
set_option maxRecDepth 65536 in
theorem w_hears : about1.hears theMethod below0 = true := by decide +kernel
set_option maxRecDepth 65536 in
theorem w_ripe : about1.ripe theMethod args0 below0 = true := by decide +kernel
theorem w_running : about1.status = .running := rfl
set_option maxRecDepth 65536 in
theorem w_room : about1.hasRoom e0.platform room_1 = true :=
  launch0.hasRoom_least _ room_1 (by decide +kernel) (by decide +kernel) (by decide +kernel) (by decide +kernel) (by decide +kernel) (by decide +kernel)
theorem allAtoms_all (ts : List Jvm.Cond) (a : Array Jvm.Value) (st : Jvm.State) : (allAtoms ts).before a st = ts.all (fun c => c.before a st) := by
  induction ts with
  | nil => rfl
  | cons c t ih =>
    show (Jvm.Cond.and c (allAtoms t)).before a st = _
    rw [Jvm.Cond.before_and, ih, List.all_cons]
def words1 : List Jvm.Cond := Jvm.Cond.code x code maxLocals ret :: tables_1
/-- a 'code' word, met by the world's own term for the bytes: nothing is compared byte by byte -/
theorem code_word {y : MethodName} {bytes : ByteArray} {mx : Nat} {rt : Option FieldType} {a : Array Value} {s : State} {m : MethodId} {meth : Method} {c : Code} (h1 : s.methodNamed? y = some m) (h2 : s.vm.method? m = some meth) (h3 : meth.code = some c) (h4 : c.code = bytes)
    (h5 : (c.maxLocals == mx && c.exceptionTable.isEmpty && decide (c.maxStack ≤ mostOperands) && decide (meth.sig.returnType = rt) && !meth.locks && decide (parseMethodDescriptor y.desc = some meth.sig)) = true) : (Jvm.Cond.code y bytes mx rt).before a s = true := by
  simp only [Bool.and_eq_true, beq_iff_eq, Bool.not_eq_true', decide_eq_true_eq] at h5
  obtain ⟨⟨⟨⟨⟨g1, g2⟩, g3⟩, g4⟩, g5⟩, g6⟩ := h5
  simp [Cond.before, Cond.holds, Cond.value, h1, h2, h3, h4, g1, g2, g3, g4, g5, g6]
def isCode : Jvm.Cond → Bool
  | .code _ _ _ _ => true
  | _ => false
theorem all_split {L : List Jvm.Cond} {P : Jvm.Cond → Bool} (h1 : L.all (fun c => isCode c || P c) = true) (h2 : ∀ c ∈ L.filter isCode, P c = true) : L.all P = true := by
  refine List.all_eq_true.mpr fun c hc => ?_
  have h := List.all_eq_true.mp h1 c hc
  rcases Bool.eq_false_or_eq_true (isCode c) with hi | hi
  · exact h2 c (List.mem_filter.mpr ⟨hc, hi⟩)
  · simpa [hi] using h
set_option maxRecDepth 65536 in
theorem w_c0 : (Jvm.Cond.code x code maxLocals ret).before args0 about1 = true := code_word (m := ⟨1, 1⟩) (meth := k1m1) (c := k1c1) (by decide +kernel) rfl rfl rfl (by decide +kernel)
set_option maxRecDepth 65536 in
theorem w_c1 : (Jvm.Cond.code ({ cls := "com/example/backstitch/backstitch/stream/StreamTable", name := "putBits", desc := "(JI[BI)V" } : Jvm.MethodName) prog_55_method_40_code (6 : Nat) (Option.none : Option Jvm.ClassFile.FieldType)).before args0 about1 = true := code_word (m := ⟨2, 0⟩) (meth := k2m0) (c := k2c0) (by decide +kernel) rfl rfl rfl (by decide +kernel)
set_option maxRecDepth 65536 in
theorem w_c2 : (Jvm.Cond.code ({ cls := "com/example/backstitch/backstitch/stream/StreamTablePutBitsPinLaw", name := "cell", desc := "([BIJIIB)Z" } : Jvm.MethodName) method_3_code (8 : Nat) (Option.some Jvm.ClassFile.FieldType.boolean)).before args0 about1 = true := code_word (m := ⟨1, 2⟩) (meth := k1m2) (c := k1c2) (by decide +kernel) rfl rfl rfl (by decide +kernel)
def codes1 : List Jvm.Cond := [Jvm.Cond.code x code maxLocals ret, Jvm.Cond.code ({ cls := "com/example/backstitch/backstitch/stream/StreamTable", name := "putBits", desc := "(JI[BI)V" } : Jvm.MethodName) prog_55_method_40_code (6 : Nat) (Option.none : Option Jvm.ClassFile.FieldType), Jvm.Cond.code ({ cls := "com/example/backstitch/backstitch/stream/StreamTablePutBitsPinLaw", name := "cell", desc := "([BIJIIB)Z" } : Jvm.MethodName) method_3_code (8 : Nat) (Option.some Jvm.ClassFile.FieldType.boolean)]
set_option maxRecDepth 65536 in
theorem codes_eq : words1.filter isCode = codes1 := rfl
theorem w_codes : ∀ c ∈ words1.filter isCode, c.before args0 about1 = true := by
  rw [codes_eq]
  intro c hc
  simp only [codes1, List.mem_cons, List.not_mem_nil, or_false] at hc
  rcases hc with rfl | rfl | rfl
  · exact w_c0
  · exact w_c1
  · exact w_c2
set_option maxRecDepth 65536 in
theorem w_t1 : words1.all (fun c => isCode c || c.before args0 about1) = true := by decide +kernel
theorem w_tables : (allAtoms (Jvm.Cond.code x code maxLocals ret :: tables_1)).before args0 about1 = true := by
  rw [allAtoms_all]
  show words1.all (fun c => c.before args0 about1) = true
  refine all_split ?_ w_codes
  rw [w_t1]
set_option maxRecDepth 65536 in
theorem w_case : (Jvm.Cond.and given_1 narrow_1).before args0 about1 = true := by decide +kernel
theorem w_applies : (headSpec (Jvm.Cond.code x code maxLocals ret :: tables_1) room_1).applies x e0.platform about1 = true :=
  (Spec.applies_iff w_frames).mpr ⟨w_running, w_runnable, w_alone, w_named, w_hears, w_ripe, w_room, w_tables⟩
theorem atStart : AtStart classFile x code maxLocals ret World_1 tables_1 room_1 Calls_1 rest_1 Pre_1 launch0 p0 e0 about1 theMethod args0 below0 :=
  ⟨lists_1, trivial, launch0.admits_env _ _ _, launch0.least_env, fairChoices_fair.cas, fairChoices_fair.clock, w_frames, w_args, w_heap, w_applies, trivial, trivial, w_case⟩
end start1
theorem witness_1 : WitnessClaimed_1 := ⟨start1.p0, start1.e0, start1.about1, start1.theMethod, start1.args0, start1.below0, start1.atStart⟩
end Jvm.Pilot.@@N@@
