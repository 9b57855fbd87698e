import JvmDerived
import JvmDerived.Pilot.@@N@@Statement
import JvmDerived.Pilot.@@N@@Code
set_option linter.unusedVariables false
set_option linter.unusedSimpArgs false
namespace Jvm.RoadKit
open Sem ClassFile Op Lib Jvm.Stand Jvm.Free Jvm.LawKit
section New
variable {p : Program} {l : Launch} {e : Env} {R : Room} {s : State} {m : MethodId} {args : Array Value} {below : List Frame} {meth : Method} {c : Code} {T : State} {locs : List Loc} {cells slots : Nat}
theorem retI (X : Stand p l e R s m args below meth c T locs cells slots) (hx : p.tables.exec = Jvm.exec) {pc : Nat} {Ls : Array Slot} {z : Int32} {rest : List Value} (hret : meth.sig.returnType = some .int) (hd : decode c.code pc = .ok (.ireturn, 1)) {fs : List Frame}
    (hl : ∀ (f : JFrame) (acts : List Action), f.method = m → f.locked = none → f.entered = [] → (doReturn e (T.setTop f) acts (some (.int z))).1 = T.setFrames fs) : Steps p.tables e below (T.setTop (mkF m pc Ls (.int z :: rest))) (T.setFrames fs) := by
  have hm' : T.vm.method? m = some meth := X.method'
  have hn : narrow .int (.int z) = .int z := rfl
  show Steps p.tables e below (T.setTop { method := m, pc := pc, locals := Ls, stack := _ :: rest, locked := none }) _
  jvm_step X.here [X.here.top, hx, hd, hm', hret, hn]
  first | (intro acts; rw [hl _ acts rfl rfl rfl]) | rw [hl _ _ rfl rfl rfl]
  exact Steps.refl _
theorem own_after {Q : Option Value → Heap → List Loc → Prop} {F : Option Value → Pt → Prop} {n0 rc rs cells' slots' : Nat}
    (h : ∃ (v : Option Value) (vm₁ : Vm) (B : Pt), s.WarmedH vm₁ ∧ Stand p l e R s m args below meth c B.U B.locs B.cells B.slots ∧ (∃ L, Q v B.U.heap L ∧ B.locs = locs ++ L ∧ B.cells = cells + rc ∧ B.slots = slots + rs) ∧ F v B)
    (N : Fr n0 locs) (hF : ∀ v h L, Q v h L → Fr n0 L) (hc : cells + rc = cells') (hs : slots + rs = slots') :
    ∃ (v : Option Value) (T' : State) (locs' L : List Loc), Stand p l e R s m args below meth c T' locs' cells' slots' ∧ Fr n0 locs' ∧ Q v T'.heap L ∧ F v ⟨T', locs', cells', slots'⟩ := by
  obtain ⟨v, vm₁, ⟨T', L', k', n'⟩, -, X', ⟨L, hQ, h1, h2, h3⟩, hF'⟩ := h
  subst h1 h2 h3 hc hs
  exact ⟨v, T', _, L, X', N.app (hF _ _ _ hQ), hQ, hF'⟩
end New
end Jvm.RoadKit
namespace Jvm.Pilot.@@N@@
open Jvm Jvm.ClassFile Sem Op Lib Jvm.Free Jvm.Stand Jvm.LawKit Jvm.RoadKit Bundle Jvm.Pilot.@@N@@.Jvm.D
theorem own_w {Z : State} {a0 : Array Value} (hw : ∀ d ∈ tables_1, d.before a0 Z = true) (i : Nat) {d : Jvm.Cond} (h : tables_1[i]? = some d) : d.before a0 Z = true := hw _ (List.mem_of_getElem? h)
def own_iv (us : List Int32) : List Value := us.map Value.int
theorem own_n (n : Nat) (h : n ≤ 1000) : ¬ Int32.ofNat n < 0 ∧ (Int32.ofNat n).toNatClampNeg = n ∧ (Int32.ofNat n).toInt = n := by
  have e : (Int32.ofNat n).toInt = n := Int32.toInt_ofNat_of_lt (by omega)
  refine ⟨by rw [Int32.lt_iff_toInt_lt, e]; have : (0 : Int32).toInt = 0 := rfl; omega, ?_, e⟩
  simp only [Int32.toNatClampNeg]; omega
theorem own_add (n k : Nat) : Int32.ofNat n + Int32.ofNat k = Int32.ofNat (n + k) := (Int32.ofNat_add n k).symm
theorem own_cnt (bs us : List Int32) : Int32.ofNat bs.length + Int32.ofNat us.length = Int32.ofNat (bs ++ us).length := by rw [own_add, List.length_append]
theorem own_cnt1 (bs : List Int32) (x : Int32) : Int32.ofNat bs.length + (1 : Int32) = Int32.ofNat (bs ++ [x]).length := own_cnt bs [x]
theorem own_len {bs us : List Int32} {n m N : Nat} (h : bs.length + n ≤ N) (q : us.length + m ≤ n) : (bs ++ us).length + m ≤ N := by rw [List.length_append]; omega
theorem own_shr (x : Int32) : x >>> ((0 : Int32) &&& 31) = x := by
  have : ((0 : Int32) &&& 31) = 0 := by decide
  rw [this]; simp
theorem own_shl (x : Int32) : x <<< ((0 : Int32) &&& 31) = x := by
  have : ((0 : Int32) &&& 31) = 0 := by decide
  rw [this]; simp
theorem own_sta {Z : State} {h h' : Heap} {ws : List Addr} {C n d : String} {v : Value} (F : Sta Z h C n d v) (K : Keep h h' ws) (ns : ∀ x ∈ ws, ∀ cell : Cell, h[x]? = some cell → cell.vm.isStatics = false) : Sta Z h' C n d v := by
  obtain ⟨cf, i, k, f, st, cell, h1, h2, h3, h4, h5, h6, h7⟩ := F
  exact ⟨cf, i, k, f, st, cell, h1, h2, h3, h4, K.2.1 _ _ h5 (fun q => by have := ns _ q _ h5; rw [h6] at this; cases this), h6, h7⟩
theorem own_arv {Z : State} {h : Heap} {a : Addr} {k : ClassId} {ty : FieldType} {z z' : Int32} {vs vs' : List Value} {dv : Value} (F : Arv Z h a k ty z vs dv) (e : z = z') (e' : vs = vs') : Arv Z h a k ty z' vs' dv := by subst e e'; exact F
theorem own_nok (bs : List Int32) (h : bs.length + 0 ≤ 78) : ¬ (0 : Int32) < (Int32.ofNat bs.length - (78 : Int32)) := by
  have e := (own_n bs.length (by omega)).2.2
  have h1 := c_isub (Int32.ofNat bs.length) (78 : Int32)
  have r1 := rng32 (Int32.ofNat bs.length - (78 : Int32))
  have e7 : (78 : Int32).toInt = 78 := by decide
  have e0 : (0 : Int32).toInt = 0 := by decide
  rw [Int32.lt_iff_toInt_lt, e0]; rw [e7] at h1; omega
theorem own_set (bs : List Int32) (x : Int32) : ((own_iv bs ++ [Value.int 0]).set bs.length (.int x)) = own_iv (bs ++ [x]) := by
  unfold own_iv
  rw [List.set_append_right _ _ (by simp)]; simp
theorem own_pad (bs : List Int32) (n : Nat) : ∀ i, (own_iv bs ++ List.replicate n (Value.int 0)).getD i (.int 0) = (own_iv bs).getD i (.int 0) := pad_rep _ _ _
theorem own_range (us : List Int32) : own_iv us = (List.range us.length).map fun i => (own_iv us).getD (0 + i) (.int 0) := by
  apply List.ext_getElem?
  intro i
  unfold own_iv
  simp only [List.getElem?_map, List.getElem?_range, Nat.zero_add, List.getD_eq_getElem?_getD]
  by_cases h : i < us.length
  · simp [h]
  · simp [h]
section
variable {l : Launch} {p : Program} {e : Env} {R : Room} {s : State} {m : MethodId} {args : Array Value} {below : List Frame} {meth : Method} {c : Code} {T : State} {locs : List Loc} {cells slots : Nat}
theorem own_afterW {Z : State} {vm0 : Vm} {k0 : Nat} {own : String} {EL : List (String × Nat)} {h : Heap} {Q : Option Value → Heap → List Loc → Prop} {F : Option Value → Pt → Prop} {n0 rc rs cells' slots' : Nat}
    (H : ∃ (v : Option Value) (vm₁ : Vm) (B : Pt), (s.setVm vm0).WarmedH vm₁ ∧ Stand p l e R ((s.setVm vm0).setVm B.U.vm) m args below meth c B.U B.locs B.cells B.slots ∧ (s.setVm vm0).Since B.U.vm B.U.heap.size ∧ T.heap.size ≤ B.U.heap.size ∧ (∃ L, Q v B.U.heap L ∧ B.locs = locs ++ L ∧ B.cells = cells + rc ∧ B.slots = slots + rs ∧ CHr Z EL vm0 h B.U.vm B.U.heap) ∧ F v B)
    (hS : s.Since vm0 k0) (eT : T.heap = h) (hk : k0 ≤ h.size) (hZ : Z.Warmed39 (s.setVm vm0).vm) (hown : (s.setVm vm0).vm.findClass own = some m.cls) (N : Fr n0 locs) (hF : ∀ v h L, Q v h L → Fr n0 L) (hc : cells + rc = cells') (hs : slots + rs = slots') :
    ∃ (v : Option Value) (T' : State) (locs' L : List Loc) (h' : Heap) (k1 : Nat), Stand p l e R (s.setVm T'.vm) m args below meth c T' locs' cells' slots' ∧ T'.heap = h' ∧ s.Since T'.vm k1 ∧ k1 ≤ h'.size ∧ Z.Warmed39 (s.setVm T'.vm).vm ∧ (s.setVm T'.vm).vm.findClass own = some m.cls ∧ Fr n0 locs' ∧ Q v h' L ∧ CHr Z EL vm0 h T'.vm h' ∧ F v ⟨T', locs', cells', slots'⟩ := by
  obtain ⟨v, vm₁, ⟨T', L', k', n'⟩, -, X', hS', hg, ⟨L, hQ, h1, h2, h3, hC⟩, hF'⟩ := H
  subst h1 h2 h3 hc hs
  obtain ⟨a1, a2, a3, a4⟩ := rebS hS (eT ▸ hk) X' hS' hg hZ hown
  exact ⟨v, T', _, L, _, _, a1, rfl, a2, Nat.le_refl _, a3, a4, N.app (hF _ _ _ hQ), hQ, hC, hF'⟩
end
theorem own_kind {Z : State} {h : Heap} {a : Addr} {k : ClassId} {t : FieldType} {z : Int32} {vs : List Value} {dv : Value} (A : Arv Z h a k t z vs dv) : ∃ o K q, h[a]? = some o ∧ Z.vm.classes[o.cls]? = some K ∧ K.kind = .array q t ∧ o.slots.size = z.toNatClampNeg := by
  obtain ⟨o, B, -, n, -⟩ := A
  obtain ⟨-, K, i1, q, i2⟩ := B.2.1
  exact ⟨o, K, q, B.1, i1, i2, n⟩
theorem own_tyne {Z : State} {h : Heap} {a b : Addr} {k1 k2 : ClassId} {t1 t2 : FieldType} {z1 z2 : Int32} {v1 v2 : List Value} {d1 d2 : Value} (A : Arv Z h a k1 t1 z1 v1 d1) (B : Arv Z h b k2 t2 z2 v2 d2) (q : t1 ≠ t2) : a ≠ b := fun e => by
  subst e
  obtain ⟨_, _, _, p1, p2, p3, -⟩ := own_kind A
  obtain ⟨_, _, _, q1, q2, q3, -⟩ := own_kind B
  rw [p1] at q1; cases q1
  rw [p2] at q2; cases q2
  rw [p3] at q3; cases q3
  exact q rfl
theorem own_lne {us : List Int32} (h : us.length + 1 ≤ 78) : (Int32.ofNat us.length).toNatClampNeg ≠ (78 : Int32).toNatClampNeg := by
  have e := (own_n us.length (by omega)).2.1
  have e5 : (78 : Int32).toNatClampNeg = 78 := by decide
  omega
theorem own_88 (x : Int32) : (x.toInt8.toInt32).toInt8.toInt32 = x.toInt8.toInt32 := by simp
theorem own_v1 (ch : Int32) : [Value.int (ch.toInt8.toInt32).toInt8.toInt32] = own_iv [ch.toInt8.toInt32] := by rw [own_88]; rfl
theorem own_rng (bs : List Int32) (z : Int32) (h : z.toNatClampNeg = bs.length) : own_iv bs = (List.range z.toNatClampNeg).map fun i => (own_iv bs).getD ((0 : Int32).toNatClampNeg + i) (.int (0 : Int32)) := by rw [h]; exact own_range bs
theorem own_cp0 (bs : List Int32) (n : Nat) : (own_iv [] ++ List.replicate n (Value.int (0 : Int32))).take ((0 : Int32).toNatClampNeg) ++ own_iv bs ++ (own_iv [] ++ List.replicate n (Value.int (0 : Int32))).drop ((0 : Int32).toNatClampNeg + n) = own_iv bs := by
  have e : (0 : Int32).toNatClampNeg = 0 := by decide
  rw [e]; simp [own_iv]
theorem own_selp {s : State} {args : Array Value} {C : String} {y z : MethodName} (hsel : (Cond.selects C z z).before args s = true) (hc : z.cls = y.cls) (hinst : (Cond.instanceMethod y).before args s = true) (hpriv : s.PrivateAt y) (hy : y.cls ≠ "java/lang/invoke/MethodHandle" ∧ y.cls ≠ "java/lang/invoke/VarHandle") : (Cond.selects y.cls y y).before args s = true := by
  obtain ⟨mk, methM, hnamed, hmethM, -, -⟩ := Cond.instanceMethod_spec hinst
  obtain ⟨c2, r2, m2, q1, q2, q3, q4, kP, hkP, hkPi⟩ := Cond.selects_spec hsel
  have e1 := findClass_of_methodNamed q3
  have e2 := findClass_of_methodNamed hnamed
  rw [hc] at e1
  rw [Option.some.inj (e1.symm.trans e2)] at hkP
  exact selects_self_of_private e2 hkP hkPi hpriv hinst hy
theorem own_a3 (us : List Int32) (h : us.length + 1 ≤ 78) : ¬ Int32.ofNat us.length < (0 : Int32) := (own_n us.length (by omega)).1
theorem own_a4 (us : List Int32) : (0 : Int32).toNatClampNeg + (Int32.ofNat us.length).toNatClampNeg ≤ (Int32.ofNat us.length).toNatClampNeg := by
  have e : (0 : Int32).toNatClampNeg = 0 := by decide
  omega
theorem own_a5 {bs us : List Int32} {dp zN : Int32} (hd : dp.toNatClampNeg = bs.length) (h : us.length + 1 ≤ 78) (hc : bs.length + us.length ≤ zN.toNatClampNeg) : dp.toNatClampNeg + (Int32.ofNat us.length).toNatClampNeg ≤ zN.toNatClampNeg := by
  have e := (own_n us.length (by omega)).2.1
  omega
theorem own_a6 {bs us : List Int32} {dp : Int32} (hd : dp.toNatClampNeg = bs.length) (h : us.length + 1 ≤ 78) : dp.toNatClampNeg + (Int32.ofNat us.length).toNatClampNeg ≤ (own_iv bs ++ List.replicate us.length (Value.int (0 : Int32))).length := by
  have e := (own_n us.length (by omega)).2.1
  simp only [own_iv, List.length_append, List.length_map, List.length_replicate]; omega
theorem own_a7 {bs us : List Int32} {dp : Int32} (hd : dp.toNatClampNeg = bs.length) (h : us.length + 1 ≤ 78) : (own_iv bs ++ List.replicate us.length (Value.int (0 : Int32))).take dp.toNatClampNeg ++ own_iv us ++ (own_iv bs ++ List.replicate us.length (Value.int (0 : Int32))).drop (dp.toNatClampNeg + (Int32.ofNat us.length).toNatClampNeg) = own_iv (bs ++ us) := by
  have e := (own_n us.length (by omega)).2.1
  have e2 : (own_iv bs).length = bs.length := by simp [own_iv]
  rw [hd, e, ← e2, List.take_left, List.drop_of_length_le (by simp)]
  simp [own_iv]
theorem own_dp {bs us : List Int32} (h : (bs ++ us).length + 0 ≤ 78) : ¬ Int32.ofNat bs.length < (0 : Int32) ∧ (Int32.ofNat bs.length).toNatClampNeg = bs.length := by
  rw [List.length_append] at h
  have e := own_n bs.length (by omega)
  exact ⟨e.1, e.2.1⟩
theorem own_cap {bs us : List Int32} (h : (bs ++ us).length + 0 ≤ 78) : bs.length + us.length ≤ (78 : Int32).toNatClampNeg := by
  have e5 : (78 : Int32).toNatClampNeg = 78 := by decide
  rw [List.length_append] at h; omega
theorem own_inb {bs : List Int32} {x : Int32} (h : (bs ++ [x]).length + 0 ≤ 78) : ¬ Int32.ofNat bs.length < (0 : Int32) ∧ Int32.ofNat bs.length < (78 : Int32) := by
  simp only [List.length_append, List.length_cons, List.length_nil] at h
  have e := own_n bs.length (by omega)
  have e7 : (78 : Int32).toInt = 78 := by decide
  exact ⟨e.1, by rw [Int32.lt_iff_toInt_lt, e.2.2, e7]; omega⟩
theorem own_lt1 (bs : List Int32) : bs.length < (own_iv bs ++ List.replicate 1 (Value.int (0 : Int32))).length := by simp [own_iv]
theorem own_setc (bs : List Int32) (ch : Int32) : ((own_iv bs ++ List.replicate 1 (Value.int (0 : Int32))).set bs.length (.int (ch.toInt8.toInt32).toInt8.toInt32)) = own_iv (bs ++ [ch.toInt8.toInt32]) := by rw [own_88]; exact own_set bs _
theorem own_39 (bs : List Int32) (h : bs.length = 38) : Int32.ofNat bs.length + (1 : Int32) = (39 : Int32) := by rw [h]; decide
theorem own_len39 {bs : List Int32} {x : Int32} (h : bs.length = 38) : (bs ++ [x]).length + 0 ≤ 78 := by simp [h]
theorem own_same {s : State} {args : Array Value} {C : String} {y z : MethodName} (hsel : (Cond.selects C z z).before args s = true) (hinst : (Cond.instanceMethod y).before args s = true) (hc : z.cls = y.cls) (hy : y.cls ≠ "java/lang/invoke/MethodHandle" ∧ y.cls ≠ "java/lang/invoke/VarHandle") : (Cond.sameMethod y.cls y.cls y.name y.desc).before args s = true := by
  obtain ⟨mk, methM, hnamed, hmethM, -, -⟩ := Cond.instanceMethod_spec hinst
  obtain ⟨c2, r2, m2, q1, q2, q3, q4, kP, hkP, hkPi⟩ := Cond.selects_spec hsel
  have e1 := findClass_of_methodNamed q3
  have e2 := findClass_of_methodNamed hnamed
  rw [hc] at e1
  have e3 := Option.some.inj (e1.symm.trans e2)
  rw [e3] at hkP
  have hfound : s.methodFound? y.cls y.name y.desc = some mk := State.methodFound?_of_named hnamed hy
  have hn : s.methodNamed? ⟨y.cls, y.name, y.desc⟩ = some mk := hnamed
  simp [Cond.before, Cond.holds, Cond.value, e2, hfound, hn, hkP, hkPi]
theorem own_nf {s : State} {args : Array Value} {C : String} {y z : MethodName} (hsel : (Cond.selects C z z).before args s = true) (hc : z.cls = y.cls) : NotFace s y := fun r0 h0 => by
  obtain ⟨c2, r2, m2, q1, q2, q3, q4, kP, hkP, hkPi⟩ := Cond.selects_spec hsel
  have e1 := findClass_of_methodNamed q3
  have e2 := findClass_of_methodNamed h0
  rw [hc] at e1
  rw [Option.some.inj (e1.symm.trans e2)] at hkP
  exact ⟨kP, hkP, hkPi⟩
theorem own_pos0 : ∀ x ∈ ([] : List Int32), ¬ x < (0 : Int32) := fun _ q => nomatch q
theorem own_pos1 {z : Int32} (h : ¬ z < (0 : Int32)) : ∀ x ∈ [z], ¬ x < (0 : Int32) := fun x q => by cases List.mem_singleton.mp q; exact h
theorem own_posA {as bs : List Int32} (h : ∀ x ∈ as, ¬ x < (0 : Int32)) (g : ∀ x ∈ bs, ¬ x < (0 : Int32)) : ∀ x ∈ as ++ bs, ¬ x < (0 : Int32) := fun x q => (List.mem_append.mp q).elim (h x) (g x)
theorem own_l9 : Int32.ofNat [(9 : Int32)].length = (1 : Int32) := by decide
theorem own_s0 (x : Int32) : x - (0 : Int32) = x := by simp
theorem own_0a (x : Int32) : (0 : Int32) + x = x := by simp
theorem own_nz {bs : List Int32} (h : bs.length + 1 ≤ 78) : ¬ Int32.ofNat bs.length < (0 : Int32) := (own_n bs.length (by omega)).1
theorem own_ne78 {bs : List Int32} (h : bs.length + 1 ≤ 78) : ¬ Int32.ofNat bs.length = (78 : Int32) := fun q => by
  have e := (own_n bs.length (by omega)).2.2
  rw [q] at e
  have e7 : (78 : Int32).toInt = 78 := by decide
  omega
theorem own_lt78 {bs : List Int32} (h : bs.length + 1 ≤ 78) : Int32.ofNat bs.length < (78 : Int32) := by
  have e := (own_n bs.length (by omega)).2.2
  have e7 : (78 : Int32).toInt = 78 := by decide
  rw [Int32.lt_iff_toInt_lt, e, e7]; omega
theorem own_le78 {bs : List Int32} (h : bs.length + 1 ≤ 78) : (Int32.ofNat bs.length).toNatClampNeg ≤ 78 := by
  have e := (own_n bs.length (by omega)).2.1
  omega
theorem own_b4 {bs : List Int32} (h : bs.length + 1 ≤ 78) : (0 : Int32).toNatClampNeg + (Int32.ofNat bs.length).toNatClampNeg ≤ (78 : Int32).toNatClampNeg := by
  have e := (own_n bs.length (by omega)).2.1
  have e5 : (78 : Int32).toNatClampNeg = 78 := by decide
  have e0 : (0 : Int32).toNatClampNeg = 0 := by decide
  omega
theorem own_b6 {bs : List Int32} (h : bs.length + 1 ≤ 78) : (0 : Int32).toNatClampNeg + (Int32.ofNat bs.length).toNatClampNeg ≤ (own_iv [] ++ List.replicate bs.length (Value.int (0 : Int32))).length := by
  have e := (own_n bs.length (by omega)).2.1
  have e0 : (0 : Int32).toNatClampNeg = 0 := by decide
  simp only [own_iv, List.map_nil, List.nil_append, List.length_replicate]; omega
theorem own_b7 {bs : List Int32} (h : bs.length + 1 ≤ 78) : (own_iv [] ++ List.replicate bs.length (Value.int (0 : Int32))).take (0 : Int32).toNatClampNeg ++ own_iv bs ++ (own_iv [] ++ List.replicate bs.length (Value.int (0 : Int32))).drop ((0 : Int32).toNatClampNeg + (Int32.ofNat bs.length).toNatClampNeg) = own_iv bs := by
  rw [(own_n bs.length (by omega)).2.1]; exact own_cp0 bs bs.length
theorem own_succ (j : Nat) : Int32.ofNat j + (1 : Int32) = Int32.ofNat (j + 1) := own_add j 1
theorem own_ltj {bs : List Int32} {j : Nat} (h : bs.length + 1 ≤ 78) (hj : j < bs.length) : Int32.ofNat j < Int32.ofNat bs.length := by
  have e := (own_n bs.length (by omega)).2.2
  have e' := (own_n j (by omega)).2.2
  rw [Int32.lt_iff_toInt_lt, e, e']; omega
theorem own_nltj {bs : List Int32} : ¬ Int32.ofNat bs.length < Int32.ofNat bs.length := by rw [Int32.lt_iff_toInt_lt]; omega
theorem own_elj {bs : List Int32} {j : Nat} (h : bs.length + 1 ≤ 78) (hj : j < bs.length) : (own_iv bs).getD (Int32.ofNat j).toNatClampNeg (.int (0 : Int32)) = .int (bs.getD j 0) := by
  rw [(own_n j (by omega)).2.1]
  simp [own_iv, List.getD_eq_getElem?_getD, hj]
theorem own_posj {bs : List Int32} {j : Nat} (hp : ∀ x ∈ bs, ¬ x < (0 : Int32)) (hj : j < bs.length) : ¬ bs.getD j 0 < (0 : Int32) := by
  have e : bs.getD j 0 = bs[j] := by simp [List.getD_eq_getElem?_getD, hj]
  rw [e]; exact hp _ (List.getElem_mem hj)
theorem own_len40 {bs : List Int32} (h : bs.length = 38) : bs.length + 40 ≤ 78 := by omega
theorem own_d (x : Int32) : (x &&& (3 : Int32)) % (3 : Int32) = (0 : Int32) ∨ (x &&& (3 : Int32)) % (3 : Int32) = (1 : Int32) ∨ (x &&& (3 : Int32)) % (3 : Int32) = (2 : Int32) := by
  have h : (x &&& (3 : Int32)).toBitVec.toNat < 4 := by
    rw [Int32.toBitVec_and, BitVec.toNat_and]
    exact Nat.lt_of_le_of_lt Nat.and_le_right (by decide)
  generalize x &&& (3 : Int32) = y at h
  have hy : y = Int32.ofNat y.toBitVec.toNat := by
    apply Int32.toBitVec_inj.mp; simp
  rw [hy]
  generalize y.toBitVec.toNat = n at h
  match n, h with
  | 0, _ => decide
  | 1, _ => decide
  | 2, _ => decide
  | 3, _ => decide
theorem own_rc (x : Int32) : ¬ (255 : Int32) < (x &&& (127 : Int32)).toUInt32.toUInt16.toUInt32.toInt32 ∧ ¬ ((x &&& (127 : Int32)).toUInt32.toUInt16.toUInt32.toInt32).toInt8.toInt32 < (0 : Int32) := by
  have h : (x &&& (127 : Int32)).toBitVec.toNat < 128 := by
    rw [Int32.toBitVec_and, BitVec.toNat_and]
    exact Nat.lt_of_le_of_lt Nat.and_le_right (by decide)
  generalize x &&& (127 : Int32) = y at h
  have hy : y = Int32.ofNat y.toBitVec.toNat := by
    apply Int32.toBitVec_inj.mp; simp
  rw [hy]
  generalize y.toBitVec.toNat = n at h
  revert n
  decide +kernel
theorem own_nlt {nz x y : Int32} (h : ¬ nz < y) (q : x < y) : x < nz := by
  rw [Int32.lt_iff_toInt_lt] at *; omega
section
open Jvm Sem ClassFile Op
/- the word methodLink, opened -/
theorem own_ml {args : Array Value} {s : State} {cls : String} {x : MethodName} {index d t : Nat} {tk fk : Class} {f : Method} {fm : MethodId} (h1 : s.vm.findClass cls = some d) (h2 : s.vm.findClass x.cls = some t) (h3 : s.methodFound? x.cls x.name x.desc = some fm)
    (h4 : s.vm.classes[t]? = some tk) (h5 : s.vm.classes[fm.cls]? = some fk) (h6 : s.vm.method? fm = some f) (h7 : x.name ≠ "clone") (w : (Cond.methodLink cls index x).before args s = true) :
    ∃ i dk, s.memberEntry? cls index = some (i, tk.isInterface) ∧ s.vm.classes[d]? = some dk ∧ s.classLinks cls i x.cls = some true ∧ s.names cls index (.method x.cls x.name x.desc) = true ∧ s.openOr cls index (.method fm) = true ∧ fk.loader = none ∧ s.vm.Plain f.accessFlags fm.cls fk t d dk := by
  rw [Cond.before_iff] at w
  simp only [Cond.value, h1, h2, h3] at w
  split at w
  next i v d' t' fm' q q1 q2 q3 =>
    cases q1; cases q2; cases q3
    simp only [h4, h5, h6, Option.bind_eq_bind, Option.bind_some, Option.bind_eq_some_iff, Option.pure_def, Option.some.injEq, Bool.and_eq_true, Bool.or_eq_true, beq_iff_eq, h7, and_false, false_and, or_false, Option.isNone_iff_eq_none] at w
    obtain ⟨lk, a, dk, b, ⟨⟨⟨⟨⟨⟨⟨rfl, a1⟩, a2⟩, rfl⟩, -⟩, -⟩, a3⟩, a4⟩⟩ := w
    exact ⟨i, dk, q, b, a, a1, a2, a3, by simpa [Vm.Plain, plainAccess, or_assoc, and_assoc] using a4⟩
  next => cases w
/- the entry is an interface's -/
theorem own_pool {s : State} {cls a n k : String} {index d i : Nat} {dk : Class} (h1 : s.vm.findClass cls = some d) (h2 : s.vm.classes[d]? = some dk) (h3 : s.memberEntry? cls index = some (i, true)) (h4 : s.names cls index (.method a n k) = true) :
    ∃ cf t, dk.cf = some cf ∧ cf.constantPool[index]? = some (.interfaceMethodref i t) ∧ cf.constantPool.nameAndType? t = some (n, k) ∧ namesOf? cf.constantPool index = some (.method a n k) := by
  obtain ⟨P, p1, p2⟩ := State.names_spec h4
  obtain ⟨d', cf, p3, p4, p5⟩ := State.poolOf?_spec h1 p1
  obtain rfl : dk = d' := Option.some.inj (h2.symm.trans p3)
  subst p5
  obtain ⟨j, t, p6, p7, -⟩ := namesOf?_method p2
  rcases p6 with p6 | p6 <;> simp [State.memberEntry?, p1, p6] at h3
  exact ⟨cf, t, p4, h3 ▸ p6, p7, p2⟩
/- an interface's method that another interface declares: the link, by whatever access the word grants -/
theorem own_linkF {args : Array Value} {s : State} {cls : String} {x : MethodName} {index d t : Nat} {tk fk : Class} {f : Method} {fm : MethodId} (h1 : s.vm.findClass cls = some d) (h2 : s.vm.findClass x.cls = some t) (h3 : s.methodFound? x.cls x.name x.desc = some fm)
    (h4 : s.vm.classes[t]? = some tk) (h5 : s.vm.classes[fm.cls]? = some fk) (h6 : s.vm.method? fm = some f) (h7 : x.name ≠ "clone") (hi : tk.isInterface = true) (hp : ∀ y, signaturePolymorphic tk y = false) (hn : tk.findMethod x.name x.desc = none)
    (w : (Cond.methodLink cls index x).before args s = true) (pl : Platform) (hpl : pl.magicAccessors = ({} : Platform).magicAccessors) : ∃ i, s.vm.MethodLinksFF pl d index i t fm ∧ s.rightAt d index (.method fm) = true := by
  obtain ⟨i, dk, a1, a2, a3, a4, a5, a6, a7⟩ := own_ml h1 h2 h3 h4 h5 h6 h7 w
  obtain ⟨cf, q, b1, b2, b3, b4⟩ := own_pool h1 a2 (hi ▸ a1) a4
  obtain ⟨t', c1, c2⟩ := State.classLinks_spec h1 a3 pl hpl
  obtain rfl : t = t' := Option.some.inj (h2.symm.trans c1)
  obtain ⟨dk', cf', nm, -, e1, e2, e3, e4, -⟩ := c2.here
  obtain rfl : dk = dk' := Option.some.inj (a2.symm.trans e1)
  obtain rfl : cf = cf' := Option.some.inj (b1.symm.trans e2)
  have ne : i ≠ index := fun q => by subst q; simp [ConstantPool.className?, b2] at e4
  exact ⟨i, ⟨dk, cf, q, _, _, tk, fk, f, a2, b1, b2, b3, c2, ne, h4, hi, hp, hn, State.faceFind_of_found h2 h4 hi hp hn h3, h5, by simpa [Vm.method?, h5] using h6, e3.trans a6.symm, a7, State.openOr_spec h1 a2 a5⟩, by simp [State.rightAt, a2, b1, b4, h3]⟩
/- found elsewhere: not the interface's own -/
theorem own_else {s : State} {C J n k : String} {t : Nat} {tk : Class} {fm : MethodId} (h2 : s.vm.findClass C = some t) (h4 : s.vm.classes[t]? = some tk) (hp : ∀ y, signaturePolymorphic tk y = false) (h3 : s.methodFound? C n k = some fm) (hJ : s.methodNamed? ⟨J, n, k⟩ = some fm) (ne : C ≠ J) : tk.findMethod n k = none := by
  rcases q : tk.findMethod n k with _ | j
  · rfl
  · have q1 : (tk.methods[j]?).isSome := by simp [(Array.findIdx?_eq_some_iff_getElem.mp q).1]
    obtain rfl := Option.some.inj (h3.symm.trans (State.methodFound?_declared h2 h4 hp q q1))
    obtain ⟨k1, z1, z2⟩ := className_of_methodNamed hJ
    obtain ⟨k2, z3, z4⟩ := Vm.findClass_spec h2
    obtain rfl := Option.some.inj (z1.symm.trans z3)
    exact absurd (z4.symm.trans z2) ne
variable {p : Program} {l : Launch} {e : Env} {R : Room} {s : State} {m : MethodId} {args : Array Value} {below : List Frame} {meth : Method} {c : Code} {T : State} {locs : List Loc} {cells slots : Nat}
/- the step itself, over an entry that links -/
theorem own_step (X : Stand p l e R s m args below meth c T locs cells slots) (hx : p.tables.exec = Jvm.exec) {index count i t : Nat} {r mk : MethodId} {rm mm : Method} {b : Addr} {o : Cell} {ok : Class} {g : JFrame} {as rest : List Value} (L : s.vm.MethodLinksFF e.platform m.cls index i t r)
    (E : s.MethodEntryUp e T.vm m.cls index t r i) (r1 : s.vm.method? r = some rm) (r2 : rm.isStatic = false) (o1 : T.heap[b]? = some o) (o2 : o.vm.isStatics = false) (o3 : s.vm.classes[o.cls]? = some ok) (o4 : s.vm.assignable o.cls t = true) (s1 : selectMethod e.platform s.vm o.cls r = .method mk) (s2 : s.vm.method? mk = some mm)
    (s3 : ((o.cls :: s.vm.superclasses o.cls).any fun k => (declaredIn s.vm rm.name rm.desc k).any fun (_, z) => z.isPrivate || z.isStatic) = false) (s4 : hasFlag mm.accessFlags Acc.public_ = true) (s5 : mm.isAbstract = false) (g1 : g.method = m) (g2 : as.length = rm.sig.parameters.length) (g3 : g.stack = as.reverse ++ .ref b :: rest) (g4 : decode c.code g.pc = .ok (.invokeinterface index count, 5)) :
    Steps p.tables e below (T.setTop g) (doInvoke e ((T.setVm (T.vm.calledUp m.cls i index t r)).setTop { g with stack := rest }) [] mk (.ref b :: as).toArray).1 := by
  have A := E.warmed.alike
  obtain ⟨dk, cf, n, _, _, tk, _, _, a1, a2, a3, -, -, -, a4, a5, -⟩ := L.here
  obtain ⟨d2, b1, b2⟩ := E.classReady
  obtain ⟨d3, b3, b4⟩ := A.2.2 _ _ a1
  obtain rfl : d2 = d3 := Option.some.inj (b1.symm.trans b3)
  obtain ⟨t2, b5, b6⟩ := A.2.2 _ _ a4
  obtain ⟨k2, b7, -⟩ := A.2.2 _ _ o3
  subst g1
  obtain ⟨V, hV⟩ : ∃ V, V = T.vm.calledUp g.method.cls i index t r := ⟨_, rfl⟩
  have G := fun Q F d acts => invokeinterface.wp_coldFace (Q := Q) (E := F) (e := e) (d := d) (acts := acts) (f := g) (count := count) X.here.top X.warmed E a1 a2 (Or.inr a3) a4 a5
  have E' := E.ready
  rw [← hV] at A b1 b5 b7 E' G ⊢
  have G' := fun Q F d acts => invokeinterface.wp_ready (Q := Q) (E := F) (e := e) (d := d) (acts := acts) (s := T.setVm V) (f := g) (index := index) (count := count) (nt := n) X.here.top E' ((A.method? r).trans r1) r2 g2 g3 o1 (fun z q => by rw [q] at o2; cases o2) b7 b1 (by rw [b4]; exact a2) a3 b2 b5 (by rw [b6]; exact a5)
    ((A.assignable ..).trans o4) ((A.selectMethod ..).trans s1) ((A.method? mk).trans s2) (Or.inr (Or.inr (by show ((o.cls :: V.superclasses o.cls).any fun k => (declaredIn V rm.name rm.desc k).any fun (_, z) => z.isPrivate || z.isStatic) = false; simp only [A.superclasses, A.declaredIn]; exact s3))) (Or.inl s4) s5
  jvm_step X.here [hx, g4, G, G']
  first | (intro acts; rw [doInvoke_state]; exact Steps.refl _) | (rw [doInvoke_state]; exact Steps.refl _)
/- a call through an interface that inherits the method: the library's interfaceBackUp asks a publicMethod word of the declaring interface; here the access is the one that methodLink grants -/
theorem own_face (X : Stand p l e R s m args below meth c T locs cells slots) (hx : p.tables.exec = Jvm.exec) {own C J : String} {index count : Nat} {xi y : MethodName} (hown : s.vm.findClass own = some m.cls) (w1 : (Cond.methodLink own index xi).before args s = true) (w2 : (Cond.declares ⟨J, xi.name, xi.desc⟩).before args s = true) (w3 : (Cond.interfaceMethod xi.cls J xi.name xi.desc).before args s = true)
    (hJ : xi.cls ≠ J) (w4 : (Cond.selects C xi y).before args s = true) (w5 : (Cond.instanceMethod y).before args s = true) (w6 : (Cond.publicMethod y).before args s = true) (w7 : (Cond.unhidden C xi.name xi.desc).before args s = true) (w8 : (Cond.castable C xi.cls).before args s = true) (hm : xi.cls ≠ "java/lang/invoke/MethodHandle" ∧ xi.cls ≠ "java/lang/invoke/VarHandle") (hcl : xi.name ≠ "clone")
    {W : Nat} {F : Pt → Array Value → Prop} {G : Pt → Array Value → Option Value → Pt → Prop} (K : Back l R p e below s args y 5 W F G) {b : Addr} {cB : ClassId} {kB : Class} (hcB : s.vm.findClass C = some cB) (hkB : s.vm.classes[cB]? = some kB) (hb : IsOf cB T b) {g : JFrame} (g1 : g.method = m) (g2 : g.locals.size = c.maxLocals)
    {s₀ : State} (k0 : Steps p.tables e below s₀ (T.setTop g)) {argsL rest : List Value} (hl : ∀ sig, parseMethodDescriptor xi.desc = some sig → argsL.length = sig.parameters.length) (g3 : g.stack = argsL.reverse ++ .ref b :: rest) (hW : 2 * g.monitorRoom + (rest.map fun v => v.category).sum ≤ W) (g4 : decode c.code g.pc = .ok (.invokeinterface index count, 5))
    (hF : ∀ vm₁, s.WarmedH vm₁ → F ⟨T.setVm vm₁, locs, cells, slots⟩ (.ref b :: argsL).toArray) :
    ∃ (v : Option Value) (vm₁ : Vm) (B : Pt), s.WarmedH vm₁ ∧ Stand p l e R s m args below meth c B.U B.locs B.cells B.slots ∧ G ⟨T.setVm vm₁, locs, cells, slots⟩ (.ref b :: argsL).toArray v B ∧ Steps p.tables e below s₀ (B.U.setTop { g with pc := g.pc + 5, stack := v.toList ++ rest }) := by
  obtain ⟨t, tk, r, a1, a2, a3, a4, a5⟩ := Cond.interfaceMethod_spec w3
  obtain ⟨r', rm, b1, b2, b3, b4⟩ := Cond.declares_spec w2
  obtain rfl : r = r' := Option.some.inj (a5.symm.trans b1)
  obtain ⟨cS, rS, mk, c1, c2, c3, c4, -⟩ := Cond.selects_spec w4
  obtain rfl : cB = cS := Option.some.inj (hcB.symm.trans c1)
  obtain rfl : r = rS := Option.some.inj (a4.symm.trans c2)
  obtain ⟨mk', mm, d1, d2, -, d3⟩ := Cond.instanceMethod_spec w5
  obtain rfl : mk = mk' := Option.some.inj (c3.symm.trans d1)
  obtain ⟨cC, t', e1, e2, e3⟩ := Cond.castable_spec w8
  obtain rfl : cB = cC := Option.some.inj (hcB.symm.trans e1)
  obtain rfl : t = t' := Option.some.inj (a1.symm.trans e2)
  obtain ⟨o, o1, rfl, o2⟩ := hb
  obtain ⟨fk, f1, -⟩ := className_of_methodNamed b1
  obtain ⟨tk', q1, q2⟩ := Vm.findClass_spec a1
  obtain rfl : tk = tk' := Option.some.inj (a2.symm.trans q1)
  have hp : ∀ z, signaturePolymorphic tk z = false := fun z => by simp [signaturePolymorphic, q2, hm.1, hm.2]
  obtain ⟨i, L, hr⟩ := own_linkF hown a1 a4 a2 f1 b2 hcl a3 hp (own_else a1 a2 hp a4 b1 hJ) w1 e.platform (by rw [X.admits.platform])
  have E := State.methodEntryFF X.warmed L hr
  obtain ⟨n1, n2⟩ := name_of_methodNamed b1 b2
  have st := own_step X hx L E b2 b3 o1 o2 hkB e3 ((Launch.admits_selectMethod X.admits ..).trans c4) d2 (by rw [n1, n2]; exact Cond.unhidden_spec hcB w7) (Cond.publicMethod_spec c3 d2 w6) d3 g1 (hl _ b4) g3 g4
  have X1 := X.noted E.warmed
  obtain ⟨v, B, X2, h, k⟩ := K m meth c ⟨_, _, _, _⟩ { g with stack := rest } _ mk _ X1 g1 g2 g4 hW (X1.named c3) (hF _ E.warmed)
  exact ⟨v, _, B, E.warmed, X2, h, (k0.trans st).trans k⟩
end
theorem own_mvI {Z s : State} {a0 args : Array Value} {ref owner name desc : String} (hZ : Z.Warmed39 s.vm) (h : (Cond.interfaceMethod ref owner name desc).before a0 Z = true) : (Cond.interfaceMethod ref owner name desc).before args s = true := by
  obtain ⟨cI, kI, r1, h1, h2, h3, h4, h5⟩ := Cond.interfaceMethod_spec h
  obtain ⟨k', hk', ek⟩ := hZ.alike.2.2 _ _ h2
  have f1 : (Z.setVm s.vm).methodFound? ref name desc = some r1 := (State.methodFound?_setVm hZ.alike _ _ _).trans h4
  have f2 : (Z.setVm s.vm).methodNamed? ⟨owner, name, desc⟩ = some r1 := by rw [State.methodNamed?_setVm hZ.alike]; exact h5
  have f3 : s.vm.findClass ref = some cI := by rw [hZ.alike.findClass]; exact h1
  have f4 : s.vm.classes[cI]? = some k' := hk'
  have f5 : k'.isInterface = true := by rw [ek]; exact h3
  have q : (Cond.interfaceMethod ref owner name desc).before a0 (Z.setVm s.vm) = true := by simp [Cond.before, Cond.holds, Cond.value, f1, f2, f3, f4, f5]
  exact q
theorem own_exref {args : Array Value} {s : State} {t : Jvm.Term} {C : String} (h : (Jvm.Cond.exactly t C).value args s none s [] = some true) : ∃ a, t.eval args s none [] s = some (.ref a) := by
  simp only [Cond.value] at h
  split at h
  · rename_i a cc h1 h2; exact ⟨a, h1⟩
  · cases h
  · cases h
theorem own_eqref {args : Array Value} {s : State} {t u : Jvm.Term} {a : Addr} (h : (Jvm.Cond.eq t u).value args s none s [] = some true) (e : t.eval args s none [] s = some (.ref a)) : u.eval args s none [] s = some (.ref a) := by
  simp only [Cond.value, e] at h
  split at h
  all_goals first | (cases h; done) | skip
  all_goals simp_all
section
variable {p : Program} {l : Launch} {e : Env} {R : Room} {s : State} {m : MethodId} {args : Array Value} {below : List Frame} {meth : Method} {c : Code} {T : State} {locs : List Loc} {cells slots : Nat} {Z : State} {h : Heap} {a : Addr} {k : ClassId} {ty : FieldType} {n : Int32} {vs : List Value} {dv : Value}
theorem own_bal (X : Stand p l e R s m args below meth c T locs cells slots) (hx : p.tables.exec = Jvm.exec) (hZ : Z.Warmed39 s.vm) (eT : T.heap = h) (F : Arv Z h a k .byte n vs dv) {j x : Int32} (hi : ¬ j < 0 ∧ j < n) (hv : vs.getD j.toNatClampNeg dv = .int x)
    {pc : Nat} {Ls : Array Slot} {rest : List Value} (hd : decode c.code pc = .ok (.baload, 1)) {target : State} (q : Steps p.tables e below (T.setTop (mkF m (pc + 1) Ls (.int x :: rest))) target) : Steps p.tables e below (T.setTop (mkF m pc Ls (.int j :: .ref a :: rest))) target := by
  obtain ⟨cl, Ar, -, S, M, H, G⟩ := F
  have hin : ¬ (j < 0 ∨ cl.slots.size ≤ j.toNatClampNeg) := inb_of S hi
  have hat : cl.slots[j.toNatClampNeg]? = some (.int x) := Has.at H hin hv
  exact X.baloadBytes hx (j := j) (v := .int x) (by rw [eT]; exact Ar.1) (State.isArrayOf_alike hZ.alike Ar.2.1) Ar.2.2 hin hat (g := mkF m pc Ls (.int j :: .ref a :: rest)) rfl rfl hd _ q
theorem own_alen (X : Stand p l e R s m args below meth c T locs cells slots) (hx : p.tables.exec = Jvm.exec) (hZ : Z.Warmed39 s.vm) (eT : T.heap = h) (F : Arv Z h a k ty n vs dv)
    {pc : Nat} {Ls : Array Slot} {rest : List Value} (hd : decode c.code pc = .ok (.arraylength, 1)) {target : State} (q : Steps p.tables e below (T.setTop (mkF m (pc + 1) Ls (.int n :: rest))) target) : Steps p.tables e below (T.setTop (mkF m pc Ls (.ref a :: rest))) target := by
  obtain ⟨cl, Ar, -, S, M, -, -⟩ := F
  refine X.arraylength hx (by rw [eT]; exact Ar.1) (State.isArrayOf_alike hZ.alike Ar.2.1) (g := mkF m pc Ls (.ref a :: rest)) rfl rfl hd _ ?_
  rw [len_of S M]
  exact q
end
section
variable {l : Launch} {p : Program} {e : Env} {R : Room} {s : State} {m : MethodId} {args : Array Value} {below : List Frame} {meth : Method} {c : Code} {T : State} {locs : List Loc}
theorem own_af (Q : Option Value → Heap → List Loc → Prop) (cells rc slots rs cells' slots' : Nat) {F : Option Value → Pt → Prop} {n0 : Nat}
    (h : ∃ (v : Option Value) (vm₁ : Vm) (B : Pt), s.WarmedH vm₁ ∧ Stand p l e R s m args below meth c B.U B.locs B.cells B.slots ∧ (∃ L, Q v B.U.heap L ∧ B.locs = locs ++ L ∧ B.cells = cells + rc ∧ B.slots = slots + rs) ∧ F v B)
    (N : Fr n0 locs) (hF : ∀ v h L, Q v h L → Fr n0 L) (hc : cells + rc = cells') (hs : slots + rs = slots') :
    ∃ (v : Option Value) (T' : State) (locs' L : List Loc), Stand p l e R s m args below meth c T' locs' cells' slots' ∧ Fr n0 locs' ∧ Q v T'.heap L ∧ F v ⟨T', locs', cells', slots'⟩ := own_after h N hF hc hs
theorem own_afW (Q : Option Value → Heap → List Loc → Prop) (cells rc slots rs cells' slots' : Nat) {Z : State} {vm0 : Vm} {k0 : Nat} {own : String} {EL : List (String × Nat)} {h : Heap} {F : Option Value → Pt → Prop} {n0 : Nat}
    (H : ∃ (v : Option Value) (vm₁ : Vm) (B : Pt), (s.setVm vm0).WarmedH vm₁ ∧ Stand p l e R ((s.setVm vm0).setVm B.U.vm) m args below meth c B.U B.locs B.cells B.slots ∧ (s.setVm vm0).Since B.U.vm B.U.heap.size ∧ T.heap.size ≤ B.U.heap.size ∧ (∃ L, Q v B.U.heap L ∧ B.locs = locs ++ L ∧ B.cells = cells + rc ∧ B.slots = slots + rs ∧ CHr Z EL vm0 h B.U.vm B.U.heap) ∧ F v B)
    (hS : s.Since vm0 k0) (eT : T.heap = h) (hk : k0 ≤ h.size) (hZ : Z.Warmed39 (s.setVm vm0).vm) (hown : (s.setVm vm0).vm.findClass own = some m.cls) (N : Fr n0 locs) (hF : ∀ v h L, Q v h L → Fr n0 L) (hc : cells + rc = cells') (hs : slots + rs = slots') :
    ∃ (v : Option Value) (T' : State) (locs' L : List Loc) (h' : Heap) (k1 : Nat), Stand p l e R (s.setVm T'.vm) m args below meth c T' locs' cells' slots' ∧ T'.heap = h' ∧ s.Since T'.vm k1 ∧ k1 ≤ h'.size ∧ Z.Warmed39 (s.setVm T'.vm).vm ∧ (s.setVm T'.vm).vm.findClass own = some m.cls ∧ Fr n0 locs' ∧ Q v h' L ∧ CHr Z EL vm0 h T'.vm h' ∧ F v ⟨T', locs', cells', slots'⟩ := own_afterW H hS eT hk hZ hown N hF hc hs
end
theorem own_m {ws : List Addr} {a n : Nat} (i : Nat) (e : ws[i]? = some a) : a ∈ ws ∨ n ≤ a := Or.inl (List.mem_of_getElem? e)
theorem own_hb {c : Code} {B : ByteArray} {L : List (Nat × Instr × Nat)} (hby : c.code = B) (h : ∀ q ∈ L, decode B q.1 = .ok (q.2.1, q.2.2)) (i : Nat) {pc : Nat} {op : Instr} {n : Nat} (e : L[i]? = some (pc, op, n)) : decode c.code pc = .ok (op, n) := by rw [hby]; exact h (pc, op, n) (List.mem_of_getElem? e)
theorem own_ns {Z s : State} {a0 : Array Value} {C : String} {y : MethodName} (hZ : Z.Warmed39 s.vm) (w : (Cond.selects C y y).before a0 Z = true) : NotFace s y := notFace_of_selects (args := #[]) (mvT hZ w)
def own_hdr : List Int32 := [60, 63, 120, 109, 108, 32, 118, 101, 114, 115, 105, 111, 110, 61, 34, 49, 46, 48, 34, 32, 101, 110, 99, 111, 100, 105, 110, 103, 61, 34, 85, 84, 70, 45, 56, 34, 63, 62]
theorem own_h38 : (0 : Int32) + Int32.ofNat own_hdr.length = (38 : Int32) := by decide
theorem own_h38' : (0 : Int32) + Int32.ofNat own_hdr.length = Int32.ofNat own_hdr.length := by decide
theorem own_lit0 : (∀ c ∈ ("<?xml version=\"1.0\" encoding=\"UTF-8\"?>" : String).toList, c.toNat < 256) ∧ ("<?xml version=\"1.0\" encoding=\"UTF-8\"?>" : String).toList.map (fun c => Value.int (Jvm.Lit.byteI c.toNat.toUInt16)) = own_iv own_hdr := ⟨by decide +kernel, by rfl⟩
theorem own_lit1 : (∀ c ∈ ("</" : String).toList, c.toNat < 256) ∧ ("</" : String).toList.map (fun c => Value.int (Jvm.Lit.byteI c.toNat.toUInt16)) = own_iv [(60 : Int32), (47 : Int32)] := ⟨by decide +kernel, by rfl⟩
theorem own_lit2 : (∀ c ∈ ("\t" : String).toList, c.toNat < 256) ∧ ("\t" : String).toList.map (fun c => Value.int (Jvm.Lit.byteI c.toNat.toUInt16)) = own_iv [(9 : Int32)] := ⟨by decide +kernel, by rfl⟩
theorem own_lit3 : (∀ c ∈ ("" : String).toList, c.toNat < 256) ∧ ("" : String).toList.map (fun c => Value.int (Jvm.Lit.byteI c.toNat.toUInt16)) = own_iv ([] : List Int32) := ⟨by decide +kernel, by rfl⟩
theorem own_EW {Z : State} {a0 : Array Value} (hw : ∀ d ∈ tables_1, d.before a0 Z = true) : EW Z a0 consts_1 := EW.cons (own_w hw 74 rfl) own_lit0.1 (EW.cons (own_w hw 250 rfl) own_lit1.1 (EW.cons (own_w hw 175 rfl) own_lit2.1 (EW.cons (own_w hw 197 rfl) own_lit3.1 EW.nil)))
theorem own_wS {Z : State} {a0 : Array Value} (hw : ∀ d ∈ tables_1, d.before a0 Z = true) : ∀ a ∈ Bundle.stringAtoms, a.before a0 Z = true := fun d hd => by
  simp only [Bundle.stringAtoms, List.mem_cons, List.not_mem_nil, or_false] at hd
  rcases hd with rfl | rfl | rfl | rfl | rfl | rfl | rfl
  · exact (own_w hw 5 rfl)
  · exact (own_w hw 13 rfl)
  · exact (own_w hw 17 rfl)
  · exact (own_w hw 26 rfl)
  · exact (own_w hw 28 rfl)
  · exact (own_w hw 75 rfl)
  · exact (own_w hw 76 rfl)
theorem own_sz {Z : State} {a0 : Array Value} (hw : ∀ d ∈ tables_1, d.before a0 Z = true) {vm : Vm} {h : Heap} (hZ : Z.Warmed39 vm) {own text : String} {ix : Nat} (w : (Cond.stringLink own ix text).before a0 Z = true) (ht : ∀ c ∈ text.toList, c.toNat < 256) {u : Array UInt16} {a : Addr} (hb : Booksv vm own ix u a) : u.toList = text.toList.map (fun c => c.toNat.toUInt16) ∧ u.all (· < 256) = true := by
  obtain ⟨cc, k, cf, j, hc, hk, hcf, hp, hu, -⟩ := hb
  have w2 : (Cond.stringLink own ix text).before a0 (Wst Z vm h) = true := mvS (s := { Z with heap := h }) hZ w
  obtain ⟨k0', cf', j', units, hkx, hcf', hp', hu', -, htext, -⟩ := Cond.stringLink_spec (s := Wst Z vm h) hc w2
  cases (show vm.classes[cc]? = some k0' from hkx).symm.trans hk
  cases hcf'.symm.trans hcf
  have e1 := hp'.symm.trans hp
  simp at e1; subst e1
  have e2 := hu'.symm.trans hu
  simp at e2; subst e2
  exact ⟨Jvm.ClassFile.units_of_text htext ht, Jvm.ClassFile.lat_of_text htext ht⟩
theorem own_safe {Z : State} {a0 : Array Value} (hw : ∀ d ∈ tables_1, d.before a0 Z = true) {vm : Vm} {h : Heap} (hZ : Z.Warmed39 vm) {x : Addr} {k : ClassId} {vs : List Value} {dv : Value} (F : Arv Z h x k .byte (78 : Int32) vs dv) : Safe Z consts_1 vm h x := fun B => by
  obtain ⟨o, K, cq, p1, p2, p3, hsz⟩ := own_kind F
  obtain ⟨K', i1, i2⟩ := hZ.alike.2.2 _ _ p2
  obtain ⟨p, hp, u, a, hb, q, -, G, e⟩ := B
  have nS : x ≠ q.sa := fun e => by
    subst e
    obtain ⟨cS, ⟨-, -, z1⟩, ⟨kS, z2, z3, -⟩, -⟩ := id G
    have z4 : q.sC = o := Option.some.inj (Eq.trans (Eq.symm G.ha) p1)
    have z5 : kS = K' := Option.some.inj (Eq.trans (Eq.symm z2) (by rw [← z1, z4]; exact i1))
    rw [z5, i2, p3] at z3
    cases z3
  rcases e with e | e
  · exact absurd e nS
  · subst e
    have z6 : q.SA = o := Option.some.inj (Eq.trans (Eq.symm G.hd) p1)
    obtain ⟨cS, -, -, -, hbyt⟩ := G
    have key : ∀ {own text : String} {ix : Nat}, (Cond.stringLink own ix text).before a0 Z = true → (∀ c ∈ text.toList, c.toNat < 256) → Booksv vm own ix u a → text.toList.length = 78 := fun {own text ix} w ht hb => by
      obtain ⟨e1, e2⟩ := own_sz hw (h := h) hZ w ht hb
      have e3 : q.SA.slots.size = u.size := by rw [hbyt, SBG.stringBytes_lat e2, Array.size_map]
      have e4 : u.size = text.toList.length := by rw [← Array.length_toList, e1, List.length_map]
      have e5 : (78 : Int32).toNatClampNeg = 78 := by decide
      rw [← z6] at hsz
      omega
    simp only [consts_1, List.mem_cons, List.not_mem_nil, or_false] at hp
    rcases hp with rfl | rfl | rfl | rfl
    · have := key (own_w hw 74 rfl) own_lit0.1 hb; revert this; decide +kernel
    · have := key (own_w hw 250 rfl) own_lit1.1 hb; revert this; decide +kernel
    · have := key (own_w hw 175 rfl) own_lit2.1 hb; revert this; decide +kernel
    · have := key (own_w hw 197 rfl) own_lit3.1 hb; revert this; decide +kernel
theorem own_e10 : (10 : Int32).toInt8.toInt32 = 10 := by decide
theorem own_e60 : (60 : Int32).toInt8.toInt32 = 60 := by decide
theorem own_e62 : (62 : Int32).toInt8.toInt32 = 62 := by decide
theorem own_li {L : List Int32} {n : Nat} {z : Int32} (h : L.length = n) (e : Int32.ofNat n = z) : Int32.ofNat L.length = z := by rw [h, e]
theorem own_h40 : own_hdr.length + 40 ≤ 78 := by decide
theorem own_hpos : ∀ x ∈ own_hdr, ¬ x < (0 : Int32) := by decide
abbrev vR (a : Addr) : Slot := .val (.ref a)
abbrev vI (z : Int32) : Slot := .val (.int z)
abbrev RM (f c s l : Nat) : Room := { frames := f, cells := c, slots := s, locals := l }
abbrev vU : Slot := .unset
abbrev HWd (a0 : Array Value) (Z : State) : Prop := ∀ d ∈ tables_1, d.before a0 Z = true
theorem bl {a b : Nat} (h : Nat.ble a b = true) : a ≤ b := Nat.le_of_ble_eq_true h
theorem lq {a b : Nat} (h : a = b) : a ≤ b := Nat.le_of_eq h
abbrev SG {p : Program} {l : Launch} {e : Env} {R : Room} {s : State} {m : MethodId} {args : Array Value} {below : List Frame} {meth : Method} {c : Code} {T : State} {locs : List Loc} {cells slots : Nat} (X : Stand p l e R s m args below meth c T locs cells slots) (pc : Nat) (Ls : Array Slot) (st : List Value) (t : State) : Prop := Steps p.tables e below (T.setTop (mkF m pc Ls st)) t
abbrev own_Met (l : Launch) (y : MethodName) (cs : List Jvm.Cond) (R : Room) (A : Array Value) (Z : State) (h0 : Heap) (Q : Option Value → Heap → List Loc → Prop) : Prop :=
  MetFree l y (head1 cs R) (fun a U => a = A ∧ Z.Warmed39 U.vm ∧ U.heap = h0) (fun _ _ _ _ _ => True) (fun _ U o U' => ∃ v L, o = .returned v ∧ Q v U'.heap L ∧ FrameEnd U o U' L R.cells R.slots)
abbrev own_MetW (l : Launch) (y : MethodName) (cs : List Jvm.Cond) (R : Room) (A : Array Value) (Z : State) (h0 : Heap) (Q : Option Value → Heap → List Loc → Prop) : Prop :=
  MetFree l y (head1 cs R) (fun a U => a = A ∧ Z.Warmed39 U.vm ∧ U.heap = h0 ∧ CHv Z consts_1 U.vm h0) (fun _ _ _ _ _ => True) (fun _ U o U' => ∃ v L, o = .returned v ∧ Q v U'.heap L ∧ CHr Z consts_1 U.vm U.heap U'.vm U'.heap ∧ ReturnedEndW U o U' L R.cells R.slots)
theorem own_bS {l : Launch} {y : MethodName} {B : ByteArray} {ml : Nat} {ret : Option FieldType} {ws : List Jvm.Cond} {R : Room} {A : Array Value} {Z : State} {a0 : Array Value} {h0 : Heap} {Q : Option Value → Heap → List Loc → Prop} {C : String} {D : List (Nat × Instr × Nat)} {Ls : Array Slot}
    (pn : plainName C = true) (hC : y.cls = C) (hD : ∀ q ∈ D, decode B q.1 = .ok (q.2.1, q.2.2)) (ef : ∀ m, entryFrame m A ml = mkF m 0 Ls []) (hw : HWd a0 Z)
    (body : ∀ (p : Program) (e : Env) (s : State) (m : MethodId) (below : List Frame) (meth : Method) (c : Code) (S : State), BodyLoose p l y (head1 (Jvm.Cond.code y B ml ret :: ws) R) B ml ret e s m A below meth c S → p.tables.exec = Jvm.exec → c.code = B → c.maxLocals = ml → s.vm.findClass C = some m.cls → meth.name = y.name → s.heap = h0 → Z.Warmed39 s.vm → Stand p l e R s m A below meth c S [] 0 0 → S.heap = h0 → (∀ (i : Nat) {d : Jvm.Cond}, tables_1[i]? = some d → d.before a0 Z = true) → (∀ (i : Nat) {pc : Nat} {op : Instr} {n : Nat}, D[i]? = some (pc, op, n) → decode c.code pc = .ok (op, n)) → Goes p e below S (entryFrame m A ml) S (mkF m 0 Ls []) →
      ∃ s₂ o, Steps p.tables e below (S.setTop (entryFrame m A ml)) s₂ ∧ s₂.status = .running ∧ Ended s₂ below o ∧ ∃ v L, o = .returned v ∧ Q v s₂.heap L ∧ FrameEnd s o s₂ L R.cells R.slots) :
    own_Met l y (Jvm.Cond.code y B ml ret :: ws) R A Z h0 Q := by
  subst hC
  refine MetFree.of_bodySF (plainFor_of_name pn) hisR ?_
  intro p e s m args below meth c S Bd hml0 hP hK
  obtain ⟨rfl, hZ, hh⟩ := hP
  exact body p e s m below meth c S Bd Bd.exec Bd.bytes hml0 (findClass_of_methodNamed Bd.named) (name_of_methodNamed Bd.named Bd.method).1 hh hZ (Stand.of_body Bd) (by rw [← hh, Bd.state]; rfl) (fun i {d} h => own_w hw i h) (fun i {pc} {op} {n} h => own_hb Bd.bytes hD i h) (fun t k => castTop (ef m) k)
theorem own_bSW {l : Launch} {y : MethodName} {B : ByteArray} {ml : Nat} {ret : Option FieldType} {ws : List Jvm.Cond} {R : Room} {A : Array Value} {Z : State} {a0 : Array Value} {h0 : Heap} {Q : Option Value → Heap → List Loc → Prop} {C : String} {D : List (Nat × Instr × Nat)} {Ls : Array Slot}
    (pn : plainName C = true) (hC : y.cls = C) (hD : ∀ q ∈ D, decode B q.1 = .ok (q.2.1, q.2.2)) (ef : ∀ m, entryFrame m A ml = mkF m 0 Ls []) (hw : HWd a0 Z)
    (body : ∀ (p : Program) (e : Env) (s : State) (m : MethodId) (below : List Frame) (meth : Method) (c : Code) (S : State), BodyLoose p l y (head1 (Jvm.Cond.code y B ml ret :: ws) R) B ml ret e s m A below meth c S → p.tables.exec = Jvm.exec → c.code = B → c.maxLocals = ml → (s.setVm s.vm).vm.findClass C = some m.cls → meth.name = y.name → s.heap = h0 → Z.Warmed39 (s.setVm s.vm).vm → Stand p l e R (s.setVm s.vm) m A below meth c S [] 0 0 → S.heap = h0 → (∀ (i : Nat) {d : Jvm.Cond}, tables_1[i]? = some d → d.before a0 Z = true) → (∀ (i : Nat) {pc : Nat} {op : Instr} {n : Nat}, D[i]? = some (pc, op, n) → decode c.code pc = .ok (op, n)) → Goes p e below S (entryFrame m A ml) S (mkF m 0 Ls []) → CHv Z consts_1 s.vm h0 → CHr Z consts_1 s.vm h0 s.vm h0 → s.Since s.vm 0 → 0 ≤ h0.size →
      ∃ s₂ o, Steps p.tables e below (S.setTop (entryFrame m A ml)) s₂ ∧ s₂.status = .running ∧ Ended s₂ below o ∧ ∃ v L, o = .returned v ∧ Q v s₂.heap L ∧ CHr Z consts_1 s.vm s.heap s₂.vm s₂.heap ∧ ReturnedEndW s o s₂ L R.cells R.slots) :
    own_MetW l y (Jvm.Cond.code y B ml ret :: ws) R A Z h0 Q := by
  subst hC
  refine MetFree.of_bodySF (plainFor_of_name pn) hisR ?_
  intro p e s m args below meth c S Bd hml0 hP hK
  obtain ⟨rfl, hZ, hh, hC0⟩ := hP
  exact body p e s m below meth c S Bd Bd.exec Bd.bytes hml0 (findClass_of_methodNamed Bd.named) (name_of_methodNamed Bd.named Bd.method).1 hh hZ (Stand.of_body Bd) (by rw [← hh, Bd.state]; rfl) (fun i {d} h => own_w hw i h) (fun i {pc} {op} {n} h => own_hb Bd.bytes hD i h) (fun t k => castTop (ef m) k) hC0 (CHr.refl hC0) ((State.WarmedH.refl s).since 0) (Nat.zero_le _)
abbrev sA : String := "java/lang/AbstractStringBuilder"
abbrev sS : String := "java/lang/String"
abbrev sX : String := "com/example/cartolog/cartolog/xml/XmlDocument"
abbrev sD : String := "java/util/ArrayDeque"
abbrev sB : String := "java/lang/StringBuilder"
abbrev sLB : String := "Ljava/lang/StringBuilder;"
abbrev sLD : String := "Ljava/util/Deque;"
abbrev sLO : String := "[Ljava/lang/Object;"
abbrev sC : String := "COMPACT_STRINGS"
abbrev sO : String := "java/lang/Object"
abbrev own_c10 : Int32 := (10 : Int32).toInt8.toInt32
abbrev own_c60 : Int32 := (60 : Int32).toInt8.toInt32
abbrev own_c62 : Int32 := (62 : Int32).toInt8.toInt32
theorem D_2 : ∀ q ∈ ([(0, .iload_n 0, 1), (1, .sipush 255, 3), (4, .if_icmp .gt 7, 3), (7, .iconst 1, 1), (8, .goto 4, 3), (12, .ireturn, 1)] : List (Nat × Instr × Nat)), decode jdk_43_method_3_code q.1 = .ok (q.2.1, q.2.2) := by decide +kernel
theorem D_3 : ∀ q ∈ ([(0, .iconst 1, 1), (1, .newarray .byte, 2), (3, .dup, 1), (4, .iconst 0, 1), (5, .iload_n 0, 1), (6, .i2b, 1), (7, .bastore, 1), (8, .areturn, 1)] : List (Nat × Instr × Nat)), decode jdk_43_method_46_code q.1 = .ok (q.2.1, q.2.2) := by decide +kernel
theorem D_4 : ∀ q ∈ ([(0, .aload_n 0, 1), (1, .invokespecial 1, 3), (4, .aload_n 0, 1), (5, .aload_n 1, 1), (6, .putfield 9, 3), (9, .aload_n 0, 1), (10, .iload_n 2, 1), (11, .putfield 15, 3), (14, .return_, 1)] : List (Nat × Instr × Nat)), decode jdk_42_method_151_code q.1 = .ok (q.2.1, q.2.2) := by decide +kernel
theorem D_1 : ∀ q ∈ ([(0, .getstatic 38, 3), (3, .ifCond .eq 23, 3), (6, .iload_n 0, 1), (7, .invokestatic 1015, 3), (10, .ifCond .eq 16, 3), (13, .new 10, 3), (16, .dup, 1), (17, .iload_n 0, 1), (18, .invokestatic 1018, 3), (21, .iconst 0, 1), (22, .invokespecial 209, 3), (25, .areturn, 1)] : List (Nat × Instr × Nat)), decode jdk_42_method_139_code q.1 = .ok (q.2.1, q.2.2) := by decide +kernel
theorem D_8 : ∀ q ∈ ([(0, .aload_n 0, 1), (1, .invokespecial 3, 3), (4, .getstatic 18, 3), (7, .ifCond .eq 18, 3), (10, .aload_n 0, 1), (11, .iload_n 1, 1), (12, .newarray .byte, 2), (14, .putfield 15, 3), (17, .aload_n 0, 1), (18, .iconst 0, 1), (19, .putfield 22, 3), (22, .goto 16, 3), (38, .return_, 1)] : List (Nat × Instr × Nat)), decode jdk_68_method_2_code q.1 = .ok (q.2.1, q.2.2) := by decide +kernel
theorem D_7 : ∀ q ∈ ([(0, .aload_n 0, 1), (1, .bipush 16, 2), (3, .invokespecial 1, 3), (6, .return_, 1)] : List (Nat × Instr × Nat)), decode jdk_67_method_1_code q.1 = .ok (q.2.1, q.2.2) := by decide +kernel
theorem D_10 : ∀ q ∈ ([(0, .aload_n 0, 1), (1, .invokespecial 1, 3), (4, .return_, 1)] : List (Nat × Instr × Nat)), decode jdk_22_method_1_code q.1 = .ok (q.2.1, q.2.2) := by decide +kernel
theorem D_9 : ∀ q ∈ ([(0, .aload_n 0, 1), (1, .invokespecial 42, 3), (4, .aload_n 0, 1), (5, .bipush 17, 2), (7, .anewarray 47, 3), (10, .putfield 3, 3), (13, .return_, 1)] : List (Nat × Instr × Nat)), decode jdk_21_method_3_code q.1 = .ok (q.2.1, q.2.2) := by decide +kernel
theorem D_14 : ∀ q ∈ ([(0, .getstatic 38, 3), (3, .ifCond .eq 10, 3), (6, .aload_n 0, 1), (7, .getfield 15, 3), (10, .goto 4, 3), (14, .ireturn, 1)] : List (Nat × Instr × Nat)), decode jdk_42_method_152_code q.1 = .ok (q.2.1, q.2.2) := by decide +kernel
theorem D_13 : ∀ q ∈ ([(0, .aload_n 0, 1), (1, .getfield 9, 3), (4, .arraylength, 1), (5, .aload_n 0, 1), (6, .invokevirtual 335, 3), (9, .ishr, 1), (10, .ireturn, 1)] : List (Nat × Instr × Nat)), decode jdk_42_method_54_code q.1 = .ok (q.2.1, q.2.2) := by decide +kernel
theorem D_15 : ∀ q ∈ ([(0, .aload_n 0, 1), (1, .getfield 15, 3), (4, .arraylength, 1), (5, .aload_n 0, 1), (6, .getfield 22, 3), (9, .ishr, 1), (10, .istore_n 2, 1), (11, .iload_n 1, 1), (12, .iload_n 2, 1), (13, .isub, 1), (14, .ifCond .le 24, 3), (17, .aload_n 0, 1), (18, .aload_n 0, 1), (19, .getfield 15, 3), (22, .aload_n 0, 1), (23, .iload_n 1, 1), (24, .invokevirtual 104, 3), (27, .aload_n 0, 1), (28, .getfield 22, 3), (31, .ishl, 1), (32, .invokestatic 108, 3), (35, .putfield 15, 3), (38, .return_, 1)] : List (Nat × Instr × Nat)), decode jdk_68_method_9_code q.1 = .ok (q.2.1, q.2.2) := by decide +kernel
theorem D_18 : ∀ q ∈ ([(0, .iload_n 0, 1), (1, .iload_n 1, 1), (2, .if_icmp .lt 7, 3), (5, .iload_n 0, 1), (6, .goto 4, 3), (9, .iload_n 1, 1), (10, .ireturn, 1)] : List (Nat × Instr × Nat)), decode jdk_29_method_65_code q.1 = .ok (q.2.1, q.2.2) := by decide +kernel
theorem D_20 : ∀ q ∈ ([(0, .iload_n 0, 1), (1, .iload_n 1, 1), (2, .if_icmp .gt 7, 3), (5, .iload_n 0, 1), (6, .goto 4, 3), (9, .iload_n 1, 1), (10, .ireturn, 1)] : List (Nat × Instr × Nat)), decode jdk_29_method_69_code q.1 = .ok (q.2.1, q.2.2) := by decide +kernel
theorem D_17 : ∀ q ∈ ([(0, .iload_n 0, 1), (1, .iload_n 1, 1), (2, .iload_n 2, 1), (3, .invokestatic 194, 3), (6, .iadd, 1), (7, .istore_n 3, 1), (8, .iconst 0, 1), (9, .iload_n 3, 1), (10, .if_icmp .ge 11, 3), (13, .iload_n 3, 1), (14, .ldc 200, 2), (16, .if_icmp .gt 5, 3), (19, .iload_n 3, 1), (20, .ireturn, 1)] : List (Nat × Instr × Nat)), decode jdk_48_method_27_code q.1 = .ok (q.2.1, q.2.2) := by decide +kernel
theorem D_16 : ∀ q ∈ ([(0, .aload_n 0, 1), (1, .getfield 15, 3), (4, .arraylength, 1), (5, .istore_n 2, 1), (6, .iload_n 1, 1), (7, .aload_n 0, 1), (8, .getfield 22, 3), (11, .ishl, 1), (12, .istore_n 3, 1), (13, .iload_n 3, 1), (14, .iload_n 2, 1), (15, .isub, 1), (16, .istore 4, 2), (18, .iload_n 2, 1), (19, .iload 4, 2), (21, .iload_n 2, 1), (22, .iconst 2, 1), (23, .aload_n 0, 1), (24, .getfield 22, 3), (27, .ishl, 1), (28, .iadd, 1), (29, .invokestatic 114, 3), (32, .istore 5, 2), (34, .iload 5, 2), (36, .ldc 39, 2), (38, .if_icmp .ne 13, 3), (51, .iload 5, 2), (53, .aload_n 0, 1), (54, .getfield 22, 3), (57, .ishr, 1), (58, .ireturn, 1)] : List (Nat × Instr × Nat)), decode jdk_68_method_10_code q.1 = .ok (q.2.1, q.2.2) := by decide +kernel
theorem D_19 : ∀ q ∈ ([(0, .iload_n 1, 1), (1, .aload_n 0, 1), (2, .arraylength, 1), (3, .if_icmp .ne 11, 3), (14, .iload_n 1, 1), (15, .newarray .byte, 2), (17, .astore_n 2, 1), (18, .aload_n 0, 1), (19, .iconst 0, 1), (20, .aload_n 2, 1), (21, .iconst 0, 1), (22, .aload_n 0, 1), (23, .arraylength, 1), (24, .iload_n 1, 1), (25, .invokestatic 304, 3), (28, .invokestatic 150, 3), (31, .aload_n 2, 1), (32, .areturn, 1)] : List (Nat × Instr × Nat)), decode jdk_65_method_121_code q.1 = .ok (q.2.1, q.2.2) := by decide +kernel
theorem D_22 : ∀ q ∈ ([(0, .getstatic 18, 3), (3, .ifCond .eq 18, 3), (6, .aload_n 0, 1), (7, .getfield 22, 3), (10, .aload_n 1, 1), (11, .invokevirtual 40, 3), (14, .if_icmp .eq 7, 3), (21, .return_, 1)] : List (Nat × Instr × Nat)), decode jdk_68_method_71_code q.1 = .ok (q.2.1, q.2.2) := by decide +kernel
theorem D_23 : ∀ q ∈ ([(0, .aload_n 0, 1), (1, .invokevirtual 335, 3), (4, .iload_n 3, 1), (5, .if_icmp .ne 23, 3), (8, .aload_n 0, 1), (9, .getfield 9, 3), (12, .iconst 0, 1), (13, .aload_n 1, 1), (14, .iload_n 2, 1), (15, .iload_n 3, 1), (16, .ishl, 1), (17, .aload_n 0, 1), (18, .getfield 9, 3), (21, .arraylength, 1), (22, .invokestatic 212, 3), (25, .goto 18, 3), (43, .return_, 1)] : List (Nat × Instr × Nat)), decode jdk_42_method_147_code q.1 = .ok (q.2.1, q.2.2) := by decide +kernel
theorem D_21 : ∀ q ∈ ([(0, .aload_n 0, 1), (1, .aload_n 2, 1), (2, .invokevirtual 397, 3), (5, .aload_n 2, 1), (6, .aload_n 0, 1), (7, .getfield 15, 3), (10, .iload_n 1, 1), (11, .aload_n 0, 1), (12, .getfield 22, 3), (15, .invokevirtual 399, 3), (18, .return_, 1)] : List (Nat × Instr × Nat)), decode jdk_68_method_73_code q.1 = .ok (q.2.1, q.2.2) := by decide +kernel
theorem D_12 : ∀ q ∈ ([(0, .aload_n 1, 1), (1, .ifnonnull 8, 3), (9, .aload_n 1, 1), (10, .invokevirtual 32, 3), (13, .istore_n 2, 1), (14, .aload_n 0, 1), (15, .aload_n 0, 1), (16, .getfield 79, 3), (19, .iload_n 2, 1), (20, .iadd, 1), (21, .invokevirtual 100, 3), (24, .aload_n 0, 1), (25, .aload_n 0, 1), (26, .getfield 79, 3), (29, .aload_n 1, 1), (30, .invokevirtual 208, 3), (33, .aload_n 0, 1), (34, .dup, 1), (35, .getfield 79, 3), (38, .iload_n 2, 1), (39, .iadd, 1), (40, .putfield 79, 3), (43, .aload_n 0, 1), (44, .areturn, 1)] : List (Nat × Instr × Nat)), decode jdk_68_method_22_code q.1 = .ok (q.2.1, q.2.2) := by decide +kernel
theorem D_11 : ∀ q ∈ ([(0, .aload_n 0, 1), (1, .aload_n 1, 1), (2, .invokespecial 29, 3), (5, .pop, 1), (6, .aload_n 0, 1), (7, .areturn, 1)] : List (Nat × Instr × Nat)), decode jdk_67_method_7_code q.1 = .ok (q.2.1, q.2.2) := by decide +kernel
theorem D_29 : ∀ q ∈ ([(0, .getstatic 18, 3), (3, .ifCond .eq 14, 3), (6, .aload_n 0, 1), (7, .getfield 22, 3), (10, .ifCond .ne 7, 3), (13, .iconst 1, 1), (14, .goto 4, 3), (18, .ireturn, 1)] : List (Nat × Instr × Nat)), decode jdk_68_method_68_code q.1 = .ok (q.2.1, q.2.2) := by decide +kernel
theorem D_28 : ∀ q ∈ ([(0, .aload_n 0, 1), (1, .aload_n 0, 1), (2, .getfield 79, 3), (5, .iconst 1, 1), (6, .iadd, 1), (7, .invokevirtual 100, 3), (10, .aload_n 0, 1), (11, .invokevirtual 83, 3), (14, .ifCond .eq 31, 3), (17, .iload_n 1, 1), (18, .invokestatic 191, 3), (21, .ifCond .eq 24, 3), (24, .aload_n 0, 1), (25, .getfield 15, 3), (28, .aload_n 0, 1), (29, .dup, 1), (30, .getfield 79, 3), (33, .dup_x1, 1), (34, .iconst 1, 1), (35, .iadd, 1), (36, .putfield 79, 3), (39, .iload_n 1, 1), (40, .i2b, 1), (41, .bastore, 1), (42, .goto 33, 3), (75, .aload_n 0, 1), (76, .areturn, 1)] : List (Nat × Instr × Nat)), decode jdk_68_method_31_code q.1 = .ok (q.2.1, q.2.2) := by decide +kernel
theorem D_27 : ∀ q ∈ ([(0, .aload_n 0, 1), (1, .iload_n 1, 1), (2, .invokespecial 50, 3), (5, .pop, 1), (6, .aload_n 0, 1), (7, .areturn, 1)] : List (Nat × Instr × Nat)), decode jdk_67_method_14_code q.1 = .ok (q.2.1, q.2.2) := by decide +kernel
theorem D_31 : ∀ q ∈ ([(0, .iload_n 0, 1), (1, .iload_n 1, 1), (2, .isub, 1), (3, .dup, 1), (4, .istore_n 0, 1), (5, .ifCond .ge 7, 3), (8, .iload_n 0, 1), (9, .iload_n 2, 1), (10, .iadd, 1), (11, .istore_n 0, 1), (12, .iload_n 0, 1), (13, .ireturn, 1)] : List (Nat × Instr × Nat)), decode jdk_21_method_9_code q.1 = .ok (q.2.1, q.2.2) := by decide +kernel
theorem D_30 : ∀ q ∈ ([(0, .aload_n 0, 1), (1, .getfield 20, 3), (4, .aload_n 0, 1), (5, .getfield 24, 3), (8, .aload_n 0, 1), (9, .getfield 3, 3), (12, .arraylength, 1), (13, .invokestatic 127, 3), (16, .ireturn, 1)] : List (Nat × Instr × Nat)), decode jdk_21_method_37_code q.1 = .ok (q.2.1, q.2.2) := by decide +kernel
theorem D_35 : ∀ q ∈ ([(0, .iinc 0 (-1), 3), (3, .iload_n 0, 1), (4, .ifCond .ge 7, 3), (7, .iload_n 1, 1), (8, .iconst 1, 1), (9, .isub, 1), (10, .istore_n 0, 1), (11, .iload_n 0, 1), (12, .ireturn, 1)] : List (Nat × Instr × Nat)), decode jdk_21_method_7_code q.1 = .ok (q.2.1, q.2.2) := by decide +kernel
theorem D_34 : ∀ q ∈ ([(0, .aload_n 1, 1), (1, .ifnonnull 11, 3), (12, .aload_n 0, 1), (13, .getfield 3, 3), (16, .astore_n 2, 1), (17, .aload_n 2, 1), (18, .aload_n 0, 1), (19, .aload_n 0, 1), (20, .getfield 24, 3), (23, .aload_n 2, 1), (24, .arraylength, 1), (25, .invokestatic 68, 3), (28, .dup_x1, 1), (29, .putfield 24, 3), (32, .aload_n 1, 1), (33, .aastore, 1), (34, .aload_n 0, 1), (35, .getfield 24, 3), (38, .aload_n 0, 1), (39, .getfield 20, 3), (42, .if_icmp .ne 8, 3), (50, .return_, 1)] : List (Nat × Instr × Nat)), decode jdk_21_method_12_code q.1 = .ok (q.2.1, q.2.2) := by decide +kernel
theorem D_33 : ∀ q ∈ ([(0, .aload_n 0, 1), (1, .aload_n 1, 1), (2, .invokevirtual 86, 3), (5, .return_, 1)] : List (Nat × Instr × Nat)), decode jdk_21_method_34_code q.1 = .ok (q.2.1, q.2.2) := by decide +kernel
theorem D_41 : ∀ q ∈ ([(0, .aload_n 0, 1), (1, .iload_n 1, 1), (2, .aaload, 1), (3, .areturn, 1)] : List (Nat × Instr × Nat)), decode jdk_21_method_10_code q.1 = .ok (q.2.1, q.2.2) := by decide +kernel
theorem D_42 : ∀ q ∈ ([(0, .iinc 0 1, 3), (3, .iload_n 0, 1), (4, .iload_n 1, 1), (5, .if_icmp .lt 5, 3), (8, .iconst 0, 1), (9, .istore_n 0, 1), (10, .iload_n 0, 1), (11, .ireturn, 1)] : List (Nat × Instr × Nat)), decode jdk_21_method_6_code q.1 = .ok (q.2.1, q.2.2) := by decide +kernel
theorem D_40 : ∀ q ∈ ([(0, .aload_n 0, 1), (1, .getfield 3, 3), (4, .dup, 1), (5, .astore_n 1, 1), (6, .aload_n 0, 1), (7, .getfield 24, 3), (10, .dup, 1), (11, .istore_n 2, 1), (12, .invokestatic 103, 3), (15, .astore_n 3, 1), (16, .aload_n 3, 1), (17, .ifnull 17, 3), (20, .aload_n 1, 1), (21, .iload_n 2, 1), (22, .aconst_null, 1), (23, .aastore, 1), (24, .aload_n 0, 1), (25, .iload_n 2, 1), (26, .aload_n 1, 1), (27, .arraylength, 1), (28, .invokestatic 74, 3), (31, .putfield 24, 3), (34, .aload_n 3, 1), (35, .areturn, 1)] : List (Nat × Instr × Nat)), decode jdk_21_method_20_code q.1 = .ok (q.2.1, q.2.2) := by decide +kernel
theorem D_39 : ∀ q ∈ ([(0, .aload_n 0, 1), (1, .invokevirtual 93, 3), (4, .astore_n 1, 1), (5, .aload_n 1, 1), (6, .ifnonnull 11, 3), (17, .aload_n 1, 1), (18, .areturn, 1)] : List (Nat × Instr × Nat)), decode jdk_21_method_18_code q.1 = .ok (q.2.1, q.2.2) := by decide +kernel
theorem D_38 : ∀ q ∈ ([(0, .aload_n 0, 1), (1, .invokevirtual 118, 3), (4, .areturn, 1)] : List (Nat × Instr × Nat)), decode jdk_21_method_35_code q.1 = .ok (q.2.1, q.2.2) := by decide +kernel
theorem D_43 : ∀ q ∈ ([(0, .aload_n 0, 1), (1, .getfield 24, 3), (4, .aload_n 0, 1), (5, .getfield 20, 3), (8, .if_icmp .ne 7, 3), (11, .iconst 1, 1), (12, .goto 4, 3), (16, .ireturn, 1)] : List (Nat × Instr × Nat)), decode jdk_21_method_38_code q.1 = .ok (q.2.1, q.2.2) := by decide +kernel
theorem D_32 : ∀ q ∈ ([(0, .iload_n 1, 1), (1, .ifCond .ge 31, 3), (32, .iload_n 1, 1), (33, .iconst 1, 1), (34, .if_icmp .ne 5, 3), (37, .aload_n 0, 1), (38, .areturn, 1), (39, .aload_n 0, 1), (40, .getfield 9, 3), (43, .arraylength, 1), (44, .istore_n 2, 1), (45, .iload_n 2, 1), (46, .ifCond .eq 7, 3), (49, .iload_n 1, 1), (50, .ifCond .ne 6, 3), (53, .ldc 7, 2), (55, .areturn, 1), (56, .ldc_w 943, 3), (59, .iload_n 1, 1), (60, .idiv, 1), (61, .iload_n 2, 1), (62, .if_icmp .ge 14, 3), (76, .iload_n 2, 1), (77, .iconst 1, 1), (78, .if_icmp .ne 30, 3), (81, .iload_n 1, 1), (82, .newarray .byte, 2), (84, .astore_n 3, 1), (85, .aload_n 3, 1), (86, .aload_n 0, 1), (87, .getfield 9, 3), (90, .iconst 0, 1), (91, .baload, 1), (92, .invokestatic 1041, 3), (95, .new 10, 3), (98, .dup, 1), (99, .aload_n 3, 1), (100, .aload_n 0, 1), (101, .getfield 15, 3), (104, .invokespecial 209, 3), (107, .areturn, 1)] : List (Nat × Instr × Nat)), decode jdk_42_method_145_code q.1 = .ok (q.2.1, q.2.2) := by decide +kernel
theorem D_59 : ∀ q ∈ ([(0, .iconst 0, 1), (1, .istore_n 2, 1), (2, .aload_n 0, 1), (3, .arraylength, 1), (4, .istore_n 3, 1), (5, .iload_n 2, 1), (6, .iload_n 3, 1), (7, .if_icmp .ge 13, 3), (10, .aload_n 0, 1), (11, .iload_n 2, 1), (12, .iload_n 1, 1), (13, .bastore, 1), (14, .iinc 2 1, 3), (17, .goto (-12), 3), (20, .return_, 1)] : List (Nat × Instr × Nat)), decode jdk_65_method_109_code q.1 = .ok (q.2.1, q.2.2) := by decide +kernel
theorem D_47 : ∀ q ∈ ([(0, .aload_n 0, 1), (1, .getfield 15, 3), (4, .areturn, 1)] : List (Nat × Instr × Nat)), decode jdk_68_method_64_code q.1 = .ok (q.2.1, q.2.2) := by decide +kernel
theorem D_49 : ∀ q ∈ ([(0, .aload_n 0, 1), (1, .getfield 79, 3), (4, .ireturn, 1)] : List (Nat × Instr × Nat)), decode jdk_68_method_6_code q.1 = .ok (q.2.1, q.2.2) := by decide +kernel
theorem D_48 : ∀ q ∈ ([(0, .aload_n 0, 1), (1, .invokespecial 343, 3), (4, .ireturn, 1)] : List (Nat × Instr × Nat)), decode jdk_67_method_93_code q.1 = .ok (q.2.1, q.2.2) := by decide +kernel
theorem D_52 : ∀ q ∈ ([(0, .iload_n 1, 1), (1, .iload_n 0, 1), (2, .if_icmp .ge 35, 3), (37, .return_, 1)] : List (Nat × Instr × Nat)), decode jdk_65_method_131_code q.1 = .ok (q.2.1, q.2.2) := by decide +kernel
theorem D_51 : ∀ q ∈ ([(0, .iload_n 1, 1), (1, .iload_n 2, 1), (2, .invokestatic 343, 3), (5, .iload_n 2, 1), (6, .iload_n 1, 1), (7, .isub, 1), (8, .istore_n 3, 1), (9, .iload_n 3, 1), (10, .newarray .byte, 2), (12, .astore 4, 2), (14, .aload_n 0, 1), (15, .iload_n 1, 1), (16, .aload 4, 2), (18, .iconst 0, 1), (19, .aload_n 0, 1), (20, .arraylength, 1), (21, .iload_n 1, 1), (22, .isub, 1), (23, .iload_n 3, 1), (24, .invokestatic 304, 3), (27, .invokestatic 150, 3), (30, .aload 4, 2), (32, .areturn, 1)] : List (Nat × Instr × Nat)), decode jdk_65_method_133_code q.1 = .ok (q.2.1, q.2.2) := by decide +kernel
theorem D_50 : ∀ q ∈ ([(0, .iload_n 1, 1), (1, .ifCond .ne 9, 3), (4, .iload_n 2, 1), (5, .aload_n 0, 1), (6, .arraylength, 1), (7, .if_icmp .eq 10, 3), (10, .aload_n 0, 1), (11, .iload_n 1, 1), (12, .iload_n 2, 1), (13, .invokestatic 339, 3), (16, .areturn, 1)] : List (Nat × Instr × Nat)), decode jdk_65_method_132_code q.1 = .ok (q.2.1, q.2.2) := by decide +kernel
theorem D_46 : ∀ q ∈ ([(0, .aload_n 0, 1), (1, .invokespecial 1, 3), (4, .aload_n 1, 1), (5, .invokevirtual 552, 3), (8, .astore_n 3, 1), (9, .aload_n 1, 1), (10, .invokevirtual 549, 3), (13, .istore 4, 2), (15, .aload_n 1, 1), (16, .invokevirtual 1047, 3), (19, .ifCond .eq 22, 3), (22, .aload_n 0, 1), (23, .iconst 0, 1), (24, .putfield 15, 3), (27, .aload_n 0, 1), (28, .aload_n 3, 1), (29, .iconst 0, 1), (30, .iload 4, 2), (32, .invokestatic 54, 3), (35, .putfield 9, 3), (38, .goto 59, 3), (97, .return_, 1)] : List (Nat × Instr × Nat)), decode jdk_42_method_150_code q.1 = .ok (q.2.1, q.2.2) := by decide +kernel
theorem D_45 : ∀ q ∈ ([(0, .aload_n 0, 1), (1, .aload_n 1, 1), (2, .aconst_null, 1), (3, .invokespecial 489, 3), (6, .return_, 1)] : List (Nat × Instr × Nat)), decode jdk_42_method_53_code q.1 = .ok (q.2.1, q.2.2) := by decide +kernel
theorem D_44 : ∀ q ∈ ([(0, .new 18, 3), (3, .dup, 1), (4, .aload_n 0, 1), (5, .invokespecial 137, 3), (8, .areturn, 1)] : List (Nat × Instr × Nat)), decode jdk_67_method_42_code q.1 = .ok (q.2.1, q.2.2) := by decide +kernel
theorem D_57 : ∀ q ∈ ([(0, .iload_n 1, 1), (1, .iload_n 2, 1), (2, .iadd, 1), (3, .istore_n 3, 1), (4, .iload_n 1, 1), (5, .istore 4, 2), (7, .iload 4, 2), (9, .iload_n 3, 1), (10, .if_icmp .ge 21, 3), (13, .aload_n 0, 1), (14, .iload 4, 2), (16, .baload, 1), (17, .ifCond .ge 8, 3), (25, .iinc 4 1, 3), (28, .goto (-21), 3), (31, .iload_n 2, 1), (32, .ireturn, 1)] : List (Nat × Instr × Nat)), decode jdk_123_method_3_code q.1 = .ok (q.2.1, q.2.2) := by decide +kernel
theorem D_56 : ∀ q ∈ ([(0, .aload_n 0, 1), (1, .iload_n 1, 1), (2, .iload_n 2, 1), (3, .invokestatic 7, 3), (6, .iload_n 2, 1), (7, .if_icmp .eq 7, 3), (14, .iconst 0, 1), (15, .ireturn, 1)] : List (Nat × Instr × Nat)), decode jdk_123_method_2_code q.1 = .ok (q.2.1, q.2.2) := by decide +kernel
theorem D_55 : ∀ q ∈ ([(0, .iload_n 0, 1), (1, .iconst 1, 1), (2, .if_icmp .ne 9, 3), (11, .aload_n 1, 1), (12, .iconst 0, 1), (13, .aload_n 1, 1), (14, .arraylength, 1), (15, .invokestatic 128, 3), (18, .ifCond .ne 11, 3), (21, .aload_n 1, 1), (22, .invokevirtual 279, 3), (25, .checkcast 280, 3), (28, .areturn, 1)] : List (Nat × Instr × Nat)), decode jdk_42_method_46_code q.1 = .ok (q.2.1, q.2.2) := by decide +kernel
theorem D_54 : ∀ q ∈ ([(0, .aload_n 0, 1), (1, .getstatic 86, 3), (4, .if_acmp .ne 10, 3), (7, .iload_n 1, 1), (8, .aload_n 2, 1), (9, .iconst 1, 1), (10, .invokestatic 252, 3), (13, .areturn, 1)] : List (Nat × Instr × Nat)), decode jdk_42_method_18_code q.1 = .ok (q.2.1, q.2.2) := by decide +kernel
theorem D_53 : ∀ q ∈ ([(0, .aload_n 1, 1), (1, .ifnonnull 11, 3), (12, .aload_n 1, 1), (13, .aload_n 0, 1), (14, .invokevirtual 335, 3), (17, .aload_n 0, 1), (18, .getfield 9, 3), (21, .invokestatic 535, 3), (24, .areturn, 1)] : List (Nat × Instr × Nat)), decode jdk_42_method_64_code q.1 = .ok (q.2.1, q.2.2) := by decide +kernel
theorem D_58 : ∀ q ∈ ([(0, .iload_n 1, 1), (1, .ifCond .ge 5, 3), (6, .iconst 4, 1), (7, .iload_n 2, 1), (8, .iadd, 1), (9, .iload_n 3, 1), (10, .ifCond .eq 7, 3), (13, .iconst 1, 1), (14, .goto 4, 3), (17, .iconst 0, 1), (18, .iadd, 1), (19, .istore 5, 2), (21, .iload_n 1, 1), (22, .iload 5, 2), (24, .iadd, 1), (25, .aload_n 0, 1), (26, .arraylength, 1), (27, .if_icmp .le 5, 3), (32, .aload_n 0, 1), (33, .iload_n 1, 1), (34, .baload, 1), (35, .bipush 10, 2), (37, .if_icmp .eq 5, 3), (42, .iload_n 2, 1), (43, .iconst 1, 1), (44, .if_icmp .lt 15, 3), (47, .aload_n 0, 1), (48, .iload_n 1, 1), (49, .iconst 1, 1), (50, .iadd, 1), (51, .baload, 1), (52, .bipush 9, 2), (54, .if_icmp .eq 5, 3), (59, .iload_n 2, 1), (60, .iconst 2, 1), (61, .if_icmp .lt 15, 3), (64, .aload_n 0, 1), (65, .iload_n 1, 1), (66, .iconst 2, 1), (67, .iadd, 1), (68, .baload, 1), (69, .bipush 9, 2), (71, .if_icmp .eq 5, 3), (76, .iload_n 1, 1), (77, .iconst 1, 1), (78, .iadd, 1), (79, .iload_n 2, 1), (80, .iadd, 1), (81, .istore 6, 2), (83, .aload_n 0, 1), (84, .iload 6, 2), (86, .baload, 1), (87, .bipush 60, 2), (89, .if_icmp .eq 5, 3), (94, .iload 6, 2), (96, .iconst 1, 1), (97, .iadd, 1), (98, .istore 6, 2), (100, .iload_n 3, 1), (101, .ifCond .eq 20, 3), (104, .aload_n 0, 1), (105, .iload 6, 2), (107, .baload, 1), (108, .bipush 47, 2), (110, .if_icmp .eq 5, 3), (115, .iload 6, 2), (117, .iconst 1, 1), (118, .iadd, 1), (119, .istore 6, 2), (121, .aload_n 0, 1), (122, .iload 6, 2), (124, .baload, 1), (125, .iload 4, 2), (127, .i2b, 1), (128, .if_icmp .eq 5, 3), (133, .iload 6, 2), (135, .iconst 1, 1), (136, .iadd, 1), (137, .istore 6, 2), (139, .aload_n 0, 1), (140, .iload 6, 2), (142, .baload, 1), (143, .bipush 62, 2), (145, .if_icmp .eq 5, 3), (150, .iload 6, 2), (152, .iconst 1, 1), (153, .iadd, 1), (154, .ireturn, 1)] : List (Nat × Instr × Nat)), decode method_3_code q.1 = .ok (q.2.1, q.2.2) := by decide +kernel
theorem D_26 : ∀ q ∈ ([(0, .aload_n 0, 1), (1, .getfield 10, 3), (4, .bipush 10, 2), (6, .invokevirtual 43, 3), (9, .ldc 167, 2), (11, .aload_n 0, 1), (12, .getfield 19, 3), (15, .invokeinterface 185 1, 5), (20, .invokevirtual 188, 3), (23, .invokevirtual 25, 3), (26, .pop, 1), (27, .return_, 1)] : List (Nat × Instr × Nat)), decode prog_33_method_13_code q.1 = .ok (q.2.1, q.2.2) := by decide +kernel
theorem D_25 : ∀ q ∈ ([(0, .aload_n 0, 1), (1, .invokevirtual 58, 3), (4, .aload_n 0, 1), (5, .getfield 10, 3), (8, .bipush 60, 2), (10, .invokevirtual 43, 3), (13, .aload_n 1, 1), (14, .invokevirtual 25, 3), (17, .pop, 1), (18, .iconst 0, 1), (19, .istore_n 3, 1), (20, .iload_n 3, 1), (21, .iconst 1, 1), (22, .iadd, 1), (23, .aload_n 2, 1), (24, .arraylength, 1), (25, .if_icmp .ge 50, 3), (75, .aload_n 0, 1), (76, .getfield 10, 3), (79, .areturn, 1)] : List (Nat × Instr × Nat)), decode prog_33_method_10_code q.1 = .ok (q.2.1, q.2.2) := by decide +kernel
theorem D_24 : ∀ q ∈ ([(0, .aload_n 0, 1), (1, .aload_n 1, 1), (2, .aload_n 2, 1), (3, .invokevirtual 39, 3), (6, .bipush 62, 2), (8, .invokevirtual 43, 3), (11, .pop, 1), (12, .aload_n 0, 1), (13, .getfield 19, 3), (16, .aload_n 1, 1), (17, .invokeinterface 46 2, 5), (22, .aload_n 0, 1), (23, .areturn, 1)] : List (Nat × Instr × Nat)), decode prog_33_method_2_code q.1 = .ok (q.2.1, q.2.2) := by decide +kernel
theorem D_6 : ∀ q ∈ ([(0, .aload_n 0, 1), (1, .invokespecial 1, 3), (4, .aload_n 0, 1), (5, .new 7, 3), (8, .dup, 1), (9, .invokespecial 9, 3), (12, .putfield 10, 3), (15, .aload_n 0, 1), (16, .new 16, 3), (19, .dup, 1), (20, .invokespecial 18, 3), (23, .putfield 19, 3), (26, .aload_n 0, 1), (27, .getfield 10, 3), (30, .ldc 23, 2), (32, .invokevirtual 25, 3), (35, .pop, 1), (36, .aload_n 2, 1), (37, .ifnull 31, 3), (68, .aload_n 0, 1), (69, .aload_n 1, 1), (70, .aload_n 3, 1), (71, .invokevirtual 35, 3), (74, .pop, 1), (75, .return_, 1)] : List (Nat × Instr × Nat)), decode prog_33_method_1_code q.1 = .ok (q.2.1, q.2.2) := by decide +kernel
theorem D_37 : ∀ q ∈ ([(0, .aload_n 0, 1), (1, .getfield 19, 3), (4, .invokeinterface 52 1, 5), (9, .checkcast 56, 3), (12, .astore_n 1, 1), (13, .aload_n 0, 1), (14, .invokevirtual 58, 3), (17, .aload_n 0, 1), (18, .getfield 10, 3), (21, .ldc 61, 2), (23, .invokevirtual 25, 3), (26, .aload_n 1, 1), (27, .invokevirtual 25, 3), (30, .bipush 62, 2), (32, .invokevirtual 43, 3), (35, .pop, 1), (36, .aload_n 0, 1), (37, .areturn, 1)] : List (Nat × Instr × Nat)), decode prog_33_method_3_code q.1 = .ok (q.2.1, q.2.2) := by decide +kernel
theorem D_36 : ∀ q ∈ ([(0, .aload_n 0, 1), (1, .invokevirtual 105, 3), (4, .pop, 1), (5, .aload_n 0, 1), (6, .getfield 19, 3), (9, .invokeinterface 109 1, 5), (14, .ifCond .ne 28, 3), (42, .aload_n 0, 1), (43, .getfield 10, 3), (46, .bipush 10, 2), (48, .invokevirtual 43, 3), (51, .pop, 1), (52, .aload_n 0, 1), (53, .getfield 10, 3), (56, .invokevirtual 81, 3), (59, .getstatic 85, 3), (62, .invokevirtual 91, 3), (65, .areturn, 1)] : List (Nat × Instr × Nat)), decode prog_33_method_8_code q.1 = .ok (q.2.1, q.2.2) := by decide +kernel
abbrev Y_0 : MethodName := ⟨"java/lang/StringLatin1", "canEncode", "(C)Z"⟩
abbrev Y_1 : MethodName := ⟨"java/lang/StringLatin1", "toBytes", "(C)[B"⟩
abbrev Y_2 : MethodName := ⟨"java/lang/String", "<init>", "([BB)V"⟩
abbrev Y_3 : MethodName := ⟨"java/lang/String", "valueOf", "(C)Ljava/lang/String;"⟩
abbrev Y_4 : MethodName := ⟨"java/lang/AbstractStringBuilder", "<init>", "(I)V"⟩
abbrev Y_5 : MethodName := ⟨"java/lang/StringBuilder", "<init>", "()V"⟩
abbrev Y_6 : MethodName := ⟨"java/util/AbstractCollection", "<init>", "()V"⟩
abbrev Y_7 : MethodName := ⟨"java/util/ArrayDeque", "<init>", "()V"⟩
abbrev Y_8 : MethodName := ⟨"java/lang/String", "coder", "()B"⟩
abbrev Y_9 : MethodName := ⟨"java/lang/String", "length", "()I"⟩
abbrev Y_10 : MethodName := ⟨"java/lang/AbstractStringBuilder", "ensureCapacityInternal", "(I)V"⟩
abbrev Y_11 : MethodName := ⟨"java/lang/Math", "max", "(II)I"⟩
abbrev Y_12 : MethodName := ⟨"java/lang/Math", "min", "(II)I"⟩
abbrev Y_13 : MethodName := ⟨"jdk/internal/util/ArraysSupport", "newLength", "(III)I"⟩
abbrev Y_14 : MethodName := ⟨"java/lang/AbstractStringBuilder", "newCapacity", "(I)I"⟩
abbrev Y_15 : MethodName := ⟨"java/util/Arrays", "copyOf", "([BI)[B"⟩
abbrev Y_16 : MethodName := ⟨"java/lang/AbstractStringBuilder", "inflateIfNeededFor", "(Ljava/lang/String;)V"⟩
abbrev Y_17 : MethodName := ⟨"java/lang/String", "getBytes", "([BIB)V"⟩
abbrev Y_18 : MethodName := ⟨"java/lang/AbstractStringBuilder", "putStringAt", "(ILjava/lang/String;)V"⟩
abbrev Y_19 : MethodName := ⟨"java/lang/AbstractStringBuilder", "append", "(Ljava/lang/String;)Ljava/lang/AbstractStringBuilder;"⟩
abbrev Y_20 : MethodName := ⟨"java/lang/StringBuilder", "append", "(Ljava/lang/String;)Ljava/lang/StringBuilder;"⟩
abbrev Y_21 : MethodName := ⟨"java/lang/AbstractStringBuilder", "isLatin1", "()Z"⟩
abbrev Y_22 : MethodName := ⟨"java/lang/AbstractStringBuilder", "append", "(C)Ljava/lang/AbstractStringBuilder;"⟩
abbrev Y_23 : MethodName := ⟨"java/lang/StringBuilder", "append", "(C)Ljava/lang/StringBuilder;"⟩
abbrev Y_24 : MethodName := ⟨"java/util/ArrayDeque", "sub", "(III)I"⟩
abbrev Y_25 : MethodName := ⟨"java/util/ArrayDeque", "size", "()I"⟩
abbrev Y_26 : MethodName := ⟨"java/util/ArrayDeque", "dec", "(II)I"⟩
abbrev Y_27 : MethodName := ⟨"java/util/ArrayDeque", "addFirst", "(Ljava/lang/Object;)V"⟩
abbrev Y_28 : MethodName := ⟨"java/util/ArrayDeque", "push", "(Ljava/lang/Object;)V"⟩
abbrev Y_29 : MethodName := ⟨"java/util/ArrayDeque", "elementAt", "([Ljava/lang/Object;I)Ljava/lang/Object;"⟩
abbrev Y_30 : MethodName := ⟨"java/util/ArrayDeque", "inc", "(II)I"⟩
abbrev Y_31 : MethodName := ⟨"java/util/ArrayDeque", "pollFirst", "()Ljava/lang/Object;"⟩
abbrev Y_32 : MethodName := ⟨"java/util/ArrayDeque", "removeFirst", "()Ljava/lang/Object;"⟩
abbrev Y_33 : MethodName := ⟨"java/util/ArrayDeque", "pop", "()Ljava/lang/Object;"⟩
abbrev Y_34 : MethodName := ⟨"java/util/ArrayDeque", "isEmpty", "()Z"⟩
abbrev Y_35 : MethodName := ⟨"java/lang/String", "repeat", "(I)Ljava/lang/String;"⟩
abbrev Y_36 : MethodName := ⟨"java/util/Arrays", "fill", "([BB)V"⟩
abbrev Y_37 : MethodName := ⟨"java/lang/AbstractStringBuilder", "getValue", "()[B"⟩
abbrev Y_38 : MethodName := ⟨"java/lang/AbstractStringBuilder", "length", "()I"⟩
abbrev Y_39 : MethodName := ⟨"java/lang/StringBuilder", "length", "()I"⟩
abbrev Y_40 : MethodName := ⟨"java/util/Arrays", "checkLength", "(II)V"⟩
abbrev Y_41 : MethodName := ⟨"java/util/Arrays", "copyOfRangeByte", "([BII)[B"⟩
abbrev Y_42 : MethodName := ⟨"java/util/Arrays", "copyOfRange", "([BII)[B"⟩
abbrev Y_43 : MethodName := ⟨"java/lang/String", "<init>", "(Ljava/lang/AbstractStringBuilder;Ljava/lang/Void;)V"⟩
abbrev Y_44 : MethodName := ⟨"java/lang/String", "<init>", "(Ljava/lang/StringBuilder;)V"⟩
abbrev Y_45 : MethodName := ⟨"java/lang/StringBuilder", "toString", "()Ljava/lang/String;"⟩
abbrev Y_46 : MethodName := ⟨"java/lang/StringCoding", "countPositives", "([BII)I"⟩
abbrev Y_47 : MethodName := ⟨"java/lang/StringCoding", "hasNegatives", "([BII)Z"⟩
abbrev Y_48 : MethodName := ⟨"java/lang/String", "encodeUTF8", "(B[BZ)[B"⟩
abbrev Y_49 : MethodName := ⟨"java/lang/String", "encode", "(Ljava/nio/charset/Charset;B[B)[B"⟩
abbrev Y_50 : MethodName := ⟨"java/lang/String", "getBytes", "(Ljava/nio/charset/Charset;)[B"⟩
abbrev Y_51 : MethodName := ⟨"com/example/cartolog/cartolog/xml/XmlDocumentEndPinLaw", "tag", "([BIIZC)I"⟩
abbrev Y_52 : MethodName := ⟨"com/example/cartolog/cartolog/xml/XmlDocument", "newLine", "()V"⟩
abbrev Y_53 : MethodName := ⟨"java/util/Deque", "size", "()I"⟩
abbrev Y_54 : MethodName := ⟨"com/example/cartolog/cartolog/xml/XmlDocument", "startTag", "(Ljava/lang/String;[Ljava/lang/String;)Ljava/lang/StringBuilder;"⟩
abbrev Y_55 : MethodName := ⟨"com/example/cartolog/cartolog/xml/XmlDocument", "start", "(Ljava/lang/String;[Ljava/lang/String;)Lcom/example/cartolog/cartolog/xml/XmlDocument;"⟩
abbrev Y_56 : MethodName := ⟨"java/util/Deque", "push", "(Ljava/lang/Object;)V"⟩
abbrev Y_57 : MethodName := ⟨"com/example/cartolog/cartolog/xml/XmlDocument", "<init>", "(Ljava/lang/String;Ljava/lang/String;[Ljava/lang/String;)V"⟩
abbrev Y_58 : MethodName := ⟨"com/example/cartolog/cartolog/xml/XmlDocument", "end", "()Lcom/example/cartolog/cartolog/xml/XmlDocument;"⟩
abbrev Y_59 : MethodName := ⟨"java/util/Deque", "pop", "()Ljava/lang/Object;"⟩
abbrev Y_60 : MethodName := ⟨"com/example/cartolog/cartolog/xml/XmlDocument", "finish", "()[B"⟩
abbrev Y_61 : MethodName := ⟨"java/util/Deque", "isEmpty", "()Z"⟩
section Wk
set_option maxHeartbeats 40000000
set_option maxRecDepth 65536
theorem pn_2 : plainName "java/lang/StringLatin1" = true := by first | (simp [plainName, overriddenIn]; done) | decide +kernel
theorem ef_CE (m : MethodId) (ch : Int32) : entryFrame m #[.int ch] 1 = mkF m 0 #[.val (.int ch)] [] := by simp [entryFrame, mkF, argsToLocals, Value.category]
def QCE (Z : State) (ch : Int32) (h0 : Heap) (n0 : Nat) (v : Option Value) (h : Heap) (L : List Loc) : Prop := v = some (.int 1) ∧ Fr n0 L ∧ h = h0
theorem rmCE (l : Launch) (Z : State) (a0 : Array Value) (hw : HWd a0 Z) (ws : List Jvm.Cond) (ch : Int32) (h0 : Heap) (n0 : Nat) (Z0 : n0 ≤ h0.size) (hc : ¬ (255 : Int32) < ch) :
    own_Met l Y_0 (Jvm.Cond.code Y_0 jdk_43_method_3_code 1 (some .boolean) :: ws) (RM 0 0 0 0) #[.int ch] Z h0 (QCE Z ch h0 n0) := by
  refine own_bS pn_2 rfl D_2 (fun m => ef_CE m ch) hw fun p e s m below meth c sZ Bd hx hby hml hown hnm hh hZ X0 e0 w H pre0 => ?_
  have N0 := Fr.nil n0
  obtain ⟨fs, hr, hrun, hended, hW, hsame⟩ := X0.leave (v := some (.int 1)) (fun h => by rw [Bd.returns] at h; cases h)
  refine ⟨_, _, pre0 _ ?_, hrun, hended, _, _, rfl, ?_, ⟨_, rfl⟩, hW, hsame.mono (by decide) (by decide)⟩
  · show SG X0 0 #[vI ch] [] _
    refine XS.iloadN X0.here hx rfl (H 0 rfl) rfl ?_
    refine XS.sipush X0.here hx rfl (H 1 rfl) ?_
    refine XS.icmpNo X0.here hx rfl (H 2 rfl) rfl (flt (hc : ¬ ((255 : Int32) < ch))).2.2.1 ?_
    refine XS.iconst X0.here hx rfl (H 3 rfl) ?_
    refine XS.goto X0.here hx rfl (pc0 := 8) (pc' := 12) rfl (H 4 rfl) (by decide) (by decide) ?_
    exact retN X0 hx (t := .boolean) Bd.returns (by simp) (H 5 rfl) hr
  · show QCE Z ch h0 n0 _ sZ.heap _
    rw [e0]
    exact ⟨rfl, N0, rfl⟩

theorem pn_3 : plainName "java/lang/StringLatin1" = true := by first | (simp [plainName, overriddenIn]; done) | decide +kernel
theorem ef_TB (m : MethodId) (ch : Int32) : entryFrame m #[.int ch] 1 = mkF m 0 #[.val (.int ch)] [] := by simp [entryFrame, mkF, argsToLocals, Value.category]
def QTB (Z : State) (ch : Int32) (h0 : Heap) (n0 : Nat) (v : Option Value) (h : Heap) (L : List Loc) : Prop := ∃ xb : Addr, ∃ xk : ClassId, v = some (.ref xb) ∧ Fr n0 L ∧ Keep h0 h [] ∧ h0.size ≤ xb ∧ Arv Z h xb xk .byte (Int32.ofNat [(ch.toInt8.toInt32)].length) (own_iv [(ch.toInt8.toInt32)]) (.int 0)
theorem rmTB (l : Launch) (Z : State) (a0 : Array Value) (hw : HWd a0 Z) (ws : List Jvm.Cond) (ch : Int32) (h0 : Heap) (n0 : Nat) (Z0 : n0 ≤ h0.size) :
    own_Met l Y_1 (Jvm.Cond.code Y_1 jdk_43_method_46_code 1 (some (.array .byte)) :: ws) (RM 0 1 1 0) #[.int ch] Z h0 (QTB Z ch h0 n0) := by
  refine own_bS pn_3 rfl D_3 (fun m => ef_TB m ch) hw fun p e s m below meth c sZ Bd hx hby hml hown hnm hh hZ X0 e0 w H pre0 => ?_
  have N0 := Fr.nil n0
  have K0 := Keep.refl h0 []
  obtain ⟨T1, h1, k1, X1, e1, E1, A1, st1⟩ := newP X0 hx hZ (w 17 rfl) e0 (g := (mkF m 1 #[vI ch] [.int 1])) rfl (H 1 rfl) rfl (by decide) (cap := 1) (by decide) (by decide) (by decide) (by decide)
  obtain ⟨b1, g1⟩ : ∃ z, z = h0.size := ⟨_, rfl⟩
  rw [← g1] at A1 st1
  have g_b1 : n0 ≤ b1 := Nat.le_trans Z0 (Nat.le_of_eq g1.symm)
  have sz_b1 : h0.size ≤ b1 := Nat.le_trans K0.1 (Nat.le_of_eq g1.symm)
  have K1 := K0.ext E1
  have V1 : Arv Z h1 b1 k1 .byte (1 : Int32) [.int 0] (.int 0) := (Arv.new A1 (by decide)).pad (pad_rep [] (.int 0) 1)
  obtain ⟨cl2, Ar2, q2, S2, M2, H2, G2⟩ := id V1
  have hin2 : ¬ ((0 : Int32) < 0 ∨ cl2.slots.size ≤ ((0 : Int32)).toNatClampNeg) := inb_of S2 ⟨by decide, by decide⟩
  obtain ⟨T2, h2, X2, e2, W2, st2⟩ := stB X1 hx hZ e1 Ar2 (j := (0 : Int32)) hin2 (g := (mkF m 7 #[vI ch] [.int (ch.toInt8.toInt32), .int 0, .ref b1, .ref b1])) rfl rfl (H 6 rfl)
  have V2 := Arv.set Ar2 q2 S2 M2 H2 G2 (fits_nar_byte _) W2 0 rfl (bl rfl)
  have K2 := K1.wr W2 (Or.inr sz_b1)
  have N2 := Fr.snoc X2 N0 g_b1
  have U2 : Arv Z h2 b1 k1 .byte (1 : Int32) [.int ((ch.toInt8.toInt32)).toInt8.toInt32] (.int 0) := V2
  have f3 : Arv Z h2 b1 k1 .byte (Int32.ofNat [(ch.toInt8.toInt32)].length) (own_iv [(ch.toInt8.toInt32)]) (.int 0) := own_arv U2 rfl (own_v1 ch)
  obtain ⟨fs, hr, hrun, hended, hW, hsame⟩ := X2.leave (v := some (.ref b1)) (fun h => by rw [Bd.returns] at h; cases h)
  refine ⟨_, _, pre0 _ ?_, hrun, hended, _, _, rfl, ?_, ⟨_, rfl⟩, hW, hsame.mono (by decide) (by decide)⟩
  · show SG X0 0 #[vI ch] [] _
    refine XS.iconst X0.here hx rfl (H 0 rfl) ?_
    refine st1 _ ?_
    show SG X1 3 #[vI ch] [.ref b1] _
    refine XS.dup X1.here hx rfl (H 2 rfl) rfl rfl ?_
    refine XS.iconst X1.here hx rfl (H 3 rfl) ?_
    refine XS.iloadN X1.here hx rfl (H 4 rfl) rfl ?_
    refine XS.i2b X1.here hx rfl (H 5 rfl) rfl ?_
    refine st2 _ ?_
    show SG X2 8 #[vI ch] [.ref b1] _
    jvm_step X2.here [X2.here.top, hx, (H 7 rfl), X2.method', Bd.returns, Value.isRef, FieldType.isReference]
    first | (intro acts; rw [hr _ acts rfl rfl rfl]) | rw [hr _ _ rfl rfl rfl]
    exact Steps.refl _
  · show QTB Z ch h0 n0 _ T2.heap _
    rw [e2]
    exact ⟨b1, k1, rfl, N2, K2, sz_b1, f3⟩

theorem pn_4 : plainName "java/lang/String" = true := by first | (simp [plainName, overriddenIn]; done) | decide +kernel
theorem ef_SI (m : MethodId) (sg ub : Addr) : entryFrame m #[.ref sg, .ref ub, .int 0] 3 = mkF m 0 #[.val (.ref sg), .val (.ref ub), .val (.int 0)] [] := by simp [entryFrame, mkF, argsToLocals, Value.category]
def QSI (Z : State) (sg ub : Addr) (h0 : Heap) (n0 : Nat) (v : Option Value) (h : Heap) (L : List Loc) : Prop := v = none ∧ Fr n0 L ∧ Keep h0 h [sg] ∧ Fld Z h sg sS "value" "[B" (.ref ub) ∧ Fld Z h sg sS "coder" "B" (.int 0)
theorem rmSI (l : Launch) (Z : State) (a0 : Array Value) (hw : HWd a0 Z) (ws : List Jvm.Cond) (sg ub : Addr) (h0 : Heap) (n0 : Nat) (Z0 : n0 ≤ h0.size) (P0 : Exa Z h0 sg sS) (P1 : Fld Z h0 sg sS "value" "[B" .null) (P2 : Fld Z h0 sg sS "coder" "B" (.int 0)) (g_sg : n0 ≤ sg) :
    own_Met l Y_2 (Jvm.Cond.code Y_2 jdk_42_method_151_code 3 none :: ws) (RM 1 0 0 12) #[.ref sg, .ref ub, .int 0] Z h0 (QSI Z sg ub h0 n0) := by
  refine own_bS pn_4 rfl D_4 (fun m => ef_SI m sg ub) hw fun p e s m below meth c sZ Bd hx hby hml hown hnm hh hZ X0 e0 w H pre0 => ?_
  have N0 := Fr.nil n0
  have K0 := Keep.refl h0 [sg]
  obtain ⟨T1, X1, e1, st1⟩ := initO X0 hx hZ hown (w 22 rfl) (w 23 rfl) (w 24 rfl) e0 (g := (mkF m 1 #[vR sg, vR ub, vI 0] [.ref sg])) rfl (by rw [hml]; rfl) rfl (H 1 rfl) (by decide) (W := 0) (lq rfl) (by decide)
  obtain ⟨T2, h2, X2, e2, W2, st2⟩ := putF X1 hx hZ hown (host := "") (Or.inl (w 25 rfl)) Via.refl e1 P1 P0 (Or.inr ⟨(w 26 rfl), rfl, hnm⟩) (w 13 rfl) (ty := (.array .byte)) (by decide) rfl rfl (g := (mkF m 6 #[vR sg, vR ub, vI 0] [.ref ub, .ref sg])) rfl rfl (H 4 rfl)
  have f4 := P0.wr W2
  have f5 := P2.other W2 (Or.inr (slot_ne (Or.inr (w 28 rfl)) (Or.inr (w 26 rfl)) (by decide) (t := .byte) (t' := (.array .byte)) (by decide) (by decide)))
  have K2 := K0.wr W2 (own_m 0 rfl)
  have N2 := Fr.snoc X2 N0 g_sg
  obtain ⟨T6, h6, X6, e6, W6, st6⟩ := putFN X2 hx hZ hown (w 27 rfl) Via.refl e2 f5 f4 (Or.inr ⟨(w 28 rfl), rfl, hnm⟩) (w 13 rfl) (ty := .byte) (v' := (.int 0)) (by decide) rfl (fits_nar_byte (0 : Int32)) (g := (mkF m 11 #[vR sg, vR ub, vI 0] [.int 0, .ref sg])) rfl rfl (H 7 rfl)
  have f7 := f5.same W6
  have f9 := (P1.same W2).other W6 (Or.inr (slot_ne (Or.inr (w 26 rfl)) (Or.inr (w 28 rfl)) (by decide) (t := (.array .byte)) (t' := .byte) (by decide) (by decide)))
  have K6 := K2.wr W6 (own_m 0 rfl)
  have N6 := Fr.snoc X6 N2 g_sg
  obtain ⟨fs, hr, hrun, hended, hW, hsame⟩ := X6.leave (v := none) (fun _ => rfl)
  refine ⟨_, _, pre0 _ ?_, hrun, hended, _, _, rfl, ?_, ⟨_, rfl⟩, hW, hsame.mono (by decide) (by decide)⟩
  · show SG X0 0 #[vR sg, vR ub, vI 0] [] _
    refine XS.aloadN X0.here hx rfl (H 0 rfl) rfl rfl ?_
    refine st1 _ ?_
    show SG X1 4 #[vR sg, vR ub, vI 0] [] _
    refine XS.aloadN X1.here hx rfl (H 2 rfl) rfl rfl ?_
    refine XS.aloadN X1.here hx rfl (H 3 rfl) rfl rfl ?_
    refine st2 _ ?_
    show SG X2 9 #[vR sg, vR ub, vI 0] [] _
    refine XS.aloadN X2.here hx rfl (H 5 rfl) rfl rfl ?_
    refine XS.iloadN X2.here hx rfl (H 6 rfl) rfl ?_
    refine st6 _ ?_
    show SG X6 14 #[vR sg, vR ub, vI 0] [] _
    exact X6.returnOut hx Bd.returns (H 8 rfl) hr
  · show QSI Z sg ub h0 n0 _ T6.heap _
    rw [e6]
    exact ⟨rfl, N6, K6, f9, f7⟩

theorem pn_1 : plainName "java/lang/String" = true := by first | (simp [plainName, overriddenIn]; done) | decide +kernel
theorem ef_VO (m : MethodId) (ch : Int32) : entryFrame m #[.int ch] 1 = mkF m 0 #[.val (.int ch)] [] := by simp [entryFrame, mkF, argsToLocals, Value.category]
theorem pd_1 : parseMethodDescriptor "(C)Z" = some ⟨[.char], some .boolean⟩ := by decide +kernel
theorem pd_2 : parseMethodDescriptor "(C)[B" = some ⟨[.char], some (.array .byte)⟩ := by decide +kernel
theorem pd_3 : parseMethodDescriptor "([BB)V" = some ⟨[(.array .byte), .byte], none⟩ := by decide +kernel
def QVO (Z : State) (ch cs : Int32) (h0 : Heap) (n0 : Nat) (v : Option Value) (h : Heap) (L : List Loc) : Prop := ∃ xt : Addr, ∃ xb : Addr, ∃ xk : ClassId, v = some (.ref xt) ∧ Fr n0 L ∧ Keep h0 h [] ∧ h0.size ≤ xt ∧ h0.size ≤ xb ∧ Exa Z h xt sS ∧ Fld Z h xt sS "value" "[B" (.ref xb) ∧ Fld Z h xt sS "coder" "B" (.int 0) ∧ Arv Z h xb xk .byte (Int32.ofNat [(ch.toInt8.toInt32)].length) (own_iv [(ch.toInt8.toInt32)]) (.int 0)
theorem rmVO (l : Launch) (Z : State) (a0 : Array Value) (hw : HWd a0 Z) (ws : List Jvm.Cond) (ch cs : Int32) (h0 : Heap) (n0 : Nat) (Z0 : n0 ≤ h0.size) (P0 : Sta Z h0 sS sC "Z" (.int cs)) (hcs : ¬ cs = (0 : Int32)) (hc : ¬ (255 : Int32) < ch) :
    own_Met l Y_3 (Jvm.Cond.code Y_3 jdk_42_method_139_code 1 (some (.object "java/lang/String")) :: ws) (RM 2 2 5 27) #[.int ch] Z h0 (QVO Z ch cs h0 n0) := by
  refine own_bS pn_1 rfl D_1 (fun m => ef_VO m ch) hw fun p e s m below meth c sZ Bd hx hby hml hown hnm hh hZ X0 e0 w H pre0 => ?_
  have N0 := Fr.nil n0
  have K0 := Keep.refl h0 []
  obtain ⟨T1, X1, e1, st1⟩ := getS2 X0 hx hZ hown (host := "") (Or.inl (w 7 rfl)) Via.refl e0 P0 (g := (mkF m 0 #[vI ch] [])) rfl (H 0 rfl)
  obtain ⟨_, T2, lo2, Lc2, X2, N2, hQ2, st2⟩ := own_af (QCE Z ch h0 n0) 0 0 0 0 0 0 (Jvm.LawKit.callS X1 hx (y := Y_0) hown (mvT hZ (w 8 rfl)) (mvT hZ (w 9 rfl)) (mvT hZ (w 10 rfl)) (mvT hZ (w 11 rfl)) (by decide) (backOf (W := 0) (rmCE l Z a0 hw [] ch h0 n0 Z0 hc) hZ (w 11 rfl) (w 10 rfl) (by decide) (by decide)) (g := (mkF m 7 #[vI ch] [.int ch])) rfl (by rw [hml]; rfl) (argsL := [.int ch]) (rest := []) (lenOf pd_1 rfl) rfl (lq rfl) (H 3 rfl) (fun _ _ => ⟨rfl, e1, (by decide : 0 + 0 ≤ _), (by decide : 0 + 0 ≤ _)⟩)) N0 (fun _ _ _ h => h.2.1) rfl rfl
  dsimp only at st2
  obtain ⟨rfl, N2q, r2_0⟩ := hQ2
  obtain ⟨T3, h3, X3, e3, E3, A3, D3, -, st3⟩ := newO X2 hx hZ hown (w 12 rfl) (w 13 rfl) (w 5 rfl) r2_0 (g := (mkF m 13 #[vI ch] [])) rfl (H 5 rfl) (by decide) (by decide)
  obtain ⟨b3, g3⟩ : ∃ z, z = h0.size := ⟨_, rfl⟩
  rw [← g3] at A3 D3 st3
  have g_b3 : n0 ≤ b3 := Nat.le_trans Z0 (Nat.le_of_eq g3.symm)
  have sz_b3 : h0.size ≤ b3 := Nat.le_trans K0.1 (Nat.le_of_eq g3.symm)
  have K3 := K0.ext E3
  have Z3 : n0 ≤ h3.size := Nat.le_trans Z0 E3.1
  have f5 : Fld Z h3 b3 "java/lang/String" "value" "[B" .null := D3 (Or.inr (w 26 rfl)) (ty := (.array .byte)) (by decide)
  have f6 : Fld Z h3 b3 "java/lang/String" "coder" "B" (.int 0) := D3 (Or.inr (w 28 rfl)) (ty := .byte) (by decide)
  obtain ⟨_, T7, lo7, Lc7, X7, N7, hQ7, st7⟩ := own_af (QTB Z ch h3 n0) 1 1 4 1 2 5 (Jvm.LawKit.callS X3 hx (y := Y_1) hown (mvT hZ (w 14 rfl)) (mvT hZ (w 15 rfl)) (mvT hZ (w 10 rfl)) (mvT hZ (w 16 rfl)) (by decide) (backOf (W := 2) (rmTB l Z a0 hw [] ch h3 n0 Z3) hZ (w 16 rfl) (w 10 rfl) (by decide) (by decide)) (g := (mkF m 18 #[vI ch] [.int ch, .ref b3, .ref b3])) rfl (by rw [hml]; rfl) (argsL := [.int ch]) (rest := [.ref b3, .ref b3]) (lenOf pd_2 rfl) rfl (lq rfl) (H 8 rfl) (fun _ _ => ⟨rfl, e3, (by decide : 1 + 1 ≤ _), (by decide : 4 + 1 ≤ _)⟩)) N2 (by rintro _ _ _ ⟨_, _, -, N, -⟩; exact N) rfl rfl
  dsimp only at st7
  obtain ⟨x7_0, x7_1, rfl, N7q, r7_0, r7_1, r7_2⟩ := hQ7
  have sz_x7_0 : h0.size ≤ x7_0 := Nat.le_trans K3.1 r7_1
  have f9 := A3.keep r7_0
  have f10 := f5.keep r7_0 nin0
  have f11 := f6.keep r7_0 nin0
  have K7 := K3.trans r7_0 all0
  have Z7 : n0 ≤ T7.heap.size := Nat.le_trans Z3 r7_0.1
  obtain ⟨_, T12, lo12, Lc12, X12, N12, hQ12, st12⟩ := own_af (QSI Z b3 x7_0 T7.heap n0) 2 0 5 0 2 5 (X7.specialBack hx (y := Y_2) rfl hown (mvT hZ (w 18 rfl)) (mvT hZ (w 19 rfl)) (mvT hZ (w 21 rfl)) (by decide) (backOf (W := 1) (rmSI l Z a0 hw [] b3 x7_0 T7.heap n0 Z7 f9 f10 f11 g_b3) hZ (w 21 rfl) (w 5 rfl) (by decide) (by decide)) (g := (mkF m 22 #[vI ch] [.int 0, .ref x7_0, .ref b3, .ref b3])) rfl (by rw [hml]; rfl) (Steps.refl _) (a := b3) (argsL := [.ref x7_0, .int 0]) (rest := [.ref b3]) (lenOf pd_3 rfl) rfl (lq rfl) (H 10 rfl) (fun _ _ => ⟨rfl, rfl, (by decide : 2 + 0 ≤ _), (by decide : 5 + 0 ≤ _)⟩)) N7 (fun _ _ _ h => h.2.1) rfl rfl
  dsimp only at st12
  obtain ⟨rfl, N12q, r12_0, r12_1, r12_2⟩ := hQ12
  have f14 := f9.keep r12_0
  have ne15 : b3 ≠ x7_0 := Nat.ne_of_lt (Nat.lt_of_lt_of_le A3.lt r7_1)
  have f16 := r7_2.keep r12_0 (ninS (Ne.symm ne15) nin0)
  have K12 := K7.trans r12_0 (allS (Or.inr sz_b3) all0)
  obtain ⟨fs, hr, hrun, hended, hW, hsame⟩ := X12.leave (v := some (.ref b3)) (fun h => by rw [Bd.returns] at h; cases h)
  refine ⟨_, _, pre0 _ ?_, hrun, hended, _, _, rfl, ?_, ⟨_, rfl⟩, hW, hsame.mono (by decide) (by decide)⟩
  · show SG X0 0 #[vI ch] [] _
    refine st1 _ ?_
    show SG X1 3 #[vI ch] [.int cs] _
    refine XS.ifNo X1.here hx rfl (H 1 rfl) rfl ((if0 _ _).trans (feq hcs).1) ?_
    refine XS.iloadN X1.here hx rfl (H 2 rfl) rfl ?_
    refine st2 _ ?_
    show SG X2 10 #[vI ch] [.int 1] _
    refine XS.ifNo X2.here hx rfl (H 4 rfl) rfl ((if0 _ _).trans (feq (by decide : ¬ ((1 : Int32) = (0 : Int32)))).1) ?_
    refine st3 _ ?_
    show SG X3 16 #[vI ch] [.ref b3] _
    refine XS.dup X3.here hx rfl (H 6 rfl) rfl rfl ?_
    refine XS.iloadN X3.here hx rfl (H 7 rfl) rfl ?_
    refine st7 _ ?_
    show SG X7 21 #[vI ch] [.ref x7_0, .ref b3, .ref b3] _
    refine XS.iconst X7.here hx rfl (H 9 rfl) ?_
    refine st12.trans ?_
    show SG X12 25 #[vI ch] [.ref b3] _
    jvm_step X12.here [X12.here.top, hx, (H 11 rfl), X12.method', Bd.returns, Value.isRef, FieldType.isReference]
    first | (intro acts; rw [hr _ acts rfl rfl rfl]) | rw [hr _ _ rfl rfl rfl]
    exact Steps.refl _
  · show QVO Z ch cs h0 n0 _ T12.heap _
    exact ⟨b3, x7_0, x7_1, rfl, N12, K12, sz_b3, sz_x7_0, f14, r12_1, r12_2, f16⟩

theorem pn_8 : plainName "java/lang/AbstractStringBuilder" = true := by first | (simp [plainName, overriddenIn]; done) | decide +kernel
theorem ef_AI (m : MethodId) (ob : Addr) : entryFrame m #[.ref ob, .int 16] 2 = mkF m 0 #[.val (.ref ob), .val (.int 16)] [] := by simp [entryFrame, mkF, argsToLocals, Value.category]
def QAI (Z : State) (ob : Addr) (cs : Int32) (h0 : Heap) (n0 : Nat) (v : Option Value) (h : Heap) (L : List Loc) : Prop := ∃ xb : Addr, ∃ xk : ClassId, v = none ∧ Fr n0 L ∧ Keep h0 h [ob] ∧ h0.size ≤ xb ∧ Fld Z h ob sA "value" "[B" (.ref xb) ∧ Fld Z h ob sA "coder" "B" (.int 0) ∧ Fld Z h ob sA "count" "I" (.int 0) ∧ Arv Z h xb xk .byte (16 : Int32) (own_iv []) (.int 0)
theorem rmAI (l : Launch) (Z : State) (a0 : Array Value) (hw : HWd a0 Z) (ws : List Jvm.Cond) (ob : Addr) (cs : Int32) (h0 : Heap) (n0 : Nat) (Z0 : n0 ≤ h0.size) (P0 : Exa Z h0 ob sB) (P1 : Fld Z h0 ob sA "value" "[B" .null) (P2 : Fld Z h0 ob sA "coder" "B" (.int 0)) (P3 : Fld Z h0 ob sA "count" "I" (.int 0)) (P4 : Sta Z h0 sS sC "Z" (.int cs)) (hcs : ¬ cs = (0 : Int32)) (g_ob : n0 ≤ ob) :
    own_Met l Y_4 (Jvm.Cond.code Y_4 jdk_68_method_2_code 2 none :: ws) (RM 1 1 16 12) #[.ref ob, .int 16] Z h0 (QAI Z ob cs h0 n0) := by
  refine own_bS pn_8 rfl D_8 (fun m => ef_AI m ob) hw fun p e s m below meth c sZ Bd hx hby hml hown hnm hh hZ X0 e0 w H pre0 => ?_
  have N0 := Fr.nil n0
  have K0 := Keep.refl h0 [ob]
  obtain ⟨T1, X1, e1, st1⟩ := initO X0 hx hZ hown (w 47 rfl) (w 23 rfl) (w 24 rfl) e0 (g := (mkF m 1 #[vR ob, vI 16] [.ref ob])) rfl (by rw [hml]; rfl) rfl (H 1 rfl) (by decide) (W := 0) (lq rfl) (by decide)
  obtain ⟨T2, X2, e2, st2⟩ := getS2 X1 hx hZ hown (host := "") (Or.inl (w 48 rfl)) Via.refl e1 P4 (g := (mkF m 4 #[vR ob, vI 16] [])) rfl (H 2 rfl)
  obtain ⟨T3, h3, k3, X3, e3, E3, A3, st3⟩ := newP X2 hx hZ (w 17 rfl) e2 (g := (mkF m 12 #[vR ob, vI 16] [.int 16, .ref ob])) rfl (H 6 rfl) rfl (by decide) (cap := 16) (by decide) (by decide) (by decide) (by decide)
  obtain ⟨b3, g3⟩ : ∃ z, z = h0.size := ⟨_, rfl⟩
  rw [← g3] at A3 st3
  have sz_b3 : h0.size ≤ b3 := Nat.le_trans K0.1 (Nat.le_of_eq g3.symm)
  have ne4 : ob ≠ b3 := Nat.ne_of_lt (Nat.lt_of_lt_of_le P0.lt (Nat.le_of_eq g3.symm))
  have f5 := P0.ext E3
  have f6 := P1.ext E3
  have K3 := K0.ext E3
  have U3 : Arv Z h3 b3 k3 .byte (16 : Int32) (own_iv []) (.int 0) := Arv.new A3 (by decide)
  obtain ⟨T10, h10, X10, e10, W10, st10⟩ := putF X3 hx hZ hown (host := "") (Or.inl (w 49 rfl)) Via.refl e3 f6 f5 (Or.inl (w 50 rfl)) (w 36 rfl) (ty := (.array .byte)) (by decide) rfl rfl (g := (mkF m 14 #[vR ob, vI 16] [.ref b3, .ref ob])) rfl rfl (H 7 rfl)
  have f12 := f5.wr W10
  have f13 := (P2.ext E3).other W10 (Or.inr (slot_ne (Or.inl (w 52 rfl)) (Or.inl (w 50 rfl)) (by decide) (t := .byte) (t' := (.array .byte)) (by decide) (by decide)))
  have K10 := K3.wr W10 (own_m 0 rfl)
  have N10 := Fr.snoc X10 N0 g_ob
  obtain ⟨T17, h17, X17, e17, W17, st17⟩ := putFN X10 hx hZ hown (w 51 rfl) Via.refl e10 f13 f12 (Or.inl (w 52 rfl)) (w 36 rfl) (ty := .byte) (v' := (.int 0)) (by decide) rfl (fits_nar_byte (0 : Int32)) (g := (mkF m 19 #[vR ob, vI 16] [.int 0, .ref ob])) rfl rfl (H 10 rfl)
  have f18 := f13.same W17
  have f20 := (f6.same W10).other W17 (Or.inr (slot_ne (Or.inl (w 50 rfl)) (Or.inl (w 52 rfl)) (by decide) (t := (.array .byte)) (t' := .byte) (by decide) (by decide)))
  have f21 := ((P3.ext E3).other W10 (Or.inr (slot_ne (Or.inl (w 98 rfl)) (Or.inl (w 50 rfl)) (by decide) (t := .int) (t' := (.array .byte)) (by decide) (by decide)))).other W17 (Or.inr (slot_ne (Or.inl (w 98 rfl)) (Or.inl (w 52 rfl)) (by decide) (t := .int) (t' := .byte) (by decide) (by decide)))
  have f23 := (U3.other W10 (Ne.symm ne4)).other W17 (Ne.symm ne4)
  have K17 := K10.wr W17 (own_m 0 rfl)
  have N17 := Fr.snoc X17 N10 g_ob
  obtain ⟨fs, hr, hrun, hended, hW, hsame⟩ := X17.leave (v := none) (fun _ => rfl)
  refine ⟨_, _, pre0 _ ?_, hrun, hended, _, _, rfl, ?_, ⟨_, rfl⟩, hW, hsame.mono (by decide) (by decide)⟩
  · show SG X0 0 #[vR ob, vI 16] [] _
    refine XS.aloadN X0.here hx rfl (H 0 rfl) rfl rfl ?_
    refine st1 _ ?_
    show SG X1 4 #[vR ob, vI 16] [] _
    refine st2 _ ?_
    show SG X2 7 #[vR ob, vI 16] [.int cs] _
    refine XS.ifNo X2.here hx rfl (H 3 rfl) rfl ((if0 _ _).trans (feq hcs).1) ?_
    refine XS.aloadN X2.here hx rfl (H 4 rfl) rfl rfl ?_
    refine XS.iloadN X2.here hx rfl (H 5 rfl) rfl ?_
    refine st3 _ ?_
    show SG X3 14 #[vR ob, vI 16] [.ref b3, .ref ob] _
    refine st10 _ ?_
    show SG X10 17 #[vR ob, vI 16] [] _
    refine XS.aloadN X10.here hx rfl (H 8 rfl) rfl rfl ?_
    refine XS.iconst X10.here hx rfl (H 9 rfl) ?_
    refine st17 _ ?_
    show SG X17 22 #[vR ob, vI 16] [] _
    refine XS.goto X17.here hx rfl (pc0 := 22) (pc' := 38) rfl (H 11 rfl) (by decide) (by decide) ?_
    exact X17.returnOut hx Bd.returns (H 12 rfl) hr
  · show QAI Z ob cs h0 n0 _ T17.heap _
    rw [e17]
    exact ⟨b3, k3, rfl, N17, K17, sz_b3, f20, f18, f21, f23⟩

theorem pn_7 : plainName "java/lang/StringBuilder" = true := by first | (simp [plainName, overriddenIn]; done) | decide +kernel
theorem ef_BI (m : MethodId) (ob : Addr) : entryFrame m #[.ref ob] 1 = mkF m 0 #[.val (.ref ob)] [] := by simp [entryFrame, mkF, argsToLocals, Value.category]
theorem pd_6 : parseMethodDescriptor "(I)V" = some ⟨[.int], none⟩ := by decide +kernel
def QBI (Z : State) (ob : Addr) (cs : Int32) (h0 : Heap) (n0 : Nat) (v : Option Value) (h : Heap) (L : List Loc) : Prop := ∃ xb : Addr, ∃ xk : ClassId, v = none ∧ Fr n0 L ∧ Keep h0 h [ob] ∧ h0.size ≤ xb ∧ Fld Z h ob sA "value" "[B" (.ref xb) ∧ Fld Z h ob sA "coder" "B" (.int 0) ∧ Fld Z h ob sA "count" "I" (.int 0) ∧ Arv Z h xb xk .byte (16 : Int32) (own_iv []) (.int 0)
theorem rmBI (l : Launch) (Z : State) (a0 : Array Value) (hw : HWd a0 Z) (ws : List Jvm.Cond) (ob : Addr) (cs : Int32) (h0 : Heap) (n0 : Nat) (Z0 : n0 ≤ h0.size) (P0 : Exa Z h0 ob sB) (P1 : Fld Z h0 ob sA "value" "[B" .null) (P2 : Fld Z h0 ob sA "coder" "B" (.int 0)) (P3 : Fld Z h0 ob sA "count" "I" (.int 0)) (P4 : Sta Z h0 sS sC "Z" (.int cs)) (hcs : ¬ cs = (0 : Int32)) (g_ob : n0 ≤ ob) :
    own_Met l Y_5 (Jvm.Cond.code Y_5 jdk_67_method_1_code 1 none :: ws) (RM 2 1 16 25) #[.ref ob] Z h0 (QBI Z ob cs h0 n0) := by
  refine own_bS pn_7 rfl D_7 (fun m => ef_BI m ob) hw fun p e s m below meth c sZ Bd hx hby hml hown hnm hh hZ X0 e0 w H pre0 => ?_
  have N0 := Fr.nil n0
  have K0 := Keep.refl h0 [ob]
  obtain ⟨_, T1, lo1, Lc1, X1, N1, hQ1, st1⟩ := own_af (QAI Z ob cs h0 n0) 0 1 0 16 1 16 (X0.specialBack hx (y := Y_4) rfl hown (mvT hZ (w 41 rfl)) (mvT hZ (w 42 rfl)) (mvT hZ (w 46 rfl)) (by decide) (backOf (W := 0) (rmAI l Z a0 hw [] ob cs h0 n0 Z0 P0 P1 P2 P3 P4 hcs g_ob) hZ (w 46 rfl) (w 45 rfl) (by decide) (by decide)) (g := (mkF m 3 #[vR ob] [.int 16, .ref ob])) rfl (by rw [hml]; rfl) (Steps.refl _) (a := ob) (argsL := [.int 16]) (rest := []) (lenOf pd_6 rfl) rfl (lq rfl) (H 2 rfl) (fun _ _ => ⟨rfl, e0, (by decide : 0 + 1 ≤ _), (by decide : 0 + 16 ≤ _)⟩)) N0 (by rintro _ _ _ ⟨_, _, -, N, -⟩; exact N) rfl rfl
  dsimp only at st1
  obtain ⟨x1_0, x1_1, rfl, N1q, r1_0, r1_1, r1_2, r1_3, r1_4, r1_5⟩ := hQ1
  have sz_x1_0 : h0.size ≤ x1_0 := Nat.le_trans K0.1 r1_1
  have K1 := K0.trans r1_0 (allS (own_m 0 rfl) all0)
  obtain ⟨fs, hr, hrun, hended, hW, hsame⟩ := X1.leave (v := none) (fun _ => rfl)
  refine ⟨_, _, pre0 _ ?_, hrun, hended, _, _, rfl, ?_, ⟨_, rfl⟩, hW, hsame.mono (by decide) (by decide)⟩
  · show SG X0 0 #[vR ob] [] _
    refine XS.aloadN X0.here hx rfl (H 0 rfl) rfl rfl ?_
    refine XS.bipush X0.here hx rfl (H 1 rfl) ?_
    refine st1.trans ?_
    show SG X1 6 #[vR ob] [] _
    exact X1.returnOut hx Bd.returns (H 3 rfl) hr
  · show QBI Z ob cs h0 n0 _ T1.heap _
    exact ⟨x1_0, x1_1, rfl, N1, K1, sz_x1_0, r1_2, r1_3, r1_4, r1_5⟩

theorem pn_10 : plainName "java/util/AbstractCollection" = true := by first | (simp [plainName, overriddenIn]; done) | decide +kernel
theorem ef_CI (m : MethodId) (dq : Addr) : entryFrame m #[.ref dq] 1 = mkF m 0 #[.val (.ref dq)] [] := by simp [entryFrame, mkF, argsToLocals, Value.category]
def QCI (Z : State) (dq : Addr) (h0 : Heap) (n0 : Nat) (v : Option Value) (h : Heap) (L : List Loc) : Prop := v = none ∧ Fr n0 L ∧ h = h0
theorem rmCI (l : Launch) (Z : State) (a0 : Array Value) (hw : HWd a0 Z) (ws : List Jvm.Cond) (dq : Addr) (h0 : Heap) (n0 : Nat) (Z0 : n0 ≤ h0.size) (P0 : Exa Z h0 dq sD) :
    own_Met l Y_6 (Jvm.Cond.code Y_6 jdk_22_method_1_code 1 none :: ws) (RM 1 0 0 12) #[.ref dq] Z h0 (QCI Z dq h0 n0) := by
  refine own_bS pn_10 rfl D_10 (fun m => ef_CI m dq) hw fun p e s m below meth c sZ Bd hx hby hml hown hnm hh hZ X0 e0 w H pre0 => ?_
  have N0 := Fr.nil n0
  obtain ⟨T1, X1, e1, st1⟩ := initO X0 hx hZ hown (w 67 rfl) (w 23 rfl) (w 24 rfl) e0 (g := (mkF m 1 #[vR dq] [.ref dq])) rfl (by rw [hml]; rfl) rfl (H 1 rfl) (by decide) (W := 0) (lq rfl) (by decide)
  obtain ⟨fs, hr, hrun, hended, hW, hsame⟩ := X1.leave (v := none) (fun _ => rfl)
  refine ⟨_, _, pre0 _ ?_, hrun, hended, _, _, rfl, ?_, ⟨_, rfl⟩, hW, hsame.mono (by decide) (by decide)⟩
  · show SG X0 0 #[vR dq] [] _
    refine XS.aloadN X0.here hx rfl (H 0 rfl) rfl rfl ?_
    refine st1 _ ?_
    show SG X1 4 #[vR dq] [] _
    exact X1.returnOut hx Bd.returns (H 2 rfl) hr
  · show QCI Z dq h0 n0 _ T1.heap _
    rw [e1]
    exact ⟨rfl, N0, rfl⟩

theorem pn_9 : plainName "java/util/ArrayDeque" = true := by first | (simp [plainName, overriddenIn]; done) | decide +kernel
theorem ef_DI (m : MethodId) (dq : Addr) : entryFrame m #[.ref dq] 1 = mkF m 0 #[.val (.ref dq)] [] := by simp [entryFrame, mkF, argsToLocals, Value.category]
theorem pd_4 : parseMethodDescriptor "()V" = some ⟨[], none⟩ := by decide +kernel
def QDI (Z : State) (dq : Addr) (h0 : Heap) (n0 : Nat) (v : Option Value) (h : Heap) (L : List Loc) : Prop := ∃ xb : Addr, ∃ xk : ClassId, v = none ∧ Fr n0 L ∧ Keep h0 h [dq] ∧ h0.size ≤ xb ∧ Fld Z h dq sD "elements" sLO (.ref xb) ∧ Fld Z h dq sD "head" "I" (.int 0) ∧ Fld Z h dq sD "tail" "I" (.int 0) ∧ Arv Z h xb xk (.object sO) (17 : Int32) [.null, .null, .null, .null, .null, .null, .null, .null, .null, .null, .null, .null, .null, .null, .null, .null, .null] .null ∧ Ovr Z xk sO
theorem rmDI (l : Launch) (Z : State) (a0 : Array Value) (hw : HWd a0 Z) (ws : List Jvm.Cond) (dq : Addr) (h0 : Heap) (n0 : Nat) (Z0 : n0 ≤ h0.size) (P0 : Exa Z h0 dq sD) (P1 : Fld Z h0 dq sD "elements" sLO .null) (P2 : Fld Z h0 dq sD "head" "I" (.int 0)) (P3 : Fld Z h0 dq sD "tail" "I" (.int 0)) (g_dq : n0 ≤ dq) :
    own_Met l Y_7 (Jvm.Cond.code Y_7 jdk_21_method_3_code 1 none :: ws) (RM 2 1 17 24) #[.ref dq] Z h0 (QDI Z dq h0 n0) := by
  refine own_bS pn_9 rfl D_9 (fun m => ef_DI m dq) hw fun p e s m below meth c sZ Bd hx hby hml hown hnm hh hZ X0 e0 w H pre0 => ?_
  have N0 := Fr.nil n0
  have K0 := Keep.refl h0 [dq]
  obtain ⟨_, T1, lo1, Lc1, X1, N1, hQ1, st1⟩ := own_af (QCI Z dq h0 n0) 0 0 0 0 0 0 (X0.specialBack hx (y := Y_6) rfl hown (mvT hZ (w 61 rfl)) (mvT hZ (w 62 rfl)) (mvT hZ (w 66 rfl)) (by decide) (backOf (W := 0) (rmCI l Z a0 hw [] dq h0 n0 Z0 P0) hZ (w 66 rfl) (w 65 rfl) (by decide) (by decide)) (g := (mkF m 1 #[vR dq] [.ref dq])) rfl (by rw [hml]; rfl) (Steps.refl _) (a := dq) (argsL := []) (rest := []) (lenOf pd_4 rfl) rfl (lq rfl) (H 1 rfl) (fun _ _ => ⟨rfl, e0, (by decide : 0 + 0 ≤ _), (by decide : 0 + 0 ≤ _)⟩)) N0 (fun _ _ _ h => h.2.1) rfl rfl
  dsimp only at st1
  obtain ⟨rfl, N1q, r1_0⟩ := hQ1
  obtain ⟨T2, h2, k2, X2, e2, E2, A2, O2, st2⟩ := newR X1 hx hZ hown (w 68 rfl) (w 69 rfl) r1_0 (g := (mkF m 7 #[vR dq] [.int 17, .ref dq])) rfl (H 4 rfl) rfl (by decide) (cap := 17) (by decide) (by decide) (by decide) (by decide)
  obtain ⟨b2, g2⟩ : ∃ z, z = h0.size := ⟨_, rfl⟩
  rw [← g2] at A2 st2
  have sz_b2 : h0.size ≤ b2 := Nat.le_trans K0.1 (Nat.le_of_eq g2.symm)
  have ne3 : dq ≠ b2 := Nat.ne_of_lt (Nat.lt_of_lt_of_le P0.lt (Nat.le_of_eq g2.symm))
  have f4 := P0.ext E2
  have f5 := P1.ext E2
  have K2 := K0.ext E2
  have V2 : Arv Z h2 b2 k2 (.object "java/lang/Object") (17 : Int32) [.null, .null, .null, .null, .null, .null, .null, .null, .null, .null, .null, .null, .null, .null, .null, .null, .null] .null := (Arv.new A2 (by decide)).pad (pad_rep [] .null 17)
  obtain ⟨T8, h8, X8, e8, W8, st8⟩ := putF X2 hx hZ hown (host := "") (Or.inl (w 70 rfl)) Via.refl e2 f5 f4 (Or.inl (w 71 rfl)) (w 56 rfl) (ty := (.array (.object "java/lang/Object"))) (by decide) rfl rfl (g := (mkF m 10 #[vR dq] [.ref b2, .ref dq])) rfl rfl (H 5 rfl)
  have f9 := f5.same W8
  have f11 := (P2.ext E2).other W8 (Or.inr (slot_ne (Or.inl (w 188 rfl)) (Or.inl (w 71 rfl)) (by decide) (t := .int) (t' := (.array (.object "java/lang/Object"))) (by decide) (by decide)))
  have f12 := (P3.ext E2).other W8 (Or.inr (slot_ne (Or.inl (w 186 rfl)) (Or.inl (w 71 rfl)) (by decide) (t := .int) (t' := (.array (.object "java/lang/Object"))) (by decide) (by decide)))
  have f13 := V2.other W8 (Ne.symm ne3)
  have K8 := K2.wr W8 (own_m 0 rfl)
  have N8 := Fr.snoc X8 N1 g_dq
  obtain ⟨fs, hr, hrun, hended, hW, hsame⟩ := X8.leave (v := none) (fun _ => rfl)
  refine ⟨_, _, pre0 _ ?_, hrun, hended, _, _, rfl, ?_, ⟨_, rfl⟩, hW, hsame.mono (by decide) (by decide)⟩
  · show SG X0 0 #[vR dq] [] _
    refine XS.aloadN X0.here hx rfl (H 0 rfl) rfl rfl ?_
    refine st1.trans ?_
    show SG X1 4 #[vR dq] [] _
    refine XS.aloadN X1.here hx rfl (H 2 rfl) rfl rfl ?_
    refine XS.bipush X1.here hx rfl (H 3 rfl) ?_
    refine st2 _ ?_
    show SG X2 10 #[vR dq] [.ref b2, .ref dq] _
    refine st8 _ ?_
    show SG X8 13 #[vR dq] [] _
    exact X8.returnOut hx Bd.returns (H 6 rfl) hr
  · show QDI Z dq h0 n0 _ T8.heap _
    rw [e8]
    exact ⟨b2, k2, rfl, N8, K8, sz_b2, f9, f11, f12, f13, O2⟩

theorem pn_14 : plainName "java/lang/String" = true := by first | (simp [plainName, overriddenIn]; done) | decide +kernel
theorem ef_SC (m : MethodId) (sg : Addr) : entryFrame m #[.ref sg] 1 = mkF m 0 #[.val (.ref sg)] [] := by simp [entryFrame, mkF, argsToLocals, Value.category]
def QSC (Z : State) (sg : Addr) (cs : Int32) (h0 : Heap) (n0 : Nat) (v : Option Value) (h : Heap) (L : List Loc) : Prop := v = some (.int 0) ∧ Fr n0 L ∧ h = h0
theorem rmSC (l : Launch) (Z : State) (a0 : Array Value) (hw : HWd a0 Z) (ws : List Jvm.Cond) (sg : Addr) (cs : Int32) (h0 : Heap) (n0 : Nat) (Z0 : n0 ≤ h0.size) (P0 : Fld Z h0 sg sS "coder" "B" (.int 0)) (P1 : Exa Z h0 sg sS) (P2 : Sta Z h0 sS sC "Z" (.int cs)) (hcs : ¬ cs = (0 : Int32)) :
    own_Met l Y_8 (Jvm.Cond.code Y_8 jdk_42_method_152_code 1 (some .byte) :: ws) (RM 0 0 0 0) #[.ref sg] Z h0 (QSC Z sg cs h0 n0) := by
  refine own_bS pn_14 rfl D_14 (fun m => ef_SC m sg) hw fun p e s m below meth c sZ Bd hx hby hml hown hnm hh hZ X0 e0 w H pre0 => ?_
  have N0 := Fr.nil n0
  obtain ⟨T1, X1, e1, st1⟩ := getS2 X0 hx hZ hown (host := "") (Or.inl (w 7 rfl)) Via.refl e0 P2 (g := (mkF m 0 #[vR sg] [])) rfl (H 0 rfl)
  obtain ⟨T2, X2, e2, st2⟩ := getF X1 hx hZ hown (host := "") (Or.inl (w 27 rfl)) Via.refl e1 P0 (g := (mkF m 7 #[vR sg] [.ref sg])) rfl rfl (H 3 rfl)
  obtain ⟨fs, hr, hrun, hended, hW, hsame⟩ := X2.leave (v := some (.int 0)) (fun h => by rw [Bd.returns] at h; cases h)
  refine ⟨_, _, pre0 _ ?_, hrun, hended, _, _, rfl, ?_, ⟨_, rfl⟩, hW, hsame.mono (by decide) (by decide)⟩
  · show SG X0 0 #[vR sg] [] _
    refine st1 _ ?_
    show SG X1 3 #[vR sg] [.int cs] _
    refine XS.ifNo X1.here hx rfl (H 1 rfl) rfl ((if0 _ _).trans (feq hcs).1) ?_
    refine XS.aloadN X1.here hx rfl (H 2 rfl) rfl rfl ?_
    refine st2 _ ?_
    show SG X2 10 #[vR sg] [.int 0] _
    refine XS.goto X2.here hx rfl (pc0 := 10) (pc' := 14) rfl (H 4 rfl) (by decide) (by decide) ?_
    exact retN X2 hx (t := .byte) Bd.returns (by simp) (H 5 rfl) hr
  · show QSC Z sg cs h0 n0 _ T2.heap _
    rw [e2]
    exact ⟨rfl, N0, rfl⟩

theorem pn_13 : plainName "java/lang/String" = true := by first | (simp [plainName, overriddenIn]; done) | decide +kernel
theorem ef_SL (m : MethodId) (sg : Addr) : entryFrame m #[.ref sg] 1 = mkF m 0 #[.val (.ref sg)] [] := by simp [entryFrame, mkF, argsToLocals, Value.category]
theorem pd_10 : parseMethodDescriptor "()B" = some ⟨[], some .byte⟩ := by decide +kernel
def QSL (Z : State) (sg ub : Addr) (ku : ClassId) (us : List Int32) (cs : Int32) (h0 : Heap) (n0 : Nat) (v : Option Value) (h : Heap) (L : List Loc) : Prop := v = some (.int (Int32.ofNat us.length)) ∧ Fr n0 L ∧ h = h0
theorem rmSL (l : Launch) (Z : State) (a0 : Array Value) (hw : HWd a0 Z) (ws : List Jvm.Cond) (sg ub : Addr) (ku : ClassId) (us : List Int32) (cs : Int32) (h0 : Heap) (n0 : Nat) (Z0 : n0 ≤ h0.size) (P0 : Exa Z h0 sg sS) (P1 : Fld Z h0 sg sS "value" "[B" (.ref ub)) (P2 : Fld Z h0 sg sS "coder" "B" (.int 0)) (P3 : Arv Z h0 ub ku .byte (Int32.ofNat us.length) (own_iv us) (.int 0)) (P4 : Sta Z h0 sS sC "Z" (.int cs)) (hcs : ¬ cs = (0 : Int32)) :
    own_Met l Y_9 (Jvm.Cond.code Y_9 jdk_42_method_54_code 1 (some .int) :: ws) (RM 1 0 0 13) #[.ref sg] Z h0 (QSL Z sg ub ku us cs h0 n0) := by
  refine own_bS pn_13 rfl D_13 (fun m => ef_SL m sg) hw fun p e s m below meth c sZ Bd hx hby hml hown hnm hh hZ X0 e0 w H pre0 => ?_
  have N0 := Fr.nil n0
  obtain ⟨T1, X1, e1, st1⟩ := getF X0 hx hZ hown (host := "") (Or.inl (w 25 rfl)) Via.refl e0 P1 (g := (mkF m 1 #[vR sg] [.ref sg])) rfl rfl (H 1 rfl)
  obtain ⟨cq2, kq2, q2a, q2b, q2c⟩ := isOf hZ e1 P0
  obtain ⟨_, T2, lo2, Lc2, X2, N2, hQ2, st2⟩ := own_af (QSC Z sg cs h0 n0) 0 0 0 0 0 0 (X1.virtualBack hx (y := Y_8) (z := Y_8) hown (mvT hZ (w 92 rfl)) (mvT hZ (w 93 rfl)) (own_ns hZ (w 95 rfl)) (mvT hZ (w 95 rfl)) (mvT hZ (w 94 rfl)) (by decide) (backOf (W := 1) (rmSC l Z a0 hw [] sg cs h0 n0 Z0 P2 P0 P4 hcs) hZ (w 96 rfl) (w 5 rfl) (by decide) (by decide)) q2a q2c (g := (mkF m 6 #[vR sg] [.ref sg, .int (Int32.ofNat us.length)])) rfl (by rw [hml]; rfl) (Steps.refl _) (argsL := []) (rest := [.int (Int32.ofNat us.length)]) (lenOf pd_10 rfl) rfl (lq rfl) (H 4 rfl) (fun _ _ => ⟨rfl, e1, (by decide : 0 + 0 ≤ _), (by decide : 0 + 0 ≤ _)⟩)) N0 (fun _ _ _ h => h.2.1) rfl rfl
  dsimp only at st2
  obtain ⟨rfl, N2q, r2_0⟩ := hQ2
  obtain ⟨fs, hr, hrun, hended, hW, hsame⟩ := X2.leave (v := some (.int (Int32.ofNat us.length))) (fun h => by rw [Bd.returns] at h; cases h)
  refine ⟨_, _, pre0 _ ?_, hrun, hended, _, _, rfl, ?_, ⟨_, rfl⟩, hW, hsame.mono (by decide) (by decide)⟩
  · show SG X0 0 #[vR sg] [] _
    refine XS.aloadN X0.here hx rfl (H 0 rfl) rfl rfl ?_
    refine st1 _ ?_
    show SG X1 4 #[vR sg] [.ref ub] _
    refine own_alen X1 hx hZ e1 P3 (H 2 rfl) ?_
    refine XS.aloadN X1.here hx rfl (H 3 rfl) rfl rfl ?_
    refine st2.trans ?_
    show SG X2 9 #[vR sg] [.int 0, .int (Int32.ofNat us.length)] _
    refine XS.ishr X2.here hx rfl (H 5 rfl) rfl ?_
    show SG X2 10 #[vR sg] [.int ((Int32.ofNat us.length) >>> ((0 : Int32) &&& 31))] _
    rw [(own_shr (Int32.ofNat us.length))]
    show SG X2 10 #[vR sg] [.int (Int32.ofNat us.length)] _
    exact retI X2 hx Bd.returns (H 6 rfl) hr
  · show QSL Z sg ub ku us cs h0 n0 _ T2.heap _
    rw [r2_0]
    exact ⟨rfl, N2, rfl⟩

theorem pn_15 : plainName "java/lang/AbstractStringBuilder" = true := by first | (simp [plainName, overriddenIn]; done) | decide +kernel
theorem ef_EN (m : MethodId) (ob : Addr) (mn : Int32) : entryFrame m #[.ref ob, .int mn] 3 = mkF m 0 #[.val (.ref ob), .val (.int mn), .unset] [] := by simp [entryFrame, mkF, argsToLocals, Value.category]
def QEN (Z : State) (ob : Addr) (mn : Int32) (bb : Addr) (kb : ClassId) (bs : List Int32) (h0 : Heap) (n0 : Nat) (v : Option Value) (h : Heap) (L : List Loc) : Prop := v = none ∧ Fr n0 L ∧ h = h0
theorem rmEN (l : Launch) (Z : State) (a0 : Array Value) (hw : HWd a0 Z) (ws : List Jvm.Cond) (ob : Addr) (mn : Int32) (bb : Addr) (kb : ClassId) (bs : List Int32) (h0 : Heap) (n0 : Nat) (Z0 : n0 ≤ h0.size) (P0 : Exa Z h0 ob sB) (P1 : Fld Z h0 ob sA "value" "[B" (.ref bb)) (P2 : Fld Z h0 ob sA "coder" "B" (.int 0)) (P3 : Arv Z h0 bb kb .byte (78 : Int32) (own_iv bs) (.int 0)) (hno : ¬ (0 : Int32) < (mn - (78 : Int32))) :
    own_Met l Y_10 (Jvm.Cond.code Y_10 jdk_68_method_9_code 3 none :: ws) (RM 0 0 0 0) #[.ref ob, .int mn] Z h0 (QEN Z ob mn bb kb bs h0 n0) := by
  refine own_bS pn_15 rfl D_15 (fun m => ef_EN m ob mn) hw fun p e s m below meth c sZ Bd hx hby hml hown hnm hh hZ X0 e0 w H pre0 => ?_
  have N0 := Fr.nil n0
  obtain ⟨T1, X1, e1, st1⟩ := getF X0 hx hZ hown (host := "") (Or.inl (w 49 rfl)) Via.refl e0 P1 (g := (mkF m 1 #[vR ob, vI mn, vU] [.ref ob])) rfl rfl (H 1 rfl)
  obtain ⟨T2, X2, e2, st2⟩ := getF X1 hx hZ hown (host := "") (Or.inl (w 51 rfl)) Via.refl e1 P2 (g := (mkF m 6 #[vR ob, vI mn, vU] [.ref ob, .int 78])) rfl rfl (H 4 rfl)
  obtain ⟨fs, hr, hrun, hended, hW, hsame⟩ := X2.leave (v := none) (fun _ => rfl)
  refine ⟨_, _, pre0 _ ?_, hrun, hended, _, _, rfl, ?_, ⟨_, rfl⟩, hW, hsame.mono (by decide) (by decide)⟩
  · show SG X0 0 #[vR ob, vI mn, vU] [] _
    refine XS.aloadN X0.here hx rfl (H 0 rfl) rfl rfl ?_
    refine st1 _ ?_
    show SG X1 4 #[vR ob, vI mn, vU] [.ref bb] _
    refine own_alen X1 hx hZ e1 P3 (H 2 rfl) ?_
    refine XS.aloadN X1.here hx rfl (H 3 rfl) rfl rfl ?_
    refine st2 _ ?_
    show SG X2 9 #[vR ob, vI mn, vU] [.int 0, .int 78] _
    refine XS.ishr X2.here hx rfl (H 5 rfl) rfl ?_
    show SG X2 10 #[vR ob, vI mn, vU] [.int ((78 : Int32) >>> ((0 : Int32) &&& 31))] _
    rw [(own_shr (78 : Int32))]
    show SG X2 10 #[vR ob, vI mn, vU] [.int 78] _
    refine XS.istoreN X2.here hx rfl (H 6 rfl) rfl (l' := #[vR ob, vI mn, vI 78]) rfl ?_
    refine XS.iloadN X2.here hx rfl (H 7 rfl) rfl ?_
    refine XS.iloadN X2.here hx rfl (H 8 rfl) rfl ?_
    refine XS.isub X2.here hx rfl (H 9 rfl) rfl ?_
    refine XS.ifYes X2.here hx rfl (pc0 := 14) (pc' := 38) rfl (H 10 rfl) rfl ((if0 _ _).trans (flt (hno : ¬ ((0 : Int32) < (mn - (78 : Int32))))).2.2.2) (by decide) (by decide) ?_
    exact X2.returnOut hx Bd.returns (H 22 rfl) hr
  · show QEN Z ob mn bb kb bs h0 n0 _ T2.heap _
    rw [e2]
    exact ⟨rfl, N0, rfl⟩

theorem ef_MX22 (m : MethodId)  : entryFrame m #[.int 22, .int 18] 2 = mkF m 0 #[.val (.int 22), .val (.int 18)] [] := by simp [entryFrame, mkF, argsToLocals, Value.category]
def QMX22 (Z : State)  (h0 : Heap) (n0 : Nat) (v : Option Value) (h : Heap) (L : List Loc) : Prop := v = some (.int 22) ∧ Fr n0 L ∧ h = h0
theorem rmMX22 (l : Launch) (Z : State) (a0 : Array Value) (hw : HWd a0 Z) (ws : List Jvm.Cond)  (h0 : Heap) (n0 : Nat) (Z0 : n0 ≤ h0.size) :
    own_Met l Y_11 (Jvm.Cond.code Y_11 jdk_29_method_65_code 2 (some .int) :: ws) (RM 0 0 0 0) #[.int 22, .int 18] Z h0 (QMX22 Z  h0 n0) := by
  refine MetFree.of_bodySF (Jvm.Free.JP.mathPlain rfl (by decide +kernel)) hisR ?_
  intro p e s m args below meth c sZ Bd hml0 hP hK
  obtain ⟨rfl, hZ, hh⟩ := hP
  have hx := Bd.exec
  have w := @own_w Z a0 hw
  have hby := Bd.bytes
  have H := @own_hb _ _ _ hby D_18
  have hml : c.maxLocals = 2 := hml0
  have hown : s.vm.findClass "java/lang/Math" = some m.cls := findClass_of_methodNamed Bd.named
  have hnm := (name_of_methodNamed Bd.named Bd.method).1
  have X0 : Stand p l e (RM 0 0 0 0) s m #[.int 22, .int 18] below meth c sZ [] 0 0 := Stand.of_body Bd
  have e0 : sZ.heap = h0 := by rw [← hh, Bd.state]; rfl
  have N0 := Fr.nil n0
  have pre0 : Goes p e below sZ (entryFrame m #[.int 22, .int 18] 2) sZ (mkF m 0 #[vI 22, vI 18] []) := fun t k => castTop (ef_MX22 m ) k
  obtain ⟨fs, hr, hrun, hended, hW, hsame⟩ := X0.leave (v := some (.int 22)) (fun h => by rw [Bd.returns] at h; cases h)
  refine ⟨_, _, pre0 _ ?_, hrun, hended, _, _, rfl, ?_, ⟨_, rfl⟩, hW, hsame.mono (by decide) (by decide)⟩
  · show SG X0 0 #[vI 22, vI 18] [] _
    refine XS.iloadN X0.here hx rfl (H 0 rfl) rfl ?_
    refine XS.iloadN X0.here hx rfl (H 1 rfl) rfl ?_
    refine XS.icmpNo X0.here hx rfl (H 2 rfl) rfl (flt (by decide : ¬ ((22 : Int32) < (18 : Int32)))).1 ?_
    refine XS.iloadN X0.here hx rfl (H 3 rfl) rfl ?_
    refine XS.goto X0.here hx rfl (pc0 := 6) (pc' := 10) rfl (H 4 rfl) (by decide) (by decide) ?_
    exact retI X0 hx Bd.returns (H 6 rfl) hr
  · show QMX22 Z  h0 n0 _ sZ.heap _
    rw [e0]
    exact ⟨rfl, N0, rfl⟩

theorem ef_MX1 (m : MethodId)  : entryFrame m #[.int 1, .int 40] 2 = mkF m 0 #[.val (.int 1), .val (.int 40)] [] := by simp [entryFrame, mkF, argsToLocals, Value.category]
def QMX1 (Z : State)  (h0 : Heap) (n0 : Nat) (v : Option Value) (h : Heap) (L : List Loc) : Prop := v = some (.int 40) ∧ Fr n0 L ∧ h = h0
theorem rmMX1 (l : Launch) (Z : State) (a0 : Array Value) (hw : HWd a0 Z) (ws : List Jvm.Cond)  (h0 : Heap) (n0 : Nat) (Z0 : n0 ≤ h0.size) :
    own_Met l Y_11 (Jvm.Cond.code Y_11 jdk_29_method_65_code 2 (some .int) :: ws) (RM 0 0 0 0) #[.int 1, .int 40] Z h0 (QMX1 Z  h0 n0) := by
  refine MetFree.of_bodySF (Jvm.Free.JP.mathPlain rfl (by decide +kernel)) hisR ?_
  intro p e s m args below meth c sZ Bd hml0 hP hK
  obtain ⟨rfl, hZ, hh⟩ := hP
  have hx := Bd.exec
  have w := @own_w Z a0 hw
  have hby := Bd.bytes
  have H := @own_hb _ _ _ hby D_18
  have hml : c.maxLocals = 2 := hml0
  have hown : s.vm.findClass "java/lang/Math" = some m.cls := findClass_of_methodNamed Bd.named
  have hnm := (name_of_methodNamed Bd.named Bd.method).1
  have X0 : Stand p l e (RM 0 0 0 0) s m #[.int 1, .int 40] below meth c sZ [] 0 0 := Stand.of_body Bd
  have e0 : sZ.heap = h0 := by rw [← hh, Bd.state]; rfl
  have N0 := Fr.nil n0
  have pre0 : Goes p e below sZ (entryFrame m #[.int 1, .int 40] 2) sZ (mkF m 0 #[vI 1, vI 40] []) := fun t k => castTop (ef_MX1 m ) k
  obtain ⟨fs, hr, hrun, hended, hW, hsame⟩ := X0.leave (v := some (.int 40)) (fun h => by rw [Bd.returns] at h; cases h)
  refine ⟨_, _, pre0 _ ?_, hrun, hended, _, _, rfl, ?_, ⟨_, rfl⟩, hW, hsame.mono (by decide) (by decide)⟩
  · show SG X0 0 #[vI 1, vI 40] [] _
    refine XS.iloadN X0.here hx rfl (H 0 rfl) rfl ?_
    refine XS.iloadN X0.here hx rfl (H 1 rfl) rfl ?_
    refine XS.icmpYes X0.here hx rfl (pc0 := 2) (pc' := 9) rfl (H 2 rfl) rfl (tlt (by decide : ((1 : Int32) < (40 : Int32)))).1 (by decide) (by decide) ?_
    refine XS.iloadN X0.here hx rfl (H 5 rfl) rfl ?_
    exact retI X0 hx Bd.returns (H 6 rfl) hr
  · show QMX1 Z  h0 n0 _ sZ.heap _
    rw [e0]
    exact ⟨rfl, N0, rfl⟩

theorem ef_MN16 (m : MethodId)  : entryFrame m #[.int 16, .int 38] 2 = mkF m 0 #[.val (.int 16), .val (.int 38)] [] := by simp [entryFrame, mkF, argsToLocals, Value.category]
def QMN16 (Z : State)  (h0 : Heap) (n0 : Nat) (v : Option Value) (h : Heap) (L : List Loc) : Prop := v = some (.int 16) ∧ Fr n0 L ∧ h = h0
theorem rmMN16 (l : Launch) (Z : State) (a0 : Array Value) (hw : HWd a0 Z) (ws : List Jvm.Cond)  (h0 : Heap) (n0 : Nat) (Z0 : n0 ≤ h0.size) :
    own_Met l Y_12 (Jvm.Cond.code Y_12 jdk_29_method_69_code 2 (some .int) :: ws) (RM 0 0 0 0) #[.int 16, .int 38] Z h0 (QMN16 Z  h0 n0) := by
  refine MetFree.of_bodySF (Jvm.Free.JP.mathPlain rfl (by decide +kernel)) hisR ?_
  intro p e s m args below meth c sZ Bd hml0 hP hK
  obtain ⟨rfl, hZ, hh⟩ := hP
  have hx := Bd.exec
  have w := @own_w Z a0 hw
  have hby := Bd.bytes
  have H := @own_hb _ _ _ hby D_20
  have hml : c.maxLocals = 2 := hml0
  have hown : s.vm.findClass "java/lang/Math" = some m.cls := findClass_of_methodNamed Bd.named
  have hnm := (name_of_methodNamed Bd.named Bd.method).1
  have X0 : Stand p l e (RM 0 0 0 0) s m #[.int 16, .int 38] below meth c sZ [] 0 0 := Stand.of_body Bd
  have e0 : sZ.heap = h0 := by rw [← hh, Bd.state]; rfl
  have N0 := Fr.nil n0
  have pre0 : Goes p e below sZ (entryFrame m #[.int 16, .int 38] 2) sZ (mkF m 0 #[vI 16, vI 38] []) := fun t k => castTop (ef_MN16 m ) k
  obtain ⟨fs, hr, hrun, hended, hW, hsame⟩ := X0.leave (v := some (.int 16)) (fun h => by rw [Bd.returns] at h; cases h)
  refine ⟨_, _, pre0 _ ?_, hrun, hended, _, _, rfl, ?_, ⟨_, rfl⟩, hW, hsame.mono (by decide) (by decide)⟩
  · show SG X0 0 #[vI 16, vI 38] [] _
    refine XS.iloadN X0.here hx rfl (H 0 rfl) rfl ?_
    refine XS.iloadN X0.here hx rfl (H 1 rfl) rfl ?_
    refine XS.icmpNo X0.here hx rfl (H 2 rfl) rfl (flt (by decide : ¬ ((38 : Int32) < (16 : Int32)))).2.2.1 ?_
    refine XS.iloadN X0.here hx rfl (H 3 rfl) rfl ?_
    refine XS.goto X0.here hx rfl (pc0 := 6) (pc' := 10) rfl (H 4 rfl) (by decide) (by decide) ?_
    exact retI X0 hx Bd.returns (H 6 rfl) hr
  · show QMN16 Z  h0 n0 _ sZ.heap _
    rw [e0]
    exact ⟨rfl, N0, rfl⟩

theorem ef_MN38 (m : MethodId)  : entryFrame m #[.int 38, .int 78] 2 = mkF m 0 #[.val (.int 38), .val (.int 78)] [] := by simp [entryFrame, mkF, argsToLocals, Value.category]
def QMN38 (Z : State)  (h0 : Heap) (n0 : Nat) (v : Option Value) (h : Heap) (L : List Loc) : Prop := v = some (.int 38) ∧ Fr n0 L ∧ h = h0
theorem rmMN38 (l : Launch) (Z : State) (a0 : Array Value) (hw : HWd a0 Z) (ws : List Jvm.Cond)  (h0 : Heap) (n0 : Nat) (Z0 : n0 ≤ h0.size) :
    own_Met l Y_12 (Jvm.Cond.code Y_12 jdk_29_method_69_code 2 (some .int) :: ws) (RM 0 0 0 0) #[.int 38, .int 78] Z h0 (QMN38 Z  h0 n0) := by
  refine MetFree.of_bodySF (Jvm.Free.JP.mathPlain rfl (by decide +kernel)) hisR ?_
  intro p e s m args below meth c sZ Bd hml0 hP hK
  obtain ⟨rfl, hZ, hh⟩ := hP
  have hx := Bd.exec
  have w := @own_w Z a0 hw
  have hby := Bd.bytes
  have H := @own_hb _ _ _ hby D_20
  have hml : c.maxLocals = 2 := hml0
  have hown : s.vm.findClass "java/lang/Math" = some m.cls := findClass_of_methodNamed Bd.named
  have hnm := (name_of_methodNamed Bd.named Bd.method).1
  have X0 : Stand p l e (RM 0 0 0 0) s m #[.int 38, .int 78] below meth c sZ [] 0 0 := Stand.of_body Bd
  have e0 : sZ.heap = h0 := by rw [← hh, Bd.state]; rfl
  have N0 := Fr.nil n0
  have pre0 : Goes p e below sZ (entryFrame m #[.int 38, .int 78] 2) sZ (mkF m 0 #[vI 38, vI 78] []) := fun t k => castTop (ef_MN38 m ) k
  obtain ⟨fs, hr, hrun, hended, hW, hsame⟩ := X0.leave (v := some (.int 38)) (fun h => by rw [Bd.returns] at h; cases h)
  refine ⟨_, _, pre0 _ ?_, hrun, hended, _, _, rfl, ?_, ⟨_, rfl⟩, hW, hsame.mono (by decide) (by decide)⟩
  · show SG X0 0 #[vI 38, vI 78] [] _
    refine XS.iloadN X0.here hx rfl (H 0 rfl) rfl ?_
    refine XS.iloadN X0.here hx rfl (H 1 rfl) rfl ?_
    refine XS.icmpNo X0.here hx rfl (H 2 rfl) rfl (flt (by decide : ¬ ((78 : Int32) < (38 : Int32)))).2.2.1 ?_
    refine XS.iloadN X0.here hx rfl (H 3 rfl) rfl ?_
    refine XS.goto X0.here hx rfl (pc0 := 6) (pc' := 10) rfl (H 4 rfl) (by decide) (by decide) ?_
    exact retI X0 hx Bd.returns (H 6 rfl) hr
  · show QMN38 Z  h0 n0 _ sZ.heap _
    rw [e0]
    exact ⟨rfl, N0, rfl⟩

theorem pn_17 : plainName "jdk/internal/util/ArraysSupport" = true := by first | (simp [plainName, overriddenIn]; done) | decide +kernel
theorem ef_NL16 (m : MethodId)  : entryFrame m #[.int 16, .int 22, .int 18] 4 = mkF m 0 #[.val (.int 16), .val (.int 22), .val (.int 18), .unset] [] := by simp [entryFrame, mkF, argsToLocals, Value.category]
theorem pd_13 : parseMethodDescriptor "(II)I" = some ⟨[.int, .int], some .int⟩ := by decide +kernel
def QNL16 (Z : State)  (h0 : Heap) (n0 : Nat) (v : Option Value) (h : Heap) (L : List Loc) : Prop := v = some (.int 38) ∧ Fr n0 L ∧ h = h0
theorem rmNL16 (l : Launch) (Z : State) (a0 : Array Value) (hw : HWd a0 Z) (ws : List Jvm.Cond)  (h0 : Heap) (n0 : Nat) (Z0 : n0 ≤ h0.size) :
    own_Met l Y_13 (Jvm.Cond.code Y_13 jdk_48_method_27_code 4 (some .int) :: ws) (RM 1 0 0 14) #[.int 16, .int 22, .int 18] Z h0 (QNL16 Z  h0 n0) := by
  refine own_bS pn_17 rfl D_17 (fun m => ef_NL16 m) hw fun p e s m below meth c sZ Bd hx hby hml hown hnm hh hZ X0 e0 w H pre0 => ?_
  have N0 := Fr.nil n0
  obtain ⟨_, T1, lo1, Lc1, X1, N1, hQ1, st1⟩ := own_af (QMX22 Z  h0 n0) 0 0 0 0 0 0 (Jvm.LawKit.callS X0 hx (y := Y_11) hown (mvT hZ (w 113 rfl)) (mvT hZ (w 114 rfl)) (mvT hZ (w 115 rfl)) (mvT hZ (w 116 rfl)) (by decide) (backOf (W := 1) (rmMX22 l Z a0 hw []  h0 n0 Z0) hZ (w 116 rfl) (w 115 rfl) (by decide) (by decide)) (g := (mkF m 3 #[vI 16, vI 22, vI 18, vU] [.int 18, .int 22, .int 16])) rfl (by rw [hml]; rfl) (argsL := [.int 22, .int 18]) (rest := [.int 16]) (lenOf pd_13 rfl) rfl (lq rfl) (H 3 rfl) (fun _ _ => ⟨rfl, e0, (by decide : 0 + 0 ≤ _), (by decide : 0 + 0 ≤ _)⟩)) N0 (fun _ _ _ h => h.2.1) rfl rfl
  dsimp only at st1
  obtain ⟨rfl, N1q, r1_0⟩ := hQ1
  obtain ⟨fs, hr, hrun, hended, hW, hsame⟩ := X1.leave (v := some (.int 38)) (fun h => by rw [Bd.returns] at h; cases h)
  refine ⟨_, _, pre0 _ ?_, hrun, hended, _, _, rfl, ?_, ⟨_, rfl⟩, hW, hsame.mono (by decide) (by decide)⟩
  · show SG X0 0 #[vI 16, vI 22, vI 18, vU] [] _
    refine XS.iloadN X0.here hx rfl (H 0 rfl) rfl ?_
    refine XS.iloadN X0.here hx rfl (H 1 rfl) rfl ?_
    refine XS.iloadN X0.here hx rfl (H 2 rfl) rfl ?_
    refine st1 _ ?_
    show SG X1 6 #[vI 16, vI 22, vI 18, vU] [.int 22, .int 16] _
    refine XS.iadd X1.here hx rfl (H 4 rfl) rfl ?_
    show SG X1 7 #[vI 16, vI 22, vI 18, vU] [.int 38] _
    refine XS.istoreN X1.here hx rfl (H 5 rfl) rfl (l' := #[vI 16, vI 22, vI 18, vI 38]) rfl ?_
    refine XS.iconst X1.here hx rfl (H 6 rfl) ?_
    refine XS.iloadN X1.here hx rfl (H 7 rfl) rfl ?_
    refine XS.icmpNo X1.here hx rfl (H 8 rfl) rfl (tlt (by decide : ((0 : Int32) < (38 : Int32)))).2.1 ?_
    refine XS.iloadN X1.here hx rfl (H 9 rfl) rfl ?_
    refine X1.ldcInt hx hown (mvT hZ (w 117 rfl)) (g := (mkF m 14 #[vI 16, vI 22, vI 18, vI 38] [.int 38])) rfl (H 10 rfl) _ ?_
    show SG X1 16 #[vI 16, vI 22, vI 18, vI 38] [.int 2147483639, .int 38] _
    refine XS.icmpNo X1.here hx rfl (H 11 rfl) rfl (flt (by decide : ¬ ((2147483639 : Int32) < (38 : Int32)))).2.2.1 ?_
    refine XS.iloadN X1.here hx rfl (H 12 rfl) rfl ?_
    exact retI X1 hx Bd.returns (H 13 rfl) hr
  · show QNL16 Z  h0 n0 _ T1.heap _
    rw [r1_0]
    exact ⟨rfl, N1, rfl⟩

theorem ef_NL38 (m : MethodId)  : entryFrame m #[.int 38, .int 1, .int 40] 4 = mkF m 0 #[.val (.int 38), .val (.int 1), .val (.int 40), .unset] [] := by simp [entryFrame, mkF, argsToLocals, Value.category]
def QNL38 (Z : State)  (h0 : Heap) (n0 : Nat) (v : Option Value) (h : Heap) (L : List Loc) : Prop := v = some (.int 78) ∧ Fr n0 L ∧ h = h0
theorem rmNL38 (l : Launch) (Z : State) (a0 : Array Value) (hw : HWd a0 Z) (ws : List Jvm.Cond)  (h0 : Heap) (n0 : Nat) (Z0 : n0 ≤ h0.size) :
    own_Met l Y_13 (Jvm.Cond.code Y_13 jdk_48_method_27_code 4 (some .int) :: ws) (RM 1 0 0 14) #[.int 38, .int 1, .int 40] Z h0 (QNL38 Z  h0 n0) := by
  refine own_bS pn_17 rfl D_17 (fun m => ef_NL38 m) hw fun p e s m below meth c sZ Bd hx hby hml hown hnm hh hZ X0 e0 w H pre0 => ?_
  have N0 := Fr.nil n0
  obtain ⟨_, T1, lo1, Lc1, X1, N1, hQ1, st1⟩ := own_af (QMX1 Z  h0 n0) 0 0 0 0 0 0 (Jvm.LawKit.callS X0 hx (y := Y_11) hown (mvT hZ (w 113 rfl)) (mvT hZ (w 114 rfl)) (mvT hZ (w 115 rfl)) (mvT hZ (w 116 rfl)) (by decide) (backOf (W := 1) (rmMX1 l Z a0 hw []  h0 n0 Z0) hZ (w 116 rfl) (w 115 rfl) (by decide) (by decide)) (g := (mkF m 3 #[vI 38, vI 1, vI 40, vU] [.int 40, .int 1, .int 38])) rfl (by rw [hml]; rfl) (argsL := [.int 1, .int 40]) (rest := [.int 38]) (lenOf pd_13 rfl) rfl (lq rfl) (H 3 rfl) (fun _ _ => ⟨rfl, e0, (by decide : 0 + 0 ≤ _), (by decide : 0 + 0 ≤ _)⟩)) N0 (fun _ _ _ h => h.2.1) rfl rfl
  dsimp only at st1
  obtain ⟨rfl, N1q, r1_0⟩ := hQ1
  obtain ⟨fs, hr, hrun, hended, hW, hsame⟩ := X1.leave (v := some (.int 78)) (fun h => by rw [Bd.returns] at h; cases h)
  refine ⟨_, _, pre0 _ ?_, hrun, hended, _, _, rfl, ?_, ⟨_, rfl⟩, hW, hsame.mono (by decide) (by decide)⟩
  · show SG X0 0 #[vI 38, vI 1, vI 40, vU] [] _
    refine XS.iloadN X0.here hx rfl (H 0 rfl) rfl ?_
    refine XS.iloadN X0.here hx rfl (H 1 rfl) rfl ?_
    refine XS.iloadN X0.here hx rfl (H 2 rfl) rfl ?_
    refine st1 _ ?_
    show SG X1 6 #[vI 38, vI 1, vI 40, vU] [.int 40, .int 38] _
    refine XS.iadd X1.here hx rfl (H 4 rfl) rfl ?_
    show SG X1 7 #[vI 38, vI 1, vI 40, vU] [.int 78] _
    refine XS.istoreN X1.here hx rfl (H 5 rfl) rfl (l' := #[vI 38, vI 1, vI 40, vI 78]) rfl ?_
    refine XS.iconst X1.here hx rfl (H 6 rfl) ?_
    refine XS.iloadN X1.here hx rfl (H 7 rfl) rfl ?_
    refine XS.icmpNo X1.here hx rfl (H 8 rfl) rfl (tlt (by decide : ((0 : Int32) < (78 : Int32)))).2.1 ?_
    refine XS.iloadN X1.here hx rfl (H 9 rfl) rfl ?_
    refine X1.ldcInt hx hown (mvT hZ (w 117 rfl)) (g := (mkF m 14 #[vI 38, vI 1, vI 40, vI 78] [.int 78])) rfl (H 10 rfl) _ ?_
    show SG X1 16 #[vI 38, vI 1, vI 40, vI 78] [.int 2147483639, .int 78] _
    refine XS.icmpNo X1.here hx rfl (H 11 rfl) rfl (flt (by decide : ¬ ((2147483639 : Int32) < (78 : Int32)))).2.2.1 ?_
    refine XS.iloadN X1.here hx rfl (H 12 rfl) rfl ?_
    exact retI X1 hx Bd.returns (H 13 rfl) hr
  · show QNL38 Z  h0 n0 _ T1.heap _
    rw [r1_0]
    exact ⟨rfl, N1, rfl⟩

theorem pn_16 : plainName "java/lang/AbstractStringBuilder" = true := by first | (simp [plainName, overriddenIn]; done) | decide +kernel
theorem ef_NC16 (m : MethodId) (ob : Addr) : entryFrame m #[.ref ob, .int 38] 6 = mkF m 0 #[.val (.ref ob), .val (.int 38), .unset, .unset, .unset, .unset] [] := by simp [entryFrame, mkF, argsToLocals, Value.category]
theorem pd_12 : parseMethodDescriptor "(III)I" = some ⟨[.int, .int, .int], some .int⟩ := by decide +kernel
def QNC16 (Z : State) (ob bb : Addr) (kb : ClassId) (bs : List Int32) (h0 : Heap) (n0 : Nat) (v : Option Value) (h : Heap) (L : List Loc) : Prop := v = some (.int 38) ∧ Fr n0 L ∧ h = h0
theorem rmNC16 (l : Launch) (Z : State) (a0 : Array Value) (hw : HWd a0 Z) (ws : List Jvm.Cond) (ob bb : Addr) (kb : ClassId) (bs : List Int32) (h0 : Heap) (n0 : Nat) (Z0 : n0 ≤ h0.size) (P0 : Exa Z h0 ob sB) (P1 : Fld Z h0 ob sA "value" "[B" (.ref bb)) (P2 : Fld Z h0 ob sA "coder" "B" (.int 0)) (P3 : Arv Z h0 bb kb .byte (16 : Int32) (own_iv bs) (.int 0)) :
    own_Met l Y_14 (Jvm.Cond.code Y_14 jdk_68_method_10_code 6 (some .int) :: ws) (RM 2 0 0 29) #[.ref ob, .int 38] Z h0 (QNC16 Z ob bb kb bs h0 n0) := by
  refine own_bS pn_16 rfl D_16 (fun m => ef_NC16 m ob) hw fun p e s m below meth c sZ Bd hx hby hml hown hnm hh hZ X0 e0 w H pre0 => ?_
  have N0 := Fr.nil n0
  obtain ⟨T1, X1, e1, st1⟩ := getF X0 hx hZ hown (host := "") (Or.inl (w 49 rfl)) Via.refl e0 P1 (g := (mkF m 1 #[vR ob, vI 38, vU, vU, vU, vU] [.ref ob])) rfl rfl (H 1 rfl)
  obtain ⟨T2, X2, e2, st2⟩ := getF X1 hx hZ hown (host := "") (Or.inl (w 51 rfl)) Via.refl e1 P2 (g := (mkF m 8 #[vR ob, vI 38, vI 16, vU, vU, vU] [.ref ob, .int 38])) rfl rfl (H 6 rfl)
  obtain ⟨T3, X3, e3, st3⟩ := getF X2 hx hZ hown (host := "") (Or.inl (w 51 rfl)) Via.refl e2 P2 (g := (mkF m 24 #[vR ob, vI 38, vI 16, vI 38, vI 22, vU] [.ref ob, .int 2, .int 16, .int 22, .int 16])) rfl rfl (H 18 rfl)
  obtain ⟨_, T4, lo4, Lc4, X4, N4, hQ4, st4⟩ := own_af (QNL16 Z  h0 n0) 0 0 0 0 0 0 (Jvm.LawKit.callS X3 hx (y := Y_13) hown (mvT hZ (w 109 rfl)) (mvT hZ (w 110 rfl)) (mvT hZ (w 111 rfl)) (mvT hZ (w 112 rfl)) (by decide) (backOf (W := 0) (rmNL16 l Z a0 hw []  h0 n0 Z0) hZ (w 112 rfl) (w 111 rfl) (by decide) (by decide)) (g := (mkF m 29 #[vR ob, vI 38, vI 16, vI 38, vI 22, vU] [.int 18, .int 22, .int 16])) rfl (by rw [hml]; rfl) (argsL := [.int 16, .int 22, .int 18]) (rest := []) (lenOf pd_12 rfl) rfl (lq rfl) (H 21 rfl) (fun _ _ => ⟨rfl, e3, (by decide : 0 + 0 ≤ _), (by decide : 0 + 0 ≤ _)⟩)) N0 (fun _ _ _ h => h.2.1) rfl rfl
  dsimp only at st4
  obtain ⟨rfl, N4q, r4_0⟩ := hQ4
  obtain ⟨T5, X5, e5, st5⟩ := getF X4 hx hZ hown (host := "") (Or.inl (w 51 rfl)) Via.refl r4_0 P2 (g := (mkF m 54 #[vR ob, vI 38, vI 16, vI 38, vI 22, vI 38] [.ref ob, .int 38])) rfl rfl (H 28 rfl)
  obtain ⟨fs, hr, hrun, hended, hW, hsame⟩ := X5.leave (v := some (.int 38)) (fun h => by rw [Bd.returns] at h; cases h)
  refine ⟨_, _, pre0 _ ?_, hrun, hended, _, _, rfl, ?_, ⟨_, rfl⟩, hW, hsame.mono (by decide) (by decide)⟩
  · show SG X0 0 #[vR ob, vI 38, vU, vU, vU, vU] [] _
    refine XS.aloadN X0.here hx rfl (H 0 rfl) rfl rfl ?_
    refine st1 _ ?_
    show SG X1 4 #[vR ob, vI 38, vU, vU, vU, vU] [.ref bb] _
    refine own_alen X1 hx hZ e1 P3 (H 2 rfl) ?_
    refine XS.istoreN X1.here hx rfl (H 3 rfl) rfl (l' := #[vR ob, vI 38, vI 16, vU, vU, vU]) rfl ?_
    refine XS.iloadN X1.here hx rfl (H 4 rfl) rfl ?_
    refine XS.aloadN X1.here hx rfl (H 5 rfl) rfl rfl ?_
    refine st2 _ ?_
    show SG X2 11 #[vR ob, vI 38, vI 16, vU, vU, vU] [.int 0, .int 38] _
    refine XS.ishl X2.here hx rfl (H 7 rfl) rfl ?_
    show SG X2 12 #[vR ob, vI 38, vI 16, vU, vU, vU] [.int ((38 : Int32) <<< ((0 : Int32) &&& 31))] _
    rw [(own_shl (38 : Int32))]
    show SG X2 12 #[vR ob, vI 38, vI 16, vU, vU, vU] [.int 38] _
    refine XS.istoreN X2.here hx rfl (H 8 rfl) rfl (l' := #[vR ob, vI 38, vI 16, vI 38, vU, vU]) rfl ?_
    refine XS.iloadN X2.here hx rfl (H 9 rfl) rfl ?_
    refine XS.iloadN X2.here hx rfl (H 10 rfl) rfl ?_
    refine XS.isub X2.here hx rfl (H 11 rfl) rfl ?_
    show SG X2 16 #[vR ob, vI 38, vI 16, vI 38, vU, vU] [.int 22] _
    refine XS.istore X2.here hx rfl (H 12 rfl) rfl (l' := #[vR ob, vI 38, vI 16, vI 38, vI 22, vU]) rfl ?_
    refine XS.iloadN X2.here hx rfl (H 13 rfl) rfl ?_
    refine XS.iload X2.here hx rfl (H 14 rfl) rfl ?_
    refine XS.iloadN X2.here hx rfl (H 15 rfl) rfl ?_
    refine XS.iconst X2.here hx rfl (H 16 rfl) ?_
    refine XS.aloadN X2.here hx rfl (H 17 rfl) rfl rfl ?_
    refine st3 _ ?_
    show SG X3 27 #[vR ob, vI 38, vI 16, vI 38, vI 22, vU] [.int 0, .int 2, .int 16, .int 22, .int 16] _
    refine XS.ishl X3.here hx rfl (H 19 rfl) rfl ?_
    show SG X3 28 #[vR ob, vI 38, vI 16, vI 38, vI 22, vU] [.int ((2 : Int32) <<< ((0 : Int32) &&& 31)), .int 16, .int 22, .int 16] _
    rw [(own_shl (2 : Int32))]
    show SG X3 28 #[vR ob, vI 38, vI 16, vI 38, vI 22, vU] [.int 2, .int 16, .int 22, .int 16] _
    refine XS.iadd X3.here hx rfl (H 20 rfl) rfl ?_
    show SG X3 29 #[vR ob, vI 38, vI 16, vI 38, vI 22, vU] [.int 18, .int 22, .int 16] _
    refine st4 _ ?_
    show SG X4 32 #[vR ob, vI 38, vI 16, vI 38, vI 22, vU] [.int 38] _
    refine XS.istore X4.here hx rfl (H 22 rfl) rfl (l' := #[vR ob, vI 38, vI 16, vI 38, vI 22, vI 38]) rfl ?_
    refine XS.iload X4.here hx rfl (H 23 rfl) rfl ?_
    refine X4.ldcInt hx hown (mvT hZ (w 118 rfl)) (g := (mkF m 36 #[vR ob, vI 38, vI 16, vI 38, vI 22, vI 38] [.int 38])) rfl (H 24 rfl) _ ?_
    show SG X4 38 #[vR ob, vI 38, vI 16, vI 38, vI 22, vI 38] [.int 2147483647, .int 38] _
    refine XS.icmpYes X4.here hx rfl (pc0 := 38) (pc' := 51) rfl (H 25 rfl) rfl (feq (by decide : ¬ ((38 : Int32) = (2147483647 : Int32)))).2 (by decide) (by decide) ?_
    refine XS.iload X4.here hx rfl (H 26 rfl) rfl ?_
    refine XS.aloadN X4.here hx rfl (H 27 rfl) rfl rfl ?_
    refine st5 _ ?_
    show SG X5 57 #[vR ob, vI 38, vI 16, vI 38, vI 22, vI 38] [.int 0, .int 38] _
    refine XS.ishr X5.here hx rfl (H 29 rfl) rfl ?_
    show SG X5 58 #[vR ob, vI 38, vI 16, vI 38, vI 22, vI 38] [.int ((38 : Int32) >>> ((0 : Int32) &&& 31))] _
    rw [(own_shr (38 : Int32))]
    show SG X5 58 #[vR ob, vI 38, vI 16, vI 38, vI 22, vI 38] [.int 38] _
    exact retI X5 hx Bd.returns (H 30 rfl) hr
  · show QNC16 Z ob bb kb bs h0 n0 _ T5.heap _
    rw [e5]
    exact ⟨rfl, N4, rfl⟩

theorem pn_19 : plainName "java/util/Arrays" = true := by first | (simp [plainName, overriddenIn]; done) | decide +kernel
theorem ef_CO16 (m : MethodId) (bb : Addr) : entryFrame m #[.ref bb, .int 38] 3 = mkF m 0 #[.val (.ref bb), .val (.int 38), .unset] [] := by simp [entryFrame, mkF, argsToLocals, Value.category]
def QCO16 (Z : State) (bb : Addr) (kb : ClassId) (bs : List Int32) (h0 : Heap) (n0 : Nat) (v : Option Value) (h : Heap) (L : List Loc) : Prop := ∃ xb : Addr, ∃ xk : ClassId, v = some (.ref xb) ∧ Fr n0 L ∧ Keep h0 h [] ∧ h0.size ≤ xb ∧ Arv Z h xb xk .byte (38 : Int32) (own_iv bs) (.int 0)
theorem rmCO16 (l : Launch) (Z : State) (a0 : Array Value) (hw : HWd a0 Z) (ws : List Jvm.Cond) (bb : Addr) (kb : ClassId) (bs : List Int32) (h0 : Heap) (n0 : Nat) (Z0 : n0 ≤ h0.size) (P0 : Arv Z h0 bb kb .byte (16 : Int32) (own_iv bs) (.int 0)) (hl : bs.length = 16) :
    own_Met l Y_15 (Jvm.Cond.code Y_15 jdk_65_method_121_code 3 (some (.array .byte)) :: ws) (RM 1 1 38 32) #[.ref bb, .int 38] Z h0 (QCO16 Z bb kb bs h0 n0) := by
  refine own_bS pn_19 rfl D_19 (fun m => ef_CO16 m bb) hw fun p e s m below meth c sZ Bd hx hby hml hown hnm hh hZ X0 e0 w H pre0 => ?_
  have N0 := Fr.nil n0
  have K0 := Keep.refl h0 []
  obtain ⟨T1, h1, k1, X1, e1, E1, A1, st1⟩ := newP X0 hx hZ (w 17 rfl) e0 (g := (mkF m 15 #[vR bb, vI 38, vU] [.int 38])) rfl (H 5 rfl) rfl (by decide) (cap := 38) (by decide) (by decide) (by decide) (by decide)
  obtain ⟨b1, g1⟩ : ∃ z, z = h0.size := ⟨_, rfl⟩
  rw [← g1] at A1 st1
  have g_b1 : n0 ≤ b1 := Nat.le_trans Z0 (Nat.le_of_eq g1.symm)
  have sz_b1 : h0.size ≤ b1 := Nat.le_trans K0.1 (Nat.le_of_eq g1.symm)
  have f3 := P0.ext E1
  have K1 := K0.ext E1
  have Z1 : n0 ≤ h1.size := Nat.le_trans Z0 E1.1
  have U1 : Arv Z h1 b1 k1 .byte (38 : Int32) (own_iv []) (.int 0) := Arv.new A1 (by decide)
  obtain ⟨_, T4, lo4, Lc4, X4, N4, hQ4, st4⟩ := own_af (QMN16 Z  h1 n0) 1 0 38 0 1 38 (Jvm.LawKit.callS X1 hx (y := Y_12) hown (mvT hZ (w 123 rfl)) (mvT hZ (w 124 rfl)) (mvT hZ (w 115 rfl)) (mvT hZ (w 125 rfl)) (by decide) (backOf (W := 4) (rmMN16 l Z a0 hw []  h1 n0 Z1) hZ (w 125 rfl) (w 115 rfl) (by decide) (by decide)) (g := (mkF m 25 #[vR bb, vI 38, vR b1] [.int 38, .int 16, .int 0, .ref b1, .int 0, .ref bb])) rfl (by rw [hml]; rfl) (argsL := [.int 16, .int 38]) (rest := [.int 0, .ref b1, .int 0, .ref bb]) (lenOf pd_13 rfl) rfl (lq rfl) (H 14 rfl) (fun _ _ => ⟨rfl, e1, (by decide : 1 + 0 ≤ _), (by decide : 38 + 0 ≤ _)⟩)) N0 (fun _ _ _ h => h.2.1) rfl rfl
  dsimp only at st4
  obtain ⟨rfl, N4q, r4_0⟩ := hQ4
  have pv5 : Arv Z h1 b1 k1 .byte (38 : Int32) (own_iv [] ++ List.replicate 16 (.int 0)) (.int 0) := U1.pad (own_pad [] 16)
  obtain ⟨T5, h5, L5, X5, e5, N5, Kc5, V5, st5⟩ := cpA X4 hx hZ hown (w 126 rfl) (w 129 rfl) (w 127 rfl) (w 128 rfl) r4_0 (us := (own_iv bs)) f3 pv5 (Or.inl ⟨rfl, rfl⟩) (by decide) (by decide) (by decide) (by decide) (by decide) (own_rng bs (16 : Int32) (by rw [hl]; decide)) (by decide) N4 g_b1 (g := (mkF m 28 #[vR bb, vI 38, vR b1] [.int 16, .int 0, .ref b1, .int 0, .ref bb])) rfl (by rw [hml]; rfl) rfl (H 15 rfl) (by decide) (W := 0) (lq rfl) (by decide)
  have K5 := K1.trans Kc5 (allS (Or.inr sz_b1) all0)
  have U5 : Arv Z h5 b1 k1 .byte (38 : Int32) (own_iv bs) (.int 0) := own_arv V5 rfl (own_cp0 bs 16)
  obtain ⟨fs, hr, hrun, hended, hW, hsame⟩ := X5.leave (v := some (.ref b1)) (fun h => by rw [Bd.returns] at h; cases h)
  refine ⟨_, _, pre0 _ ?_, hrun, hended, _, _, rfl, ?_, ⟨_, rfl⟩, hW, hsame.mono (by decide) (by decide)⟩
  · show SG X0 0 #[vR bb, vI 38, vU] [] _
    refine XS.iloadN X0.here hx rfl (H 0 rfl) rfl ?_
    refine XS.aloadN X0.here hx rfl (H 1 rfl) rfl rfl ?_
    refine own_alen X0 hx hZ e0 P0 (H 2 rfl) ?_
    refine XS.icmpYes X0.here hx rfl (pc0 := 3) (pc' := 14) rfl (H 3 rfl) rfl (feq (by decide : ¬ ((38 : Int32) = (16 : Int32)))).2 (by decide) (by decide) ?_
    refine XS.iloadN X0.here hx rfl (H 4 rfl) rfl ?_
    refine st1 _ ?_
    show SG X1 17 #[vR bb, vI 38, vU] [.ref b1] _
    refine XS.astoreN X1.here hx rfl (H 6 rfl) rfl rfl (l' := #[vR bb, vI 38, vR b1]) rfl ?_
    refine XS.aloadN X1.here hx rfl (H 7 rfl) rfl rfl ?_
    refine XS.iconst X1.here hx rfl (H 8 rfl) ?_
    refine XS.aloadN X1.here hx rfl (H 9 rfl) rfl rfl ?_
    refine XS.iconst X1.here hx rfl (H 10 rfl) ?_
    refine XS.aloadN X1.here hx rfl (H 11 rfl) rfl rfl ?_
    refine own_alen X1 hx hZ e1 f3 (H 12 rfl) ?_
    refine XS.iloadN X1.here hx rfl (H 13 rfl) rfl ?_
    refine st4 _ ?_
    show SG X4 28 #[vR bb, vI 38, vR b1] [.int 16, .int 0, .ref b1, .int 0, .ref bb] _
    refine st5 _ ?_
    show SG X5 31 #[vR bb, vI 38, vR b1] [] _
    refine XS.aloadN X5.here hx rfl (H 16 rfl) rfl rfl ?_
    jvm_step X5.here [X5.here.top, hx, (H 17 rfl), X5.method', Bd.returns, Value.isRef, FieldType.isReference]
    first | (intro acts; rw [hr _ acts rfl rfl rfl]) | rw [hr _ _ rfl rfl rfl]
    exact Steps.refl _
  · show QCO16 Z bb kb bs h0 n0 _ T5.heap _
    rw [e5]
    exact ⟨b1, k1, rfl, N5, K5, sz_b1, U5⟩

theorem ef_EG1 (m : MethodId) (ob : Addr) : entryFrame m #[.ref ob, .int 38] 3 = mkF m 0 #[.val (.ref ob), .val (.int 38), .unset] [] := by simp [entryFrame, mkF, argsToLocals, Value.category]
theorem pd_11 : parseMethodDescriptor "(I)I" = some ⟨[.int], some .int⟩ := by decide +kernel
theorem pd_14 : parseMethodDescriptor "([BI)[B" = some ⟨[(.array .byte), .int], some (.array .byte)⟩ := by decide +kernel
def QEG1 (Z : State) (ob bb : Addr) (kb : ClassId) (ct : Int32) (h0 : Heap) (n0 : Nat) (v : Option Value) (h : Heap) (L : List Loc) : Prop := ∃ xb : Addr, ∃ xk : ClassId, v = none ∧ Fr n0 L ∧ Keep h0 h [ob] ∧ h0.size ≤ xb ∧ Fld Z h ob sA "value" "[B" (.ref xb) ∧ Fld Z h ob sA "coder" "B" (.int 0) ∧ Fld Z h ob sA "count" "I" (.int ct) ∧ Arv Z h xb xk .byte (38 : Int32) (own_iv []) (.int 0)
theorem rmEG1 (l : Launch) (Z : State) (a0 : Array Value) (hw : HWd a0 Z) (ws : List Jvm.Cond) (ob bb : Addr) (kb : ClassId) (ct : Int32) (h0 : Heap) (n0 : Nat) (Z0 : n0 ≤ h0.size) (P0 : Exa Z h0 ob sB) (P1 : Fld Z h0 ob sA "value" "[B" (.ref bb)) (P2 : Fld Z h0 ob sA "coder" "B" (.int 0)) (P3 : Fld Z h0 ob sA "count" "I" (.int ct)) (P4 : Arv Z h0 bb kb .byte (16 : Int32) (own_iv []) (.int 0)) (g_ob : n0 ≤ ob) :
    own_Met l Y_10 (Jvm.Cond.code Y_10 jdk_68_method_9_code 3 none :: ws) (RM 3 1 38 48) #[.ref ob, .int 38] Z h0 (QEG1 Z ob bb kb ct h0 n0) := by
  refine own_bS pn_15 rfl D_15 (fun m => ef_EG1 m ob) hw fun p e s m below meth c sZ Bd hx hby hml hown hnm hh hZ X0 e0 w H pre0 => ?_
  have N0 := Fr.nil n0
  have K0 := Keep.refl h0 [ob]
  obtain ⟨T1, X1, e1, st1⟩ := getF X0 hx hZ hown (host := "") (Or.inl (w 49 rfl)) Via.refl e0 P1 (g := (mkF m 1 #[vR ob, vI 38, vU] [.ref ob])) rfl rfl (H 1 rfl)
  obtain ⟨T2, X2, e2, st2⟩ := getF X1 hx hZ hown (host := "") (Or.inl (w 51 rfl)) Via.refl e1 P2 (g := (mkF m 6 #[vR ob, vI 38, vU] [.ref ob, .int 16])) rfl rfl (H 4 rfl)
  obtain ⟨T3, X3, e3, st3⟩ := getF X2 hx hZ hown (host := "") (Or.inl (w 49 rfl)) Via.refl e2 P1 (g := (mkF m 19 #[vR ob, vI 38, vI 16] [.ref ob, .ref ob])) rfl rfl (H 13 rfl)
  have f4 : Arv Z h0 bb kb .byte (16 : Int32) (own_iv (List.replicate 16 (0 : Int32))) (.int 0) := P4.pad (pad_rep [] _ 16)
  obtain ⟨cq5, q5, q5'⟩ := P0.cell
  obtain ⟨_, T5, lo5, Lc5, X5, N5, hQ5, st5⟩ := own_af (QNC16 Z ob bb kb (List.replicate 16 (0 : Int32)) h0 n0) 0 0 0 0 0 0 (X3.privateBack hx (y := Y_14) hown (mvT hZ (w 104 rfl)) (mvT hZ (w 105 rfl)) (own_selp (z := Y_10) (mvT hZ (w 102 rfl)) rfl (mvT hZ (w 105 rfl)) (Cond.privateMethod_at (mvP hZ (w 106 rfl) (args := #[]))) (by decide)) (Cond.privateMethod_at (mvP hZ (w 106 rfl) (args := #[]))) (mvT hZ (w 108 rfl)) (by decide) (backOf (W := 2) (rmNC16 l Z a0 hw [] ob bb kb (List.replicate 16 (0 : Int32)) h0 n0 Z0 P0 P1 P2 f4) hZ (w 108 rfl) (w 45 rfl) (by decide) (by decide)) (g := (mkF m 24 #[vR ob, vI 38, vI 16] [.int 38, .ref ob, .ref bb, .ref ob])) rfl (by rw [hml]; rfl) (Steps.refl _) (a := ob) (by rw [e3]; exact q5) q5' (argsL := [.int 38]) (rest := [.ref bb, .ref ob]) (lenOf pd_11 rfl) rfl (lq rfl) (H 16 rfl) (fun _ _ => ⟨rfl, e3, (by decide : 0 + 0 ≤ _), (by decide : 0 + 0 ≤ _)⟩)) N0 (fun _ _ _ h => h.2.1) rfl rfl
  dsimp only at st5
  obtain ⟨rfl, N5q, r5_0⟩ := hQ5
  obtain ⟨T6, X6, e6, st6⟩ := getF X5 hx hZ hown (host := "") (Or.inl (w 51 rfl)) Via.refl r5_0 P2 (g := (mkF m 28 #[vR ob, vI 38, vI 16] [.ref ob, .int 38, .ref bb, .ref ob])) rfl rfl (H 18 rfl)
  obtain ⟨_, T7, lo7, Lc7, X7, N7, hQ7, st7⟩ := own_af (QCO16 Z bb kb (List.replicate 16 (0 : Int32)) h0 n0) 0 1 0 38 1 38 (Jvm.LawKit.callS X6 hx (y := Y_15) hown (mvT hZ (w 119 rfl)) (mvT hZ (w 120 rfl)) (mvT hZ (w 121 rfl)) (mvT hZ (w 122 rfl)) (by decide) (backOf (W := 1) (rmCO16 l Z a0 hw [] bb kb (List.replicate 16 (0 : Int32)) h0 n0 Z0 f4 rfl) hZ (w 122 rfl) (w 121 rfl) (by decide) (by decide)) (g := (mkF m 32 #[vR ob, vI 38, vI 16] [.int 38, .ref bb, .ref ob])) rfl (by rw [hml]; rfl) (argsL := [.ref bb, .int 38]) (rest := [.ref ob]) (lenOf pd_14 rfl) rfl (lq rfl) (H 20 rfl) (fun _ _ => ⟨rfl, e6, (by decide : 0 + 1 ≤ _), (by decide : 0 + 38 ≤ _)⟩)) N5 (by rintro _ _ _ ⟨_, _, -, N, -⟩; exact N) rfl rfl
  dsimp only at st7
  obtain ⟨x7_0, x7_1, rfl, N7q, r7_0, r7_1, r7_2⟩ := hQ7
  have sz_x7_0 : h0.size ≤ x7_0 := Nat.le_trans K0.1 r7_1
  have f8 := P0.keep r7_0
  have f9 := P1.keep r7_0 nin0
  have K7 := K0.trans r7_0 all0
  obtain ⟨T13, h13, X13, e13, W13, st13⟩ := putF X7 hx hZ hown (host := "") (Or.inl (w 49 rfl)) Via.refl rfl f9 f8 (Or.inl (w 50 rfl)) (w 36 rfl) (ty := (.array .byte)) (by decide) rfl rfl (g := (mkF m 35 #[vR ob, vI 38, vI 16] [.ref x7_0, .ref ob])) rfl rfl (H 21 rfl)
  have f14 := f9.same W13
  have f16 := (P2.keep r7_0 nin0).other W13 (Or.inr (slot_ne (Or.inl (w 52 rfl)) (Or.inl (w 50 rfl)) (by decide) (t := .byte) (t' := (.array .byte)) (by decide) (by decide)))
  have f17 := (P3.keep r7_0 nin0).other W13 (Or.inr (slot_ne (Or.inl (w 98 rfl)) (Or.inl (w 50 rfl)) (by decide) (t := .int) (t' := (.array .byte)) (by decide) (by decide)))
  have ne20 : ob ≠ x7_0 := Nat.ne_of_lt (Nat.lt_of_lt_of_le P0.lt r7_1)
  have f21 := r7_2.other W13 (Ne.symm ne20)
  have K13 := K7.wr W13 (own_m 0 rfl)
  have N13 := Fr.snoc X13 N7 g_ob
  have f22 : Arv Z h13 x7_0 x7_1 .byte (38 : Int32) (own_iv []) (.int 0) := f21.pad (fun i => (pad_rep [] _ 16 i).symm)
  obtain ⟨fs, hr, hrun, hended, hW, hsame⟩ := X13.leave (v := none) (fun _ => rfl)
  refine ⟨_, _, pre0 _ ?_, hrun, hended, _, _, rfl, ?_, ⟨_, rfl⟩, hW, hsame.mono (by decide) (by decide)⟩
  · show SG X0 0 #[vR ob, vI 38, vU] [] _
    refine XS.aloadN X0.here hx rfl (H 0 rfl) rfl rfl ?_
    refine st1 _ ?_
    show SG X1 4 #[vR ob, vI 38, vU] [.ref bb] _
    refine own_alen X1 hx hZ e1 P4 (H 2 rfl) ?_
    refine XS.aloadN X1.here hx rfl (H 3 rfl) rfl rfl ?_
    refine st2 _ ?_
    show SG X2 9 #[vR ob, vI 38, vU] [.int 0, .int 16] _
    refine XS.ishr X2.here hx rfl (H 5 rfl) rfl ?_
    show SG X2 10 #[vR ob, vI 38, vU] [.int ((16 : Int32) >>> ((0 : Int32) &&& 31))] _
    rw [(own_shr (16 : Int32))]
    show SG X2 10 #[vR ob, vI 38, vU] [.int 16] _
    refine XS.istoreN X2.here hx rfl (H 6 rfl) rfl (l' := #[vR ob, vI 38, vI 16]) rfl ?_
    refine XS.iloadN X2.here hx rfl (H 7 rfl) rfl ?_
    refine XS.iloadN X2.here hx rfl (H 8 rfl) rfl ?_
    refine XS.isub X2.here hx rfl (H 9 rfl) rfl ?_
    show SG X2 14 #[vR ob, vI 38, vI 16] [.int 22] _
    refine XS.ifNo X2.here hx rfl (H 10 rfl) rfl ((if0 _ _).trans (tlt (by decide : ((0 : Int32) < (22 : Int32)))).2.2.2) ?_
    refine XS.aloadN X2.here hx rfl (H 11 rfl) rfl rfl ?_
    refine XS.aloadN X2.here hx rfl (H 12 rfl) rfl rfl ?_
    refine st3 _ ?_
    show SG X3 22 #[vR ob, vI 38, vI 16] [.ref bb, .ref ob] _
    refine XS.aloadN X3.here hx rfl (H 14 rfl) rfl rfl ?_
    refine XS.iloadN X3.here hx rfl (H 15 rfl) rfl ?_
    refine st5.trans ?_
    show SG X5 27 #[vR ob, vI 38, vI 16] [.int 38, .ref bb, .ref ob] _
    refine XS.aloadN X5.here hx rfl (H 17 rfl) rfl rfl ?_
    refine st6 _ ?_
    show SG X6 31 #[vR ob, vI 38, vI 16] [.int 0, .int 38, .ref bb, .ref ob] _
    refine XS.ishl X6.here hx rfl (H 19 rfl) rfl ?_
    show SG X6 32 #[vR ob, vI 38, vI 16] [.int ((38 : Int32) <<< ((0 : Int32) &&& 31)), .ref bb, .ref ob] _
    rw [(own_shl (38 : Int32))]
    show SG X6 32 #[vR ob, vI 38, vI 16] [.int 38, .ref bb, .ref ob] _
    refine st7 _ ?_
    show SG X7 35 #[vR ob, vI 38, vI 16] [.ref x7_0, .ref ob] _
    refine st13 _ ?_
    show SG X13 38 #[vR ob, vI 38, vI 16] [] _
    exact X13.returnOut hx Bd.returns (H 22 rfl) hr
  · show QEG1 Z ob bb kb ct h0 n0 _ T13.heap _
    rw [e13]
    exact ⟨x7_0, x7_1, rfl, N13, K13, sz_x7_0, f14, f16, f17, f22⟩

theorem ef_NC38 (m : MethodId) (ob : Addr) : entryFrame m #[.ref ob, .int 39] 6 = mkF m 0 #[.val (.ref ob), .val (.int 39), .unset, .unset, .unset, .unset] [] := by simp [entryFrame, mkF, argsToLocals, Value.category]
def QNC38 (Z : State) (ob bb : Addr) (kb : ClassId) (bs : List Int32) (h0 : Heap) (n0 : Nat) (v : Option Value) (h : Heap) (L : List Loc) : Prop := v = some (.int 78) ∧ Fr n0 L ∧ h = h0
theorem rmNC38 (l : Launch) (Z : State) (a0 : Array Value) (hw : HWd a0 Z) (ws : List Jvm.Cond) (ob bb : Addr) (kb : ClassId) (bs : List Int32) (h0 : Heap) (n0 : Nat) (Z0 : n0 ≤ h0.size) (P0 : Exa Z h0 ob sB) (P1 : Fld Z h0 ob sA "value" "[B" (.ref bb)) (P2 : Fld Z h0 ob sA "coder" "B" (.int 0)) (P3 : Arv Z h0 bb kb .byte (38 : Int32) (own_iv bs) (.int 0)) :
    own_Met l Y_14 (Jvm.Cond.code Y_14 jdk_68_method_10_code 6 (some .int) :: ws) (RM 2 0 0 29) #[.ref ob, .int 39] Z h0 (QNC38 Z ob bb kb bs h0 n0) := by
  refine own_bS pn_16 rfl D_16 (fun m => ef_NC38 m ob) hw fun p e s m below meth c sZ Bd hx hby hml hown hnm hh hZ X0 e0 w H pre0 => ?_
  have N0 := Fr.nil n0
  obtain ⟨T1, X1, e1, st1⟩ := getF X0 hx hZ hown (host := "") (Or.inl (w 49 rfl)) Via.refl e0 P1 (g := (mkF m 1 #[vR ob, vI 39, vU, vU, vU, vU] [.ref ob])) rfl rfl (H 1 rfl)
  obtain ⟨T2, X2, e2, st2⟩ := getF X1 hx hZ hown (host := "") (Or.inl (w 51 rfl)) Via.refl e1 P2 (g := (mkF m 8 #[vR ob, vI 39, vI 38, vU, vU, vU] [.ref ob, .int 39])) rfl rfl (H 6 rfl)
  obtain ⟨T3, X3, e3, st3⟩ := getF X2 hx hZ hown (host := "") (Or.inl (w 51 rfl)) Via.refl e2 P2 (g := (mkF m 24 #[vR ob, vI 39, vI 38, vI 39, vI 1, vU] [.ref ob, .int 2, .int 38, .int 1, .int 38])) rfl rfl (H 18 rfl)
  obtain ⟨_, T4, lo4, Lc4, X4, N4, hQ4, st4⟩ := own_af (QNL38 Z  h0 n0) 0 0 0 0 0 0 (Jvm.LawKit.callS X3 hx (y := Y_13) hown (mvT hZ (w 109 rfl)) (mvT hZ (w 110 rfl)) (mvT hZ (w 111 rfl)) (mvT hZ (w 112 rfl)) (by decide) (backOf (W := 0) (rmNL38 l Z a0 hw []  h0 n0 Z0) hZ (w 112 rfl) (w 111 rfl) (by decide) (by decide)) (g := (mkF m 29 #[vR ob, vI 39, vI 38, vI 39, vI 1, vU] [.int 40, .int 1, .int 38])) rfl (by rw [hml]; rfl) (argsL := [.int 38, .int 1, .int 40]) (rest := []) (lenOf pd_12 rfl) rfl (lq rfl) (H 21 rfl) (fun _ _ => ⟨rfl, e3, (by decide : 0 + 0 ≤ _), (by decide : 0 + 0 ≤ _)⟩)) N0 (fun _ _ _ h => h.2.1) rfl rfl
  dsimp only at st4
  obtain ⟨rfl, N4q, r4_0⟩ := hQ4
  obtain ⟨T5, X5, e5, st5⟩ := getF X4 hx hZ hown (host := "") (Or.inl (w 51 rfl)) Via.refl r4_0 P2 (g := (mkF m 54 #[vR ob, vI 39, vI 38, vI 39, vI 1, vI 78] [.ref ob, .int 78])) rfl rfl (H 28 rfl)
  obtain ⟨fs, hr, hrun, hended, hW, hsame⟩ := X5.leave (v := some (.int 78)) (fun h => by rw [Bd.returns] at h; cases h)
  refine ⟨_, _, pre0 _ ?_, hrun, hended, _, _, rfl, ?_, ⟨_, rfl⟩, hW, hsame.mono (by decide) (by decide)⟩
  · show SG X0 0 #[vR ob, vI 39, vU, vU, vU, vU] [] _
    refine XS.aloadN X0.here hx rfl (H 0 rfl) rfl rfl ?_
    refine st1 _ ?_
    show SG X1 4 #[vR ob, vI 39, vU, vU, vU, vU] [.ref bb] _
    refine own_alen X1 hx hZ e1 P3 (H 2 rfl) ?_
    refine XS.istoreN X1.here hx rfl (H 3 rfl) rfl (l' := #[vR ob, vI 39, vI 38, vU, vU, vU]) rfl ?_
    refine XS.iloadN X1.here hx rfl (H 4 rfl) rfl ?_
    refine XS.aloadN X1.here hx rfl (H 5 rfl) rfl rfl ?_
    refine st2 _ ?_
    show SG X2 11 #[vR ob, vI 39, vI 38, vU, vU, vU] [.int 0, .int 39] _
    refine XS.ishl X2.here hx rfl (H 7 rfl) rfl ?_
    show SG X2 12 #[vR ob, vI 39, vI 38, vU, vU, vU] [.int ((39 : Int32) <<< ((0 : Int32) &&& 31))] _
    rw [(own_shl (39 : Int32))]
    show SG X2 12 #[vR ob, vI 39, vI 38, vU, vU, vU] [.int 39] _
    refine XS.istoreN X2.here hx rfl (H 8 rfl) rfl (l' := #[vR ob, vI 39, vI 38, vI 39, vU, vU]) rfl ?_
    refine XS.iloadN X2.here hx rfl (H 9 rfl) rfl ?_
    refine XS.iloadN X2.here hx rfl (H 10 rfl) rfl ?_
    refine XS.isub X2.here hx rfl (H 11 rfl) rfl ?_
    show SG X2 16 #[vR ob, vI 39, vI 38, vI 39, vU, vU] [.int 1] _
    refine XS.istore X2.here hx rfl (H 12 rfl) rfl (l' := #[vR ob, vI 39, vI 38, vI 39, vI 1, vU]) rfl ?_
    refine XS.iloadN X2.here hx rfl (H 13 rfl) rfl ?_
    refine XS.iload X2.here hx rfl (H 14 rfl) rfl ?_
    refine XS.iloadN X2.here hx rfl (H 15 rfl) rfl ?_
    refine XS.iconst X2.here hx rfl (H 16 rfl) ?_
    refine XS.aloadN X2.here hx rfl (H 17 rfl) rfl rfl ?_
    refine st3 _ ?_
    show SG X3 27 #[vR ob, vI 39, vI 38, vI 39, vI 1, vU] [.int 0, .int 2, .int 38, .int 1, .int 38] _
    refine XS.ishl X3.here hx rfl (H 19 rfl) rfl ?_
    show SG X3 28 #[vR ob, vI 39, vI 38, vI 39, vI 1, vU] [.int ((2 : Int32) <<< ((0 : Int32) &&& 31)), .int 38, .int 1, .int 38] _
    rw [(own_shl (2 : Int32))]
    show SG X3 28 #[vR ob, vI 39, vI 38, vI 39, vI 1, vU] [.int 2, .int 38, .int 1, .int 38] _
    refine XS.iadd X3.here hx rfl (H 20 rfl) rfl ?_
    show SG X3 29 #[vR ob, vI 39, vI 38, vI 39, vI 1, vU] [.int 40, .int 1, .int 38] _
    refine st4 _ ?_
    show SG X4 32 #[vR ob, vI 39, vI 38, vI 39, vI 1, vU] [.int 78] _
    refine XS.istore X4.here hx rfl (H 22 rfl) rfl (l' := #[vR ob, vI 39, vI 38, vI 39, vI 1, vI 78]) rfl ?_
    refine XS.iload X4.here hx rfl (H 23 rfl) rfl ?_
    refine X4.ldcInt hx hown (mvT hZ (w 118 rfl)) (g := (mkF m 36 #[vR ob, vI 39, vI 38, vI 39, vI 1, vI 78] [.int 78])) rfl (H 24 rfl) _ ?_
    show SG X4 38 #[vR ob, vI 39, vI 38, vI 39, vI 1, vI 78] [.int 2147483647, .int 78] _
    refine XS.icmpYes X4.here hx rfl (pc0 := 38) (pc' := 51) rfl (H 25 rfl) rfl (feq (by decide : ¬ ((78 : Int32) = (2147483647 : Int32)))).2 (by decide) (by decide) ?_
    refine XS.iload X4.here hx rfl (H 26 rfl) rfl ?_
    refine XS.aloadN X4.here hx rfl (H 27 rfl) rfl rfl ?_
    refine st5 _ ?_
    show SG X5 57 #[vR ob, vI 39, vI 38, vI 39, vI 1, vI 78] [.int 0, .int 78] _
    refine XS.ishr X5.here hx rfl (H 29 rfl) rfl ?_
    show SG X5 58 #[vR ob, vI 39, vI 38, vI 39, vI 1, vI 78] [.int ((78 : Int32) >>> ((0 : Int32) &&& 31))] _
    rw [(own_shr (78 : Int32))]
    show SG X5 58 #[vR ob, vI 39, vI 38, vI 39, vI 1, vI 78] [.int 78] _
    exact retI X5 hx Bd.returns (H 30 rfl) hr
  · show QNC38 Z ob bb kb bs h0 n0 _ T5.heap _
    rw [e5]
    exact ⟨rfl, N4, rfl⟩

theorem ef_CO38 (m : MethodId) (bb : Addr) : entryFrame m #[.ref bb, .int 78] 3 = mkF m 0 #[.val (.ref bb), .val (.int 78), .unset] [] := by simp [entryFrame, mkF, argsToLocals, Value.category]
def QCO38 (Z : State) (bb : Addr) (kb : ClassId) (bs : List Int32) (h0 : Heap) (n0 : Nat) (v : Option Value) (h : Heap) (L : List Loc) : Prop := ∃ xb : Addr, ∃ xk : ClassId, v = some (.ref xb) ∧ Fr n0 L ∧ Keep h0 h [] ∧ h0.size ≤ xb ∧ Arv Z h xb xk .byte (78 : Int32) (own_iv bs) (.int 0)
theorem rmCO38 (l : Launch) (Z : State) (a0 : Array Value) (hw : HWd a0 Z) (ws : List Jvm.Cond) (bb : Addr) (kb : ClassId) (bs : List Int32) (h0 : Heap) (n0 : Nat) (Z0 : n0 ≤ h0.size) (P0 : Arv Z h0 bb kb .byte (38 : Int32) (own_iv bs) (.int 0)) (hl : bs.length = 38) :
    own_Met l Y_15 (Jvm.Cond.code Y_15 jdk_65_method_121_code 3 (some (.array .byte)) :: ws) (RM 1 1 78 32) #[.ref bb, .int 78] Z h0 (QCO38 Z bb kb bs h0 n0) := by
  refine own_bS pn_19 rfl D_19 (fun m => ef_CO38 m bb) hw fun p e s m below meth c sZ Bd hx hby hml hown hnm hh hZ X0 e0 w H pre0 => ?_
  have N0 := Fr.nil n0
  have K0 := Keep.refl h0 []
  obtain ⟨T1, h1, k1, X1, e1, E1, A1, st1⟩ := newP X0 hx hZ (w 17 rfl) e0 (g := (mkF m 15 #[vR bb, vI 78, vU] [.int 78])) rfl (H 5 rfl) rfl (by decide) (cap := 78) (by decide) (by decide) (by decide) (by decide)
  obtain ⟨b1, g1⟩ : ∃ z, z = h0.size := ⟨_, rfl⟩
  rw [← g1] at A1 st1
  have g_b1 : n0 ≤ b1 := Nat.le_trans Z0 (Nat.le_of_eq g1.symm)
  have sz_b1 : h0.size ≤ b1 := Nat.le_trans K0.1 (Nat.le_of_eq g1.symm)
  have f3 := P0.ext E1
  have K1 := K0.ext E1
  have Z1 : n0 ≤ h1.size := Nat.le_trans Z0 E1.1
  have U1 : Arv Z h1 b1 k1 .byte (78 : Int32) (own_iv []) (.int 0) := Arv.new A1 (by decide)
  obtain ⟨_, T4, lo4, Lc4, X4, N4, hQ4, st4⟩ := own_af (QMN38 Z  h1 n0) 1 0 78 0 1 78 (Jvm.LawKit.callS X1 hx (y := Y_12) hown (mvT hZ (w 123 rfl)) (mvT hZ (w 124 rfl)) (mvT hZ (w 115 rfl)) (mvT hZ (w 125 rfl)) (by decide) (backOf (W := 4) (rmMN38 l Z a0 hw []  h1 n0 Z1) hZ (w 125 rfl) (w 115 rfl) (by decide) (by decide)) (g := (mkF m 25 #[vR bb, vI 78, vR b1] [.int 78, .int 38, .int 0, .ref b1, .int 0, .ref bb])) rfl (by rw [hml]; rfl) (argsL := [.int 38, .int 78]) (rest := [.int 0, .ref b1, .int 0, .ref bb]) (lenOf pd_13 rfl) rfl (lq rfl) (H 14 rfl) (fun _ _ => ⟨rfl, e1, (by decide : 1 + 0 ≤ _), (by decide : 78 + 0 ≤ _)⟩)) N0 (fun _ _ _ h => h.2.1) rfl rfl
  dsimp only at st4
  obtain ⟨rfl, N4q, r4_0⟩ := hQ4
  have pv5 : Arv Z h1 b1 k1 .byte (78 : Int32) (own_iv [] ++ List.replicate 38 (.int 0)) (.int 0) := U1.pad (own_pad [] 38)
  obtain ⟨T5, h5, L5, X5, e5, N5, Kc5, V5, st5⟩ := cpA X4 hx hZ hown (w 126 rfl) (w 129 rfl) (w 127 rfl) (w 128 rfl) r4_0 (us := (own_iv bs)) f3 pv5 (Or.inl ⟨rfl, rfl⟩) (by decide) (by decide) (by decide) (by decide) (by decide) (own_rng bs (38 : Int32) (by rw [hl]; decide)) (by decide) N4 g_b1 (g := (mkF m 28 #[vR bb, vI 78, vR b1] [.int 38, .int 0, .ref b1, .int 0, .ref bb])) rfl (by rw [hml]; rfl) rfl (H 15 rfl) (by decide) (W := 0) (lq rfl) (by decide)
  have K5 := K1.trans Kc5 (allS (Or.inr sz_b1) all0)
  have U5 : Arv Z h5 b1 k1 .byte (78 : Int32) (own_iv bs) (.int 0) := own_arv V5 rfl (own_cp0 bs 38)
  obtain ⟨fs, hr, hrun, hended, hW, hsame⟩ := X5.leave (v := some (.ref b1)) (fun h => by rw [Bd.returns] at h; cases h)
  refine ⟨_, _, pre0 _ ?_, hrun, hended, _, _, rfl, ?_, ⟨_, rfl⟩, hW, hsame.mono (by decide) (by decide)⟩
  · show SG X0 0 #[vR bb, vI 78, vU] [] _
    refine XS.iloadN X0.here hx rfl (H 0 rfl) rfl ?_
    refine XS.aloadN X0.here hx rfl (H 1 rfl) rfl rfl ?_
    refine own_alen X0 hx hZ e0 P0 (H 2 rfl) ?_
    refine XS.icmpYes X0.here hx rfl (pc0 := 3) (pc' := 14) rfl (H 3 rfl) rfl (feq (by decide : ¬ ((78 : Int32) = (38 : Int32)))).2 (by decide) (by decide) ?_
    refine XS.iloadN X0.here hx rfl (H 4 rfl) rfl ?_
    refine st1 _ ?_
    show SG X1 17 #[vR bb, vI 78, vU] [.ref b1] _
    refine XS.astoreN X1.here hx rfl (H 6 rfl) rfl rfl (l' := #[vR bb, vI 78, vR b1]) rfl ?_
    refine XS.aloadN X1.here hx rfl (H 7 rfl) rfl rfl ?_
    refine XS.iconst X1.here hx rfl (H 8 rfl) ?_
    refine XS.aloadN X1.here hx rfl (H 9 rfl) rfl rfl ?_
    refine XS.iconst X1.here hx rfl (H 10 rfl) ?_
    refine XS.aloadN X1.here hx rfl (H 11 rfl) rfl rfl ?_
    refine own_alen X1 hx hZ e1 f3 (H 12 rfl) ?_
    refine XS.iloadN X1.here hx rfl (H 13 rfl) rfl ?_
    refine st4 _ ?_
    show SG X4 28 #[vR bb, vI 78, vR b1] [.int 38, .int 0, .ref b1, .int 0, .ref bb] _
    refine st5 _ ?_
    show SG X5 31 #[vR bb, vI 78, vR b1] [] _
    refine XS.aloadN X5.here hx rfl (H 16 rfl) rfl rfl ?_
    jvm_step X5.here [X5.here.top, hx, (H 17 rfl), X5.method', Bd.returns, Value.isRef, FieldType.isReference]
    first | (intro acts; rw [hr _ acts rfl rfl rfl]) | rw [hr _ _ rfl rfl rfl]
    exact Steps.refl _
  · show QCO38 Z bb kb bs h0 n0 _ T5.heap _
    rw [e5]
    exact ⟨b1, k1, rfl, N5, K5, sz_b1, U5⟩

theorem ef_EG2 (m : MethodId) (ob : Addr) : entryFrame m #[.ref ob, .int 39] 3 = mkF m 0 #[.val (.ref ob), .val (.int 39), .unset] [] := by simp [entryFrame, mkF, argsToLocals, Value.category]
def QEG2 (Z : State) (ob bb : Addr) (kb : ClassId) (bs : List Int32) (ct : Int32) (h0 : Heap) (n0 : Nat) (v : Option Value) (h : Heap) (L : List Loc) : Prop := ∃ xb : Addr, ∃ xk : ClassId, v = none ∧ Fr n0 L ∧ Keep h0 h [ob] ∧ h0.size ≤ xb ∧ Fld Z h ob sA "value" "[B" (.ref xb) ∧ Fld Z h ob sA "coder" "B" (.int 0) ∧ Fld Z h ob sA "count" "I" (.int ct) ∧ Arv Z h xb xk .byte (78 : Int32) (own_iv bs) (.int 0)
theorem rmEG2 (l : Launch) (Z : State) (a0 : Array Value) (hw : HWd a0 Z) (ws : List Jvm.Cond) (ob bb : Addr) (kb : ClassId) (bs : List Int32) (ct : Int32) (h0 : Heap) (n0 : Nat) (Z0 : n0 ≤ h0.size) (P0 : Exa Z h0 ob sB) (P1 : Fld Z h0 ob sA "value" "[B" (.ref bb)) (P2 : Fld Z h0 ob sA "coder" "B" (.int 0)) (P3 : Fld Z h0 ob sA "count" "I" (.int ct)) (P4 : Arv Z h0 bb kb .byte (38 : Int32) (own_iv bs) (.int 0)) (hl : bs.length = 38) (g_ob : n0 ≤ ob) :
    own_Met l Y_10 (Jvm.Cond.code Y_10 jdk_68_method_9_code 3 none :: ws) (RM 3 1 78 48) #[.ref ob, .int 39] Z h0 (QEG2 Z ob bb kb bs ct h0 n0) := by
  refine own_bS pn_15 rfl D_15 (fun m => ef_EG2 m ob) hw fun p e s m below meth c sZ Bd hx hby hml hown hnm hh hZ X0 e0 w H pre0 => ?_
  have N0 := Fr.nil n0
  have K0 := Keep.refl h0 [ob]
  obtain ⟨T1, X1, e1, st1⟩ := getF X0 hx hZ hown (host := "") (Or.inl (w 49 rfl)) Via.refl e0 P1 (g := (mkF m 1 #[vR ob, vI 39, vU] [.ref ob])) rfl rfl (H 1 rfl)
  obtain ⟨T2, X2, e2, st2⟩ := getF X1 hx hZ hown (host := "") (Or.inl (w 51 rfl)) Via.refl e1 P2 (g := (mkF m 6 #[vR ob, vI 39, vU] [.ref ob, .int 38])) rfl rfl (H 4 rfl)
  obtain ⟨T3, X3, e3, st3⟩ := getF X2 hx hZ hown (host := "") (Or.inl (w 49 rfl)) Via.refl e2 P1 (g := (mkF m 19 #[vR ob, vI 39, vI 38] [.ref ob, .ref ob])) rfl rfl (H 13 rfl)
  obtain ⟨cq4, q4, q4'⟩ := P0.cell
  obtain ⟨_, T4, lo4, Lc4, X4, N4, hQ4, st4⟩ := own_af (QNC38 Z ob bb kb bs h0 n0) 0 0 0 0 0 0 (X3.privateBack hx (y := Y_14) hown (mvT hZ (w 104 rfl)) (mvT hZ (w 105 rfl)) (own_selp (z := Y_10) (mvT hZ (w 102 rfl)) rfl (mvT hZ (w 105 rfl)) (Cond.privateMethod_at (mvP hZ (w 106 rfl) (args := #[]))) (by decide)) (Cond.privateMethod_at (mvP hZ (w 106 rfl) (args := #[]))) (mvT hZ (w 108 rfl)) (by decide) (backOf (W := 2) (rmNC38 l Z a0 hw [] ob bb kb bs h0 n0 Z0 P0 P1 P2 P4) hZ (w 108 rfl) (w 45 rfl) (by decide) (by decide)) (g := (mkF m 24 #[vR ob, vI 39, vI 38] [.int 39, .ref ob, .ref bb, .ref ob])) rfl (by rw [hml]; rfl) (Steps.refl _) (a := ob) (by rw [e3]; exact q4) q4' (argsL := [.int 39]) (rest := [.ref bb, .ref ob]) (lenOf pd_11 rfl) rfl (lq rfl) (H 16 rfl) (fun _ _ => ⟨rfl, e3, (by decide : 0 + 0 ≤ _), (by decide : 0 + 0 ≤ _)⟩)) N0 (fun _ _ _ h => h.2.1) rfl rfl
  dsimp only at st4
  obtain ⟨rfl, N4q, r4_0⟩ := hQ4
  obtain ⟨T5, X5, e5, st5⟩ := getF X4 hx hZ hown (host := "") (Or.inl (w 51 rfl)) Via.refl r4_0 P2 (g := (mkF m 28 #[vR ob, vI 39, vI 38] [.ref ob, .int 78, .ref bb, .ref ob])) rfl rfl (H 18 rfl)
  obtain ⟨_, T6, lo6, Lc6, X6, N6, hQ6, st6⟩ := own_af (QCO38 Z bb kb bs h0 n0) 0 1 0 78 1 78 (Jvm.LawKit.callS X5 hx (y := Y_15) hown (mvT hZ (w 119 rfl)) (mvT hZ (w 120 rfl)) (mvT hZ (w 121 rfl)) (mvT hZ (w 122 rfl)) (by decide) (backOf (W := 1) (rmCO38 l Z a0 hw [] bb kb bs h0 n0 Z0 P4 hl) hZ (w 122 rfl) (w 121 rfl) (by decide) (by decide)) (g := (mkF m 32 #[vR ob, vI 39, vI 38] [.int 78, .ref bb, .ref ob])) rfl (by rw [hml]; rfl) (argsL := [.ref bb, .int 78]) (rest := [.ref ob]) (lenOf pd_14 rfl) rfl (lq rfl) (H 20 rfl) (fun _ _ => ⟨rfl, e5, (by decide : 0 + 1 ≤ _), (by decide : 0 + 78 ≤ _)⟩)) N4 (by rintro _ _ _ ⟨_, _, -, N, -⟩; exact N) rfl rfl
  dsimp only at st6
  obtain ⟨x6_0, x6_1, rfl, N6q, r6_0, r6_1, r6_2⟩ := hQ6
  have sz_x6_0 : h0.size ≤ x6_0 := Nat.le_trans K0.1 r6_1
  have f7 := P0.keep r6_0
  have f8 := P1.keep r6_0 nin0
  have K6 := K0.trans r6_0 all0
  obtain ⟨T12, h12, X12, e12, W12, st12⟩ := putF X6 hx hZ hown (host := "") (Or.inl (w 49 rfl)) Via.refl rfl f8 f7 (Or.inl (w 50 rfl)) (w 36 rfl) (ty := (.array .byte)) (by decide) rfl rfl (g := (mkF m 35 #[vR ob, vI 39, vI 38] [.ref x6_0, .ref ob])) rfl rfl (H 21 rfl)
  have f13 := f8.same W12
  have f15 := (P2.keep r6_0 nin0).other W12 (Or.inr (slot_ne (Or.inl (w 52 rfl)) (Or.inl (w 50 rfl)) (by decide) (t := .byte) (t' := (.array .byte)) (by decide) (by decide)))
  have f16 := (P3.keep r6_0 nin0).other W12 (Or.inr (slot_ne (Or.inl (w 98 rfl)) (Or.inl (w 50 rfl)) (by decide) (t := .int) (t' := (.array .byte)) (by decide) (by decide)))
  have ne19 : ob ≠ x6_0 := Nat.ne_of_lt (Nat.lt_of_lt_of_le P0.lt r6_1)
  have f20 := r6_2.other W12 (Ne.symm ne19)
  have K12 := K6.wr W12 (own_m 0 rfl)
  have N12 := Fr.snoc X12 N6 g_ob
  obtain ⟨fs, hr, hrun, hended, hW, hsame⟩ := X12.leave (v := none) (fun _ => rfl)
  refine ⟨_, _, pre0 _ ?_, hrun, hended, _, _, rfl, ?_, ⟨_, rfl⟩, hW, hsame.mono (by decide) (by decide)⟩
  · show SG X0 0 #[vR ob, vI 39, vU] [] _
    refine XS.aloadN X0.here hx rfl (H 0 rfl) rfl rfl ?_
    refine st1 _ ?_
    show SG X1 4 #[vR ob, vI 39, vU] [.ref bb] _
    refine own_alen X1 hx hZ e1 P4 (H 2 rfl) ?_
    refine XS.aloadN X1.here hx rfl (H 3 rfl) rfl rfl ?_
    refine st2 _ ?_
    show SG X2 9 #[vR ob, vI 39, vU] [.int 0, .int 38] _
    refine XS.ishr X2.here hx rfl (H 5 rfl) rfl ?_
    show SG X2 10 #[vR ob, vI 39, vU] [.int ((38 : Int32) >>> ((0 : Int32) &&& 31))] _
    rw [(own_shr (38 : Int32))]
    show SG X2 10 #[vR ob, vI 39, vU] [.int 38] _
    refine XS.istoreN X2.here hx rfl (H 6 rfl) rfl (l' := #[vR ob, vI 39, vI 38]) rfl ?_
    refine XS.iloadN X2.here hx rfl (H 7 rfl) rfl ?_
    refine XS.iloadN X2.here hx rfl (H 8 rfl) rfl ?_
    refine XS.isub X2.here hx rfl (H 9 rfl) rfl ?_
    show SG X2 14 #[vR ob, vI 39, vI 38] [.int 1] _
    refine XS.ifNo X2.here hx rfl (H 10 rfl) rfl ((if0 _ _).trans (tlt (by decide : ((0 : Int32) < (1 : Int32)))).2.2.2) ?_
    refine XS.aloadN X2.here hx rfl (H 11 rfl) rfl rfl ?_
    refine XS.aloadN X2.here hx rfl (H 12 rfl) rfl rfl ?_
    refine st3 _ ?_
    show SG X3 22 #[vR ob, vI 39, vI 38] [.ref bb, .ref ob] _
    refine XS.aloadN X3.here hx rfl (H 14 rfl) rfl rfl ?_
    refine XS.iloadN X3.here hx rfl (H 15 rfl) rfl ?_
    refine st4.trans ?_
    show SG X4 27 #[vR ob, vI 39, vI 38] [.int 78, .ref bb, .ref ob] _
    refine XS.aloadN X4.here hx rfl (H 17 rfl) rfl rfl ?_
    refine st5 _ ?_
    show SG X5 31 #[vR ob, vI 39, vI 38] [.int 0, .int 78, .ref bb, .ref ob] _
    refine XS.ishl X5.here hx rfl (H 19 rfl) rfl ?_
    show SG X5 32 #[vR ob, vI 39, vI 38] [.int ((78 : Int32) <<< ((0 : Int32) &&& 31)), .ref bb, .ref ob] _
    rw [(own_shl (78 : Int32))]
    show SG X5 32 #[vR ob, vI 39, vI 38] [.int 78, .ref bb, .ref ob] _
    refine st6 _ ?_
    show SG X6 35 #[vR ob, vI 39, vI 38] [.ref x6_0, .ref ob] _
    refine st12 _ ?_
    show SG X12 38 #[vR ob, vI 39, vI 38] [] _
    exact X12.returnOut hx Bd.returns (H 22 rfl) hr
  · show QEG2 Z ob bb kb bs ct h0 n0 _ T12.heap _
    rw [e12]
    exact ⟨x6_0, x6_1, rfl, N12, K12, sz_x6_0, f13, f15, f16, f20⟩

theorem pn_22 : plainName "java/lang/AbstractStringBuilder" = true := by first | (simp [plainName, overriddenIn]; done) | decide +kernel
theorem ef_IF (m : MethodId) (ob sg : Addr) : entryFrame m #[.ref ob, .ref sg] 2 = mkF m 0 #[.val (.ref ob), .val (.ref sg)] [] := by simp [entryFrame, mkF, argsToLocals, Value.category]
def QIF (Z : State) (ob sg : Addr) (cs : Int32) (h0 : Heap) (n0 : Nat) (v : Option Value) (h : Heap) (L : List Loc) : Prop := v = none ∧ Fr n0 L ∧ h = h0
theorem rmIF (l : Launch) (Z : State) (a0 : Array Value) (hw : HWd a0 Z) (ws : List Jvm.Cond) (ob sg : Addr) (cs : Int32) (h0 : Heap) (n0 : Nat) (Z0 : n0 ≤ h0.size) (P0 : Exa Z h0 ob sB) (P1 : Fld Z h0 ob sA "coder" "B" (.int 0)) (P2 : Exa Z h0 sg sS) (P3 : Fld Z h0 sg sS "coder" "B" (.int 0)) (P4 : Sta Z h0 sS sC "Z" (.int cs)) (hcs : ¬ cs = (0 : Int32)) :
    own_Met l Y_16 (Jvm.Cond.code Y_16 jdk_68_method_71_code 2 none :: ws) (RM 1 0 0 13) #[.ref ob, .ref sg] Z h0 (QIF Z ob sg cs h0 n0) := by
  refine own_bS pn_22 rfl D_22 (fun m => ef_IF m ob sg) hw fun p e s m below meth c sZ Bd hx hby hml hown hnm hh hZ X0 e0 w H pre0 => ?_
  have N0 := Fr.nil n0
  obtain ⟨T1, X1, e1, st1⟩ := getS2 X0 hx hZ hown (host := "") (Or.inl (w 48 rfl)) Via.refl e0 P4 (g := (mkF m 0 #[vR ob, vR sg] [])) rfl (H 0 rfl)
  obtain ⟨T2, X2, e2, st2⟩ := getF X1 hx hZ hown (host := "") (Or.inl (w 51 rfl)) Via.refl e1 P1 (g := (mkF m 7 #[vR ob, vR sg] [.ref ob])) rfl rfl (H 3 rfl)
  obtain ⟨cq3, kq3, q3a, q3b, q3c⟩ := isOf hZ e2 P2
  obtain ⟨_, T3, lo3, Lc3, X3, N3, hQ3, st3⟩ := own_af (QSC Z sg cs h0 n0) 0 0 0 0 0 0 (X2.virtualBack hx (y := Y_8) (z := Y_8) hown (mvT hZ (w 140 rfl)) (mvT hZ (w 93 rfl)) (own_ns hZ (w 95 rfl)) (mvT hZ (w 95 rfl)) (mvT hZ (w 94 rfl)) (by decide) (backOf (W := 1) (rmSC l Z a0 hw [] sg cs h0 n0 Z0 P3 P2 P4 hcs) hZ (w 96 rfl) (w 5 rfl) (by decide) (by decide)) q3a q3c (g := (mkF m 11 #[vR ob, vR sg] [.ref sg, .int 0])) rfl (by rw [hml]; rfl) (Steps.refl _) (argsL := []) (rest := [.int 0]) (lenOf pd_10 rfl) rfl (lq rfl) (H 5 rfl) (fun _ _ => ⟨rfl, e2, (by decide : 0 + 0 ≤ _), (by decide : 0 + 0 ≤ _)⟩)) N0 (fun _ _ _ h => h.2.1) rfl rfl
  dsimp only at st3
  obtain ⟨rfl, N3q, r3_0⟩ := hQ3
  obtain ⟨fs, hr, hrun, hended, hW, hsame⟩ := X3.leave (v := none) (fun _ => rfl)
  refine ⟨_, _, pre0 _ ?_, hrun, hended, _, _, rfl, ?_, ⟨_, rfl⟩, hW, hsame.mono (by decide) (by decide)⟩
  · show SG X0 0 #[vR ob, vR sg] [] _
    refine st1 _ ?_
    show SG X1 3 #[vR ob, vR sg] [.int cs] _
    refine XS.ifNo X1.here hx rfl (H 1 rfl) rfl ((if0 _ _).trans (feq hcs).1) ?_
    refine XS.aloadN X1.here hx rfl (H 2 rfl) rfl rfl ?_
    refine st2 _ ?_
    show SG X2 10 #[vR ob, vR sg] [.int 0] _
    refine XS.aloadN X2.here hx rfl (H 4 rfl) rfl rfl ?_
    refine st3.trans ?_
    show SG X3 14 #[vR ob, vR sg] [.int 0, .int 0] _
    refine XS.icmpYes X3.here hx rfl (pc0 := 14) (pc' := 21) rfl (H 6 rfl) rfl (teq (by decide : ((0 : Int32) = (0 : Int32)))).1 (by decide) (by decide) ?_
    exact X3.returnOut hx Bd.returns (H 7 rfl) hr
  · show QIF Z ob sg cs h0 n0 _ T3.heap _
    rw [r3_0]
    exact ⟨rfl, N3, rfl⟩

theorem pn_23 : plainName "java/lang/String" = true := by first | (simp [plainName, overriddenIn]; done) | decide +kernel
theorem ef_GB (m : MethodId) (sg bb : Addr) (dp : Int32) : entryFrame m #[.ref sg, .ref bb, .int dp, .int 0] 4 = mkF m 0 #[.val (.ref sg), .val (.ref bb), .val (.int dp), .val (.int 0)] [] := by simp [entryFrame, mkF, argsToLocals, Value.category]
def QGB (Z : State) (sg bb : Addr) (dp : Int32) (ub : Addr) (ku : ClassId) (us : List Int32) (kb : ClassId) (bs : List Int32) (zN cs : Int32) (h0 : Heap) (n0 : Nat) (v : Option Value) (h : Heap) (L : List Loc) : Prop := v = none ∧ Fr n0 L ∧ Keep h0 h [bb] ∧ Arv Z h bb kb .byte zN (own_iv (bs ++ us)) (.int 0)
theorem rmGB (l : Launch) (Z : State) (a0 : Array Value) (hw : HWd a0 Z) (ws : List Jvm.Cond) (sg bb : Addr) (dp : Int32) (ub : Addr) (ku : ClassId) (us : List Int32) (kb : ClassId) (bs : List Int32) (zN cs : Int32) (h0 : Heap) (n0 : Nat) (Z0 : n0 ≤ h0.size) (P0 : Exa Z h0 sg sS) (P1 : Fld Z h0 sg sS "value" "[B" (.ref ub)) (P2 : Fld Z h0 sg sS "coder" "B" (.int 0)) (P3 : Arv Z h0 ub ku .byte (Int32.ofNat us.length) (own_iv us) (.int 0)) (P4 : Arv Z h0 bb kb .byte zN (own_iv bs) (.int 0)) (P5 : Sta Z h0 sS sC "Z" (.int cs)) (hcs : ¬ cs = (0 : Int32)) (hdp : ¬ dp < (0 : Int32) ∧ dp.toNatClampNeg = bs.length) (hcap : bs.length + us.length ≤ zN.toNatClampNeg) (hsu : us.length + 1 ≤ 78) (g_bb : n0 ≤ bb) :
    own_Met l Y_17 (Jvm.Cond.code Y_17 jdk_42_method_147_code 4 none :: ws) (RM 1 0 0 32) #[.ref sg, .ref bb, .int dp, .int 0] Z h0 (QGB Z sg bb dp ub ku us kb bs zN cs h0 n0) := by
  refine own_bS pn_23 rfl D_23 (fun m => ef_GB m sg bb dp) hw fun p e s m below meth c sZ Bd hx hby hml hown hnm hh hZ X0 e0 w H pre0 => ?_
  have N0 := Fr.nil n0
  have K0 := Keep.refl h0 [bb]
  obtain ⟨cq1, kq1, q1a, q1b, q1c⟩ := isOf hZ e0 P0
  obtain ⟨_, T1, lo1, Lc1, X1, N1, hQ1, st1⟩ := own_af (QSC Z sg cs h0 n0) 0 0 0 0 0 0 (X0.virtualBack hx (y := Y_8) (z := Y_8) hown (mvT hZ (w 92 rfl)) (mvT hZ (w 93 rfl)) (own_ns hZ (w 95 rfl)) (mvT hZ (w 95 rfl)) (mvT hZ (w 94 rfl)) (by decide) (backOf (W := 0) (rmSC l Z a0 hw [] sg cs h0 n0 Z0 P2 P0 P5 hcs) hZ (w 96 rfl) (w 5 rfl) (by decide) (by decide)) q1a q1c (g := (mkF m 1 #[vR sg, vR bb, vI dp, vI 0] [.ref sg])) rfl (by rw [hml]; rfl) (Steps.refl _) (argsL := []) (rest := []) (lenOf pd_10 rfl) rfl (lq rfl) (H 1 rfl) (fun _ _ => ⟨rfl, e0, (by decide : 0 + 0 ≤ _), (by decide : 0 + 0 ≤ _)⟩)) N0 (fun _ _ _ h => h.2.1) rfl rfl
  dsimp only at st1
  obtain ⟨rfl, N1q, r1_0⟩ := hQ1
  obtain ⟨T2, X2, e2, st2⟩ := getF X1 hx hZ hown (host := "") (Or.inl (w 25 rfl)) Via.refl r1_0 P1 (g := (mkF m 9 #[vR sg, vR bb, vI dp, vI 0] [.ref sg])) rfl rfl (H 5 rfl)
  obtain ⟨T3, X3, e3, st3⟩ := getF X2 hx hZ hown (host := "") (Or.inl (w 25 rfl)) Via.refl e2 P1 (g := (mkF m 18 #[vR sg, vR bb, vI dp, vI 0] [.ref sg, .int dp, .ref bb, .int 0, .ref ub])) rfl rfl (H 12 rfl)
  have pv4 : Arv Z h0 bb kb .byte zN (own_iv bs ++ List.replicate us.length (.int 0)) (.int 0) := P4.pad (own_pad bs us.length)
  obtain ⟨T4, h4, L4, X4, e4, N4, Kc4, V4, st4⟩ := cpA X3 hx hZ hown (w 146 rfl) (w 129 rfl) (w 127 rfl) (w 128 rfl) e3 (us := (own_iv us)) P3 pv4 (Or.inl ⟨rfl, rfl⟩) (by decide) hdp.1 (own_a3 us hsu) (own_a4 us) (own_a5 hdp.2 hsu hcap) (own_rng us _ (own_n us.length (by omega)).2.1) (own_a6 hdp.2 hsu) N1 g_bb (g := (mkF m 22 #[vR sg, vR bb, vI dp, vI 0] [.int (Int32.ofNat us.length), .int dp, .ref bb, .int 0, .ref ub])) rfl (by rw [hml]; rfl) rfl (H 14 rfl) (by decide) (W := 0) (lq rfl) (by decide)
  have K4 := K0.trans Kc4 (allS (own_m 0 rfl) all0)
  have U4 : Arv Z h4 bb kb .byte zN (own_iv (bs ++ us)) (.int 0) := own_arv V4 rfl (own_a7 hdp.2 hsu)
  obtain ⟨fs, hr, hrun, hended, hW, hsame⟩ := X4.leave (v := none) (fun _ => rfl)
  refine ⟨_, _, pre0 _ ?_, hrun, hended, _, _, rfl, ?_, ⟨_, rfl⟩, hW, hsame.mono (by decide) (by decide)⟩
  · show SG X0 0 #[vR sg, vR bb, vI dp, vI 0] [] _
    refine XS.aloadN X0.here hx rfl (H 0 rfl) rfl rfl ?_
    refine st1.trans ?_
    show SG X1 4 #[vR sg, vR bb, vI dp, vI 0] [.int 0] _
    refine XS.iloadN X1.here hx rfl (H 2 rfl) rfl ?_
    refine XS.icmpNo X1.here hx rfl (H 3 rfl) rfl (teq (by decide : ((0 : Int32) = (0 : Int32)))).2 ?_
    refine XS.aloadN X1.here hx rfl (H 4 rfl) rfl rfl ?_
    refine st2 _ ?_
    show SG X2 12 #[vR sg, vR bb, vI dp, vI 0] [.ref ub] _
    refine XS.iconst X2.here hx rfl (H 6 rfl) ?_
    refine XS.aloadN X2.here hx rfl (H 7 rfl) rfl rfl ?_
    refine XS.iloadN X2.here hx rfl (H 8 rfl) rfl ?_
    refine XS.iloadN X2.here hx rfl (H 9 rfl) rfl ?_
    refine XS.ishl X2.here hx rfl (H 10 rfl) rfl ?_
    show SG X2 17 #[vR sg, vR bb, vI dp, vI 0] [.int (dp <<< ((0 : Int32) &&& 31)), .ref bb, .int 0, .ref ub] _
    rw [(own_shl dp)]
    show SG X2 17 #[vR sg, vR bb, vI dp, vI 0] [.int dp, .ref bb, .int 0, .ref ub] _
    refine XS.aloadN X2.here hx rfl (H 11 rfl) rfl rfl ?_
    refine st3 _ ?_
    show SG X3 21 #[vR sg, vR bb, vI dp, vI 0] [.ref ub, .int dp, .ref bb, .int 0, .ref ub] _
    refine own_alen X3 hx hZ e3 P3 (H 13 rfl) ?_
    refine st4 _ ?_
    show SG X4 25 #[vR sg, vR bb, vI dp, vI 0] [] _
    refine XS.goto X4.here hx rfl (pc0 := 25) (pc' := 43) rfl (H 15 rfl) (by decide) (by decide) ?_
    exact X4.returnOut hx Bd.returns (H 16 rfl) hr
  · show QGB Z sg bb dp ub ku us kb bs zN cs h0 n0 _ T4.heap _
    rw [e4]
    exact ⟨rfl, N4, K4, U4⟩

theorem pn_21 : plainName "java/lang/AbstractStringBuilder" = true := by first | (simp [plainName, overriddenIn]; done) | decide +kernel
theorem ef_PS (m : MethodId) (ob : Addr) (dp : Int32) (sg : Addr) : entryFrame m #[.ref ob, .int dp, .ref sg] 3 = mkF m 0 #[.val (.ref ob), .val (.int dp), .val (.ref sg)] [] := by simp [entryFrame, mkF, argsToLocals, Value.category]
theorem pd_17 : parseMethodDescriptor "(Ljava/lang/String;)V" = some ⟨[(.object "java/lang/String")], none⟩ := by decide +kernel
theorem pd_18 : parseMethodDescriptor "([BIB)V" = some ⟨[(.array .byte), .int, .byte], none⟩ := by decide +kernel
def QPS (Z : State) (ob : Addr) (dp : Int32) (sg bb : Addr) (kb : ClassId) (bs : List Int32) (ub : Addr) (ku : ClassId) (us : List Int32) (zN cs : Int32) (h0 : Heap) (n0 : Nat) (v : Option Value) (h : Heap) (L : List Loc) : Prop := v = none ∧ Fr n0 L ∧ Keep h0 h [bb] ∧ Arv Z h bb kb .byte zN (own_iv (bs ++ us)) (.int 0)
theorem rmPS (l : Launch) (Z : State) (a0 : Array Value) (hw : HWd a0 Z) (ws : List Jvm.Cond) (ob : Addr) (dp : Int32) (sg bb : Addr) (kb : ClassId) (bs : List Int32) (ub : Addr) (ku : ClassId) (us : List Int32) (zN cs : Int32) (h0 : Heap) (n0 : Nat) (Z0 : n0 ≤ h0.size) (P0 : Exa Z h0 ob sB) (P1 : Fld Z h0 ob sA "value" "[B" (.ref bb)) (P2 : Fld Z h0 ob sA "coder" "B" (.int 0)) (P3 : Arv Z h0 bb kb .byte zN (own_iv bs) (.int 0)) (P4 : Exa Z h0 sg sS) (P5 : Fld Z h0 sg sS "value" "[B" (.ref ub)) (P6 : Fld Z h0 sg sS "coder" "B" (.int 0)) (P7 : Arv Z h0 ub ku .byte (Int32.ofNat us.length) (own_iv us) (.int 0)) (P8 : Sta Z h0 sS sC "Z" (.int cs)) (hcs : ¬ cs = (0 : Int32)) (hdp : ¬ dp < (0 : Int32) ∧ dp.toNatClampNeg = bs.length) (hcap : bs.length + us.length ≤ zN.toNatClampNeg) (hsu : us.length + 1 ≤ 78) (g_bb : n0 ≤ bb) :
    own_Met l Y_18 (Jvm.Cond.code Y_18 jdk_68_method_73_code 3 none :: ws) (RM 2 0 0 47) #[.ref ob, .int dp, .ref sg] Z h0 (QPS Z ob dp sg bb kb bs ub ku us zN cs h0 n0) := by
  refine own_bS pn_21 rfl D_21 (fun m => ef_PS m ob dp sg) hw fun p e s m below meth c sZ Bd hx hby hml hown hnm hh hZ X0 e0 w H pre0 => ?_
  have N0 := Fr.nil n0
  have K0 := Keep.refl h0 [bb]
  obtain ⟨cq1, q1, q1'⟩ := P0.cell
  obtain ⟨_, T1, lo1, Lc1, X1, N1, hQ1, st1⟩ := own_af (QIF Z ob sg cs h0 n0) 0 0 0 0 0 0 (X0.privateBack hx (y := Y_16) hown (mvT hZ (w 135 rfl)) (mvT hZ (w 136 rfl)) (own_selp (z := Y_10) (mvT hZ (w 102 rfl)) rfl (mvT hZ (w 136 rfl)) (Cond.privateMethod_at (mvP hZ (w 137 rfl) (args := #[]))) (by decide)) (Cond.privateMethod_at (mvP hZ (w 137 rfl) (args := #[]))) (mvT hZ (w 139 rfl)) (by decide) (backOf (W := 0) (rmIF l Z a0 hw [] ob sg cs h0 n0 Z0 P0 P2 P4 P6 P8 hcs) hZ (w 139 rfl) (w 45 rfl) (by decide) (by decide)) (g := (mkF m 2 #[vR ob, vI dp, vR sg] [.ref sg, .ref ob])) rfl (by rw [hml]; rfl) (Steps.refl _) (a := ob) (by rw [e0]; exact q1) q1' (argsL := [.ref sg]) (rest := []) (lenOf pd_17 rfl) rfl (lq rfl) (H 2 rfl) (fun _ _ => ⟨rfl, e0, (by decide : 0 + 0 ≤ _), (by decide : 0 + 0 ≤ _)⟩)) N0 (fun _ _ _ h => h.2.1) rfl rfl
  dsimp only at st1
  obtain ⟨rfl, N1q, r1_0⟩ := hQ1
  obtain ⟨T2, X2, e2, st2⟩ := getF X1 hx hZ hown (host := "") (Or.inl (w 49 rfl)) Via.refl r1_0 P1 (g := (mkF m 7 #[vR ob, vI dp, vR sg] [.ref ob, .ref sg])) rfl rfl (H 5 rfl)
  obtain ⟨T3, X3, e3, st3⟩ := getF X2 hx hZ hown (host := "") (Or.inl (w 51 rfl)) Via.refl e2 P2 (g := (mkF m 12 #[vR ob, vI dp, vR sg] [.ref ob, .int dp, .ref bb, .ref sg])) rfl rfl (H 8 rfl)
  obtain ⟨cq4, kq4, q4a, q4b, q4c⟩ := isOf hZ e3 P4
  obtain ⟨_, T4, lo4, Lc4, X4, N4, hQ4, st4⟩ := own_af (QGB Z sg bb dp ub ku us kb bs zN cs h0 n0) 0 0 0 0 0 0 (X3.virtualBack hx (y := Y_17) (z := Y_17) hown (mvT hZ (w 141 rfl)) (mvT hZ (w 142 rfl)) (own_ns hZ (w 144 rfl)) (mvT hZ (w 144 rfl)) (mvT hZ (w 143 rfl)) (by decide) (backOf (W := 0) (rmGB l Z a0 hw [] sg bb dp ub ku us kb bs zN cs h0 n0 Z0 P4 P5 P6 P7 P3 P8 hcs hdp hcap hsu g_bb) hZ (w 145 rfl) (w 5 rfl) (by decide) (by decide)) q4a q4c (g := (mkF m 15 #[vR ob, vI dp, vR sg] [.int 0, .int dp, .ref bb, .ref sg])) rfl (by rw [hml]; rfl) (Steps.refl _) (argsL := [.ref bb, .int dp, .int 0]) (rest := []) (lenOf pd_18 rfl) rfl (lq rfl) (H 9 rfl) (fun _ _ => ⟨rfl, e3, (by decide : 0 + 0 ≤ _), (by decide : 0 + 0 ≤ _)⟩)) N1 (fun _ _ _ h => h.2.1) rfl rfl
  dsimp only at st4
  obtain ⟨rfl, N4q, r4_0, r4_1⟩ := hQ4
  have K4 := K0.trans r4_0 (allS (own_m 0 rfl) all0)
  obtain ⟨fs, hr, hrun, hended, hW, hsame⟩ := X4.leave (v := none) (fun _ => rfl)
  refine ⟨_, _, pre0 _ ?_, hrun, hended, _, _, rfl, ?_, ⟨_, rfl⟩, hW, hsame.mono (by decide) (by decide)⟩
  · show SG X0 0 #[vR ob, vI dp, vR sg] [] _
    refine XS.aloadN X0.here hx rfl (H 0 rfl) rfl rfl ?_
    refine XS.aloadN X0.here hx rfl (H 1 rfl) rfl rfl ?_
    refine st1.trans ?_
    show SG X1 5 #[vR ob, vI dp, vR sg] [] _
    refine XS.aloadN X1.here hx rfl (H 3 rfl) rfl rfl ?_
    refine XS.aloadN X1.here hx rfl (H 4 rfl) rfl rfl ?_
    refine st2 _ ?_
    show SG X2 10 #[vR ob, vI dp, vR sg] [.ref bb, .ref sg] _
    refine XS.iloadN X2.here hx rfl (H 6 rfl) rfl ?_
    refine XS.aloadN X2.here hx rfl (H 7 rfl) rfl rfl ?_
    refine st3 _ ?_
    show SG X3 15 #[vR ob, vI dp, vR sg] [.int 0, .int dp, .ref bb, .ref sg] _
    refine st4.trans ?_
    show SG X4 18 #[vR ob, vI dp, vR sg] [] _
    exact X4.returnOut hx Bd.returns (H 10 rfl) hr
  · show QPS Z ob dp sg bb kb bs ub ku us zN cs h0 n0 _ T4.heap _
    exact ⟨rfl, N4, K4, r4_1⟩

theorem pn_12 : plainName "java/lang/AbstractStringBuilder" = true := by first | (simp [plainName, overriddenIn]; done) | decide +kernel
theorem ef_PA (m : MethodId) (ob sg : Addr) : entryFrame m #[.ref ob, .ref sg] 3 = mkF m 0 #[.val (.ref ob), .val (.ref sg), .unset] [] := by simp [entryFrame, mkF, argsToLocals, Value.category]
theorem pd_9 : parseMethodDescriptor "()I" = some ⟨[], some .int⟩ := by decide +kernel
theorem pd_16 : parseMethodDescriptor "(ILjava/lang/String;)V" = some ⟨[.int, (.object "java/lang/String")], none⟩ := by decide +kernel
def QPA (Z : State) (ob sg bb : Addr) (kb : ClassId) (bs : List Int32) (ub : Addr) (ku : ClassId) (us : List Int32) (cs : Int32) (h0 : Heap) (n0 : Nat) (v : Option Value) (h : Heap) (L : List Loc) : Prop := v = some (.ref ob) ∧ Fr n0 L ∧ Keep h0 h [ob, bb] ∧ Fld Z h ob sA "count" "I" (.int (Int32.ofNat (bs ++ us).length)) ∧ Fld Z h ob sA "value" "[B" (.ref bb) ∧ Fld Z h ob sA "coder" "B" (.int 0) ∧ Arv Z h bb kb .byte (78 : Int32) (own_iv (bs ++ us)) (.int 0)
theorem rmPA (l : Launch) (Z : State) (a0 : Array Value) (hw : HWd a0 Z) (ws : List Jvm.Cond) (ob sg bb : Addr) (kb : ClassId) (bs : List Int32) (ub : Addr) (ku : ClassId) (us : List Int32) (cs : Int32) (h0 : Heap) (n0 : Nat) (Z0 : n0 ≤ h0.size) (P0 : Exa Z h0 ob sB) (P1 : Fld Z h0 ob sA "value" "[B" (.ref bb)) (P2 : Fld Z h0 ob sA "coder" "B" (.int 0)) (P3 : Fld Z h0 ob sA "count" "I" (.int (Int32.ofNat bs.length))) (P4 : Arv Z h0 bb kb .byte (78 : Int32) (own_iv bs) (.int 0)) (P5 : Exa Z h0 sg sS) (P6 : Fld Z h0 sg sS "value" "[B" (.ref ub)) (P7 : Fld Z h0 sg sS "coder" "B" (.int 0)) (P8 : Arv Z h0 ub ku .byte (Int32.ofNat us.length) (own_iv us) (.int 0)) (P9 : Sta Z h0 sS sC "Z" (.int cs)) (hcs : ¬ cs = (0 : Int32)) (hN : (bs ++ us).length + 0 ≤ 78) (hsu : us.length + 1 ≤ 78) (g_ob : n0 ≤ ob) (g_bb : n0 ≤ bb) :
    own_Met l Y_19 (Jvm.Cond.code Y_19 jdk_68_method_22_code 3 (some (.object "java/lang/AbstractStringBuilder")) :: ws) (RM 3 0 0 61) #[.ref ob, .ref sg] Z h0 (QPA Z ob sg bb kb bs ub ku us cs h0 n0) := by
  refine own_bS pn_12 rfl D_12 (fun m => ef_PA m ob sg) hw fun p e s m below meth c sZ Bd hx hby hml hown hnm hh hZ X0 e0 w H pre0 => ?_
  have N0 := Fr.nil n0
  have K0 := Keep.refl h0 [ob, bb]
  obtain ⟨cq1, kq1, q1a, q1b, q1c⟩ := isOf hZ e0 P5
  obtain ⟨_, T1, lo1, Lc1, X1, N1, hQ1, st1⟩ := own_af (QSL Z sg ub ku us cs h0 n0) 0 0 0 0 0 0 (X0.virtualBack hx (y := Y_9) (z := Y_9) hown (mvT hZ (w 87 rfl)) (mvT hZ (w 88 rfl)) (own_ns hZ (w 90 rfl)) (mvT hZ (w 90 rfl)) (mvT hZ (w 89 rfl)) (by decide) (backOf (W := 0) (rmSL l Z a0 hw [] sg ub ku us cs h0 n0 Z0 P5 P6 P7 P8 P9 hcs) hZ (w 91 rfl) (w 5 rfl) (by decide) (by decide)) q1a q1c (g := (mkF m 10 #[vR ob, vR sg, vU] [.ref sg])) rfl (by rw [hml]; rfl) (Steps.refl _) (argsL := []) (rest := []) (lenOf pd_9 rfl) rfl (lq rfl) (H 3 rfl) (fun _ _ => ⟨rfl, e0, (by decide : 0 + 0 ≤ _), (by decide : 0 + 0 ≤ _)⟩)) N0 (fun _ _ _ h => h.2.1) rfl rfl
  dsimp only at st1
  obtain ⟨rfl, N1q, r1_0⟩ := hQ1
  obtain ⟨T2, X2, e2, st2⟩ := getF X1 hx hZ hown (host := "") (Or.inl (w 97 rfl)) Via.refl r1_0 P3 (g := (mkF m 16 #[vR ob, vR sg, .val (.int (Int32.ofNat us.length))] [.ref ob, .ref ob])) rfl rfl (H 7 rfl)
  obtain ⟨cq3, q3, q3'⟩ := P0.cell
  obtain ⟨_, T3, lo3, Lc3, X3, N3, hQ3, st3⟩ := own_af (QEN Z ob (Int32.ofNat (bs ++ us).length) bb kb bs h0 n0) 0 0 0 0 0 0 (X2.privateBack hx (y := Y_10) hown (mvT hZ (w 99 rfl)) (mvT hZ (w 100 rfl)) (own_selp (z := Y_10) (mvT hZ (w 102 rfl)) rfl (mvT hZ (w 100 rfl)) (Cond.privateMethod_at (mvP hZ (w 101 rfl) (args := #[]))) (by decide)) (Cond.privateMethod_at (mvP hZ (w 101 rfl) (args := #[]))) (mvT hZ (w 103 rfl)) (by decide) (backOf (W := 0) (rmEN l Z a0 hw [] ob (Int32.ofNat (bs ++ us).length) bb kb bs h0 n0 Z0 P0 P1 P2 P4 (own_nok (bs ++ us) hN)) hZ (w 103 rfl) (w 45 rfl) (by decide) (by decide)) (g := (mkF m 21 #[vR ob, vR sg, .val (.int (Int32.ofNat us.length))] [.int (Int32.ofNat (bs ++ us).length), .ref ob])) rfl (by rw [hml]; rfl) (Steps.refl _) (a := ob) (by rw [e2]; exact q3) q3' (argsL := [.int (Int32.ofNat (bs ++ us).length)]) (rest := []) (lenOf pd_6 rfl) rfl (lq rfl) (H 10 rfl) (fun _ _ => ⟨rfl, e2, (by decide : 0 + 0 ≤ _), (by decide : 0 + 0 ≤ _)⟩)) N1 (fun _ _ _ h => h.2.1) rfl rfl
  dsimp only at st3
  obtain ⟨rfl, N3q, r3_0⟩ := hQ3
  obtain ⟨T4, X4, e4, st4⟩ := getF X3 hx hZ hown (host := "") (Or.inl (w 97 rfl)) Via.refl r3_0 P3 (g := (mkF m 26 #[vR ob, vR sg, .val (.int (Int32.ofNat us.length))] [.ref ob, .ref ob])) rfl rfl (H 13 rfl)
  obtain ⟨cq5, q5, q5'⟩ := P0.cell
  obtain ⟨_, T5, lo5, Lc5, X5, N5, hQ5, st5⟩ := own_af (QPS Z ob (Int32.ofNat bs.length) sg bb kb bs ub ku us (78 : Int32) cs h0 n0) 0 0 0 0 0 0 (X4.privateBack hx (y := Y_18) hown (mvT hZ (w 130 rfl)) (mvT hZ (w 131 rfl)) (own_selp (z := Y_10) (mvT hZ (w 102 rfl)) rfl (mvT hZ (w 131 rfl)) (Cond.privateMethod_at (mvP hZ (w 132 rfl) (args := #[]))) (by decide)) (Cond.privateMethod_at (mvP hZ (w 132 rfl) (args := #[]))) (mvT hZ (w 134 rfl)) (by decide) (backOf (W := 0) (rmPS l Z a0 hw [] ob (Int32.ofNat bs.length) sg bb kb bs ub ku us (78 : Int32) cs h0 n0 Z0 P0 P1 P2 P4 P5 P6 P7 P8 P9 hcs (own_dp hN) (own_cap hN) hsu g_bb) hZ (w 134 rfl) (w 45 rfl) (by decide) (by decide)) (g := (mkF m 30 #[vR ob, vR sg, .val (.int (Int32.ofNat us.length))] [.ref sg, .int (Int32.ofNat bs.length), .ref ob])) rfl (by rw [hml]; rfl) (Steps.refl _) (a := ob) (by rw [e4]; exact q5) q5' (argsL := [.int (Int32.ofNat bs.length), .ref sg]) (rest := []) (lenOf pd_16 rfl) rfl (lq rfl) (H 15 rfl) (fun _ _ => ⟨rfl, e4, (by decide : 0 + 0 ≤ _), (by decide : 0 + 0 ≤ _)⟩)) N3 (fun _ _ _ h => h.2.1) rfl rfl
  dsimp only at st5
  obtain ⟨rfl, N5q, r5_0, r5_1⟩ := hQ5
  have f7 := P0.keep r5_0
  have ne8 : ob ≠ bb := Exa.neArv P0 P4 (w 36 rfl)
  have f11 := P3.keep r5_0 (ninS ne8 nin0)
  have K5 := K0.trans r5_0 (allS (own_m 1 rfl) all0)
  obtain ⟨T18, X18, e18, st18⟩ := getF X5 hx hZ hown (host := "") (Or.inl (w 97 rfl)) Via.refl rfl f11 (g := (mkF m 35 #[vR ob, vR sg, .val (.int (Int32.ofNat us.length))] [.ref ob, .ref ob])) rfl rfl (H 18 rfl)
  obtain ⟨T19, h19, X19, e19, W19, st19⟩ := putF X18 hx hZ hown (host := "") (Or.inl (w 97 rfl)) Via.refl e18 f11 f7 (Or.inl (w 98 rfl)) (w 36 rfl) (ty := .int) (by decide) rfl rfl (g := (mkF m 40 #[vR ob, vR sg, .val (.int (Int32.ofNat us.length))] [.int (Int32.ofNat (bs ++ us).length), .ref ob])) rfl rfl (H 21 rfl)
  have f20 := f11.same W19
  have f22 := (P1.keep r5_0 (ninS ne8 nin0)).other W19 (Or.inr (slot_ne (Or.inl (w 50 rfl)) (Or.inl (w 98 rfl)) (by decide) (t := (.array .byte)) (t' := .int) (by decide) (by decide)))
  have f23 := (P2.keep r5_0 (ninS ne8 nin0)).other W19 (Or.inr (slot_ne (Or.inl (w 52 rfl)) (Or.inl (w 98 rfl)) (by decide) (t := .byte) (t' := .int) (by decide) (by decide)))
  have f31 := r5_1.other W19 (Ne.symm ne8)
  have K19 := K5.wr W19 (own_m 0 rfl)
  have N19 := Fr.snoc X19 N5 g_ob
  obtain ⟨fs, hr, hrun, hended, hW, hsame⟩ := X19.leave (v := some (.ref ob)) (fun h => by rw [Bd.returns] at h; cases h)
  refine ⟨_, _, pre0 _ ?_, hrun, hended, _, _, rfl, ?_, ⟨_, rfl⟩, hW, hsame.mono (by decide) (by decide)⟩
  · show SG X0 0 #[vR ob, vR sg, vU] [] _
    refine XS.aloadN X0.here hx rfl (H 0 rfl) rfl rfl ?_
    refine XS.ifnonnullYes X0.here hx rfl (pc0 := 1) (pc' := 9) rfl (H 1 rfl) rfl (by decide) (by decide) ?_
    refine XS.aloadN X0.here hx rfl (H 2 rfl) rfl rfl ?_
    refine st1.trans ?_
    show SG X1 13 #[vR ob, vR sg, vU] [.int (Int32.ofNat us.length)] _
    refine XS.istoreN X1.here hx rfl (H 4 rfl) rfl (l' := #[vR ob, vR sg, .val (.int (Int32.ofNat us.length))]) rfl ?_
    refine XS.aloadN X1.here hx rfl (H 5 rfl) rfl rfl ?_
    refine XS.aloadN X1.here hx rfl (H 6 rfl) rfl rfl ?_
    refine st2 _ ?_
    show SG X2 19 #[vR ob, vR sg, .val (.int (Int32.ofNat us.length))] [.int (Int32.ofNat bs.length), .ref ob] _
    refine XS.iloadN X2.here hx rfl (H 8 rfl) rfl ?_
    refine XS.iadd X2.here hx rfl (H 9 rfl) rfl ?_
    show SG X2 21 #[vR ob, vR sg, .val (.int (Int32.ofNat us.length))] [.int ((Int32.ofNat bs.length) + (Int32.ofNat us.length)), .ref ob] _
    rw [(own_cnt bs us)]
    show SG X2 21 #[vR ob, vR sg, .val (.int (Int32.ofNat us.length))] [.int (Int32.ofNat (bs ++ us).length), .ref ob] _
    refine st3.trans ?_
    show SG X3 24 #[vR ob, vR sg, .val (.int (Int32.ofNat us.length))] [] _
    refine XS.aloadN X3.here hx rfl (H 11 rfl) rfl rfl ?_
    refine XS.aloadN X3.here hx rfl (H 12 rfl) rfl rfl ?_
    refine st4 _ ?_
    show SG X4 29 #[vR ob, vR sg, .val (.int (Int32.ofNat us.length))] [.int (Int32.ofNat bs.length), .ref ob] _
    refine XS.aloadN X4.here hx rfl (H 14 rfl) rfl rfl ?_
    refine st5.trans ?_
    show SG X5 33 #[vR ob, vR sg, .val (.int (Int32.ofNat us.length))] [] _
    refine XS.aloadN X5.here hx rfl (H 16 rfl) rfl rfl ?_
    refine XS.dup X5.here hx rfl (H 17 rfl) rfl rfl ?_
    refine st18 _ ?_
    show SG X18 38 #[vR ob, vR sg, .val (.int (Int32.ofNat us.length))] [.int (Int32.ofNat bs.length), .ref ob] _
    refine XS.iloadN X18.here hx rfl (H 19 rfl) rfl ?_
    refine XS.iadd X18.here hx rfl (H 20 rfl) rfl ?_
    show SG X18 40 #[vR ob, vR sg, .val (.int (Int32.ofNat us.length))] [.int ((Int32.ofNat bs.length) + (Int32.ofNat us.length)), .ref ob] _
    rw [(own_cnt bs us)]
    show SG X18 40 #[vR ob, vR sg, .val (.int (Int32.ofNat us.length))] [.int (Int32.ofNat (bs ++ us).length), .ref ob] _
    refine st19 _ ?_
    show SG X19 43 #[vR ob, vR sg, .val (.int (Int32.ofNat us.length))] [] _
    refine XS.aloadN X19.here hx rfl (H 22 rfl) rfl rfl ?_
    jvm_step X19.here [X19.here.top, hx, (H 23 rfl), X19.method', Bd.returns, Value.isRef, FieldType.isReference]
    first | (intro acts; rw [hr _ acts rfl rfl rfl]) | rw [hr _ _ rfl rfl rfl]
    exact Steps.refl _
  · show QPA Z ob sg bb kb bs ub ku us cs h0 n0 _ T19.heap _
    rw [e19]
    exact ⟨rfl, N19, K19, f20, f22, f23, f31⟩

theorem pn_11 : plainName "java/lang/StringBuilder" = true := by first | (simp [plainName, overriddenIn]; done) | decide +kernel
theorem ef_PB (m : MethodId) (ob sg : Addr) : entryFrame m #[.ref ob, .ref sg] 2 = mkF m 0 #[.val (.ref ob), .val (.ref sg)] [] := by simp [entryFrame, mkF, argsToLocals, Value.category]
theorem pd_8 : parseMethodDescriptor "(Ljava/lang/String;)Ljava/lang/AbstractStringBuilder;" = some ⟨[(.object "java/lang/String")], some (.object "java/lang/AbstractStringBuilder")⟩ := by decide +kernel
def QPB (Z : State) (ob sg bb : Addr) (kb : ClassId) (bs : List Int32) (ub : Addr) (ku : ClassId) (us : List Int32) (cs : Int32) (h0 : Heap) (n0 : Nat) (v : Option Value) (h : Heap) (L : List Loc) : Prop := v = some (.ref ob) ∧ Fr n0 L ∧ Keep h0 h [ob, bb] ∧ Fld Z h ob sA "count" "I" (.int (Int32.ofNat (bs ++ us).length)) ∧ Fld Z h ob sA "value" "[B" (.ref bb) ∧ Fld Z h ob sA "coder" "B" (.int 0) ∧ Arv Z h bb kb .byte (78 : Int32) (own_iv (bs ++ us)) (.int 0)
theorem rmPB (l : Launch) (Z : State) (a0 : Array Value) (hw : HWd a0 Z) (ws : List Jvm.Cond) (ob sg bb : Addr) (kb : ClassId) (bs : List Int32) (ub : Addr) (ku : ClassId) (us : List Int32) (cs : Int32) (h0 : Heap) (n0 : Nat) (Z0 : n0 ≤ h0.size) (P0 : Exa Z h0 ob sB) (P1 : Fld Z h0 ob sA "value" "[B" (.ref bb)) (P2 : Fld Z h0 ob sA "coder" "B" (.int 0)) (P3 : Fld Z h0 ob sA "count" "I" (.int (Int32.ofNat bs.length))) (P4 : Arv Z h0 bb kb .byte (78 : Int32) (own_iv bs) (.int 0)) (P5 : Exa Z h0 sg sS) (P6 : Fld Z h0 sg sS "value" "[B" (.ref ub)) (P7 : Fld Z h0 sg sS "coder" "B" (.int 0)) (P8 : Arv Z h0 ub ku .byte (Int32.ofNat us.length) (own_iv us) (.int 0)) (P9 : Sta Z h0 sS sC "Z" (.int cs)) (hcs : ¬ cs = (0 : Int32)) (hN : (bs ++ us).length + 0 ≤ 78) (hsu : us.length + 1 ≤ 78) (g_ob : n0 ≤ ob) (g_bb : n0 ≤ bb) :
    own_Met l Y_20 (Jvm.Cond.code Y_20 jdk_67_method_7_code 2 (some (.object "java/lang/StringBuilder")) :: ws) (RM 4 0 0 75) #[.ref ob, .ref sg] Z h0 (QPB Z ob sg bb kb bs ub ku us cs h0 n0) := by
  refine own_bS pn_11 rfl D_11 (fun m => ef_PB m ob sg) hw fun p e s m below meth c sZ Bd hx hby hml hown hnm hh hZ X0 e0 w H pre0 => ?_
  have N0 := Fr.nil n0
  have K0 := Keep.refl h0 [ob, bb]
  obtain ⟨_, T1, lo1, Lc1, X1, N1, hQ1, st1⟩ := own_af (QPA Z ob sg bb kb bs ub ku us cs h0 n0) 0 0 0 0 0 0 (superBack X0 hx hZ (y := Y_19) hown (w 82 rfl) (own_same (y := Y_19) (z := Y_10) (w 102 rfl) (w 83 rfl) rfl (by decide)) (w 83 rfl) (w 84 rfl) (by decide) (backOf (W := 0) (rmPA l Z a0 hw [] ob sg bb kb bs ub ku us cs h0 n0 Z0 P0 P1 P2 P3 P4 P5 P6 P7 P8 P9 hcs hN hsu g_ob g_bb) hZ (w 86 rfl) (w 45 rfl) (by decide) (by decide)) e0 (Ins.self P0) (g := (mkF m 2 #[vR ob, vR sg] [.ref sg, .ref ob])) rfl (by rw [hml]; rfl) (w 86 rfl) (argsL := [.ref sg]) (rest := []) (lenOf pd_8 rfl) rfl (lq rfl) (H 2 rfl) (fun _ _ => ⟨rfl, e0, (by decide : 0 + 0 ≤ _), (by decide : 0 + 0 ≤ _)⟩)) N0 (fun _ _ _ h => h.2.1) rfl rfl
  dsimp only at st1
  obtain ⟨rfl, N1q, r1_0, r1_1, r1_2, r1_3, r1_4⟩ := hQ1
  have K1 := K0.trans r1_0 (allS (own_m 0 rfl) (allS (own_m 1 rfl) all0))
  obtain ⟨fs, hr, hrun, hended, hW, hsame⟩ := X1.leave (v := some (.ref ob)) (fun h => by rw [Bd.returns] at h; cases h)
  refine ⟨_, _, pre0 _ ?_, hrun, hended, _, _, rfl, ?_, ⟨_, rfl⟩, hW, hsame.mono (by decide) (by decide)⟩
  · show SG X0 0 #[vR ob, vR sg] [] _
    refine XS.aloadN X0.here hx rfl (H 0 rfl) rfl rfl ?_
    refine XS.aloadN X0.here hx rfl (H 1 rfl) rfl rfl ?_
    refine st1.trans ?_
    show SG X1 5 #[vR ob, vR sg] [.ref ob] _
    refine XS.pop X1.here hx rfl (H 3 rfl) rfl rfl ?_
    refine XS.aloadN X1.here hx rfl (H 4 rfl) rfl rfl ?_
    jvm_step X1.here [X1.here.top, hx, (H 5 rfl), X1.method', Bd.returns, Value.isRef, FieldType.isReference]
    first | (intro acts; rw [hr _ acts rfl rfl rfl]) | rw [hr _ _ rfl rfl rfl]
    exact Steps.refl _
  · show QPB Z ob sg bb kb bs ub ku us cs h0 n0 _ T1.heap _
    exact ⟨rfl, N1, K1, r1_1, r1_2, r1_3, r1_4⟩

theorem ef_PA1 (m : MethodId) (ob sg : Addr) : entryFrame m #[.ref ob, .ref sg] 3 = mkF m 0 #[.val (.ref ob), .val (.ref sg), .unset] [] := by simp [entryFrame, mkF, argsToLocals, Value.category]
def QPA1 (Z : State) (ob sg bb : Addr) (kb : ClassId) (ub : Addr) (ku : ClassId) (cs : Int32) (h0 : Heap) (n0 : Nat) (v : Option Value) (h : Heap) (L : List Loc) : Prop := ∃ xb : Addr, ∃ xk : ClassId, v = some (.ref ob) ∧ Fr n0 L ∧ Keep h0 h [ob] ∧ h0.size ≤ xb ∧ Fld Z h ob sA "count" "I" (.int (Int32.ofNat own_hdr.length)) ∧ Fld Z h ob sA "value" "[B" (.ref xb) ∧ Fld Z h ob sA "coder" "B" (.int 0) ∧ Arv Z h xb xk .byte (38 : Int32) (own_iv own_hdr) (.int 0)
theorem rmPA1 (l : Launch) (Z : State) (a0 : Array Value) (hw : HWd a0 Z) (ws : List Jvm.Cond) (ob sg bb : Addr) (kb : ClassId) (ub : Addr) (ku : ClassId) (cs : Int32) (h0 : Heap) (n0 : Nat) (Z0 : n0 ≤ h0.size) (P0 : Exa Z h0 ob sB) (P1 : Fld Z h0 ob sA "value" "[B" (.ref bb)) (P2 : Fld Z h0 ob sA "coder" "B" (.int 0)) (P3 : Fld Z h0 ob sA "count" "I" (.int 0)) (P4 : Arv Z h0 bb kb .byte (16 : Int32) (own_iv []) (.int 0)) (P5 : Exa Z h0 sg sS) (P6 : Fld Z h0 sg sS "value" "[B" (.ref ub)) (P7 : Fld Z h0 sg sS "coder" "B" (.int 0)) (P8 : Arv Z h0 ub ku .byte (Int32.ofNat own_hdr.length) (own_iv own_hdr) (.int 0)) (P9 : Sta Z h0 sS sC "Z" (.int cs)) (hcs : ¬ cs = (0 : Int32)) (g_ob : n0 ≤ ob) :
    own_Met l Y_19 (Jvm.Cond.code Y_19 jdk_68_method_22_code 3 (some (.object "java/lang/AbstractStringBuilder")) :: ws) (RM 4 1 38 62) #[.ref ob, .ref sg] Z h0 (QPA1 Z ob sg bb kb ub ku cs h0 n0) := by
  refine own_bS pn_12 rfl D_12 (fun m => ef_PA1 m ob sg) hw fun p e s m below meth c sZ Bd hx hby hml hown hnm hh hZ X0 e0 w H pre0 => ?_
  have N0 := Fr.nil n0
  have K0 := Keep.refl h0 [ob]
  obtain ⟨cq1, kq1, q1a, q1b, q1c⟩ := isOf hZ e0 P5
  obtain ⟨_, T1, lo1, Lc1, X1, N1, hQ1, st1⟩ := own_af (QSL Z sg ub ku own_hdr cs h0 n0) 0 0 0 0 0 0 (X0.virtualBack hx (y := Y_9) (z := Y_9) hown (mvT hZ (w 87 rfl)) (mvT hZ (w 88 rfl)) (own_ns hZ (w 90 rfl)) (mvT hZ (w 90 rfl)) (mvT hZ (w 89 rfl)) (by decide) (backOf (W := 0) (rmSL l Z a0 hw [] sg ub ku own_hdr cs h0 n0 Z0 P5 P6 P7 P8 P9 hcs) hZ (w 91 rfl) (w 5 rfl) (by decide) (by decide)) q1a q1c (g := (mkF m 10 #[vR ob, vR sg, vU] [.ref sg])) rfl (by rw [hml]; rfl) (Steps.refl _) (argsL := []) (rest := []) (lenOf pd_9 rfl) rfl (lq rfl) (H 3 rfl) (fun _ _ => ⟨rfl, e0, (by decide : 0 + 0 ≤ _), (by decide : 0 + 0 ≤ _)⟩)) N0 (fun _ _ _ h => h.2.1) rfl rfl
  dsimp only at st1
  obtain ⟨rfl, N1q, r1_0⟩ := hQ1
  obtain ⟨T2, X2, e2, st2⟩ := getF X1 hx hZ hown (host := "") (Or.inl (w 97 rfl)) Via.refl r1_0 P3 (g := (mkF m 16 #[vR ob, vR sg, .val (.int (Int32.ofNat own_hdr.length))] [.ref ob, .ref ob])) rfl rfl (H 7 rfl)
  obtain ⟨cq3, q3, q3'⟩ := P0.cell
  obtain ⟨_, T3, lo3, Lc3, X3, N3, hQ3, st3⟩ := own_af (QEG1 Z ob bb kb (0 : Int32) h0 n0) 0 1 0 38 1 38 (X2.privateBack hx (y := Y_10) hown (mvT hZ (w 99 rfl)) (mvT hZ (w 100 rfl)) (own_selp (z := Y_10) (mvT hZ (w 102 rfl)) rfl (mvT hZ (w 100 rfl)) (Cond.privateMethod_at (mvP hZ (w 101 rfl) (args := #[]))) (by decide)) (Cond.privateMethod_at (mvP hZ (w 101 rfl) (args := #[]))) (mvT hZ (w 103 rfl)) (by decide) (backOf (W := 0) (rmEG1 l Z a0 hw [] ob bb kb (0 : Int32) h0 n0 Z0 P0 P1 P2 P3 P4 g_ob) hZ (w 103 rfl) (w 45 rfl) (by decide) (by decide)) (g := (mkF m 21 #[vR ob, vR sg, .val (.int (Int32.ofNat own_hdr.length))] [.int 38, .ref ob])) rfl (by rw [hml]; rfl) (Steps.refl _) (a := ob) (by rw [e2]; exact q3) q3' (argsL := [.int 38]) (rest := []) (lenOf pd_6 rfl) rfl (lq rfl) (H 10 rfl) (fun _ _ => ⟨rfl, e2, (by decide : 0 + 1 ≤ _), (by decide : 0 + 38 ≤ _)⟩)) N1 (by rintro _ _ _ ⟨_, _, -, N, -⟩; exact N) rfl rfl
  dsimp only at st3
  obtain ⟨x3_0, x3_1, rfl, N3q, r3_0, r3_1, r3_2, r3_3, r3_4, r3_5⟩ := hQ3
  have g_x3_0 : n0 ≤ x3_0 := Nat.le_trans Z0 r3_1
  have sz_x3_0 : h0.size ≤ x3_0 := Nat.le_trans K0.1 r3_1
  have f4 := own_sta P9 r3_0 (nsS P0.nostat ns0)
  have f5 := P0.keep r3_0
  have f8 := P5.keep r3_0
  have ne9 : sg ≠ ob := Exa.ne P5 P0 (by decide)
  have f10 := P6.keep r3_0 (ninS ne9 nin0)
  have f11 := P7.keep r3_0 (ninS ne9 nin0)
  have ne12 : ub ≠ ob := Ne.symm (Exa.neArv P0 P8 (w 36 rfl))
  have f13 := P8.keep r3_0 (ninS ne12 nin0)
  have K3 := K0.trans r3_0 (allS (own_m 0 rfl) all0)
  have Z3 : n0 ≤ T3.heap.size := Nat.le_trans Z0 r3_0.1
  obtain ⟨T14, X14, e14, st14⟩ := getF X3 hx hZ hown (host := "") (Or.inl (w 97 rfl)) Via.refl rfl r3_4 (g := (mkF m 26 #[vR ob, vR sg, .val (.int (Int32.ofNat own_hdr.length))] [.ref ob, .ref ob])) rfl rfl (H 13 rfl)
  obtain ⟨cq15, q15, q15'⟩ := f5.cell
  obtain ⟨_, T15, lo15, Lc15, X15, N15, hQ15, st15⟩ := own_af (QPS Z ob (0 : Int32) sg x3_0 x3_1 [] ub ku own_hdr (38 : Int32) cs T3.heap n0) 1 0 38 0 1 38 (X14.privateBack hx (y := Y_18) hown (mvT hZ (w 130 rfl)) (mvT hZ (w 131 rfl)) (own_selp (z := Y_10) (mvT hZ (w 102 rfl)) rfl (mvT hZ (w 131 rfl)) (Cond.privateMethod_at (mvP hZ (w 132 rfl) (args := #[]))) (by decide)) (Cond.privateMethod_at (mvP hZ (w 132 rfl) (args := #[]))) (mvT hZ (w 134 rfl)) (by decide) (backOf (W := 0) (rmPS l Z a0 hw [] ob (0 : Int32) sg x3_0 x3_1 [] ub ku own_hdr (38 : Int32) cs T3.heap n0 Z3 f5 r3_2 r3_3 r3_5 f8 f10 f11 f13 f4 hcs (by decide) (by decide) (by decide) g_x3_0) hZ (w 134 rfl) (w 45 rfl) (by decide) (by decide)) (g := (mkF m 30 #[vR ob, vR sg, .val (.int (Int32.ofNat own_hdr.length))] [.ref sg, .int 0, .ref ob])) rfl (by rw [hml]; rfl) (Steps.refl _) (a := ob) (by rw [e14]; exact q15) q15' (argsL := [.int 0, .ref sg]) (rest := []) (lenOf pd_16 rfl) rfl (lq rfl) (H 15 rfl) (fun _ _ => ⟨rfl, e14, (by decide : 1 + 0 ≤ _), (by decide : 38 + 0 ≤ _)⟩)) N3 (fun _ _ _ h => h.2.1) rfl rfl
  dsimp only at st15
  obtain ⟨rfl, N15q, r15_0, r15_1⟩ := hQ15
  have f17 := f5.keep r15_0
  have ne26 : ob ≠ x3_0 := Nat.ne_of_lt (Nat.lt_of_lt_of_le P0.lt r3_1)
  have f29 := r3_4.keep r15_0 (ninS ne26 nin0)
  have K15 := K3.trans r15_0 (allS (Or.inr sz_x3_0) all0)
  obtain ⟨T30, X30, e30, st30⟩ := getF X15 hx hZ hown (host := "") (Or.inl (w 97 rfl)) Via.refl rfl f29 (g := (mkF m 35 #[vR ob, vR sg, .val (.int (Int32.ofNat own_hdr.length))] [.ref ob, .ref ob])) rfl rfl (H 18 rfl)
  obtain ⟨T31, h31, X31, e31, W31, st31⟩ := putF X30 hx hZ hown (host := "") (Or.inl (w 97 rfl)) Via.refl e30 f29 f17 (Or.inl (w 98 rfl)) (w 36 rfl) (ty := .int) (by decide) rfl rfl (g := (mkF m 40 #[vR ob, vR sg, .val (.int (Int32.ofNat own_hdr.length))] [.int (Int32.ofNat own_hdr.length), .ref ob])) rfl rfl (H 21 rfl)
  have f32 := f29.same W31
  have f39 := (r3_2.keep r15_0 (ninS ne26 nin0)).other W31 (Or.inr (slot_ne (Or.inl (w 50 rfl)) (Or.inl (w 98 rfl)) (by decide) (t := (.array .byte)) (t' := .int) (by decide) (by decide)))
  have f40 := (r3_3.keep r15_0 (ninS ne26 nin0)).other W31 (Or.inr (slot_ne (Or.inl (w 52 rfl)) (Or.inl (w 98 rfl)) (by decide) (t := .byte) (t' := .int) (by decide) (by decide)))
  have f42 := r15_1.other W31 (Ne.symm ne26)
  have K31 := K15.wr W31 (own_m 0 rfl)
  have N31 := Fr.snoc X31 N15 g_ob
  have f43 : Arv Z h31 x3_0 x3_1 .byte (38 : Int32) (own_iv own_hdr) (.int 0) := f42
  obtain ⟨fs, hr, hrun, hended, hW, hsame⟩ := X31.leave (v := some (.ref ob)) (fun h => by rw [Bd.returns] at h; cases h)
  refine ⟨_, _, pre0 _ ?_, hrun, hended, _, _, rfl, ?_, ⟨_, rfl⟩, hW, hsame.mono (by decide) (by decide)⟩
  · show SG X0 0 #[vR ob, vR sg, vU] [] _
    refine XS.aloadN X0.here hx rfl (H 0 rfl) rfl rfl ?_
    refine XS.ifnonnullYes X0.here hx rfl (pc0 := 1) (pc' := 9) rfl (H 1 rfl) rfl (by decide) (by decide) ?_
    refine XS.aloadN X0.here hx rfl (H 2 rfl) rfl rfl ?_
    refine st1.trans ?_
    show SG X1 13 #[vR ob, vR sg, vU] [.int (Int32.ofNat own_hdr.length)] _
    refine XS.istoreN X1.here hx rfl (H 4 rfl) rfl (l' := #[vR ob, vR sg, .val (.int (Int32.ofNat own_hdr.length))]) rfl ?_
    refine XS.aloadN X1.here hx rfl (H 5 rfl) rfl rfl ?_
    refine XS.aloadN X1.here hx rfl (H 6 rfl) rfl rfl ?_
    refine st2 _ ?_
    show SG X2 19 #[vR ob, vR sg, .val (.int (Int32.ofNat own_hdr.length))] [.int 0, .ref ob] _
    refine XS.iloadN X2.here hx rfl (H 8 rfl) rfl ?_
    refine XS.iadd X2.here hx rfl (H 9 rfl) rfl ?_
    show SG X2 21 #[vR ob, vR sg, .val (.int (Int32.ofNat own_hdr.length))] [.int ((0 : Int32) + (Int32.ofNat own_hdr.length)), .ref ob] _
    rw [own_h38]
    show SG X2 21 #[vR ob, vR sg, .val (.int (Int32.ofNat own_hdr.length))] [.int 38, .ref ob] _
    refine st3.trans ?_
    show SG X3 24 #[vR ob, vR sg, .val (.int (Int32.ofNat own_hdr.length))] [] _
    refine XS.aloadN X3.here hx rfl (H 11 rfl) rfl rfl ?_
    refine XS.aloadN X3.here hx rfl (H 12 rfl) rfl rfl ?_
    refine st14 _ ?_
    show SG X14 29 #[vR ob, vR sg, .val (.int (Int32.ofNat own_hdr.length))] [.int 0, .ref ob] _
    refine XS.aloadN X14.here hx rfl (H 14 rfl) rfl rfl ?_
    refine st15.trans ?_
    show SG X15 33 #[vR ob, vR sg, .val (.int (Int32.ofNat own_hdr.length))] [] _
    refine XS.aloadN X15.here hx rfl (H 16 rfl) rfl rfl ?_
    refine XS.dup X15.here hx rfl (H 17 rfl) rfl rfl ?_
    refine st30 _ ?_
    show SG X30 38 #[vR ob, vR sg, .val (.int (Int32.ofNat own_hdr.length))] [.int 0, .ref ob] _
    refine XS.iloadN X30.here hx rfl (H 19 rfl) rfl ?_
    refine XS.iadd X30.here hx rfl (H 20 rfl) rfl ?_
    show SG X30 40 #[vR ob, vR sg, .val (.int (Int32.ofNat own_hdr.length))] [.int ((0 : Int32) + (Int32.ofNat own_hdr.length)), .ref ob] _
    rw [own_h38']
    show SG X30 40 #[vR ob, vR sg, .val (.int (Int32.ofNat own_hdr.length))] [.int (Int32.ofNat own_hdr.length), .ref ob] _
    refine st31 _ ?_
    show SG X31 43 #[vR ob, vR sg, .val (.int (Int32.ofNat own_hdr.length))] [] _
    refine XS.aloadN X31.here hx rfl (H 22 rfl) rfl rfl ?_
    jvm_step X31.here [X31.here.top, hx, (H 23 rfl), X31.method', Bd.returns, Value.isRef, FieldType.isReference]
    first | (intro acts; rw [hr _ acts rfl rfl rfl]) | rw [hr _ _ rfl rfl rfl]
    exact Steps.refl _
  · show QPA1 Z ob sg bb kb ub ku cs h0 n0 _ T31.heap _
    rw [e31]
    exact ⟨x3_0, x3_1, rfl, N31, K31, sz_x3_0, f32, f39, f40, f43⟩

theorem ef_PB1 (m : MethodId) (ob sg : Addr) : entryFrame m #[.ref ob, .ref sg] 2 = mkF m 0 #[.val (.ref ob), .val (.ref sg)] [] := by simp [entryFrame, mkF, argsToLocals, Value.category]
def QPB1 (Z : State) (ob sg bb : Addr) (kb : ClassId) (ub : Addr) (ku : ClassId) (cs : Int32) (h0 : Heap) (n0 : Nat) (v : Option Value) (h : Heap) (L : List Loc) : Prop := ∃ xb : Addr, ∃ xk : ClassId, v = some (.ref ob) ∧ Fr n0 L ∧ Keep h0 h [ob] ∧ h0.size ≤ xb ∧ Fld Z h ob sA "count" "I" (.int (Int32.ofNat own_hdr.length)) ∧ Fld Z h ob sA "value" "[B" (.ref xb) ∧ Fld Z h ob sA "coder" "B" (.int 0) ∧ Arv Z h xb xk .byte (38 : Int32) (own_iv own_hdr) (.int 0)
theorem rmPB1 (l : Launch) (Z : State) (a0 : Array Value) (hw : HWd a0 Z) (ws : List Jvm.Cond) (ob sg bb : Addr) (kb : ClassId) (ub : Addr) (ku : ClassId) (cs : Int32) (h0 : Heap) (n0 : Nat) (Z0 : n0 ≤ h0.size) (P0 : Exa Z h0 ob sB) (P1 : Fld Z h0 ob sA "value" "[B" (.ref bb)) (P2 : Fld Z h0 ob sA "coder" "B" (.int 0)) (P3 : Fld Z h0 ob sA "count" "I" (.int 0)) (P4 : Arv Z h0 bb kb .byte (16 : Int32) (own_iv []) (.int 0)) (P5 : Exa Z h0 sg sS) (P6 : Fld Z h0 sg sS "value" "[B" (.ref ub)) (P7 : Fld Z h0 sg sS "coder" "B" (.int 0)) (P8 : Arv Z h0 ub ku .byte (Int32.ofNat own_hdr.length) (own_iv own_hdr) (.int 0)) (P9 : Sta Z h0 sS sC "Z" (.int cs)) (hcs : ¬ cs = (0 : Int32)) (g_ob : n0 ≤ ob) :
    own_Met l Y_20 (Jvm.Cond.code Y_20 jdk_67_method_7_code 2 (some (.object "java/lang/StringBuilder")) :: ws) (RM 5 1 38 76) #[.ref ob, .ref sg] Z h0 (QPB1 Z ob sg bb kb ub ku cs h0 n0) := by
  refine own_bS pn_11 rfl D_11 (fun m => ef_PB1 m ob sg) hw fun p e s m below meth c sZ Bd hx hby hml hown hnm hh hZ X0 e0 w H pre0 => ?_
  have N0 := Fr.nil n0
  have K0 := Keep.refl h0 [ob]
  obtain ⟨_, T1, lo1, Lc1, X1, N1, hQ1, st1⟩ := own_af (QPA1 Z ob sg bb kb ub ku cs h0 n0) 0 1 0 38 1 38 (superBack X0 hx hZ (y := Y_19) hown (w 82 rfl) (own_same (y := Y_19) (z := Y_10) (w 102 rfl) (w 83 rfl) rfl (by decide)) (w 83 rfl) (w 84 rfl) (by decide) (backOf (W := 0) (rmPA1 l Z a0 hw [] ob sg bb kb ub ku cs h0 n0 Z0 P0 P1 P2 P3 P4 P5 P6 P7 P8 P9 hcs g_ob) hZ (w 86 rfl) (w 45 rfl) (by decide) (by decide)) e0 (Ins.self P0) (g := (mkF m 2 #[vR ob, vR sg] [.ref sg, .ref ob])) rfl (by rw [hml]; rfl) (w 86 rfl) (argsL := [.ref sg]) (rest := []) (lenOf pd_8 rfl) rfl (lq rfl) (H 2 rfl) (fun _ _ => ⟨rfl, e0, (by decide : 0 + 1 ≤ _), (by decide : 0 + 38 ≤ _)⟩)) N0 (by rintro _ _ _ ⟨_, _, -, N, -⟩; exact N) rfl rfl
  dsimp only at st1
  obtain ⟨x1_0, x1_1, rfl, N1q, r1_0, r1_1, r1_2, r1_3, r1_4, r1_5⟩ := hQ1
  have sz_x1_0 : h0.size ≤ x1_0 := Nat.le_trans K0.1 r1_1
  have K1 := K0.trans r1_0 (allS (own_m 0 rfl) all0)
  obtain ⟨fs, hr, hrun, hended, hW, hsame⟩ := X1.leave (v := some (.ref ob)) (fun h => by rw [Bd.returns] at h; cases h)
  refine ⟨_, _, pre0 _ ?_, hrun, hended, _, _, rfl, ?_, ⟨_, rfl⟩, hW, hsame.mono (by decide) (by decide)⟩
  · show SG X0 0 #[vR ob, vR sg] [] _
    refine XS.aloadN X0.here hx rfl (H 0 rfl) rfl rfl ?_
    refine XS.aloadN X0.here hx rfl (H 1 rfl) rfl rfl ?_
    refine st1.trans ?_
    show SG X1 5 #[vR ob, vR sg] [.ref ob] _
    refine XS.pop X1.here hx rfl (H 3 rfl) rfl rfl ?_
    refine XS.aloadN X1.here hx rfl (H 4 rfl) rfl rfl ?_
    jvm_step X1.here [X1.here.top, hx, (H 5 rfl), X1.method', Bd.returns, Value.isRef, FieldType.isReference]
    first | (intro acts; rw [hr _ acts rfl rfl rfl]) | rw [hr _ _ rfl rfl rfl]
    exact Steps.refl _
  · show QPB1 Z ob sg bb kb ub ku cs h0 n0 _ T1.heap _
    exact ⟨x1_0, x1_1, rfl, N1, K1, sz_x1_0, r1_2, r1_3, r1_4, r1_5⟩

theorem pn_29 : plainName "java/lang/AbstractStringBuilder" = true := by first | (simp [plainName, overriddenIn]; done) | decide +kernel
theorem ef_L1 (m : MethodId) (ob : Addr) : entryFrame m #[.ref ob] 1 = mkF m 0 #[.val (.ref ob)] [] := by simp [entryFrame, mkF, argsToLocals, Value.category]
def QL1 (Z : State) (ob : Addr) (cs : Int32) (h0 : Heap) (n0 : Nat) (v : Option Value) (h : Heap) (L : List Loc) : Prop := v = some (.int 1) ∧ Fr n0 L ∧ h = h0
theorem rmL1 (l : Launch) (Z : State) (a0 : Array Value) (hw : HWd a0 Z) (ws : List Jvm.Cond) (ob : Addr) (cs : Int32) (h0 : Heap) (n0 : Nat) (Z0 : n0 ≤ h0.size) (P0 : Exa Z h0 ob sB) (P1 : Fld Z h0 ob sA "coder" "B" (.int 0)) (P2 : Sta Z h0 sS sC "Z" (.int cs)) (hcs : ¬ cs = (0 : Int32)) :
    own_Met l Y_21 (Jvm.Cond.code Y_21 jdk_68_method_68_code 1 (some .boolean) :: ws) (RM 0 0 0 0) #[.ref ob] Z h0 (QL1 Z ob cs h0 n0) := by
  refine own_bS pn_29 rfl D_29 (fun m => ef_L1 m ob) hw fun p e s m below meth c sZ Bd hx hby hml hown hnm hh hZ X0 e0 w H pre0 => ?_
  have N0 := Fr.nil n0
  obtain ⟨T1, X1, e1, st1⟩ := getS2 X0 hx hZ hown (host := "") (Or.inl (w 48 rfl)) Via.refl e0 P2 (g := (mkF m 0 #[vR ob] [])) rfl (H 0 rfl)
  obtain ⟨T2, X2, e2, st2⟩ := getF X1 hx hZ hown (host := "") (Or.inl (w 51 rfl)) Via.refl e1 P1 (g := (mkF m 7 #[vR ob] [.ref ob])) rfl rfl (H 3 rfl)
  obtain ⟨fs, hr, hrun, hended, hW, hsame⟩ := X2.leave (v := some (.int 1)) (fun h => by rw [Bd.returns] at h; cases h)
  refine ⟨_, _, pre0 _ ?_, hrun, hended, _, _, rfl, ?_, ⟨_, rfl⟩, hW, hsame.mono (by decide) (by decide)⟩
  · show SG X0 0 #[vR ob] [] _
    refine st1 _ ?_
    show SG X1 3 #[vR ob] [.int cs] _
    refine XS.ifNo X1.here hx rfl (H 1 rfl) rfl ((if0 _ _).trans (feq hcs).1) ?_
    refine XS.aloadN X1.here hx rfl (H 2 rfl) rfl rfl ?_
    refine st2 _ ?_
    show SG X2 10 #[vR ob] [.int 0] _
    refine XS.ifNo X2.here hx rfl (H 4 rfl) rfl ((if0 _ _).trans (teq (by decide : ((0 : Int32) = (0 : Int32)))).2) ?_
    refine XS.iconst X2.here hx rfl (H 5 rfl) ?_
    refine XS.goto X2.here hx rfl (pc0 := 14) (pc' := 18) rfl (H 6 rfl) (by decide) (by decide) ?_
    exact retN X2 hx (t := .boolean) Bd.returns (by simp) (H 7 rfl) hr
  · show QL1 Z ob cs h0 n0 _ T2.heap _
    rw [e2]
    exact ⟨rfl, N0, rfl⟩

theorem pn_28 : plainName "java/lang/AbstractStringBuilder" = true := by first | (simp [plainName, overriddenIn]; done) | decide +kernel
theorem ef_CA (m : MethodId) (ob : Addr) (ch : Int32) : entryFrame m #[.ref ob, .int ch] 2 = mkF m 0 #[.val (.ref ob), .val (.int ch)] [] := by simp [entryFrame, mkF, argsToLocals, Value.category]
theorem pd_23 : parseMethodDescriptor "()Z" = some ⟨[], some .boolean⟩ := by decide +kernel
def QCA (Z : State) (ob : Addr) (ch : Int32) (bb : Addr) (kb : ClassId) (bs : List Int32) (cs : Int32) (h0 : Heap) (n0 : Nat) (v : Option Value) (h : Heap) (L : List Loc) : Prop := v = some (.ref ob) ∧ Fr n0 L ∧ Keep h0 h [ob, bb] ∧ Fld Z h ob sA "count" "I" (.int (Int32.ofNat (bs ++ [(ch.toInt8.toInt32)]).length)) ∧ Fld Z h ob sA "value" "[B" (.ref bb) ∧ Fld Z h ob sA "coder" "B" (.int 0) ∧ Arv Z h bb kb .byte (78 : Int32) (own_iv (bs ++ [(ch.toInt8.toInt32)])) (.int 0)
theorem rmCA (l : Launch) (Z : State) (a0 : Array Value) (hw : HWd a0 Z) (ws : List Jvm.Cond) (ob : Addr) (ch : Int32) (bb : Addr) (kb : ClassId) (bs : List Int32) (cs : Int32) (h0 : Heap) (n0 : Nat) (Z0 : n0 ≤ h0.size) (P0 : Exa Z h0 ob sB) (P1 : Fld Z h0 ob sA "value" "[B" (.ref bb)) (P2 : Fld Z h0 ob sA "coder" "B" (.int 0)) (P3 : Fld Z h0 ob sA "count" "I" (.int (Int32.ofNat bs.length))) (P4 : Arv Z h0 bb kb .byte (78 : Int32) (own_iv bs) (.int 0)) (P5 : Sta Z h0 sS sC "Z" (.int cs)) (hcs : ¬ cs = (0 : Int32)) (hc : ¬ (255 : Int32) < ch) (hN : (bs ++ [(ch.toInt8.toInt32)]).length + 0 ≤ 78) (g_ob : n0 ≤ ob) (g_bb : n0 ≤ bb) :
    own_Met l Y_22 (Jvm.Cond.code Y_22 jdk_68_method_31_code 2 (some (.object "java/lang/AbstractStringBuilder")) :: ws) (RM 1 0 0 14) #[.ref ob, .int ch] Z h0 (QCA Z ob ch bb kb bs cs h0 n0) := by
  refine own_bS pn_28 rfl D_28 (fun m => ef_CA m ob ch) hw fun p e s m below meth c sZ Bd hx hby hml hown hnm hh hZ X0 e0 w H pre0 => ?_
  have N0 := Fr.nil n0
  have K0 := Keep.refl h0 [ob, bb]
  obtain ⟨T1, X1, e1, st1⟩ := getF X0 hx hZ hown (host := "") (Or.inl (w 97 rfl)) Via.refl e0 P3 (g := (mkF m 2 #[vR ob, vI ch] [.ref ob, .ref ob])) rfl rfl (H 2 rfl)
  obtain ⟨cq2, q2, q2'⟩ := P0.cell
  obtain ⟨_, T2, lo2, Lc2, X2, N2, hQ2, st2⟩ := own_af (QEN Z ob (Int32.ofNat (bs ++ [(ch.toInt8.toInt32)]).length) bb kb bs h0 n0) 0 0 0 0 0 0 (X1.privateBack hx (y := Y_10) hown (mvT hZ (w 99 rfl)) (mvT hZ (w 100 rfl)) (own_selp (z := Y_10) (mvT hZ (w 102 rfl)) rfl (mvT hZ (w 100 rfl)) (Cond.privateMethod_at (mvP hZ (w 101 rfl) (args := #[]))) (by decide)) (Cond.privateMethod_at (mvP hZ (w 101 rfl) (args := #[]))) (mvT hZ (w 103 rfl)) (by decide) (backOf (W := 0) (rmEN l Z a0 hw [] ob (Int32.ofNat (bs ++ [(ch.toInt8.toInt32)]).length) bb kb bs h0 n0 Z0 P0 P1 P2 P4 (own_nok (bs ++ [(ch.toInt8.toInt32)]) hN)) hZ (w 103 rfl) (w 45 rfl) (by decide) (by decide)) (g := (mkF m 7 #[vR ob, vI ch] [.int (Int32.ofNat (bs ++ [(ch.toInt8.toInt32)]).length), .ref ob])) rfl (by rw [hml]; rfl) (Steps.refl _) (a := ob) (by rw [e1]; exact q2) q2' (argsL := [.int (Int32.ofNat (bs ++ [(ch.toInt8.toInt32)]).length)]) (rest := []) (lenOf pd_6 rfl) rfl (lq rfl) (H 5 rfl) (fun _ _ => ⟨rfl, e1, (by decide : 0 + 0 ≤ _), (by decide : 0 + 0 ≤ _)⟩)) N0 (fun _ _ _ h => h.2.1) rfl rfl
  dsimp only at st2
  obtain ⟨rfl, N2q, r2_0⟩ := hQ2
  obtain ⟨cq3, kq3, q3a, q3b, q3c⟩ := isOf hZ r2_0 P0
  obtain ⟨_, T3, lo3, Lc3, X3, N3, hQ3, st3⟩ := own_af (QL1 Z ob cs h0 n0) 0 0 0 0 0 0 (X2.virtualBack hx (y := Y_21) (z := Y_21) hown (mvT hZ (w 169 rfl)) (mvT hZ (w 170 rfl)) (own_ns hZ (w 172 rfl)) (mvT hZ (w 172 rfl)) (mvT hZ (w 171 rfl)) (by decide) (backOf (W := 0) (rmL1 l Z a0 hw [] ob cs h0 n0 Z0 P0 P2 P5 hcs) hZ (w 173 rfl) (w 45 rfl) (by decide) (by decide)) q3a q3c (g := (mkF m 11 #[vR ob, vI ch] [.ref ob])) rfl (by rw [hml]; rfl) (Steps.refl _) (argsL := []) (rest := []) (lenOf pd_23 rfl) rfl (lq rfl) (H 7 rfl) (fun _ _ => ⟨rfl, r2_0, (by decide : 0 + 0 ≤ _), (by decide : 0 + 0 ≤ _)⟩)) N2 (fun _ _ _ h => h.2.1) rfl rfl
  dsimp only at st3
  obtain ⟨rfl, N3q, r3_0⟩ := hQ3
  obtain ⟨_, T4, lo4, Lc4, X4, N4, hQ4, st4⟩ := own_af (QCE Z ch h0 n0) 0 0 0 0 0 0 (Jvm.LawKit.callS X3 hx (y := Y_0) hown (mvT hZ (w 174 rfl)) (mvT hZ (w 9 rfl)) (mvT hZ (w 10 rfl)) (mvT hZ (w 11 rfl)) (by decide) (backOf (W := 0) (rmCE l Z a0 hw [] ch h0 n0 Z0 hc) hZ (w 11 rfl) (w 10 rfl) (by decide) (by decide)) (g := (mkF m 18 #[vR ob, vI ch] [.int ch])) rfl (by rw [hml]; rfl) (argsL := [.int ch]) (rest := []) (lenOf pd_1 rfl) rfl (lq rfl) (H 10 rfl) (fun _ _ => ⟨rfl, r3_0, (by decide : 0 + 0 ≤ _), (by decide : 0 + 0 ≤ _)⟩)) N3 (fun _ _ _ h => h.2.1) rfl rfl
  dsimp only at st4
  obtain ⟨rfl, N4q, r4_0⟩ := hQ4
  obtain ⟨T5, X5, e5, st5⟩ := getF X4 hx hZ hown (host := "") (Or.inl (w 49 rfl)) Via.refl r4_0 P1 (g := (mkF m 25 #[vR ob, vI ch] [.ref ob])) rfl rfl (H 13 rfl)
  obtain ⟨T6, X6, e6, st6⟩ := getF X5 hx hZ hown (host := "") (Or.inl (w 97 rfl)) Via.refl e5 P3 (g := (mkF m 30 #[vR ob, vI ch] [.ref ob, .ref ob, .ref bb])) rfl rfl (H 16 rfl)
  obtain ⟨T7, h7, X7, e7, W7, st7⟩ := putF X6 hx hZ hown (host := "") (Or.inl (w 97 rfl)) Via.refl e6 P3 P0 (Or.inl (w 98 rfl)) (w 36 rfl) (ty := .int) (by decide) rfl rfl (g := (mkF m 36 #[vR ob, vI ch] [.int (Int32.ofNat (bs ++ [(ch.toInt8.toInt32)]).length), .ref ob, .int (Int32.ofNat bs.length), .ref bb])) rfl rfl (H 20 rfl)
  have ne12 : bb ≠ ob := Ne.symm (Exa.neArv P0 P4 (w 36 rfl))
  have f13 := P4.other W7 ne12
  have K7 := K0.wr W7 (own_m 0 rfl)
  have N7 := Fr.snoc X7 N4 g_ob
  have f15 : Arv Z h7 bb kb .byte (78 : Int32) (own_iv bs ++ List.replicate 1 (.int 0)) (.int 0) := f13.pad (own_pad bs 1)
  obtain ⟨cl16, Ar16, q16, S16, M16, H16, G16⟩ := id f15
  have hin16 : ¬ ((Int32.ofNat bs.length) < 0 ∨ cl16.slots.size ≤ ((Int32.ofNat bs.length)).toNatClampNeg) := inb_of S16 (own_inb hN)
  obtain ⟨T16, h16, X16, e16, W16, st16⟩ := stB X7 hx hZ e7 Ar16 (j := (Int32.ofNat bs.length)) hin16 (g := (mkF m 41 #[vR ob, vI ch] [.int (ch.toInt8.toInt32), .int (Int32.ofNat bs.length), .ref bb])) rfl rfl (H 23 rfl)
  have V16 := Arv.set Ar16 q16 S16 M16 H16 G16 (fits_nar_byte _) W16 bs.length (own_dp hN).2 (own_lt1 bs)
  have f18 := (P1.other W7 (Or.inr (slot_ne (Or.inl (w 50 rfl)) (Or.inl (w 98 rfl)) (by decide) (t := (.array .byte)) (t' := .int) (by decide) (by decide)))).other W16 (Or.inl (Ne.symm ne12))
  have f19 := (P2.other W7 (Or.inr (slot_ne (Or.inl (w 52 rfl)) (Or.inl (w 98 rfl)) (by decide) (t := .byte) (t' := .int) (by decide) (by decide)))).other W16 (Or.inl (Ne.symm ne12))
  have f20 := (P3.same W7).other W16 (Or.inl (Ne.symm ne12))
  have K16 := K7.wr W16 (own_m 1 rfl)
  have N16 := Fr.snoc X16 N7 g_bb
  have U16 : Arv Z h16 bb kb .byte (78 : Int32) (own_iv (bs ++ [(ch.toInt8.toInt32)])) (.int 0) := by rw [← (own_setc bs ch)]; exact V16
  obtain ⟨fs, hr, hrun, hended, hW, hsame⟩ := X16.leave (v := some (.ref ob)) (fun h => by rw [Bd.returns] at h; cases h)
  refine ⟨_, _, pre0 _ ?_, hrun, hended, _, _, rfl, ?_, ⟨_, rfl⟩, hW, hsame.mono (by decide) (by decide)⟩
  · show SG X0 0 #[vR ob, vI ch] [] _
    refine XS.aloadN X0.here hx rfl (H 0 rfl) rfl rfl ?_
    refine XS.aloadN X0.here hx rfl (H 1 rfl) rfl rfl ?_
    refine st1 _ ?_
    show SG X1 5 #[vR ob, vI ch] [.int (Int32.ofNat bs.length), .ref ob] _
    refine XS.iconst X1.here hx rfl (H 3 rfl) ?_
    refine XS.iadd X1.here hx rfl (H 4 rfl) rfl ?_
    show SG X1 7 #[vR ob, vI ch] [.int ((Int32.ofNat bs.length) + (1 : Int32)), .ref ob] _
    rw [(own_cnt1 bs (ch.toInt8.toInt32))]
    show SG X1 7 #[vR ob, vI ch] [.int (Int32.ofNat (bs ++ [(ch.toInt8.toInt32)]).length), .ref ob] _
    refine st2.trans ?_
    show SG X2 10 #[vR ob, vI ch] [] _
    refine XS.aloadN X2.here hx rfl (H 6 rfl) rfl rfl ?_
    refine st3.trans ?_
    show SG X3 14 #[vR ob, vI ch] [.int 1] _
    refine XS.ifNo X3.here hx rfl (H 8 rfl) rfl ((if0 _ _).trans (feq (by decide : ¬ ((1 : Int32) = (0 : Int32)))).1) ?_
    refine XS.iloadN X3.here hx rfl (H 9 rfl) rfl ?_
    refine st4 _ ?_
    show SG X4 21 #[vR ob, vI ch] [.int 1] _
    refine XS.ifNo X4.here hx rfl (H 11 rfl) rfl ((if0 _ _).trans (feq (by decide : ¬ ((1 : Int32) = (0 : Int32)))).1) ?_
    refine XS.aloadN X4.here hx rfl (H 12 rfl) rfl rfl ?_
    refine st5 _ ?_
    show SG X5 28 #[vR ob, vI ch] [.ref bb] _
    refine XS.aloadN X5.here hx rfl (H 14 rfl) rfl rfl ?_
    refine XS.dup X5.here hx rfl (H 15 rfl) rfl rfl ?_
    refine st6 _ ?_
    show SG X6 33 #[vR ob, vI ch] [.int (Int32.ofNat bs.length), .ref ob, .ref bb] _
    refine XS.dupX1 X6.here hx rfl (H 17 rfl) rfl rfl rfl ?_
    refine XS.iconst X6.here hx rfl (H 18 rfl) ?_
    refine XS.iadd X6.here hx rfl (H 19 rfl) rfl ?_
    show SG X6 36 #[vR ob, vI ch] [.int ((Int32.ofNat bs.length) + (1 : Int32)), .ref ob, .int (Int32.ofNat bs.length), .ref bb] _
    rw [(own_cnt1 bs (ch.toInt8.toInt32))]
    show SG X6 36 #[vR ob, vI ch] [.int (Int32.ofNat (bs ++ [(ch.toInt8.toInt32)]).length), .ref ob, .int (Int32.ofNat bs.length), .ref bb] _
    refine st7 _ ?_
    show SG X7 39 #[vR ob, vI ch] [.int (Int32.ofNat bs.length), .ref bb] _
    refine XS.iloadN X7.here hx rfl (H 21 rfl) rfl ?_
    refine XS.i2b X7.here hx rfl (H 22 rfl) rfl ?_
    refine st16 _ ?_
    show SG X16 42 #[vR ob, vI ch] [] _
    refine XS.goto X16.here hx rfl (pc0 := 42) (pc' := 75) rfl (H 24 rfl) (by decide) (by decide) ?_
    refine XS.aloadN X16.here hx rfl (H 25 rfl) rfl rfl ?_
    jvm_step X16.here [X16.here.top, hx, (H 26 rfl), X16.method', Bd.returns, Value.isRef, FieldType.isReference]
    first | (intro acts; rw [hr _ acts rfl rfl rfl]) | rw [hr _ _ rfl rfl rfl]
    exact Steps.refl _
  · show QCA Z ob ch bb kb bs cs h0 n0 _ T16.heap _
    rw [e16]
    exact ⟨rfl, N16, K16, f20, f18, f19, U16⟩

theorem pn_27 : plainName "java/lang/StringBuilder" = true := by first | (simp [plainName, overriddenIn]; done) | decide +kernel
theorem ef_CB (m : MethodId) (ob : Addr) (ch : Int32) : entryFrame m #[.ref ob, .int ch] 2 = mkF m 0 #[.val (.ref ob), .val (.int ch)] [] := by simp [entryFrame, mkF, argsToLocals, Value.category]
theorem pd_22 : parseMethodDescriptor "(C)Ljava/lang/AbstractStringBuilder;" = some ⟨[.char], some (.object "java/lang/AbstractStringBuilder")⟩ := by decide +kernel
def QCB (Z : State) (ob : Addr) (ch : Int32) (bb : Addr) (kb : ClassId) (bs : List Int32) (cs : Int32) (h0 : Heap) (n0 : Nat) (v : Option Value) (h : Heap) (L : List Loc) : Prop := v = some (.ref ob) ∧ Fr n0 L ∧ Keep h0 h [ob, bb] ∧ Fld Z h ob sA "count" "I" (.int (Int32.ofNat (bs ++ [(ch.toInt8.toInt32)]).length)) ∧ Fld Z h ob sA "value" "[B" (.ref bb) ∧ Fld Z h ob sA "coder" "B" (.int 0) ∧ Arv Z h bb kb .byte (78 : Int32) (own_iv (bs ++ [(ch.toInt8.toInt32)])) (.int 0)
theorem rmCB (l : Launch) (Z : State) (a0 : Array Value) (hw : HWd a0 Z) (ws : List Jvm.Cond) (ob : Addr) (ch : Int32) (bb : Addr) (kb : ClassId) (bs : List Int32) (cs : Int32) (h0 : Heap) (n0 : Nat) (Z0 : n0 ≤ h0.size) (P0 : Exa Z h0 ob sB) (P1 : Fld Z h0 ob sA "value" "[B" (.ref bb)) (P2 : Fld Z h0 ob sA "coder" "B" (.int 0)) (P3 : Fld Z h0 ob sA "count" "I" (.int (Int32.ofNat bs.length))) (P4 : Arv Z h0 bb kb .byte (78 : Int32) (own_iv bs) (.int 0)) (P5 : Sta Z h0 sS sC "Z" (.int cs)) (hcs : ¬ cs = (0 : Int32)) (hc : ¬ (255 : Int32) < ch) (hN : (bs ++ [(ch.toInt8.toInt32)]).length + 0 ≤ 78) (g_ob : n0 ≤ ob) (g_bb : n0 ≤ bb) :
    own_Met l Y_23 (Jvm.Cond.code Y_23 jdk_67_method_14_code 2 (some (.object "java/lang/StringBuilder")) :: ws) (RM 2 0 0 27) #[.ref ob, .int ch] Z h0 (QCB Z ob ch bb kb bs cs h0 n0) := by
  refine own_bS pn_27 rfl D_27 (fun m => ef_CB m ob ch) hw fun p e s m below meth c sZ Bd hx hby hml hown hnm hh hZ X0 e0 w H pre0 => ?_
  have N0 := Fr.nil n0
  have K0 := Keep.refl h0 [ob, bb]
  obtain ⟨_, T1, lo1, Lc1, X1, N1, hQ1, st1⟩ := own_af (QCA Z ob ch bb kb bs cs h0 n0) 0 0 0 0 0 0 (superBack X0 hx hZ (y := Y_22) hown (w 165 rfl) (own_same (y := Y_22) (z := Y_10) (w 102 rfl) (w 166 rfl) rfl (by decide)) (w 166 rfl) (w 84 rfl) (by decide) (backOf (W := 0) (rmCA l Z a0 hw [] ob ch bb kb bs cs h0 n0 Z0 P0 P1 P2 P3 P4 P5 hcs hc hN g_ob g_bb) hZ (w 168 rfl) (w 45 rfl) (by decide) (by decide)) e0 (Ins.self P0) (g := (mkF m 2 #[vR ob, vI ch] [.int ch, .ref ob])) rfl (by rw [hml]; rfl) (w 168 rfl) (argsL := [.int ch]) (rest := []) (lenOf pd_22 rfl) rfl (lq rfl) (H 2 rfl) (fun _ _ => ⟨rfl, e0, (by decide : 0 + 0 ≤ _), (by decide : 0 + 0 ≤ _)⟩)) N0 (fun _ _ _ h => h.2.1) rfl rfl
  dsimp only at st1
  obtain ⟨rfl, N1q, r1_0, r1_1, r1_2, r1_3, r1_4⟩ := hQ1
  have K1 := K0.trans r1_0 (allS (own_m 0 rfl) (allS (own_m 1 rfl) all0))
  obtain ⟨fs, hr, hrun, hended, hW, hsame⟩ := X1.leave (v := some (.ref ob)) (fun h => by rw [Bd.returns] at h; cases h)
  refine ⟨_, _, pre0 _ ?_, hrun, hended, _, _, rfl, ?_, ⟨_, rfl⟩, hW, hsame.mono (by decide) (by decide)⟩
  · show SG X0 0 #[vR ob, vI ch] [] _
    refine XS.aloadN X0.here hx rfl (H 0 rfl) rfl rfl ?_
    refine XS.iloadN X0.here hx rfl (H 1 rfl) rfl ?_
    refine st1.trans ?_
    show SG X1 5 #[vR ob, vI ch] [.ref ob] _
    refine XS.pop X1.here hx rfl (H 3 rfl) rfl rfl ?_
    refine XS.aloadN X1.here hx rfl (H 4 rfl) rfl rfl ?_
    jvm_step X1.here [X1.here.top, hx, (H 5 rfl), X1.method', Bd.returns, Value.isRef, FieldType.isReference]
    first | (intro acts; rw [hr _ acts rfl rfl rfl]) | rw [hr _ _ rfl rfl rfl]
    exact Steps.refl _
  · show QCB Z ob ch bb kb bs cs h0 n0 _ T1.heap _
    exact ⟨rfl, N1, K1, r1_1, r1_2, r1_3, r1_4⟩

theorem ef_CA2 (m : MethodId) (ob : Addr) (ch : Int32) : entryFrame m #[.ref ob, .int ch] 2 = mkF m 0 #[.val (.ref ob), .val (.int ch)] [] := by simp [entryFrame, mkF, argsToLocals, Value.category]
def QCA2 (Z : State) (ob : Addr) (ch : Int32) (bb : Addr) (kb : ClassId) (bs : List Int32) (cs : Int32) (h0 : Heap) (n0 : Nat) (v : Option Value) (h : Heap) (L : List Loc) : Prop := ∃ xb : Addr, ∃ xk : ClassId, v = some (.ref ob) ∧ Fr n0 L ∧ Keep h0 h [ob] ∧ h0.size ≤ xb ∧ Fld Z h ob sA "count" "I" (.int (Int32.ofNat (bs ++ [(ch.toInt8.toInt32)]).length)) ∧ Fld Z h ob sA "value" "[B" (.ref xb) ∧ Fld Z h ob sA "coder" "B" (.int 0) ∧ Arv Z h xb xk .byte (78 : Int32) (own_iv (bs ++ [(ch.toInt8.toInt32)])) (.int 0)
theorem rmCA2 (l : Launch) (Z : State) (a0 : Array Value) (hw : HWd a0 Z) (ws : List Jvm.Cond) (ob : Addr) (ch : Int32) (bb : Addr) (kb : ClassId) (bs : List Int32) (cs : Int32) (h0 : Heap) (n0 : Nat) (Z0 : n0 ≤ h0.size) (P0 : Exa Z h0 ob sB) (P1 : Fld Z h0 ob sA "value" "[B" (.ref bb)) (P2 : Fld Z h0 ob sA "coder" "B" (.int 0)) (P3 : Fld Z h0 ob sA "count" "I" (.int (Int32.ofNat bs.length))) (P4 : Arv Z h0 bb kb .byte (38 : Int32) (own_iv bs) (.int 0)) (P5 : Sta Z h0 sS sC "Z" (.int cs)) (hcs : ¬ cs = (0 : Int32)) (hc : ¬ (255 : Int32) < ch) (hl : bs.length = 38) (g_ob : n0 ≤ ob) :
    own_Met l Y_22 (Jvm.Cond.code Y_22 jdk_68_method_31_code 2 (some (.object "java/lang/AbstractStringBuilder")) :: ws) (RM 4 1 78 62) #[.ref ob, .int ch] Z h0 (QCA2 Z ob ch bb kb bs cs h0 n0) := by
  refine own_bS pn_28 rfl D_28 (fun m => ef_CA2 m ob ch) hw fun p e s m below meth c sZ Bd hx hby hml hown hnm hh hZ X0 e0 w H pre0 => ?_
  have N0 := Fr.nil n0
  have K0 := Keep.refl h0 [ob]
  have hN : (bs ++ [(ch.toInt8.toInt32)]).length + 0 ≤ 78 := own_len39 hl
  obtain ⟨T1, X1, e1, st1⟩ := getF X0 hx hZ hown (host := "") (Or.inl (w 97 rfl)) Via.refl e0 P3 (g := (mkF m 2 #[vR ob, vI ch] [.ref ob, .ref ob])) rfl rfl (H 2 rfl)
  obtain ⟨cq2, q2, q2'⟩ := P0.cell
  obtain ⟨_, T2, lo2, Lc2, X2, N2, hQ2, st2⟩ := own_af (QEG2 Z ob bb kb bs (Int32.ofNat bs.length) h0 n0) 0 1 0 78 1 78 (X1.privateBack hx (y := Y_10) hown (mvT hZ (w 99 rfl)) (mvT hZ (w 100 rfl)) (own_selp (z := Y_10) (mvT hZ (w 102 rfl)) rfl (mvT hZ (w 100 rfl)) (Cond.privateMethod_at (mvP hZ (w 101 rfl) (args := #[]))) (by decide)) (Cond.privateMethod_at (mvP hZ (w 101 rfl) (args := #[]))) (mvT hZ (w 103 rfl)) (by decide) (backOf (W := 0) (rmEG2 l Z a0 hw [] ob bb kb bs (Int32.ofNat bs.length) h0 n0 Z0 P0 P1 P2 P3 P4 hl g_ob) hZ (w 103 rfl) (w 45 rfl) (by decide) (by decide)) (g := (mkF m 7 #[vR ob, vI ch] [.int 39, .ref ob])) rfl (by rw [hml]; rfl) (Steps.refl _) (a := ob) (by rw [e1]; exact q2) q2' (argsL := [.int 39]) (rest := []) (lenOf pd_6 rfl) rfl (lq rfl) (H 5 rfl) (fun _ _ => ⟨rfl, e1, (by decide : 0 + 1 ≤ _), (by decide : 0 + 78 ≤ _)⟩)) N0 (by rintro _ _ _ ⟨_, _, -, N, -⟩; exact N) rfl rfl
  dsimp only at st2
  obtain ⟨x2_0, x2_1, rfl, N2q, r2_0, r2_1, r2_2, r2_3, r2_4, r2_5⟩ := hQ2
  have g_x2_0 : n0 ≤ x2_0 := Nat.le_trans Z0 r2_1
  have sz_x2_0 : h0.size ≤ x2_0 := Nat.le_trans K0.1 r2_1
  have f3 := own_sta P5 r2_0 (nsS P0.nostat ns0)
  have f4 := P0.keep r2_0
  have K2 := K0.trans r2_0 (allS (own_m 0 rfl) all0)
  have Z2 : n0 ≤ T2.heap.size := Nat.le_trans Z0 r2_0.1
  obtain ⟨cq7, kq7, q7a, q7b, q7c⟩ := isOf hZ rfl f4
  obtain ⟨_, T7, lo7, Lc7, X7, N7, hQ7, st7⟩ := own_af (QL1 Z ob cs T2.heap n0) 1 0 78 0 1 78 (X2.virtualBack hx (y := Y_21) (z := Y_21) hown (mvT hZ (w 169 rfl)) (mvT hZ (w 170 rfl)) (own_ns hZ (w 172 rfl)) (mvT hZ (w 172 rfl)) (mvT hZ (w 171 rfl)) (by decide) (backOf (W := 0) (rmL1 l Z a0 hw [] ob cs T2.heap n0 Z2 f4 r2_3 f3 hcs) hZ (w 173 rfl) (w 45 rfl) (by decide) (by decide)) q7a q7c (g := (mkF m 11 #[vR ob, vI ch] [.ref ob])) rfl (by rw [hml]; rfl) (Steps.refl _) (argsL := []) (rest := []) (lenOf pd_23 rfl) rfl (lq rfl) (H 7 rfl) (fun _ _ => ⟨rfl, rfl, (by decide : 1 + 0 ≤ _), (by decide : 78 + 0 ≤ _)⟩)) N2 (fun _ _ _ h => h.2.1) rfl rfl
  dsimp only at st7
  obtain ⟨rfl, N7q, r7_0⟩ := hQ7
  obtain ⟨_, T8, lo8, Lc8, X8, N8, hQ8, st8⟩ := own_af (QCE Z ch T2.heap n0) 1 0 78 0 1 78 (Jvm.LawKit.callS X7 hx (y := Y_0) hown (mvT hZ (w 174 rfl)) (mvT hZ (w 9 rfl)) (mvT hZ (w 10 rfl)) (mvT hZ (w 11 rfl)) (by decide) (backOf (W := 0) (rmCE l Z a0 hw [] ch T2.heap n0 Z2 hc) hZ (w 11 rfl) (w 10 rfl) (by decide) (by decide)) (g := (mkF m 18 #[vR ob, vI ch] [.int ch])) rfl (by rw [hml]; rfl) (argsL := [.int ch]) (rest := []) (lenOf pd_1 rfl) rfl (lq rfl) (H 10 rfl) (fun _ _ => ⟨rfl, r7_0, (by decide : 1 + 0 ≤ _), (by decide : 78 + 0 ≤ _)⟩)) N7 (fun _ _ _ h => h.2.1) rfl rfl
  dsimp only at st8
  obtain ⟨rfl, N8q, r8_0⟩ := hQ8
  obtain ⟨T9, X9, e9, st9⟩ := getF X8 hx hZ hown (host := "") (Or.inl (w 49 rfl)) Via.refl r8_0 r2_2 (g := (mkF m 25 #[vR ob, vI ch] [.ref ob])) rfl rfl (H 13 rfl)
  obtain ⟨T10, X10, e10, st10⟩ := getF X9 hx hZ hown (host := "") (Or.inl (w 97 rfl)) Via.refl e9 r2_4 (g := (mkF m 30 #[vR ob, vI ch] [.ref ob, .ref ob, .ref x2_0])) rfl rfl (H 16 rfl)
  obtain ⟨T11, h11, X11, e11, W11, st11⟩ := putF X10 hx hZ hown (host := "") (Or.inl (w 97 rfl)) Via.refl e10 r2_4 f4 (Or.inl (w 98 rfl)) (w 36 rfl) (ty := .int) (by decide) rfl rfl (g := (mkF m 36 #[vR ob, vI ch] [.int (Int32.ofNat (bs ++ [(ch.toInt8.toInt32)]).length), .ref ob, .int (Int32.ofNat bs.length), .ref x2_0])) rfl rfl (H 20 rfl)
  have ne18 : ob ≠ x2_0 := Nat.ne_of_lt (Nat.lt_of_lt_of_le P0.lt r2_1)
  have f19 := r2_5.other W11 (Ne.symm ne18)
  have K11 := K2.wr W11 (own_m 0 rfl)
  have N11 := Fr.snoc X11 N8 g_ob
  have f20 : Arv Z h11 x2_0 x2_1 .byte (78 : Int32) (own_iv bs ++ List.replicate 1 (.int 0)) (.int 0) := f19.pad (own_pad bs 1)
  obtain ⟨cl21, Ar21, q21, S21, M21, H21, G21⟩ := id f20
  have hin21 : ¬ ((Int32.ofNat bs.length) < 0 ∨ cl21.slots.size ≤ ((Int32.ofNat bs.length)).toNatClampNeg) := inb_of S21 (own_inb hN)
  obtain ⟨T21, h21, X21, e21, W21, st21⟩ := stB X11 hx hZ e11 Ar21 (j := (Int32.ofNat bs.length)) hin21 (g := (mkF m 41 #[vR ob, vI ch] [.int (ch.toInt8.toInt32), .int (Int32.ofNat bs.length), .ref x2_0])) rfl rfl (H 23 rfl)
  have V21 := Arv.set Ar21 q21 S21 M21 H21 G21 (fits_nar_byte _) W21 bs.length (own_dp hN).2 (own_lt1 bs)
  have f26 := (r2_2.other W11 (Or.inr (slot_ne (Or.inl (w 50 rfl)) (Or.inl (w 98 rfl)) (by decide) (t := (.array .byte)) (t' := .int) (by decide) (by decide)))).other W21 (Or.inl ne18)
  have f27 := (r2_3.other W11 (Or.inr (slot_ne (Or.inl (w 52 rfl)) (Or.inl (w 98 rfl)) (by decide) (t := .byte) (t' := .int) (by decide) (by decide)))).other W21 (Or.inl ne18)
  have f28 := (r2_4.same W11).other W21 (Or.inl ne18)
  have K21 := K11.wr W21 (Or.inr sz_x2_0)
  have N21 := Fr.snoc X21 N11 g_x2_0
  have U21 : Arv Z h21 x2_0 x2_1 .byte (78 : Int32) (own_iv (bs ++ [(ch.toInt8.toInt32)])) (.int 0) := by rw [← (own_setc bs ch)]; exact V21
  obtain ⟨fs, hr, hrun, hended, hW, hsame⟩ := X21.leave (v := some (.ref ob)) (fun h => by rw [Bd.returns] at h; cases h)
  refine ⟨_, _, pre0 _ ?_, hrun, hended, _, _, rfl, ?_, ⟨_, rfl⟩, hW, hsame.mono (by decide) (by decide)⟩
  · show SG X0 0 #[vR ob, vI ch] [] _
    refine XS.aloadN X0.here hx rfl (H 0 rfl) rfl rfl ?_
    refine XS.aloadN X0.here hx rfl (H 1 rfl) rfl rfl ?_
    refine st1 _ ?_
    show SG X1 5 #[vR ob, vI ch] [.int (Int32.ofNat bs.length), .ref ob] _
    refine XS.iconst X1.here hx rfl (H 3 rfl) ?_
    refine XS.iadd X1.here hx rfl (H 4 rfl) rfl ?_
    show SG X1 7 #[vR ob, vI ch] [.int ((Int32.ofNat bs.length) + (1 : Int32)), .ref ob] _
    rw [(own_39 bs hl)]
    show SG X1 7 #[vR ob, vI ch] [.int 39, .ref ob] _
    refine st2.trans ?_
    show SG X2 10 #[vR ob, vI ch] [] _
    refine XS.aloadN X2.here hx rfl (H 6 rfl) rfl rfl ?_
    refine st7.trans ?_
    show SG X7 14 #[vR ob, vI ch] [.int 1] _
    refine XS.ifNo X7.here hx rfl (H 8 rfl) rfl ((if0 _ _).trans (feq (by decide : ¬ ((1 : Int32) = (0 : Int32)))).1) ?_
    refine XS.iloadN X7.here hx rfl (H 9 rfl) rfl ?_
    refine st8 _ ?_
    show SG X8 21 #[vR ob, vI ch] [.int 1] _
    refine XS.ifNo X8.here hx rfl (H 11 rfl) rfl ((if0 _ _).trans (feq (by decide : ¬ ((1 : Int32) = (0 : Int32)))).1) ?_
    refine XS.aloadN X8.here hx rfl (H 12 rfl) rfl rfl ?_
    refine st9 _ ?_
    show SG X9 28 #[vR ob, vI ch] [.ref x2_0] _
    refine XS.aloadN X9.here hx rfl (H 14 rfl) rfl rfl ?_
    refine XS.dup X9.here hx rfl (H 15 rfl) rfl rfl ?_
    refine st10 _ ?_
    show SG X10 33 #[vR ob, vI ch] [.int (Int32.ofNat bs.length), .ref ob, .ref x2_0] _
    refine XS.dupX1 X10.here hx rfl (H 17 rfl) rfl rfl rfl ?_
    refine XS.iconst X10.here hx rfl (H 18 rfl) ?_
    refine XS.iadd X10.here hx rfl (H 19 rfl) rfl ?_
    show SG X10 36 #[vR ob, vI ch] [.int ((Int32.ofNat bs.length) + (1 : Int32)), .ref ob, .int (Int32.ofNat bs.length), .ref x2_0] _
    rw [(own_cnt1 bs (ch.toInt8.toInt32))]
    show SG X10 36 #[vR ob, vI ch] [.int (Int32.ofNat (bs ++ [(ch.toInt8.toInt32)]).length), .ref ob, .int (Int32.ofNat bs.length), .ref x2_0] _
    refine st11 _ ?_
    show SG X11 39 #[vR ob, vI ch] [.int (Int32.ofNat bs.length), .ref x2_0] _
    refine XS.iloadN X11.here hx rfl (H 21 rfl) rfl ?_
    refine XS.i2b X11.here hx rfl (H 22 rfl) rfl ?_
    refine st21 _ ?_
    show SG X21 42 #[vR ob, vI ch] [] _
    refine XS.goto X21.here hx rfl (pc0 := 42) (pc' := 75) rfl (H 24 rfl) (by decide) (by decide) ?_
    refine XS.aloadN X21.here hx rfl (H 25 rfl) rfl rfl ?_
    jvm_step X21.here [X21.here.top, hx, (H 26 rfl), X21.method', Bd.returns, Value.isRef, FieldType.isReference]
    first | (intro acts; rw [hr _ acts rfl rfl rfl]) | rw [hr _ _ rfl rfl rfl]
    exact Steps.refl _
  · show QCA2 Z ob ch bb kb bs cs h0 n0 _ T21.heap _
    rw [e21]
    exact ⟨x2_0, x2_1, rfl, N21, K21, sz_x2_0, f28, f26, f27, U21⟩

theorem ef_CB2 (m : MethodId) (ob : Addr) (ch : Int32) : entryFrame m #[.ref ob, .int ch] 2 = mkF m 0 #[.val (.ref ob), .val (.int ch)] [] := by simp [entryFrame, mkF, argsToLocals, Value.category]
def QCB2 (Z : State) (ob : Addr) (ch : Int32) (bb : Addr) (kb : ClassId) (bs : List Int32) (cs : Int32) (h0 : Heap) (n0 : Nat) (v : Option Value) (h : Heap) (L : List Loc) : Prop := ∃ xb : Addr, ∃ xk : ClassId, v = some (.ref ob) ∧ Fr n0 L ∧ Keep h0 h [ob] ∧ h0.size ≤ xb ∧ Fld Z h ob sA "count" "I" (.int (Int32.ofNat (bs ++ [(ch.toInt8.toInt32)]).length)) ∧ Fld Z h ob sA "value" "[B" (.ref xb) ∧ Fld Z h ob sA "coder" "B" (.int 0) ∧ Arv Z h xb xk .byte (78 : Int32) (own_iv (bs ++ [(ch.toInt8.toInt32)])) (.int 0)
theorem rmCB2 (l : Launch) (Z : State) (a0 : Array Value) (hw : HWd a0 Z) (ws : List Jvm.Cond) (ob : Addr) (ch : Int32) (bb : Addr) (kb : ClassId) (bs : List Int32) (cs : Int32) (h0 : Heap) (n0 : Nat) (Z0 : n0 ≤ h0.size) (P0 : Exa Z h0 ob sB) (P1 : Fld Z h0 ob sA "value" "[B" (.ref bb)) (P2 : Fld Z h0 ob sA "coder" "B" (.int 0)) (P3 : Fld Z h0 ob sA "count" "I" (.int (Int32.ofNat bs.length))) (P4 : Arv Z h0 bb kb .byte (38 : Int32) (own_iv bs) (.int 0)) (P5 : Sta Z h0 sS sC "Z" (.int cs)) (hcs : ¬ cs = (0 : Int32)) (hc : ¬ (255 : Int32) < ch) (hl : bs.length = 38) (g_ob : n0 ≤ ob) :
    own_Met l Y_23 (Jvm.Cond.code Y_23 jdk_67_method_14_code 2 (some (.object "java/lang/StringBuilder")) :: ws) (RM 5 1 78 75) #[.ref ob, .int ch] Z h0 (QCB2 Z ob ch bb kb bs cs h0 n0) := by
  refine own_bS pn_27 rfl D_27 (fun m => ef_CB2 m ob ch) hw fun p e s m below meth c sZ Bd hx hby hml hown hnm hh hZ X0 e0 w H pre0 => ?_
  have N0 := Fr.nil n0
  have K0 := Keep.refl h0 [ob]
  obtain ⟨_, T1, lo1, Lc1, X1, N1, hQ1, st1⟩ := own_af (QCA2 Z ob ch bb kb bs cs h0 n0) 0 1 0 78 1 78 (superBack X0 hx hZ (y := Y_22) hown (w 165 rfl) (own_same (y := Y_22) (z := Y_10) (w 102 rfl) (w 166 rfl) rfl (by decide)) (w 166 rfl) (w 84 rfl) (by decide) (backOf (W := 0) (rmCA2 l Z a0 hw [] ob ch bb kb bs cs h0 n0 Z0 P0 P1 P2 P3 P4 P5 hcs hc hl g_ob) hZ (w 168 rfl) (w 45 rfl) (by decide) (by decide)) e0 (Ins.self P0) (g := (mkF m 2 #[vR ob, vI ch] [.int ch, .ref ob])) rfl (by rw [hml]; rfl) (w 168 rfl) (argsL := [.int ch]) (rest := []) (lenOf pd_22 rfl) rfl (lq rfl) (H 2 rfl) (fun _ _ => ⟨rfl, e0, (by decide : 0 + 1 ≤ _), (by decide : 0 + 78 ≤ _)⟩)) N0 (by rintro _ _ _ ⟨_, _, -, N, -⟩; exact N) rfl rfl
  dsimp only at st1
  obtain ⟨x1_0, x1_1, rfl, N1q, r1_0, r1_1, r1_2, r1_3, r1_4, r1_5⟩ := hQ1
  have sz_x1_0 : h0.size ≤ x1_0 := Nat.le_trans K0.1 r1_1
  have K1 := K0.trans r1_0 (allS (own_m 0 rfl) all0)
  obtain ⟨fs, hr, hrun, hended, hW, hsame⟩ := X1.leave (v := some (.ref ob)) (fun h => by rw [Bd.returns] at h; cases h)
  refine ⟨_, _, pre0 _ ?_, hrun, hended, _, _, rfl, ?_, ⟨_, rfl⟩, hW, hsame.mono (by decide) (by decide)⟩
  · show SG X0 0 #[vR ob, vI ch] [] _
    refine XS.aloadN X0.here hx rfl (H 0 rfl) rfl rfl ?_
    refine XS.iloadN X0.here hx rfl (H 1 rfl) rfl ?_
    refine st1.trans ?_
    show SG X1 5 #[vR ob, vI ch] [.ref ob] _
    refine XS.pop X1.here hx rfl (H 3 rfl) rfl rfl ?_
    refine XS.aloadN X1.here hx rfl (H 4 rfl) rfl rfl ?_
    jvm_step X1.here [X1.here.top, hx, (H 5 rfl), X1.method', Bd.returns, Value.isRef, FieldType.isReference]
    first | (intro acts; rw [hr _ acts rfl rfl rfl]) | rw [hr _ _ rfl rfl rfl]
    exact Steps.refl _
  · show QCB2 Z ob ch bb kb bs cs h0 n0 _ T1.heap _
    exact ⟨x1_0, x1_1, rfl, N1, K1, sz_x1_0, r1_2, r1_3, r1_4, r1_5⟩

theorem pn_31 : plainName "java/util/ArrayDeque" = true := by first | (simp [plainName, overriddenIn]; done) | decide +kernel
theorem ef_SU0 (m : MethodId)  : entryFrame m #[.int 0, .int 0, .int 17] 3 = mkF m 0 #[.val (.int 0), .val (.int 0), .val (.int 17)] [] := by simp [entryFrame, mkF, argsToLocals, Value.category]
def QSU0 (Z : State)  (h0 : Heap) (n0 : Nat) (v : Option Value) (h : Heap) (L : List Loc) : Prop := v = some (.int 0) ∧ Fr n0 L ∧ h = h0
theorem rmSU0 (l : Launch) (Z : State) (a0 : Array Value) (hw : HWd a0 Z) (ws : List Jvm.Cond)  (h0 : Heap) (n0 : Nat) (Z0 : n0 ≤ h0.size) :
    own_Met l Y_24 (Jvm.Cond.code Y_24 jdk_21_method_9_code 3 (some .int) :: ws) (RM 0 0 0 0) #[.int 0, .int 0, .int 17] Z h0 (QSU0 Z  h0 n0) := by
  refine own_bS pn_31 rfl D_31 (fun m => ef_SU0 m) hw fun p e s m below meth c sZ Bd hx hby hml hown hnm hh hZ X0 e0 w H pre0 => ?_
  have N0 := Fr.nil n0
  obtain ⟨fs, hr, hrun, hended, hW, hsame⟩ := X0.leave (v := some (.int 0)) (fun h => by rw [Bd.returns] at h; cases h)
  refine ⟨_, _, pre0 _ ?_, hrun, hended, _, _, rfl, ?_, ⟨_, rfl⟩, hW, hsame.mono (by decide) (by decide)⟩
  · show SG X0 0 #[vI 0, vI 0, vI 17] [] _
    refine XS.iloadN X0.here hx rfl (H 0 rfl) rfl ?_
    refine XS.iloadN X0.here hx rfl (H 1 rfl) rfl ?_
    refine XS.isub X0.here hx rfl (H 2 rfl) rfl ?_
    show SG X0 3 #[vI 0, vI 0, vI 17] [.int 0] _
    refine XS.dup X0.here hx rfl (H 3 rfl) rfl rfl ?_
    refine XS.istoreN X0.here hx rfl (H 4 rfl) rfl (l' := #[vI 0, vI 0, vI 17]) rfl ?_
    refine XS.ifYes X0.here hx rfl (pc0 := 5) (pc' := 12) rfl (H 5 rfl) rfl ((if0 _ _).trans (flt (by decide : ¬ ((0 : Int32) < (0 : Int32)))).2.1) (by decide) (by decide) ?_
    refine XS.iloadN X0.here hx rfl (H 10 rfl) rfl ?_
    exact retI X0 hx Bd.returns (H 11 rfl) hr
  · show QSU0 Z  h0 n0 _ sZ.heap _
    rw [e0]
    exact ⟨rfl, N0, rfl⟩

theorem pn_30 : plainName "java/util/ArrayDeque" = true := by first | (simp [plainName, overriddenIn]; done) | decide +kernel
theorem ef_SZ0 (m : MethodId) (dq : Addr) : entryFrame m #[.ref dq] 1 = mkF m 0 #[.val (.ref dq)] [] := by simp [entryFrame, mkF, argsToLocals, Value.category]
def QSZ0 (Z : State) (dq el : Addr) (ke : ClassId) (h0 : Heap) (n0 : Nat) (v : Option Value) (h : Heap) (L : List Loc) : Prop := v = some (.int 0) ∧ Fr n0 L ∧ h = h0
theorem rmSZ0 (l : Launch) (Z : State) (a0 : Array Value) (hw : HWd a0 Z) (ws : List Jvm.Cond) (dq el : Addr) (ke : ClassId) (h0 : Heap) (n0 : Nat) (Z0 : n0 ≤ h0.size) (P0 : Exa Z h0 dq sD) (P1 : Fld Z h0 dq sD "elements" sLO (.ref el)) (P2 : Fld Z h0 dq sD "head" "I" (.int 0)) (P3 : Fld Z h0 dq sD "tail" "I" (.int 0)) (P4 : Arv Z h0 el ke (.object sO) (17 : Int32) [.null, .null, .null, .null, .null, .null, .null, .null, .null, .null, .null, .null, .null, .null, .null, .null, .null] .null) (P5 : Ovr Z ke sO) :
    own_Met l Y_25 (Jvm.Cond.code Y_25 jdk_21_method_37_code 1 (some .int) :: ws) (RM 1 0 0 14) #[.ref dq] Z h0 (QSZ0 Z dq el ke h0 n0) := by
  refine own_bS pn_30 rfl D_30 (fun m => ef_SZ0 m dq) hw fun p e s m below meth c sZ Bd hx hby hml hown hnm hh hZ X0 e0 w H pre0 => ?_
  have N0 := Fr.nil n0
  obtain ⟨T1, X1, e1, st1⟩ := getF X0 hx hZ hown (host := "") (Or.inl (w 185 rfl)) Via.refl e0 P3 (g := (mkF m 1 #[vR dq] [.ref dq])) rfl rfl (H 1 rfl)
  obtain ⟨T2, X2, e2, st2⟩ := getF X1 hx hZ hown (host := "") (Or.inl (w 187 rfl)) Via.refl e1 P2 (g := (mkF m 5 #[vR dq] [.ref dq, .int 0])) rfl rfl (H 3 rfl)
  obtain ⟨T3, X3, e3, st3⟩ := getF X2 hx hZ hown (host := "") (Or.inl (w 70 rfl)) Via.refl e2 P1 (g := (mkF m 9 #[vR dq] [.ref dq, .int 0, .int 0])) rfl rfl (H 5 rfl)
  obtain ⟨_, T4, lo4, Lc4, X4, N4, hQ4, st4⟩ := own_af (QSU0 Z  h0 n0) 0 0 0 0 0 0 (Jvm.LawKit.callS X3 hx (y := Y_24) hown (mvT hZ (w 189 rfl)) (mvT hZ (w 190 rfl)) (mvT hZ (w 57 rfl)) (mvT hZ (w 191 rfl)) (by decide) (backOf (W := 0) (rmSU0 l Z a0 hw []  h0 n0 Z0) hZ (w 191 rfl) (w 57 rfl) (by decide) (by decide)) (g := (mkF m 13 #[vR dq] [.int 17, .int 0, .int 0])) rfl (by rw [hml]; rfl) (argsL := [.int 0, .int 0, .int 17]) (rest := []) (lenOf pd_12 rfl) rfl (lq rfl) (H 7 rfl) (fun _ _ => ⟨rfl, e3, (by decide : 0 + 0 ≤ _), (by decide : 0 + 0 ≤ _)⟩)) N0 (fun _ _ _ h => h.2.1) rfl rfl
  dsimp only at st4
  obtain ⟨rfl, N4q, r4_0⟩ := hQ4
  obtain ⟨fs, hr, hrun, hended, hW, hsame⟩ := X4.leave (v := some (.int 0)) (fun h => by rw [Bd.returns] at h; cases h)
  refine ⟨_, _, pre0 _ ?_, hrun, hended, _, _, rfl, ?_, ⟨_, rfl⟩, hW, hsame.mono (by decide) (by decide)⟩
  · show SG X0 0 #[vR dq] [] _
    refine XS.aloadN X0.here hx rfl (H 0 rfl) rfl rfl ?_
    refine st1 _ ?_
    show SG X1 4 #[vR dq] [.int 0] _
    refine XS.aloadN X1.here hx rfl (H 2 rfl) rfl rfl ?_
    refine st2 _ ?_
    show SG X2 8 #[vR dq] [.int 0, .int 0] _
    refine XS.aloadN X2.here hx rfl (H 4 rfl) rfl rfl ?_
    refine st3 _ ?_
    show SG X3 12 #[vR dq] [.ref el, .int 0, .int 0] _
    refine own_alen X3 hx hZ e3 P4 (H 6 rfl) ?_
    refine st4 _ ?_
    show SG X4 16 #[vR dq] [.int 0] _
    exact retI X4 hx Bd.returns (H 8 rfl) hr
  · show QSZ0 Z dq el ke h0 n0 _ T4.heap _
    rw [r4_0]
    exact ⟨rfl, N4, rfl⟩

theorem ef_SU1 (m : MethodId)  : entryFrame m #[.int 0, .int 16, .int 17] 3 = mkF m 0 #[.val (.int 0), .val (.int 16), .val (.int 17)] [] := by simp [entryFrame, mkF, argsToLocals, Value.category]
def QSU1 (Z : State)  (h0 : Heap) (n0 : Nat) (v : Option Value) (h : Heap) (L : List Loc) : Prop := v = some (.int 1) ∧ Fr n0 L ∧ h = h0
theorem rmSU1 (l : Launch) (Z : State) (a0 : Array Value) (hw : HWd a0 Z) (ws : List Jvm.Cond)  (h0 : Heap) (n0 : Nat) (Z0 : n0 ≤ h0.size) :
    own_Met l Y_24 (Jvm.Cond.code Y_24 jdk_21_method_9_code 3 (some .int) :: ws) (RM 0 0 0 0) #[.int 0, .int 16, .int 17] Z h0 (QSU1 Z  h0 n0) := by
  refine own_bS pn_31 rfl D_31 (fun m => ef_SU1 m) hw fun p e s m below meth c sZ Bd hx hby hml hown hnm hh hZ X0 e0 w H pre0 => ?_
  have N0 := Fr.nil n0
  obtain ⟨fs, hr, hrun, hended, hW, hsame⟩ := X0.leave (v := some (.int 1)) (fun h => by rw [Bd.returns] at h; cases h)
  refine ⟨_, _, pre0 _ ?_, hrun, hended, _, _, rfl, ?_, ⟨_, rfl⟩, hW, hsame.mono (by decide) (by decide)⟩
  · show SG X0 0 #[vI 0, vI 16, vI 17] [] _
    refine XS.iloadN X0.here hx rfl (H 0 rfl) rfl ?_
    refine XS.iloadN X0.here hx rfl (H 1 rfl) rfl ?_
    refine XS.isub X0.here hx rfl (H 2 rfl) rfl ?_
    show SG X0 3 #[vI 0, vI 16, vI 17] [.int (-16 : Int32)] _
    refine XS.dup X0.here hx rfl (H 3 rfl) rfl rfl ?_
    refine XS.istoreN X0.here hx rfl (H 4 rfl) rfl (l' := #[.val (.int (-16 : Int32)), vI 16, vI 17]) rfl ?_
    refine XS.ifNo X0.here hx rfl (H 5 rfl) rfl ((if0 _ _).trans (tlt (by decide : ((-16 : Int32) < (0 : Int32)))).2.1) ?_
    refine XS.iloadN X0.here hx rfl (H 6 rfl) rfl ?_
    refine XS.iloadN X0.here hx rfl (H 7 rfl) rfl ?_
    refine XS.iadd X0.here hx rfl (H 8 rfl) rfl ?_
    show SG X0 11 #[.val (.int (-16 : Int32)), vI 16, vI 17] [.int 1] _
    refine XS.istoreN X0.here hx rfl (H 9 rfl) rfl (l' := #[vI 1, vI 16, vI 17]) rfl ?_
    refine XS.iloadN X0.here hx rfl (H 10 rfl) rfl ?_
    exact retI X0 hx Bd.returns (H 11 rfl) hr
  · show QSU1 Z  h0 n0 _ sZ.heap _
    rw [e0]
    exact ⟨rfl, N0, rfl⟩

theorem ef_SZ1 (m : MethodId) (dq : Addr) : entryFrame m #[.ref dq] 1 = mkF m 0 #[.val (.ref dq)] [] := by simp [entryFrame, mkF, argsToLocals, Value.category]
def QSZ1 (Z : State) (dq el : Addr) (ke : ClassId) (y1 : Addr) (h0 : Heap) (n0 : Nat) (v : Option Value) (h : Heap) (L : List Loc) : Prop := v = some (.int 1) ∧ Fr n0 L ∧ h = h0
theorem rmSZ1 (l : Launch) (Z : State) (a0 : Array Value) (hw : HWd a0 Z) (ws : List Jvm.Cond) (dq el : Addr) (ke : ClassId) (y1 : Addr) (h0 : Heap) (n0 : Nat) (Z0 : n0 ≤ h0.size) (P0 : Exa Z h0 dq sD) (P1 : Fld Z h0 dq sD "elements" sLO (.ref el)) (P2 : Fld Z h0 dq sD "head" "I" (.int 16)) (P3 : Fld Z h0 dq sD "tail" "I" (.int 0)) (P4 : Arv Z h0 el ke (.object sO) (17 : Int32) [.null, .null, .null, .null, .null, .null, .null, .null, .null, .null, .null, .null, .null, .null, .null, .null, .ref y1] .null) (P5 : Ovr Z ke sO) :
    own_Met l Y_25 (Jvm.Cond.code Y_25 jdk_21_method_37_code 1 (some .int) :: ws) (RM 1 0 0 14) #[.ref dq] Z h0 (QSZ1 Z dq el ke y1 h0 n0) := by
  refine own_bS pn_30 rfl D_30 (fun m => ef_SZ1 m dq) hw fun p e s m below meth c sZ Bd hx hby hml hown hnm hh hZ X0 e0 w H pre0 => ?_
  have N0 := Fr.nil n0
  obtain ⟨T1, X1, e1, st1⟩ := getF X0 hx hZ hown (host := "") (Or.inl (w 185 rfl)) Via.refl e0 P3 (g := (mkF m 1 #[vR dq] [.ref dq])) rfl rfl (H 1 rfl)
  obtain ⟨T2, X2, e2, st2⟩ := getF X1 hx hZ hown (host := "") (Or.inl (w 187 rfl)) Via.refl e1 P2 (g := (mkF m 5 #[vR dq] [.ref dq, .int 0])) rfl rfl (H 3 rfl)
  obtain ⟨T3, X3, e3, st3⟩ := getF X2 hx hZ hown (host := "") (Or.inl (w 70 rfl)) Via.refl e2 P1 (g := (mkF m 9 #[vR dq] [.ref dq, .int 16, .int 0])) rfl rfl (H 5 rfl)
  obtain ⟨_, T4, lo4, Lc4, X4, N4, hQ4, st4⟩ := own_af (QSU1 Z  h0 n0) 0 0 0 0 0 0 (Jvm.LawKit.callS X3 hx (y := Y_24) hown (mvT hZ (w 189 rfl)) (mvT hZ (w 190 rfl)) (mvT hZ (w 57 rfl)) (mvT hZ (w 191 rfl)) (by decide) (backOf (W := 0) (rmSU1 l Z a0 hw []  h0 n0 Z0) hZ (w 191 rfl) (w 57 rfl) (by decide) (by decide)) (g := (mkF m 13 #[vR dq] [.int 17, .int 16, .int 0])) rfl (by rw [hml]; rfl) (argsL := [.int 0, .int 16, .int 17]) (rest := []) (lenOf pd_12 rfl) rfl (lq rfl) (H 7 rfl) (fun _ _ => ⟨rfl, e3, (by decide : 0 + 0 ≤ _), (by decide : 0 + 0 ≤ _)⟩)) N0 (fun _ _ _ h => h.2.1) rfl rfl
  dsimp only at st4
  obtain ⟨rfl, N4q, r4_0⟩ := hQ4
  obtain ⟨fs, hr, hrun, hended, hW, hsame⟩ := X4.leave (v := some (.int 1)) (fun h => by rw [Bd.returns] at h; cases h)
  refine ⟨_, _, pre0 _ ?_, hrun, hended, _, _, rfl, ?_, ⟨_, rfl⟩, hW, hsame.mono (by decide) (by decide)⟩
  · show SG X0 0 #[vR dq] [] _
    refine XS.aloadN X0.here hx rfl (H 0 rfl) rfl rfl ?_
    refine st1 _ ?_
    show SG X1 4 #[vR dq] [.int 0] _
    refine XS.aloadN X1.here hx rfl (H 2 rfl) rfl rfl ?_
    refine st2 _ ?_
    show SG X2 8 #[vR dq] [.int 16, .int 0] _
    refine XS.aloadN X2.here hx rfl (H 4 rfl) rfl rfl ?_
    refine st3 _ ?_
    show SG X3 12 #[vR dq] [.ref el, .int 16, .int 0] _
    refine own_alen X3 hx hZ e3 P4 (H 6 rfl) ?_
    refine st4 _ ?_
    show SG X4 16 #[vR dq] [.int 1] _
    exact retI X4 hx Bd.returns (H 8 rfl) hr
  · show QSZ1 Z dq el ke y1 h0 n0 _ T4.heap _
    rw [r4_0]
    exact ⟨rfl, N4, rfl⟩

theorem ef_SU2 (m : MethodId)  : entryFrame m #[.int 0, .int 15, .int 17] 3 = mkF m 0 #[.val (.int 0), .val (.int 15), .val (.int 17)] [] := by simp [entryFrame, mkF, argsToLocals, Value.category]
def QSU2 (Z : State)  (h0 : Heap) (n0 : Nat) (v : Option Value) (h : Heap) (L : List Loc) : Prop := v = some (.int 2) ∧ Fr n0 L ∧ h = h0
theorem rmSU2 (l : Launch) (Z : State) (a0 : Array Value) (hw : HWd a0 Z) (ws : List Jvm.Cond)  (h0 : Heap) (n0 : Nat) (Z0 : n0 ≤ h0.size) :
    own_Met l Y_24 (Jvm.Cond.code Y_24 jdk_21_method_9_code 3 (some .int) :: ws) (RM 0 0 0 0) #[.int 0, .int 15, .int 17] Z h0 (QSU2 Z  h0 n0) := by
  refine own_bS pn_31 rfl D_31 (fun m => ef_SU2 m) hw fun p e s m below meth c sZ Bd hx hby hml hown hnm hh hZ X0 e0 w H pre0 => ?_
  have N0 := Fr.nil n0
  obtain ⟨fs, hr, hrun, hended, hW, hsame⟩ := X0.leave (v := some (.int 2)) (fun h => by rw [Bd.returns] at h; cases h)
  refine ⟨_, _, pre0 _ ?_, hrun, hended, _, _, rfl, ?_, ⟨_, rfl⟩, hW, hsame.mono (by decide) (by decide)⟩
  · show SG X0 0 #[vI 0, vI 15, vI 17] [] _
    refine XS.iloadN X0.here hx rfl (H 0 rfl) rfl ?_
    refine XS.iloadN X0.here hx rfl (H 1 rfl) rfl ?_
    refine XS.isub X0.here hx rfl (H 2 rfl) rfl ?_
    show SG X0 3 #[vI 0, vI 15, vI 17] [.int (-15 : Int32)] _
    refine XS.dup X0.here hx rfl (H 3 rfl) rfl rfl ?_
    refine XS.istoreN X0.here hx rfl (H 4 rfl) rfl (l' := #[.val (.int (-15 : Int32)), vI 15, vI 17]) rfl ?_
    refine XS.ifNo X0.here hx rfl (H 5 rfl) rfl ((if0 _ _).trans (tlt (by decide : ((-15 : Int32) < (0 : Int32)))).2.1) ?_
    refine XS.iloadN X0.here hx rfl (H 6 rfl) rfl ?_
    refine XS.iloadN X0.here hx rfl (H 7 rfl) rfl ?_
    refine XS.iadd X0.here hx rfl (H 8 rfl) rfl ?_
    show SG X0 11 #[.val (.int (-15 : Int32)), vI 15, vI 17] [.int 2] _
    refine XS.istoreN X0.here hx rfl (H 9 rfl) rfl (l' := #[vI 2, vI 15, vI 17]) rfl ?_
    refine XS.iloadN X0.here hx rfl (H 10 rfl) rfl ?_
    exact retI X0 hx Bd.returns (H 11 rfl) hr
  · show QSU2 Z  h0 n0 _ sZ.heap _
    rw [e0]
    exact ⟨rfl, N0, rfl⟩

theorem ef_SZ2 (m : MethodId) (dq : Addr) : entryFrame m #[.ref dq] 1 = mkF m 0 #[.val (.ref dq)] [] := by simp [entryFrame, mkF, argsToLocals, Value.category]
def QSZ2 (Z : State) (dq el : Addr) (ke : ClassId) (y1 y2 : Addr) (h0 : Heap) (n0 : Nat) (v : Option Value) (h : Heap) (L : List Loc) : Prop := v = some (.int 2) ∧ Fr n0 L ∧ h = h0
theorem rmSZ2 (l : Launch) (Z : State) (a0 : Array Value) (hw : HWd a0 Z) (ws : List Jvm.Cond) (dq el : Addr) (ke : ClassId) (y1 y2 : Addr) (h0 : Heap) (n0 : Nat) (Z0 : n0 ≤ h0.size) (P0 : Exa Z h0 dq sD) (P1 : Fld Z h0 dq sD "elements" sLO (.ref el)) (P2 : Fld Z h0 dq sD "head" "I" (.int 15)) (P3 : Fld Z h0 dq sD "tail" "I" (.int 0)) (P4 : Arv Z h0 el ke (.object sO) (17 : Int32) [.null, .null, .null, .null, .null, .null, .null, .null, .null, .null, .null, .null, .null, .null, .null, .ref y2, .ref y1] .null) (P5 : Ovr Z ke sO) :
    own_Met l Y_25 (Jvm.Cond.code Y_25 jdk_21_method_37_code 1 (some .int) :: ws) (RM 1 0 0 14) #[.ref dq] Z h0 (QSZ2 Z dq el ke y1 y2 h0 n0) := by
  refine own_bS pn_30 rfl D_30 (fun m => ef_SZ2 m dq) hw fun p e s m below meth c sZ Bd hx hby hml hown hnm hh hZ X0 e0 w H pre0 => ?_
  have N0 := Fr.nil n0
  obtain ⟨T1, X1, e1, st1⟩ := getF X0 hx hZ hown (host := "") (Or.inl (w 185 rfl)) Via.refl e0 P3 (g := (mkF m 1 #[vR dq] [.ref dq])) rfl rfl (H 1 rfl)
  obtain ⟨T2, X2, e2, st2⟩ := getF X1 hx hZ hown (host := "") (Or.inl (w 187 rfl)) Via.refl e1 P2 (g := (mkF m 5 #[vR dq] [.ref dq, .int 0])) rfl rfl (H 3 rfl)
  obtain ⟨T3, X3, e3, st3⟩ := getF X2 hx hZ hown (host := "") (Or.inl (w 70 rfl)) Via.refl e2 P1 (g := (mkF m 9 #[vR dq] [.ref dq, .int 15, .int 0])) rfl rfl (H 5 rfl)
  obtain ⟨_, T4, lo4, Lc4, X4, N4, hQ4, st4⟩ := own_af (QSU2 Z  h0 n0) 0 0 0 0 0 0 (Jvm.LawKit.callS X3 hx (y := Y_24) hown (mvT hZ (w 189 rfl)) (mvT hZ (w 190 rfl)) (mvT hZ (w 57 rfl)) (mvT hZ (w 191 rfl)) (by decide) (backOf (W := 0) (rmSU2 l Z a0 hw []  h0 n0 Z0) hZ (w 191 rfl) (w 57 rfl) (by decide) (by decide)) (g := (mkF m 13 #[vR dq] [.int 17, .int 15, .int 0])) rfl (by rw [hml]; rfl) (argsL := [.int 0, .int 15, .int 17]) (rest := []) (lenOf pd_12 rfl) rfl (lq rfl) (H 7 rfl) (fun _ _ => ⟨rfl, e3, (by decide : 0 + 0 ≤ _), (by decide : 0 + 0 ≤ _)⟩)) N0 (fun _ _ _ h => h.2.1) rfl rfl
  dsimp only at st4
  obtain ⟨rfl, N4q, r4_0⟩ := hQ4
  obtain ⟨fs, hr, hrun, hended, hW, hsame⟩ := X4.leave (v := some (.int 2)) (fun h => by rw [Bd.returns] at h; cases h)
  refine ⟨_, _, pre0 _ ?_, hrun, hended, _, _, rfl, ?_, ⟨_, rfl⟩, hW, hsame.mono (by decide) (by decide)⟩
  · show SG X0 0 #[vR dq] [] _
    refine XS.aloadN X0.here hx rfl (H 0 rfl) rfl rfl ?_
    refine st1 _ ?_
    show SG X1 4 #[vR dq] [.int 0] _
    refine XS.aloadN X1.here hx rfl (H 2 rfl) rfl rfl ?_
    refine st2 _ ?_
    show SG X2 8 #[vR dq] [.int 15, .int 0] _
    refine XS.aloadN X2.here hx rfl (H 4 rfl) rfl rfl ?_
    refine st3 _ ?_
    show SG X3 12 #[vR dq] [.ref el, .int 15, .int 0] _
    refine own_alen X3 hx hZ e3 P4 (H 6 rfl) ?_
    refine st4 _ ?_
    show SG X4 16 #[vR dq] [.int 2] _
    exact retI X4 hx Bd.returns (H 8 rfl) hr
  · show QSZ2 Z dq el ke y1 y2 h0 n0 _ T4.heap _
    rw [r4_0]
    exact ⟨rfl, N4, rfl⟩

theorem pn_35 : plainName "java/util/ArrayDeque" = true := by first | (simp [plainName, overriddenIn]; done) | decide +kernel
theorem ef_DE0 (m : MethodId)  : entryFrame m #[.int 0, .int 17] 2 = mkF m 0 #[.val (.int 0), .val (.int 17)] [] := by simp [entryFrame, mkF, argsToLocals, Value.category]
def QDE0 (Z : State)  (h0 : Heap) (n0 : Nat) (v : Option Value) (h : Heap) (L : List Loc) : Prop := v = some (.int 16) ∧ Fr n0 L ∧ h = h0
theorem rmDE0 (l : Launch) (Z : State) (a0 : Array Value) (hw : HWd a0 Z) (ws : List Jvm.Cond)  (h0 : Heap) (n0 : Nat) (Z0 : n0 ≤ h0.size) :
    own_Met l Y_26 (Jvm.Cond.code Y_26 jdk_21_method_7_code 2 (some .int) :: ws) (RM 0 0 0 0) #[.int 0, .int 17] Z h0 (QDE0 Z  h0 n0) := by
  refine own_bS pn_35 rfl D_35 (fun m => ef_DE0 m) hw fun p e s m below meth c sZ Bd hx hby hml hown hnm hh hZ X0 e0 w H pre0 => ?_
  have N0 := Fr.nil n0
  obtain ⟨fs, hr, hrun, hended, hW, hsame⟩ := X0.leave (v := some (.int 16)) (fun h => by rw [Bd.returns] at h; cases h)
  refine ⟨_, _, pre0 _ ?_, hrun, hended, _, _, rfl, ?_, ⟨_, rfl⟩, hW, hsame.mono (by decide) (by decide)⟩
  · show SG X0 0 #[vI 0, vI 17] [] _
    refine XS.iinc X0.here hx rfl (H 0 rfl) rfl (l' := #[.val (.int (-1 : Int32)), vI 17]) rfl ?_
    show SG X0 3 #[.val (.int (-1 : Int32)), vI 17] [] _
    refine XS.iloadN X0.here hx rfl (H 1 rfl) rfl ?_
    refine XS.ifNo X0.here hx rfl (H 2 rfl) rfl ((if0 _ _).trans (tlt (by decide : ((-1 : Int32) < (0 : Int32)))).2.1) ?_
    refine XS.iloadN X0.here hx rfl (H 3 rfl) rfl ?_
    refine XS.iconst X0.here hx rfl (H 4 rfl) ?_
    refine XS.isub X0.here hx rfl (H 5 rfl) rfl ?_
    show SG X0 10 #[.val (.int (-1 : Int32)), vI 17] [.int 16] _
    refine XS.istoreN X0.here hx rfl (H 6 rfl) rfl (l' := #[vI 16, vI 17]) rfl ?_
    refine XS.iloadN X0.here hx rfl (H 7 rfl) rfl ?_
    exact retI X0 hx Bd.returns (H 8 rfl) hr
  · show QDE0 Z  h0 n0 _ sZ.heap _
    rw [e0]
    exact ⟨rfl, N0, rfl⟩

theorem pn_34 : plainName "java/util/ArrayDeque" = true := by first | (simp [plainName, overriddenIn]; done) | decide +kernel
theorem ef_AF0 (m : MethodId) (dq sg : Addr) : entryFrame m #[.ref dq, .ref sg] 3 = mkF m 0 #[.val (.ref dq), .val (.ref sg), .unset] [] := by simp [entryFrame, mkF, argsToLocals, Value.category]
def QAF0 (Z : State) (dq sg el : Addr) (ke : ClassId) (h0 : Heap) (n0 : Nat) (v : Option Value) (h : Heap) (L : List Loc) : Prop := v = none ∧ Fr n0 L ∧ Keep h0 h [dq, el] ∧ Fld Z h dq sD "elements" sLO (.ref el) ∧ Fld Z h dq sD "head" "I" (.int 16) ∧ Fld Z h dq sD "tail" "I" (.int 0) ∧ Arv Z h el ke (.object sO) (17 : Int32) [.null, .null, .null, .null, .null, .null, .null, .null, .null, .null, .null, .null, .null, .null, .null, .null, .ref sg] .null
theorem rmAF0 (l : Launch) (Z : State) (a0 : Array Value) (hw : HWd a0 Z) (ws : List Jvm.Cond) (dq sg el : Addr) (ke : ClassId) (h0 : Heap) (n0 : Nat) (Z0 : n0 ≤ h0.size) (P0 : Exa Z h0 dq sD) (P1 : Fld Z h0 dq sD "elements" sLO (.ref el)) (P2 : Fld Z h0 dq sD "head" "I" (.int 0)) (P3 : Fld Z h0 dq sD "tail" "I" (.int 0)) (P4 : Arv Z h0 el ke (.object sO) (17 : Int32) [.null, .null, .null, .null, .null, .null, .null, .null, .null, .null, .null, .null, .null, .null, .null, .null, .null] .null) (P5 : Ovr Z ke sO) (P6 : Exa Z h0 sg sS) (g_dq : n0 ≤ dq) (g_el : n0 ≤ el) :
    own_Met l Y_27 (Jvm.Cond.code Y_27 jdk_21_method_12_code 3 none :: ws) (RM 1 0 0 15) #[.ref dq, .ref sg] Z h0 (QAF0 Z dq sg el ke h0 n0) := by
  refine own_bS pn_34 rfl D_34 (fun m => ef_AF0 m dq sg) hw fun p e s m below meth c sZ Bd hx hby hml hown hnm hh hZ X0 e0 w H pre0 => ?_
  have N0 := Fr.nil n0
  have K0 := Keep.refl h0 [dq, el]
  obtain ⟨T1, X1, e1, st1⟩ := getF X0 hx hZ hown (host := "") (Or.inl (w 70 rfl)) Via.refl e0 P1 (g := (mkF m 13 #[vR dq, vR sg, vU] [.ref dq])) rfl rfl (H 3 rfl)
  obtain ⟨T2, X2, e2, st2⟩ := getF X1 hx hZ hown (host := "") (Or.inl (w 187 rfl)) Via.refl e1 P2 (g := (mkF m 20 #[vR dq, vR sg, vR el] [.ref dq, .ref dq, .ref el])) rfl rfl (H 8 rfl)
  obtain ⟨_, T3, lo3, Lc3, X3, N3, hQ3, st3⟩ := own_af (QDE0 Z  h0 n0) 0 0 0 0 0 0 (Jvm.LawKit.callS X2 hx (y := Y_26) hown (mvT hZ (w 211 rfl)) (mvT hZ (w 212 rfl)) (mvT hZ (w 57 rfl)) (mvT hZ (w 213 rfl)) (by decide) (backOf (W := 2) (rmDE0 l Z a0 hw []  h0 n0 Z0) hZ (w 213 rfl) (w 57 rfl) (by decide) (by decide)) (g := (mkF m 25 #[vR dq, vR sg, vR el] [.int 17, .int 0, .ref dq, .ref el])) rfl (by rw [hml]; rfl) (argsL := [.int 0, .int 17]) (rest := [.ref dq, .ref el]) (lenOf pd_13 rfl) rfl (lq rfl) (H 11 rfl) (fun _ _ => ⟨rfl, e2, (by decide : 0 + 0 ≤ _), (by decide : 0 + 0 ≤ _)⟩)) N0 (fun _ _ _ h => h.2.1) rfl rfl
  dsimp only at st3
  obtain ⟨rfl, N3q, r3_0⟩ := hQ3
  obtain ⟨T4, h4, X4, e4, W4, st4⟩ := putF X3 hx hZ hown (host := "") (Or.inl (w 187 rfl)) Via.refl r3_0 P2 P0 (Or.inl (w 188 rfl)) (w 56 rfl) (ty := .int) (by decide) rfl rfl (g := (mkF m 29 #[vR dq, vR sg, vR el] [.int 16, .ref dq, .int 16, .ref el])) rfl rfl (H 13 rfl)
  have ne9 : el ≠ dq := Ne.symm (Exa.neArv P0 P4 (w 56 rfl))
  have f10 := P4.other W4 ne9
  have f11 := P6.wr W4
  have K4 := K0.wr W4 (own_m 0 rfl)
  have N4 := Fr.snoc X4 N3 g_dq
  obtain ⟨cl12, Ar12, q12, S12, M12, H12, G12⟩ := id f10
  have hin12 : ¬ ((16 : Int32) < 0 ∨ cl12.slots.size ≤ ((16 : Int32)).toNatClampNeg) := inb_of S12 ⟨by decide, by decide⟩
  obtain ⟨T12, h12, X12, e12, W12, st12⟩ := stR X4 hx hZ e4 Ar12 (j := (16 : Int32)) hin12 rfl (Sto.ofV Ar12 q12 P5 (Ins.of_exa f11 (w 214 rfl))) (g := (mkF m 33 #[vR dq, vR sg, vR el] [.ref sg, .int 16, .ref el])) rfl rfl (H 15 rfl)
  have V12 := Arv.set Ar12 q12 S12 M12 H12 G12 rfl W12 16 rfl (bl rfl)
  have f14 := (P1.other W4 (Or.inr (slot_ne (Or.inl (w 71 rfl)) (Or.inl (w 188 rfl)) (by decide) (t := (.array (.object "java/lang/Object"))) (t' := .int) (by decide) (by decide)))).other W12 (Or.inl (Ne.symm ne9))
  have f15 := (P2.same W4).other W12 (Or.inl (Ne.symm ne9))
  have f16 := (P3.other W4 (Or.inr (slot_ne (Or.inl (w 186 rfl)) (Or.inl (w 188 rfl)) (by decide) (t := .int) (t' := .int) (by decide) (by decide)))).other W12 (Or.inl (Ne.symm ne9))
  have K12 := K4.wr W12 (own_m 1 rfl)
  have N12 := Fr.snoc X12 N4 g_el
  have U12 : Arv Z h12 el ke (.object "java/lang/Object") (17 : Int32) [.null, .null, .null, .null, .null, .null, .null, .null, .null, .null, .null, .null, .null, .null, .null, .null, .ref sg] .null := V12
  obtain ⟨T18, X18, e18, st18⟩ := getF X12 hx hZ hown (host := "") (Or.inl (w 187 rfl)) Via.refl e12 f15 (g := (mkF m 35 #[vR dq, vR sg, vR el] [.ref dq])) rfl rfl (H 17 rfl)
  obtain ⟨T19, X19, e19, st19⟩ := getF X18 hx hZ hown (host := "") (Or.inl (w 185 rfl)) Via.refl e18 f16 (g := (mkF m 39 #[vR dq, vR sg, vR el] [.ref dq, .int 16])) rfl rfl (H 19 rfl)
  obtain ⟨fs, hr, hrun, hended, hW, hsame⟩ := X19.leave (v := none) (fun _ => rfl)
  refine ⟨_, _, pre0 _ ?_, hrun, hended, _, _, rfl, ?_, ⟨_, rfl⟩, hW, hsame.mono (by decide) (by decide)⟩
  · show SG X0 0 #[vR dq, vR sg, vU] [] _
    refine XS.aloadN X0.here hx rfl (H 0 rfl) rfl rfl ?_
    refine XS.ifnonnullYes X0.here hx rfl (pc0 := 1) (pc' := 12) rfl (H 1 rfl) rfl (by decide) (by decide) ?_
    refine XS.aloadN X0.here hx rfl (H 2 rfl) rfl rfl ?_
    refine st1 _ ?_
    show SG X1 16 #[vR dq, vR sg, vU] [.ref el] _
    refine XS.astoreN X1.here hx rfl (H 4 rfl) rfl rfl (l' := #[vR dq, vR sg, vR el]) rfl ?_
    refine XS.aloadN X1.here hx rfl (H 5 rfl) rfl rfl ?_
    refine XS.aloadN X1.here hx rfl (H 6 rfl) rfl rfl ?_
    refine XS.aloadN X1.here hx rfl (H 7 rfl) rfl rfl ?_
    refine st2 _ ?_
    show SG X2 23 #[vR dq, vR sg, vR el] [.int 0, .ref dq, .ref el] _
    refine XS.aloadN X2.here hx rfl (H 9 rfl) rfl rfl ?_
    refine own_alen X2 hx hZ e2 P4 (H 10 rfl) ?_
    refine st3 _ ?_
    show SG X3 28 #[vR dq, vR sg, vR el] [.int 16, .ref dq, .ref el] _
    refine XS.dupX1 X3.here hx rfl (H 12 rfl) rfl rfl rfl ?_
    refine st4 _ ?_
    show SG X4 32 #[vR dq, vR sg, vR el] [.int 16, .ref el] _
    refine XS.aloadN X4.here hx rfl (H 14 rfl) rfl rfl ?_
    refine st12 _ ?_
    show SG X12 34 #[vR dq, vR sg, vR el] [] _
    refine XS.aloadN X12.here hx rfl (H 16 rfl) rfl rfl ?_
    refine st18 _ ?_
    show SG X18 38 #[vR dq, vR sg, vR el] [.int 16] _
    refine XS.aloadN X18.here hx rfl (H 18 rfl) rfl rfl ?_
    refine st19 _ ?_
    show SG X19 42 #[vR dq, vR sg, vR el] [.int 0, .int 16] _
    refine XS.icmpYes X19.here hx rfl (pc0 := 42) (pc' := 50) rfl (H 20 rfl) rfl (feq (by decide : ¬ ((16 : Int32) = (0 : Int32)))).2 (by decide) (by decide) ?_
    exact X19.returnOut hx Bd.returns (H 21 rfl) hr
  · show QAF0 Z dq sg el ke h0 n0 _ T19.heap _
    rw [e19]
    exact ⟨rfl, N12, K12, f14, f15, f16, U12⟩

theorem pn_33 : plainName "java/util/ArrayDeque" = true := by first | (simp [plainName, overriddenIn]; done) | decide +kernel
theorem ef_PU0 (m : MethodId) (dq sg : Addr) : entryFrame m #[.ref dq, .ref sg] 2 = mkF m 0 #[.val (.ref dq), .val (.ref sg)] [] := by simp [entryFrame, mkF, argsToLocals, Value.category]
theorem pd_25 : parseMethodDescriptor "(Ljava/lang/Object;)V" = some ⟨[(.object "java/lang/Object")], none⟩ := by decide +kernel
def QPU0 (Z : State) (dq sg el : Addr) (ke : ClassId) (h0 : Heap) (n0 : Nat) (v : Option Value) (h : Heap) (L : List Loc) : Prop := v = none ∧ Fr n0 L ∧ Keep h0 h [dq, el] ∧ Fld Z h dq sD "elements" sLO (.ref el) ∧ Fld Z h dq sD "head" "I" (.int 16) ∧ Fld Z h dq sD "tail" "I" (.int 0) ∧ Arv Z h el ke (.object sO) (17 : Int32) [.null, .null, .null, .null, .null, .null, .null, .null, .null, .null, .null, .null, .null, .null, .null, .null, .ref sg] .null
theorem rmPU0 (l : Launch) (Z : State) (a0 : Array Value) (hw : HWd a0 Z) (ws : List Jvm.Cond) (dq sg el : Addr) (ke : ClassId) (h0 : Heap) (n0 : Nat) (Z0 : n0 ≤ h0.size) (P0 : Exa Z h0 dq sD) (P1 : Fld Z h0 dq sD "elements" sLO (.ref el)) (P2 : Fld Z h0 dq sD "head" "I" (.int 0)) (P3 : Fld Z h0 dq sD "tail" "I" (.int 0)) (P4 : Arv Z h0 el ke (.object sO) (17 : Int32) [.null, .null, .null, .null, .null, .null, .null, .null, .null, .null, .null, .null, .null, .null, .null, .null, .null] .null) (P5 : Ovr Z ke sO) (P6 : Exa Z h0 sg sS) (g_dq : n0 ≤ dq) (g_el : n0 ≤ el) :
    own_Met l Y_28 (Jvm.Cond.code Y_28 jdk_21_method_34_code 2 none :: ws) (RM 2 0 0 29) #[.ref dq, .ref sg] Z h0 (QPU0 Z dq sg el ke h0 n0) := by
  refine own_bS pn_33 rfl D_33 (fun m => ef_PU0 m dq sg) hw fun p e s m below meth c sZ Bd hx hby hml hown hnm hh hZ X0 e0 w H pre0 => ?_
  have N0 := Fr.nil n0
  have K0 := Keep.refl h0 [dq, el]
  obtain ⟨cq1, kq1, q1a, q1b, q1c⟩ := isOf hZ e0 P0
  obtain ⟨_, T1, lo1, Lc1, X1, N1, hQ1, st1⟩ := own_af (QAF0 Z dq sg el ke h0 n0) 0 0 0 0 0 0 (X0.virtualBack hx (y := Y_27) (z := Y_27) hown (mvT hZ (w 206 rfl)) (mvT hZ (w 207 rfl)) (own_ns hZ (w 209 rfl)) (mvT hZ (w 209 rfl)) (mvT hZ (w 208 rfl)) (by decide) (backOf (W := 0) (rmAF0 l Z a0 hw [] dq sg el ke h0 n0 Z0 P0 P1 P2 P3 P4 P5 P6 g_dq g_el) hZ (w 210 rfl) (w 57 rfl) (by decide) (by decide)) q1a q1c (g := (mkF m 2 #[vR dq, vR sg] [.ref sg, .ref dq])) rfl (by rw [hml]; rfl) (Steps.refl _) (argsL := [.ref sg]) (rest := []) (lenOf pd_25 rfl) rfl (lq rfl) (H 2 rfl) (fun _ _ => ⟨rfl, e0, (by decide : 0 + 0 ≤ _), (by decide : 0 + 0 ≤ _)⟩)) N0 (fun _ _ _ h => h.2.1) rfl rfl
  dsimp only at st1
  obtain ⟨rfl, N1q, r1_0, r1_1, r1_2, r1_3, r1_4⟩ := hQ1
  have K1 := K0.trans r1_0 (allS (own_m 0 rfl) (allS (own_m 1 rfl) all0))
  obtain ⟨fs, hr, hrun, hended, hW, hsame⟩ := X1.leave (v := none) (fun _ => rfl)
  refine ⟨_, _, pre0 _ ?_, hrun, hended, _, _, rfl, ?_, ⟨_, rfl⟩, hW, hsame.mono (by decide) (by decide)⟩
  · show SG X0 0 #[vR dq, vR sg] [] _
    refine XS.aloadN X0.here hx rfl (H 0 rfl) rfl rfl ?_
    refine XS.aloadN X0.here hx rfl (H 1 rfl) rfl rfl ?_
    refine st1.trans ?_
    show SG X1 5 #[vR dq, vR sg] [] _
    exact X1.returnOut hx Bd.returns (H 3 rfl) hr
  · show QPU0 Z dq sg el ke h0 n0 _ T1.heap _
    exact ⟨rfl, N1, K1, r1_1, r1_2, r1_3, r1_4⟩

theorem ef_DE1 (m : MethodId)  : entryFrame m #[.int 16, .int 17] 2 = mkF m 0 #[.val (.int 16), .val (.int 17)] [] := by simp [entryFrame, mkF, argsToLocals, Value.category]
def QDE1 (Z : State)  (h0 : Heap) (n0 : Nat) (v : Option Value) (h : Heap) (L : List Loc) : Prop := v = some (.int 15) ∧ Fr n0 L ∧ h = h0
theorem rmDE1 (l : Launch) (Z : State) (a0 : Array Value) (hw : HWd a0 Z) (ws : List Jvm.Cond)  (h0 : Heap) (n0 : Nat) (Z0 : n0 ≤ h0.size) :
    own_Met l Y_26 (Jvm.Cond.code Y_26 jdk_21_method_7_code 2 (some .int) :: ws) (RM 0 0 0 0) #[.int 16, .int 17] Z h0 (QDE1 Z  h0 n0) := by
  refine own_bS pn_35 rfl D_35 (fun m => ef_DE1 m) hw fun p e s m below meth c sZ Bd hx hby hml hown hnm hh hZ X0 e0 w H pre0 => ?_
  have N0 := Fr.nil n0
  obtain ⟨fs, hr, hrun, hended, hW, hsame⟩ := X0.leave (v := some (.int 15)) (fun h => by rw [Bd.returns] at h; cases h)
  refine ⟨_, _, pre0 _ ?_, hrun, hended, _, _, rfl, ?_, ⟨_, rfl⟩, hW, hsame.mono (by decide) (by decide)⟩
  · show SG X0 0 #[vI 16, vI 17] [] _
    refine XS.iinc X0.here hx rfl (H 0 rfl) rfl (l' := #[vI 15, vI 17]) rfl ?_
    show SG X0 3 #[vI 15, vI 17] [] _
    refine XS.iloadN X0.here hx rfl (H 1 rfl) rfl ?_
    refine XS.ifYes X0.here hx rfl (pc0 := 4) (pc' := 11) rfl (H 2 rfl) rfl ((if0 _ _).trans (flt (by decide : ¬ ((15 : Int32) < (0 : Int32)))).2.1) (by decide) (by decide) ?_
    refine XS.iloadN X0.here hx rfl (H 7 rfl) rfl ?_
    exact retI X0 hx Bd.returns (H 8 rfl) hr
  · show QDE1 Z  h0 n0 _ sZ.heap _
    rw [e0]
    exact ⟨rfl, N0, rfl⟩

theorem ef_AF1 (m : MethodId) (dq sg : Addr) : entryFrame m #[.ref dq, .ref sg] 3 = mkF m 0 #[.val (.ref dq), .val (.ref sg), .unset] [] := by simp [entryFrame, mkF, argsToLocals, Value.category]
def QAF1 (Z : State) (dq sg el : Addr) (ke : ClassId) (y1 : Addr) (h0 : Heap) (n0 : Nat) (v : Option Value) (h : Heap) (L : List Loc) : Prop := v = none ∧ Fr n0 L ∧ Keep h0 h [dq, el] ∧ Fld Z h dq sD "elements" sLO (.ref el) ∧ Fld Z h dq sD "head" "I" (.int 15) ∧ Fld Z h dq sD "tail" "I" (.int 0) ∧ Arv Z h el ke (.object sO) (17 : Int32) [.null, .null, .null, .null, .null, .null, .null, .null, .null, .null, .null, .null, .null, .null, .null, .ref sg, .ref y1] .null
theorem rmAF1 (l : Launch) (Z : State) (a0 : Array Value) (hw : HWd a0 Z) (ws : List Jvm.Cond) (dq sg el : Addr) (ke : ClassId) (y1 : Addr) (h0 : Heap) (n0 : Nat) (Z0 : n0 ≤ h0.size) (P0 : Exa Z h0 dq sD) (P1 : Fld Z h0 dq sD "elements" sLO (.ref el)) (P2 : Fld Z h0 dq sD "head" "I" (.int 16)) (P3 : Fld Z h0 dq sD "tail" "I" (.int 0)) (P4 : Arv Z h0 el ke (.object sO) (17 : Int32) [.null, .null, .null, .null, .null, .null, .null, .null, .null, .null, .null, .null, .null, .null, .null, .null, .ref y1] .null) (P5 : Ovr Z ke sO) (P6 : Exa Z h0 sg sS) (g_dq : n0 ≤ dq) (g_el : n0 ≤ el) :
    own_Met l Y_27 (Jvm.Cond.code Y_27 jdk_21_method_12_code 3 none :: ws) (RM 1 0 0 15) #[.ref dq, .ref sg] Z h0 (QAF1 Z dq sg el ke y1 h0 n0) := by
  refine own_bS pn_34 rfl D_34 (fun m => ef_AF1 m dq sg) hw fun p e s m below meth c sZ Bd hx hby hml hown hnm hh hZ X0 e0 w H pre0 => ?_
  have N0 := Fr.nil n0
  have K0 := Keep.refl h0 [dq, el]
  obtain ⟨T1, X1, e1, st1⟩ := getF X0 hx hZ hown (host := "") (Or.inl (w 70 rfl)) Via.refl e0 P1 (g := (mkF m 13 #[vR dq, vR sg, vU] [.ref dq])) rfl rfl (H 3 rfl)
  obtain ⟨T2, X2, e2, st2⟩ := getF X1 hx hZ hown (host := "") (Or.inl (w 187 rfl)) Via.refl e1 P2 (g := (mkF m 20 #[vR dq, vR sg, vR el] [.ref dq, .ref dq, .ref el])) rfl rfl (H 8 rfl)
  obtain ⟨_, T3, lo3, Lc3, X3, N3, hQ3, st3⟩ := own_af (QDE1 Z  h0 n0) 0 0 0 0 0 0 (Jvm.LawKit.callS X2 hx (y := Y_26) hown (mvT hZ (w 211 rfl)) (mvT hZ (w 212 rfl)) (mvT hZ (w 57 rfl)) (mvT hZ (w 213 rfl)) (by decide) (backOf (W := 2) (rmDE1 l Z a0 hw []  h0 n0 Z0) hZ (w 213 rfl) (w 57 rfl) (by decide) (by decide)) (g := (mkF m 25 #[vR dq, vR sg, vR el] [.int 17, .int 16, .ref dq, .ref el])) rfl (by rw [hml]; rfl) (argsL := [.int 16, .int 17]) (rest := [.ref dq, .ref el]) (lenOf pd_13 rfl) rfl (lq rfl) (H 11 rfl) (fun _ _ => ⟨rfl, e2, (by decide : 0 + 0 ≤ _), (by decide : 0 + 0 ≤ _)⟩)) N0 (fun _ _ _ h => h.2.1) rfl rfl
  dsimp only at st3
  obtain ⟨rfl, N3q, r3_0⟩ := hQ3
  obtain ⟨T4, h4, X4, e4, W4, st4⟩ := putF X3 hx hZ hown (host := "") (Or.inl (w 187 rfl)) Via.refl r3_0 P2 P0 (Or.inl (w 188 rfl)) (w 56 rfl) (ty := .int) (by decide) rfl rfl (g := (mkF m 29 #[vR dq, vR sg, vR el] [.int 15, .ref dq, .int 15, .ref el])) rfl rfl (H 13 rfl)
  have ne9 : el ≠ dq := Ne.symm (Exa.neArv P0 P4 (w 56 rfl))
  have f10 := P4.other W4 ne9
  have f11 := P6.wr W4
  have K4 := K0.wr W4 (own_m 0 rfl)
  have N4 := Fr.snoc X4 N3 g_dq
  obtain ⟨cl12, Ar12, q12, S12, M12, H12, G12⟩ := id f10
  have hin12 : ¬ ((15 : Int32) < 0 ∨ cl12.slots.size ≤ ((15 : Int32)).toNatClampNeg) := inb_of S12 ⟨by decide, by decide⟩
  obtain ⟨T12, h12, X12, e12, W12, st12⟩ := stR X4 hx hZ e4 Ar12 (j := (15 : Int32)) hin12 rfl (Sto.ofV Ar12 q12 P5 (Ins.of_exa f11 (w 214 rfl))) (g := (mkF m 33 #[vR dq, vR sg, vR el] [.ref sg, .int 15, .ref el])) rfl rfl (H 15 rfl)
  have V12 := Arv.set Ar12 q12 S12 M12 H12 G12 rfl W12 15 rfl (bl rfl)
  have f14 := (P1.other W4 (Or.inr (slot_ne (Or.inl (w 71 rfl)) (Or.inl (w 188 rfl)) (by decide) (t := (.array (.object "java/lang/Object"))) (t' := .int) (by decide) (by decide)))).other W12 (Or.inl (Ne.symm ne9))
  have f15 := (P2.same W4).other W12 (Or.inl (Ne.symm ne9))
  have f16 := (P3.other W4 (Or.inr (slot_ne (Or.inl (w 186 rfl)) (Or.inl (w 188 rfl)) (by decide) (t := .int) (t' := .int) (by decide) (by decide)))).other W12 (Or.inl (Ne.symm ne9))
  have K12 := K4.wr W12 (own_m 1 rfl)
  have N12 := Fr.snoc X12 N4 g_el
  have U12 : Arv Z h12 el ke (.object "java/lang/Object") (17 : Int32) [.null, .null, .null, .null, .null, .null, .null, .null, .null, .null, .null, .null, .null, .null, .null, .ref sg, .ref y1] .null := V12
  obtain ⟨T18, X18, e18, st18⟩ := getF X12 hx hZ hown (host := "") (Or.inl (w 187 rfl)) Via.refl e12 f15 (g := (mkF m 35 #[vR dq, vR sg, vR el] [.ref dq])) rfl rfl (H 17 rfl)
  obtain ⟨T19, X19, e19, st19⟩ := getF X18 hx hZ hown (host := "") (Or.inl (w 185 rfl)) Via.refl e18 f16 (g := (mkF m 39 #[vR dq, vR sg, vR el] [.ref dq, .int 15])) rfl rfl (H 19 rfl)
  obtain ⟨fs, hr, hrun, hended, hW, hsame⟩ := X19.leave (v := none) (fun _ => rfl)
  refine ⟨_, _, pre0 _ ?_, hrun, hended, _, _, rfl, ?_, ⟨_, rfl⟩, hW, hsame.mono (by decide) (by decide)⟩
  · show SG X0 0 #[vR dq, vR sg, vU] [] _
    refine XS.aloadN X0.here hx rfl (H 0 rfl) rfl rfl ?_
    refine XS.ifnonnullYes X0.here hx rfl (pc0 := 1) (pc' := 12) rfl (H 1 rfl) rfl (by decide) (by decide) ?_
    refine XS.aloadN X0.here hx rfl (H 2 rfl) rfl rfl ?_
    refine st1 _ ?_
    show SG X1 16 #[vR dq, vR sg, vU] [.ref el] _
    refine XS.astoreN X1.here hx rfl (H 4 rfl) rfl rfl (l' := #[vR dq, vR sg, vR el]) rfl ?_
    refine XS.aloadN X1.here hx rfl (H 5 rfl) rfl rfl ?_
    refine XS.aloadN X1.here hx rfl (H 6 rfl) rfl rfl ?_
    refine XS.aloadN X1.here hx rfl (H 7 rfl) rfl rfl ?_
    refine st2 _ ?_
    show SG X2 23 #[vR dq, vR sg, vR el] [.int 16, .ref dq, .ref el] _
    refine XS.aloadN X2.here hx rfl (H 9 rfl) rfl rfl ?_
    refine own_alen X2 hx hZ e2 P4 (H 10 rfl) ?_
    refine st3 _ ?_
    show SG X3 28 #[vR dq, vR sg, vR el] [.int 15, .ref dq, .ref el] _
    refine XS.dupX1 X3.here hx rfl (H 12 rfl) rfl rfl rfl ?_
    refine st4 _ ?_
    show SG X4 32 #[vR dq, vR sg, vR el] [.int 15, .ref el] _
    refine XS.aloadN X4.here hx rfl (H 14 rfl) rfl rfl ?_
    refine st12 _ ?_
    show SG X12 34 #[vR dq, vR sg, vR el] [] _
    refine XS.aloadN X12.here hx rfl (H 16 rfl) rfl rfl ?_
    refine st18 _ ?_
    show SG X18 38 #[vR dq, vR sg, vR el] [.int 15] _
    refine XS.aloadN X18.here hx rfl (H 18 rfl) rfl rfl ?_
    refine st19 _ ?_
    show SG X19 42 #[vR dq, vR sg, vR el] [.int 0, .int 15] _
    refine XS.icmpYes X19.here hx rfl (pc0 := 42) (pc' := 50) rfl (H 20 rfl) rfl (feq (by decide : ¬ ((15 : Int32) = (0 : Int32)))).2 (by decide) (by decide) ?_
    exact X19.returnOut hx Bd.returns (H 21 rfl) hr
  · show QAF1 Z dq sg el ke y1 h0 n0 _ T19.heap _
    rw [e19]
    exact ⟨rfl, N12, K12, f14, f15, f16, U12⟩

theorem ef_PU1 (m : MethodId) (dq sg : Addr) : entryFrame m #[.ref dq, .ref sg] 2 = mkF m 0 #[.val (.ref dq), .val (.ref sg)] [] := by simp [entryFrame, mkF, argsToLocals, Value.category]
def QPU1 (Z : State) (dq sg el : Addr) (ke : ClassId) (y1 : Addr) (h0 : Heap) (n0 : Nat) (v : Option Value) (h : Heap) (L : List Loc) : Prop := v = none ∧ Fr n0 L ∧ Keep h0 h [dq, el] ∧ Fld Z h dq sD "elements" sLO (.ref el) ∧ Fld Z h dq sD "head" "I" (.int 15) ∧ Fld Z h dq sD "tail" "I" (.int 0) ∧ Arv Z h el ke (.object sO) (17 : Int32) [.null, .null, .null, .null, .null, .null, .null, .null, .null, .null, .null, .null, .null, .null, .null, .ref sg, .ref y1] .null
theorem rmPU1 (l : Launch) (Z : State) (a0 : Array Value) (hw : HWd a0 Z) (ws : List Jvm.Cond) (dq sg el : Addr) (ke : ClassId) (y1 : Addr) (h0 : Heap) (n0 : Nat) (Z0 : n0 ≤ h0.size) (P0 : Exa Z h0 dq sD) (P1 : Fld Z h0 dq sD "elements" sLO (.ref el)) (P2 : Fld Z h0 dq sD "head" "I" (.int 16)) (P3 : Fld Z h0 dq sD "tail" "I" (.int 0)) (P4 : Arv Z h0 el ke (.object sO) (17 : Int32) [.null, .null, .null, .null, .null, .null, .null, .null, .null, .null, .null, .null, .null, .null, .null, .null, .ref y1] .null) (P5 : Ovr Z ke sO) (P6 : Exa Z h0 sg sS) (g_dq : n0 ≤ dq) (g_el : n0 ≤ el) :
    own_Met l Y_28 (Jvm.Cond.code Y_28 jdk_21_method_34_code 2 none :: ws) (RM 2 0 0 29) #[.ref dq, .ref sg] Z h0 (QPU1 Z dq sg el ke y1 h0 n0) := by
  refine own_bS pn_33 rfl D_33 (fun m => ef_PU1 m dq sg) hw fun p e s m below meth c sZ Bd hx hby hml hown hnm hh hZ X0 e0 w H pre0 => ?_
  have N0 := Fr.nil n0
  have K0 := Keep.refl h0 [dq, el]
  obtain ⟨cq1, kq1, q1a, q1b, q1c⟩ := isOf hZ e0 P0
  obtain ⟨_, T1, lo1, Lc1, X1, N1, hQ1, st1⟩ := own_af (QAF1 Z dq sg el ke y1 h0 n0) 0 0 0 0 0 0 (X0.virtualBack hx (y := Y_27) (z := Y_27) hown (mvT hZ (w 206 rfl)) (mvT hZ (w 207 rfl)) (own_ns hZ (w 209 rfl)) (mvT hZ (w 209 rfl)) (mvT hZ (w 208 rfl)) (by decide) (backOf (W := 0) (rmAF1 l Z a0 hw [] dq sg el ke y1 h0 n0 Z0 P0 P1 P2 P3 P4 P5 P6 g_dq g_el) hZ (w 210 rfl) (w 57 rfl) (by decide) (by decide)) q1a q1c (g := (mkF m 2 #[vR dq, vR sg] [.ref sg, .ref dq])) rfl (by rw [hml]; rfl) (Steps.refl _) (argsL := [.ref sg]) (rest := []) (lenOf pd_25 rfl) rfl (lq rfl) (H 2 rfl) (fun _ _ => ⟨rfl, e0, (by decide : 0 + 0 ≤ _), (by decide : 0 + 0 ≤ _)⟩)) N0 (fun _ _ _ h => h.2.1) rfl rfl
  dsimp only at st1
  obtain ⟨rfl, N1q, r1_0, r1_1, r1_2, r1_3, r1_4⟩ := hQ1
  have K1 := K0.trans r1_0 (allS (own_m 0 rfl) (allS (own_m 1 rfl) all0))
  obtain ⟨fs, hr, hrun, hended, hW, hsame⟩ := X1.leave (v := none) (fun _ => rfl)
  refine ⟨_, _, pre0 _ ?_, hrun, hended, _, _, rfl, ?_, ⟨_, rfl⟩, hW, hsame.mono (by decide) (by decide)⟩
  · show SG X0 0 #[vR dq, vR sg] [] _
    refine XS.aloadN X0.here hx rfl (H 0 rfl) rfl rfl ?_
    refine XS.aloadN X0.here hx rfl (H 1 rfl) rfl rfl ?_
    refine st1.trans ?_
    show SG X1 5 #[vR dq, vR sg] [] _
    exact X1.returnOut hx Bd.returns (H 3 rfl) hr
  · show QPU1 Z dq sg el ke y1 h0 n0 _ T1.heap _
    exact ⟨rfl, N1, K1, r1_1, r1_2, r1_3, r1_4⟩

theorem ef_DE2 (m : MethodId)  : entryFrame m #[.int 15, .int 17] 2 = mkF m 0 #[.val (.int 15), .val (.int 17)] [] := by simp [entryFrame, mkF, argsToLocals, Value.category]
def QDE2 (Z : State)  (h0 : Heap) (n0 : Nat) (v : Option Value) (h : Heap) (L : List Loc) : Prop := v = some (.int 14) ∧ Fr n0 L ∧ h = h0
theorem rmDE2 (l : Launch) (Z : State) (a0 : Array Value) (hw : HWd a0 Z) (ws : List Jvm.Cond)  (h0 : Heap) (n0 : Nat) (Z0 : n0 ≤ h0.size) :
    own_Met l Y_26 (Jvm.Cond.code Y_26 jdk_21_method_7_code 2 (some .int) :: ws) (RM 0 0 0 0) #[.int 15, .int 17] Z h0 (QDE2 Z  h0 n0) := by
  refine own_bS pn_35 rfl D_35 (fun m => ef_DE2 m) hw fun p e s m below meth c sZ Bd hx hby hml hown hnm hh hZ X0 e0 w H pre0 => ?_
  have N0 := Fr.nil n0
  obtain ⟨fs, hr, hrun, hended, hW, hsame⟩ := X0.leave (v := some (.int 14)) (fun h => by rw [Bd.returns] at h; cases h)
  refine ⟨_, _, pre0 _ ?_, hrun, hended, _, _, rfl, ?_, ⟨_, rfl⟩, hW, hsame.mono (by decide) (by decide)⟩
  · show SG X0 0 #[vI 15, vI 17] [] _
    refine XS.iinc X0.here hx rfl (H 0 rfl) rfl (l' := #[vI 14, vI 17]) rfl ?_
    show SG X0 3 #[vI 14, vI 17] [] _
    refine XS.iloadN X0.here hx rfl (H 1 rfl) rfl ?_
    refine XS.ifYes X0.here hx rfl (pc0 := 4) (pc' := 11) rfl (H 2 rfl) rfl ((if0 _ _).trans (flt (by decide : ¬ ((14 : Int32) < (0 : Int32)))).2.1) (by decide) (by decide) ?_
    refine XS.iloadN X0.here hx rfl (H 7 rfl) rfl ?_
    exact retI X0 hx Bd.returns (H 8 rfl) hr
  · show QDE2 Z  h0 n0 _ sZ.heap _
    rw [e0]
    exact ⟨rfl, N0, rfl⟩

theorem ef_AF2 (m : MethodId) (dq sg : Addr) : entryFrame m #[.ref dq, .ref sg] 3 = mkF m 0 #[.val (.ref dq), .val (.ref sg), .unset] [] := by simp [entryFrame, mkF, argsToLocals, Value.category]
def QAF2 (Z : State) (dq sg el : Addr) (ke : ClassId) (y1 y2 : Addr) (h0 : Heap) (n0 : Nat) (v : Option Value) (h : Heap) (L : List Loc) : Prop := v = none ∧ Fr n0 L ∧ Keep h0 h [dq, el] ∧ Fld Z h dq sD "elements" sLO (.ref el) ∧ Fld Z h dq sD "head" "I" (.int 14) ∧ Fld Z h dq sD "tail" "I" (.int 0) ∧ Arv Z h el ke (.object sO) (17 : Int32) [.null, .null, .null, .null, .null, .null, .null, .null, .null, .null, .null, .null, .null, .null, .ref sg, .ref y2, .ref y1] .null
theorem rmAF2 (l : Launch) (Z : State) (a0 : Array Value) (hw : HWd a0 Z) (ws : List Jvm.Cond) (dq sg el : Addr) (ke : ClassId) (y1 y2 : Addr) (h0 : Heap) (n0 : Nat) (Z0 : n0 ≤ h0.size) (P0 : Exa Z h0 dq sD) (P1 : Fld Z h0 dq sD "elements" sLO (.ref el)) (P2 : Fld Z h0 dq sD "head" "I" (.int 15)) (P3 : Fld Z h0 dq sD "tail" "I" (.int 0)) (P4 : Arv Z h0 el ke (.object sO) (17 : Int32) [.null, .null, .null, .null, .null, .null, .null, .null, .null, .null, .null, .null, .null, .null, .null, .ref y2, .ref y1] .null) (P5 : Ovr Z ke sO) (P6 : Exa Z h0 sg sS) (g_dq : n0 ≤ dq) (g_el : n0 ≤ el) :
    own_Met l Y_27 (Jvm.Cond.code Y_27 jdk_21_method_12_code 3 none :: ws) (RM 1 0 0 15) #[.ref dq, .ref sg] Z h0 (QAF2 Z dq sg el ke y1 y2 h0 n0) := by
  refine own_bS pn_34 rfl D_34 (fun m => ef_AF2 m dq sg) hw fun p e s m below meth c sZ Bd hx hby hml hown hnm hh hZ X0 e0 w H pre0 => ?_
  have N0 := Fr.nil n0
  have K0 := Keep.refl h0 [dq, el]
  obtain ⟨T1, X1, e1, st1⟩ := getF X0 hx hZ hown (host := "") (Or.inl (w 70 rfl)) Via.refl e0 P1 (g := (mkF m 13 #[vR dq, vR sg, vU] [.ref dq])) rfl rfl (H 3 rfl)
  obtain ⟨T2, X2, e2, st2⟩ := getF X1 hx hZ hown (host := "") (Or.inl (w 187 rfl)) Via.refl e1 P2 (g := (mkF m 20 #[vR dq, vR sg, vR el] [.ref dq, .ref dq, .ref el])) rfl rfl (H 8 rfl)
  obtain ⟨_, T3, lo3, Lc3, X3, N3, hQ3, st3⟩ := own_af (QDE2 Z  h0 n0) 0 0 0 0 0 0 (Jvm.LawKit.callS X2 hx (y := Y_26) hown (mvT hZ (w 211 rfl)) (mvT hZ (w 212 rfl)) (mvT hZ (w 57 rfl)) (mvT hZ (w 213 rfl)) (by decide) (backOf (W := 2) (rmDE2 l Z a0 hw []  h0 n0 Z0) hZ (w 213 rfl) (w 57 rfl) (by decide) (by decide)) (g := (mkF m 25 #[vR dq, vR sg, vR el] [.int 17, .int 15, .ref dq, .ref el])) rfl (by rw [hml]; rfl) (argsL := [.int 15, .int 17]) (rest := [.ref dq, .ref el]) (lenOf pd_13 rfl) rfl (lq rfl) (H 11 rfl) (fun _ _ => ⟨rfl, e2, (by decide : 0 + 0 ≤ _), (by decide : 0 + 0 ≤ _)⟩)) N0 (fun _ _ _ h => h.2.1) rfl rfl
  dsimp only at st3
  obtain ⟨rfl, N3q, r3_0⟩ := hQ3
  obtain ⟨T4, h4, X4, e4, W4, st4⟩ := putF X3 hx hZ hown (host := "") (Or.inl (w 187 rfl)) Via.refl r3_0 P2 P0 (Or.inl (w 188 rfl)) (w 56 rfl) (ty := .int) (by decide) rfl rfl (g := (mkF m 29 #[vR dq, vR sg, vR el] [.int 14, .ref dq, .int 14, .ref el])) rfl rfl (H 13 rfl)
  have ne9 : el ≠ dq := Ne.symm (Exa.neArv P0 P4 (w 56 rfl))
  have f10 := P4.other W4 ne9
  have f11 := P6.wr W4
  have K4 := K0.wr W4 (own_m 0 rfl)
  have N4 := Fr.snoc X4 N3 g_dq
  obtain ⟨cl12, Ar12, q12, S12, M12, H12, G12⟩ := id f10
  have hin12 : ¬ ((14 : Int32) < 0 ∨ cl12.slots.size ≤ ((14 : Int32)).toNatClampNeg) := inb_of S12 ⟨by decide, by decide⟩
  obtain ⟨T12, h12, X12, e12, W12, st12⟩ := stR X4 hx hZ e4 Ar12 (j := (14 : Int32)) hin12 rfl (Sto.ofV Ar12 q12 P5 (Ins.of_exa f11 (w 214 rfl))) (g := (mkF m 33 #[vR dq, vR sg, vR el] [.ref sg, .int 14, .ref el])) rfl rfl (H 15 rfl)
  have V12 := Arv.set Ar12 q12 S12 M12 H12 G12 rfl W12 14 rfl (bl rfl)
  have f14 := (P1.other W4 (Or.inr (slot_ne (Or.inl (w 71 rfl)) (Or.inl (w 188 rfl)) (by decide) (t := (.array (.object "java/lang/Object"))) (t' := .int) (by decide) (by decide)))).other W12 (Or.inl (Ne.symm ne9))
  have f15 := (P2.same W4).other W12 (Or.inl (Ne.symm ne9))
  have f16 := (P3.other W4 (Or.inr (slot_ne (Or.inl (w 186 rfl)) (Or.inl (w 188 rfl)) (by decide) (t := .int) (t' := .int) (by decide) (by decide)))).other W12 (Or.inl (Ne.symm ne9))
  have K12 := K4.wr W12 (own_m 1 rfl)
  have N12 := Fr.snoc X12 N4 g_el
  have U12 : Arv Z h12 el ke (.object "java/lang/Object") (17 : Int32) [.null, .null, .null, .null, .null, .null, .null, .null, .null, .null, .null, .null, .null, .null, .ref sg, .ref y2, .ref y1] .null := V12
  obtain ⟨T18, X18, e18, st18⟩ := getF X12 hx hZ hown (host := "") (Or.inl (w 187 rfl)) Via.refl e12 f15 (g := (mkF m 35 #[vR dq, vR sg, vR el] [.ref dq])) rfl rfl (H 17 rfl)
  obtain ⟨T19, X19, e19, st19⟩ := getF X18 hx hZ hown (host := "") (Or.inl (w 185 rfl)) Via.refl e18 f16 (g := (mkF m 39 #[vR dq, vR sg, vR el] [.ref dq, .int 14])) rfl rfl (H 19 rfl)
  obtain ⟨fs, hr, hrun, hended, hW, hsame⟩ := X19.leave (v := none) (fun _ => rfl)
  refine ⟨_, _, pre0 _ ?_, hrun, hended, _, _, rfl, ?_, ⟨_, rfl⟩, hW, hsame.mono (by decide) (by decide)⟩
  · show SG X0 0 #[vR dq, vR sg, vU] [] _
    refine XS.aloadN X0.here hx rfl (H 0 rfl) rfl rfl ?_
    refine XS.ifnonnullYes X0.here hx rfl (pc0 := 1) (pc' := 12) rfl (H 1 rfl) rfl (by decide) (by decide) ?_
    refine XS.aloadN X0.here hx rfl (H 2 rfl) rfl rfl ?_
    refine st1 _ ?_
    show SG X1 16 #[vR dq, vR sg, vU] [.ref el] _
    refine XS.astoreN X1.here hx rfl (H 4 rfl) rfl rfl (l' := #[vR dq, vR sg, vR el]) rfl ?_
    refine XS.aloadN X1.here hx rfl (H 5 rfl) rfl rfl ?_
    refine XS.aloadN X1.here hx rfl (H 6 rfl) rfl rfl ?_
    refine XS.aloadN X1.here hx rfl (H 7 rfl) rfl rfl ?_
    refine st2 _ ?_
    show SG X2 23 #[vR dq, vR sg, vR el] [.int 15, .ref dq, .ref el] _
    refine XS.aloadN X2.here hx rfl (H 9 rfl) rfl rfl ?_
    refine own_alen X2 hx hZ e2 P4 (H 10 rfl) ?_
    refine st3 _ ?_
    show SG X3 28 #[vR dq, vR sg, vR el] [.int 14, .ref dq, .ref el] _
    refine XS.dupX1 X3.here hx rfl (H 12 rfl) rfl rfl rfl ?_
    refine st4 _ ?_
    show SG X4 32 #[vR dq, vR sg, vR el] [.int 14, .ref el] _
    refine XS.aloadN X4.here hx rfl (H 14 rfl) rfl rfl ?_
    refine st12 _ ?_
    show SG X12 34 #[vR dq, vR sg, vR el] [] _
    refine XS.aloadN X12.here hx rfl (H 16 rfl) rfl rfl ?_
    refine st18 _ ?_
    show SG X18 38 #[vR dq, vR sg, vR el] [.int 14] _
    refine XS.aloadN X18.here hx rfl (H 18 rfl) rfl rfl ?_
    refine st19 _ ?_
    show SG X19 42 #[vR dq, vR sg, vR el] [.int 0, .int 14] _
    refine XS.icmpYes X19.here hx rfl (pc0 := 42) (pc' := 50) rfl (H 20 rfl) rfl (feq (by decide : ¬ ((14 : Int32) = (0 : Int32)))).2 (by decide) (by decide) ?_
    exact X19.returnOut hx Bd.returns (H 21 rfl) hr
  · show QAF2 Z dq sg el ke y1 y2 h0 n0 _ T19.heap _
    rw [e19]
    exact ⟨rfl, N12, K12, f14, f15, f16, U12⟩

theorem ef_PU2 (m : MethodId) (dq sg : Addr) : entryFrame m #[.ref dq, .ref sg] 2 = mkF m 0 #[.val (.ref dq), .val (.ref sg)] [] := by simp [entryFrame, mkF, argsToLocals, Value.category]
def QPU2 (Z : State) (dq sg el : Addr) (ke : ClassId) (y1 y2 : Addr) (h0 : Heap) (n0 : Nat) (v : Option Value) (h : Heap) (L : List Loc) : Prop := v = none ∧ Fr n0 L ∧ Keep h0 h [dq, el] ∧ Fld Z h dq sD "elements" sLO (.ref el) ∧ Fld Z h dq sD "head" "I" (.int 14) ∧ Fld Z h dq sD "tail" "I" (.int 0) ∧ Arv Z h el ke (.object sO) (17 : Int32) [.null, .null, .null, .null, .null, .null, .null, .null, .null, .null, .null, .null, .null, .null, .ref sg, .ref y2, .ref y1] .null
theorem rmPU2 (l : Launch) (Z : State) (a0 : Array Value) (hw : HWd a0 Z) (ws : List Jvm.Cond) (dq sg el : Addr) (ke : ClassId) (y1 y2 : Addr) (h0 : Heap) (n0 : Nat) (Z0 : n0 ≤ h0.size) (P0 : Exa Z h0 dq sD) (P1 : Fld Z h0 dq sD "elements" sLO (.ref el)) (P2 : Fld Z h0 dq sD "head" "I" (.int 15)) (P3 : Fld Z h0 dq sD "tail" "I" (.int 0)) (P4 : Arv Z h0 el ke (.object sO) (17 : Int32) [.null, .null, .null, .null, .null, .null, .null, .null, .null, .null, .null, .null, .null, .null, .null, .ref y2, .ref y1] .null) (P5 : Ovr Z ke sO) (P6 : Exa Z h0 sg sS) (g_dq : n0 ≤ dq) (g_el : n0 ≤ el) :
    own_Met l Y_28 (Jvm.Cond.code Y_28 jdk_21_method_34_code 2 none :: ws) (RM 2 0 0 29) #[.ref dq, .ref sg] Z h0 (QPU2 Z dq sg el ke y1 y2 h0 n0) := by
  refine own_bS pn_33 rfl D_33 (fun m => ef_PU2 m dq sg) hw fun p e s m below meth c sZ Bd hx hby hml hown hnm hh hZ X0 e0 w H pre0 => ?_
  have N0 := Fr.nil n0
  have K0 := Keep.refl h0 [dq, el]
  obtain ⟨cq1, kq1, q1a, q1b, q1c⟩ := isOf hZ e0 P0
  obtain ⟨_, T1, lo1, Lc1, X1, N1, hQ1, st1⟩ := own_af (QAF2 Z dq sg el ke y1 y2 h0 n0) 0 0 0 0 0 0 (X0.virtualBack hx (y := Y_27) (z := Y_27) hown (mvT hZ (w 206 rfl)) (mvT hZ (w 207 rfl)) (own_ns hZ (w 209 rfl)) (mvT hZ (w 209 rfl)) (mvT hZ (w 208 rfl)) (by decide) (backOf (W := 0) (rmAF2 l Z a0 hw [] dq sg el ke y1 y2 h0 n0 Z0 P0 P1 P2 P3 P4 P5 P6 g_dq g_el) hZ (w 210 rfl) (w 57 rfl) (by decide) (by decide)) q1a q1c (g := (mkF m 2 #[vR dq, vR sg] [.ref sg, .ref dq])) rfl (by rw [hml]; rfl) (Steps.refl _) (argsL := [.ref sg]) (rest := []) (lenOf pd_25 rfl) rfl (lq rfl) (H 2 rfl) (fun _ _ => ⟨rfl, e0, (by decide : 0 + 0 ≤ _), (by decide : 0 + 0 ≤ _)⟩)) N0 (fun _ _ _ h => h.2.1) rfl rfl
  dsimp only at st1
  obtain ⟨rfl, N1q, r1_0, r1_1, r1_2, r1_3, r1_4⟩ := hQ1
  have K1 := K0.trans r1_0 (allS (own_m 0 rfl) (allS (own_m 1 rfl) all0))
  obtain ⟨fs, hr, hrun, hended, hW, hsame⟩ := X1.leave (v := none) (fun _ => rfl)
  refine ⟨_, _, pre0 _ ?_, hrun, hended, _, _, rfl, ?_, ⟨_, rfl⟩, hW, hsame.mono (by decide) (by decide)⟩
  · show SG X0 0 #[vR dq, vR sg] [] _
    refine XS.aloadN X0.here hx rfl (H 0 rfl) rfl rfl ?_
    refine XS.aloadN X0.here hx rfl (H 1 rfl) rfl rfl ?_
    refine st1.trans ?_
    show SG X1 5 #[vR dq, vR sg] [] _
    exact X1.returnOut hx Bd.returns (H 3 rfl) hr
  · show QPU2 Z dq sg el ke y1 y2 h0 n0 _ T1.heap _
    exact ⟨rfl, N1, K1, r1_1, r1_2, r1_3, r1_4⟩

theorem pn_41 : plainName "java/util/ArrayDeque" = true := by first | (simp [plainName, overriddenIn]; done) | decide +kernel
theorem ef_EA3 (m : MethodId) (el : Addr) : entryFrame m #[.ref el, .int 14] 2 = mkF m 0 #[.val (.ref el), .val (.int 14)] [] := by simp [entryFrame, mkF, argsToLocals, Value.category]
def QEA3 (Z : State) (el : Addr) (ke : ClassId) (y1 y2 y3 : Addr) (h0 : Heap) (n0 : Nat) (v : Option Value) (h : Heap) (L : List Loc) : Prop := v = some (.ref y3) ∧ Fr n0 L ∧ h = h0
theorem rmEA3 (l : Launch) (Z : State) (a0 : Array Value) (hw : HWd a0 Z) (ws : List Jvm.Cond) (el : Addr) (ke : ClassId) (y1 y2 y3 : Addr) (h0 : Heap) (n0 : Nat) (Z0 : n0 ≤ h0.size) (P0 : Arv Z h0 el ke (.object sO) (17 : Int32) [.null, .null, .null, .null, .null, .null, .null, .null, .null, .null, .null, .null, .null, .null, .ref y3, .ref y2, .ref y1] .null) :
    own_Met l Y_29 (Jvm.Cond.code Y_29 jdk_21_method_10_code 2 (some (.object "java/lang/Object")) :: ws) (RM 0 0 0 0) #[.ref el, .int 14] Z h0 (QEA3 Z el ke y1 y2 y3 h0 n0) := by
  refine own_bS pn_41 rfl D_41 (fun m => ef_EA3 m el) hw fun p e s m below meth c sZ Bd hx hby hml hown hnm hh hZ X0 e0 w H pre0 => ?_
  have N0 := Fr.nil n0
  obtain ⟨cl1, Ar1, -, S1, M1, H1, G1⟩ := id P0
  have hin1 : ¬ ((14 : Int32) < 0 ∨ cl1.slots.size ≤ ((14 : Int32)).toNatClampNeg) := inb_of S1 ⟨by decide, by decide⟩
  have hat1 : cl1.slots[((14 : Int32)).toNatClampNeg]? = some (.ref y3) := Has.at H1 hin1 rfl
  obtain ⟨fs, hr, hrun, hended, hW, hsame⟩ := X0.leave (v := some (.ref y3)) (fun h => by rw [Bd.returns] at h; cases h)
  refine ⟨_, _, pre0 _ ?_, hrun, hended, _, _, rfl, ?_, ⟨_, rfl⟩, hW, hsame.mono (by decide) (by decide)⟩
  · show SG X0 0 #[vR el, vI 14] [] _
    refine XS.aloadN X0.here hx rfl (H 0 rfl) rfl rfl ?_
    refine XS.iloadN X0.here hx rfl (H 1 rfl) rfl ?_
    refine X0.aaload hx (j := (14 : Int32)) (v := (.ref y3)) (by rw [e0]; exact Ar1.1) (State.isArrayOf_alike hZ.alike Ar1.2.1) rfl Ar1.2.2 hin1 hat1 (g := (mkF m 2 #[vR el, vI 14] [.int 14, .ref el])) rfl rfl (H 2 rfl) _ ?_
    show SG X0 3 #[vR el, vI 14] [.ref y3] _
    jvm_step X0.here [X0.here.top, hx, (H 3 rfl), X0.method', Bd.returns, Value.isRef, FieldType.isReference]
    first | (intro acts; rw [hr _ acts rfl rfl rfl]) | rw [hr _ _ rfl rfl rfl]
    exact Steps.refl _
  · show QEA3 Z el ke y1 y2 y3 h0 n0 _ sZ.heap _
    rw [e0]
    exact ⟨rfl, N0, rfl⟩

theorem pn_42 : plainName "java/util/ArrayDeque" = true := by first | (simp [plainName, overriddenIn]; done) | decide +kernel
theorem ef_IC3 (m : MethodId)  : entryFrame m #[.int 14, .int 17] 2 = mkF m 0 #[.val (.int 14), .val (.int 17)] [] := by simp [entryFrame, mkF, argsToLocals, Value.category]
def QIC3 (Z : State)  (h0 : Heap) (n0 : Nat) (v : Option Value) (h : Heap) (L : List Loc) : Prop := v = some (.int 15) ∧ Fr n0 L ∧ h = h0
theorem rmIC3 (l : Launch) (Z : State) (a0 : Array Value) (hw : HWd a0 Z) (ws : List Jvm.Cond)  (h0 : Heap) (n0 : Nat) (Z0 : n0 ≤ h0.size) :
    own_Met l Y_30 (Jvm.Cond.code Y_30 jdk_21_method_6_code 2 (some .int) :: ws) (RM 0 0 0 0) #[.int 14, .int 17] Z h0 (QIC3 Z  h0 n0) := by
  refine own_bS pn_42 rfl D_42 (fun m => ef_IC3 m) hw fun p e s m below meth c sZ Bd hx hby hml hown hnm hh hZ X0 e0 w H pre0 => ?_
  have N0 := Fr.nil n0
  obtain ⟨fs, hr, hrun, hended, hW, hsame⟩ := X0.leave (v := some (.int 15)) (fun h => by rw [Bd.returns] at h; cases h)
  refine ⟨_, _, pre0 _ ?_, hrun, hended, _, _, rfl, ?_, ⟨_, rfl⟩, hW, hsame.mono (by decide) (by decide)⟩
  · show SG X0 0 #[vI 14, vI 17] [] _
    refine XS.iinc X0.here hx rfl (H 0 rfl) rfl (l' := #[vI 15, vI 17]) rfl ?_
    show SG X0 3 #[vI 15, vI 17] [] _
    refine XS.iloadN X0.here hx rfl (H 1 rfl) rfl ?_
    refine XS.iloadN X0.here hx rfl (H 2 rfl) rfl ?_
    refine XS.icmpYes X0.here hx rfl (pc0 := 5) (pc' := 10) rfl (H 3 rfl) rfl (tlt (by decide : ((15 : Int32) < (17 : Int32)))).1 (by decide) (by decide) ?_
    refine XS.iloadN X0.here hx rfl (H 6 rfl) rfl ?_
    exact retI X0 hx Bd.returns (H 7 rfl) hr
  · show QIC3 Z  h0 n0 _ sZ.heap _
    rw [e0]
    exact ⟨rfl, N0, rfl⟩

theorem pn_40 : plainName "java/util/ArrayDeque" = true := by first | (simp [plainName, overriddenIn]; done) | decide +kernel
theorem ef_PF3 (m : MethodId) (dq : Addr) : entryFrame m #[.ref dq] 4 = mkF m 0 #[.val (.ref dq), .unset, .unset, .unset] [] := by simp [entryFrame, mkF, argsToLocals, Value.category]
theorem pd_29 : parseMethodDescriptor "([Ljava/lang/Object;I)Ljava/lang/Object;" = some ⟨[(.array (.object "java/lang/Object")), .int], some (.object "java/lang/Object")⟩ := by decide +kernel
def QPF3 (Z : State) (dq el : Addr) (ke : ClassId) (y1 y2 y3 : Addr) (h0 : Heap) (n0 : Nat) (v : Option Value) (h : Heap) (L : List Loc) : Prop := v = some (.ref y3) ∧ Fr n0 L ∧ Keep h0 h [dq, el] ∧ Fld Z h dq sD "elements" sLO (.ref el) ∧ Fld Z h dq sD "head" "I" (.int 15) ∧ Fld Z h dq sD "tail" "I" (.int 0) ∧ Arv Z h el ke (.object sO) (17 : Int32) [.null, .null, .null, .null, .null, .null, .null, .null, .null, .null, .null, .null, .null, .null, .null, .ref y2, .ref y1] .null
theorem rmPF3 (l : Launch) (Z : State) (a0 : Array Value) (hw : HWd a0 Z) (ws : List Jvm.Cond) (dq el : Addr) (ke : ClassId) (y1 y2 y3 : Addr) (h0 : Heap) (n0 : Nat) (Z0 : n0 ≤ h0.size) (P0 : Exa Z h0 dq sD) (P1 : Fld Z h0 dq sD "elements" sLO (.ref el)) (P2 : Fld Z h0 dq sD "head" "I" (.int 14)) (P3 : Fld Z h0 dq sD "tail" "I" (.int 0)) (P4 : Arv Z h0 el ke (.object sO) (17 : Int32) [.null, .null, .null, .null, .null, .null, .null, .null, .null, .null, .null, .null, .null, .null, .ref y3, .ref y2, .ref y1] .null) (P5 : Ovr Z ke sO) (g_dq : n0 ≤ dq) (g_el : n0 ≤ el) :
    own_Met l Y_31 (Jvm.Cond.code Y_31 jdk_21_method_20_code 4 (some (.object "java/lang/Object")) :: ws) (RM 1 0 0 14) #[.ref dq] Z h0 (QPF3 Z dq el ke y1 y2 y3 h0 n0) := by
  refine own_bS pn_40 rfl D_40 (fun m => ef_PF3 m dq) hw fun p e s m below meth c sZ Bd hx hby hml hown hnm hh hZ X0 e0 w H pre0 => ?_
  have N0 := Fr.nil n0
  have K0 := Keep.refl h0 [dq, el]
  obtain ⟨T1, X1, e1, st1⟩ := getF X0 hx hZ hown (host := "") (Or.inl (w 70 rfl)) Via.refl e0 P1 (g := (mkF m 1 #[vR dq, vU, vU, vU] [.ref dq])) rfl rfl (H 1 rfl)
  obtain ⟨T2, X2, e2, st2⟩ := getF X1 hx hZ hown (host := "") (Or.inl (w 187 rfl)) Via.refl e1 P2 (g := (mkF m 7 #[vR dq, vR el, vU, vU] [.ref dq, .ref el])) rfl rfl (H 5 rfl)
  obtain ⟨_, T3, lo3, Lc3, X3, N3, hQ3, st3⟩ := own_af (QEA3 Z el ke y1 y2 y3 h0 n0) 0 0 0 0 0 0 (Jvm.LawKit.callS X2 hx (y := Y_29) hown (mvT hZ (w 243 rfl)) (mvT hZ (w 244 rfl)) (mvT hZ (w 57 rfl)) (mvT hZ (w 245 rfl)) (by decide) (backOf (W := 0) (rmEA3 l Z a0 hw [] el ke y1 y2 y3 h0 n0 Z0 P4) hZ (w 245 rfl) (w 57 rfl) (by decide) (by decide)) (g := (mkF m 12 #[vR dq, vR el, vI 14, vU] [.int 14, .ref el])) rfl (by rw [hml]; rfl) (argsL := [.ref el, .int 14]) (rest := []) (lenOf pd_29 rfl) rfl (lq rfl) (H 8 rfl) (fun _ _ => ⟨rfl, e2, (by decide : 0 + 0 ≤ _), (by decide : 0 + 0 ≤ _)⟩)) N0 (fun _ _ _ h => h.2.1) rfl rfl
  dsimp only at st3
  obtain ⟨rfl, N3q, r3_0⟩ := hQ3
  obtain ⟨cl4, Ar4, q4, S4, M4, H4, G4⟩ := id P4
  have hin4 : ¬ ((14 : Int32) < 0 ∨ cl4.slots.size ≤ ((14 : Int32)).toNatClampNeg) := inb_of S4 ⟨by decide, by decide⟩
  obtain ⟨T4, h4, X4, e4, W4, st4⟩ := stR X3 hx hZ r3_0 Ar4 (j := (14 : Int32)) hin4 rfl (Or.inl rfl) (g := (mkF m 23 #[vR dq, vR el, vI 14, vR y3] [.null, .int 14, .ref el])) rfl rfl (H 15 rfl)
  have V4 := Arv.set Ar4 q4 S4 M4 H4 G4 rfl W4 14 rfl (bl rfl)
  have f5 := P0.wr W4
  have ne6 : dq ≠ el := Exa.neArv P0 P4 (w 56 rfl)
  have f8 := P2.other W4 (Or.inl ne6)
  have K4 := K0.wr W4 (own_m 1 rfl)
  have N4 := Fr.snoc X4 N3 g_el
  have Z4 : n0 ≤ h4.size := Nat.le_trans Z0 (Keep.of_wr W4).1
  have U4 : Arv Z h4 el ke (.object "java/lang/Object") (17 : Int32) [.null, .null, .null, .null, .null, .null, .null, .null, .null, .null, .null, .null, .null, .null, .null, .ref y2, .ref y1] .null := V4
  obtain ⟨_, T10, lo10, Lc10, X10, N10, hQ10, st10⟩ := own_af (QIC3 Z  h4 n0) 0 0 0 0 0 0 (Jvm.LawKit.callS X4 hx (y := Y_30) hown (mvT hZ (w 246 rfl)) (mvT hZ (w 247 rfl)) (mvT hZ (w 57 rfl)) (mvT hZ (w 248 rfl)) (by decide) (backOf (W := 1) (rmIC3 l Z a0 hw []  h4 n0 Z4) hZ (w 248 rfl) (w 57 rfl) (by decide) (by decide)) (g := (mkF m 28 #[vR dq, vR el, vI 14, vR y3] [.int 17, .int 14, .ref dq])) rfl (by rw [hml]; rfl) (argsL := [.int 14, .int 17]) (rest := [.ref dq]) (lenOf pd_13 rfl) rfl (lq rfl) (H 20 rfl) (fun _ _ => ⟨rfl, e4, (by decide : 0 + 0 ≤ _), (by decide : 0 + 0 ≤ _)⟩)) N4 (fun _ _ _ h => h.2.1) rfl rfl
  dsimp only at st10
  obtain ⟨rfl, N10q, r10_0⟩ := hQ10
  obtain ⟨T11, h11, X11, e11, W11, st11⟩ := putF X10 hx hZ hown (host := "") (Or.inl (w 187 rfl)) Via.refl r10_0 f8 f5 (Or.inl (w 188 rfl)) (w 56 rfl) (ty := .int) (by decide) rfl rfl (g := (mkF m 31 #[vR dq, vR el, vI 14, vR y3] [.int 15, .ref dq])) rfl rfl (H 21 rfl)
  have f12 := f8.same W11
  have f14 := (P1.other W4 (Or.inl ne6)).other W11 (Or.inr (slot_ne (Or.inl (w 71 rfl)) (Or.inl (w 188 rfl)) (by decide) (t := (.array (.object "java/lang/Object"))) (t' := .int) (by decide) (by decide)))
  have f15 := (P3.other W4 (Or.inl ne6)).other W11 (Or.inr (slot_ne (Or.inl (w 186 rfl)) (Or.inl (w 188 rfl)) (by decide) (t := .int) (t' := .int) (by decide) (by decide)))
  have f16 := U4.other W11 (Ne.symm ne6)
  have K11 := K4.wr W11 (own_m 0 rfl)
  have N11 := Fr.snoc X11 N10 g_dq
  obtain ⟨fs, hr, hrun, hended, hW, hsame⟩ := X11.leave (v := some (.ref y3)) (fun h => by rw [Bd.returns] at h; cases h)
  refine ⟨_, _, pre0 _ ?_, hrun, hended, _, _, rfl, ?_, ⟨_, rfl⟩, hW, hsame.mono (by decide) (by decide)⟩
  · show SG X0 0 #[vR dq, vU, vU, vU] [] _
    refine XS.aloadN X0.here hx rfl (H 0 rfl) rfl rfl ?_
    refine st1 _ ?_
    show SG X1 4 #[vR dq, vU, vU, vU] [.ref el] _
    refine XS.dup X1.here hx rfl (H 2 rfl) rfl rfl ?_
    refine XS.astoreN X1.here hx rfl (H 3 rfl) rfl rfl (l' := #[vR dq, vR el, vU, vU]) rfl ?_
    refine XS.aloadN X1.here hx rfl (H 4 rfl) rfl rfl ?_
    refine st2 _ ?_
    show SG X2 10 #[vR dq, vR el, vU, vU] [.int 14, .ref el] _
    refine XS.dup X2.here hx rfl (H 6 rfl) rfl rfl ?_
    refine XS.istoreN X2.here hx rfl (H 7 rfl) rfl (l' := #[vR dq, vR el, vI 14, vU]) rfl ?_
    refine st3 _ ?_
    show SG X3 15 #[vR dq, vR el, vI 14, vU] [.ref y3] _
    refine XS.astoreN X3.here hx rfl (H 9 rfl) rfl rfl (l' := #[vR dq, vR el, vI 14, vR y3]) rfl ?_
    refine XS.aloadN X3.here hx rfl (H 10 rfl) rfl rfl ?_
    refine XS.ifnullNo X3.here hx rfl (H 11 rfl) rfl ?_
    refine XS.aloadN X3.here hx rfl (H 12 rfl) rfl rfl ?_
    refine XS.iloadN X3.here hx rfl (H 13 rfl) rfl ?_
    refine XS.aconstNull X3.here hx rfl (H 14 rfl) ?_
    refine st4 _ ?_
    show SG X4 24 #[vR dq, vR el, vI 14, vR y3] [] _
    refine XS.aloadN X4.here hx rfl (H 16 rfl) rfl rfl ?_
    refine XS.iloadN X4.here hx rfl (H 17 rfl) rfl ?_
    refine XS.aloadN X4.here hx rfl (H 18 rfl) rfl rfl ?_
    refine own_alen X4 hx hZ e4 U4 (H 19 rfl) ?_
    refine st10 _ ?_
    show SG X10 31 #[vR dq, vR el, vI 14, vR y3] [.int 15, .ref dq] _
    refine st11 _ ?_
    show SG X11 34 #[vR dq, vR el, vI 14, vR y3] [] _
    refine XS.aloadN X11.here hx rfl (H 22 rfl) rfl rfl ?_
    jvm_step X11.here [X11.here.top, hx, (H 23 rfl), X11.method', Bd.returns, Value.isRef, FieldType.isReference]
    first | (intro acts; rw [hr _ acts rfl rfl rfl]) | rw [hr _ _ rfl rfl rfl]
    exact Steps.refl _
  · show QPF3 Z dq el ke y1 y2 y3 h0 n0 _ T11.heap _
    rw [e11]
    exact ⟨rfl, N11, K11, f14, f12, f15, f16⟩

theorem pn_39 : plainName "java/util/ArrayDeque" = true := by first | (simp [plainName, overriddenIn]; done) | decide +kernel
theorem ef_RF3 (m : MethodId) (dq : Addr) : entryFrame m #[.ref dq] 2 = mkF m 0 #[.val (.ref dq), .unset] [] := by simp [entryFrame, mkF, argsToLocals, Value.category]
theorem pd_28 : parseMethodDescriptor "()Ljava/lang/Object;" = some ⟨[], some (.object "java/lang/Object")⟩ := by decide +kernel
def QRF3 (Z : State) (dq el : Addr) (ke : ClassId) (y1 y2 y3 : Addr) (h0 : Heap) (n0 : Nat) (v : Option Value) (h : Heap) (L : List Loc) : Prop := v = some (.ref y3) ∧ Fr n0 L ∧ Keep h0 h [dq, el] ∧ Fld Z h dq sD "elements" sLO (.ref el) ∧ Fld Z h dq sD "head" "I" (.int 15) ∧ Fld Z h dq sD "tail" "I" (.int 0) ∧ Arv Z h el ke (.object sO) (17 : Int32) [.null, .null, .null, .null, .null, .null, .null, .null, .null, .null, .null, .null, .null, .null, .null, .ref y2, .ref y1] .null
theorem rmRF3 (l : Launch) (Z : State) (a0 : Array Value) (hw : HWd a0 Z) (ws : List Jvm.Cond) (dq el : Addr) (ke : ClassId) (y1 y2 y3 : Addr) (h0 : Heap) (n0 : Nat) (Z0 : n0 ≤ h0.size) (P0 : Exa Z h0 dq sD) (P1 : Fld Z h0 dq sD "elements" sLO (.ref el)) (P2 : Fld Z h0 dq sD "head" "I" (.int 14)) (P3 : Fld Z h0 dq sD "tail" "I" (.int 0)) (P4 : Arv Z h0 el ke (.object sO) (17 : Int32) [.null, .null, .null, .null, .null, .null, .null, .null, .null, .null, .null, .null, .null, .null, .ref y3, .ref y2, .ref y1] .null) (P5 : Ovr Z ke sO) (g_dq : n0 ≤ dq) (g_el : n0 ≤ el) :
    own_Met l Y_32 (Jvm.Cond.code Y_32 jdk_21_method_18_code 2 (some (.object "java/lang/Object")) :: ws) (RM 2 0 0 29) #[.ref dq] Z h0 (QRF3 Z dq el ke y1 y2 y3 h0 n0) := by
  refine own_bS pn_39 rfl D_39 (fun m => ef_RF3 m dq) hw fun p e s m below meth c sZ Bd hx hby hml hown hnm hh hZ X0 e0 w H pre0 => ?_
  have N0 := Fr.nil n0
  have K0 := Keep.refl h0 [dq, el]
  obtain ⟨cq1, kq1, q1a, q1b, q1c⟩ := isOf hZ e0 P0
  obtain ⟨_, T1, lo1, Lc1, X1, N1, hQ1, st1⟩ := own_af (QPF3 Z dq el ke y1 y2 y3 h0 n0) 0 0 0 0 0 0 (X0.virtualBack hx (y := Y_31) (z := Y_31) hown (mvT hZ (w 238 rfl)) (mvT hZ (w 239 rfl)) (own_ns hZ (w 241 rfl)) (mvT hZ (w 241 rfl)) (mvT hZ (w 240 rfl)) (by decide) (backOf (W := 0) (rmPF3 l Z a0 hw [] dq el ke y1 y2 y3 h0 n0 Z0 P0 P1 P2 P3 P4 P5 g_dq g_el) hZ (w 242 rfl) (w 57 rfl) (by decide) (by decide)) q1a q1c (g := (mkF m 1 #[vR dq, vU] [.ref dq])) rfl (by rw [hml]; rfl) (Steps.refl _) (argsL := []) (rest := []) (lenOf pd_28 rfl) rfl (lq rfl) (H 1 rfl) (fun _ _ => ⟨rfl, e0, (by decide : 0 + 0 ≤ _), (by decide : 0 + 0 ≤ _)⟩)) N0 (fun _ _ _ h => h.2.1) rfl rfl
  dsimp only at st1
  obtain ⟨rfl, N1q, r1_0, r1_1, r1_2, r1_3, r1_4⟩ := hQ1
  have K1 := K0.trans r1_0 (allS (own_m 0 rfl) (allS (own_m 1 rfl) all0))
  obtain ⟨fs, hr, hrun, hended, hW, hsame⟩ := X1.leave (v := some (.ref y3)) (fun h => by rw [Bd.returns] at h; cases h)
  refine ⟨_, _, pre0 _ ?_, hrun, hended, _, _, rfl, ?_, ⟨_, rfl⟩, hW, hsame.mono (by decide) (by decide)⟩
  · show SG X0 0 #[vR dq, vU] [] _
    refine XS.aloadN X0.here hx rfl (H 0 rfl) rfl rfl ?_
    refine st1.trans ?_
    show SG X1 4 #[vR dq, vU] [.ref y3] _
    refine XS.astoreN X1.here hx rfl (H 2 rfl) rfl rfl (l' := #[vR dq, vR y3]) rfl ?_
    refine XS.aloadN X1.here hx rfl (H 3 rfl) rfl rfl ?_
    refine XS.ifnonnullYes X1.here hx rfl (pc0 := 6) (pc' := 17) rfl (H 4 rfl) rfl (by decide) (by decide) ?_
    refine XS.aloadN X1.here hx rfl (H 5 rfl) rfl rfl ?_
    jvm_step X1.here [X1.here.top, hx, (H 6 rfl), X1.method', Bd.returns, Value.isRef, FieldType.isReference]
    first | (intro acts; rw [hr _ acts rfl rfl rfl]) | rw [hr _ _ rfl rfl rfl]
    exact Steps.refl _
  · show QRF3 Z dq el ke y1 y2 y3 h0 n0 _ T1.heap _
    exact ⟨rfl, N1, K1, r1_1, r1_2, r1_3, r1_4⟩

theorem pn_38 : plainName "java/util/ArrayDeque" = true := by first | (simp [plainName, overriddenIn]; done) | decide +kernel
theorem ef_PO3 (m : MethodId) (dq : Addr) : entryFrame m #[.ref dq] 1 = mkF m 0 #[.val (.ref dq)] [] := by simp [entryFrame, mkF, argsToLocals, Value.category]
def QPO3 (Z : State) (dq el : Addr) (ke : ClassId) (y1 y2 y3 : Addr) (h0 : Heap) (n0 : Nat) (v : Option Value) (h : Heap) (L : List Loc) : Prop := v = some (.ref y3) ∧ Fr n0 L ∧ Keep h0 h [dq, el] ∧ Fld Z h dq sD "elements" sLO (.ref el) ∧ Fld Z h dq sD "head" "I" (.int 15) ∧ Fld Z h dq sD "tail" "I" (.int 0) ∧ Arv Z h el ke (.object sO) (17 : Int32) [.null, .null, .null, .null, .null, .null, .null, .null, .null, .null, .null, .null, .null, .null, .null, .ref y2, .ref y1] .null
theorem rmPO3 (l : Launch) (Z : State) (a0 : Array Value) (hw : HWd a0 Z) (ws : List Jvm.Cond) (dq el : Addr) (ke : ClassId) (y1 y2 y3 : Addr) (h0 : Heap) (n0 : Nat) (Z0 : n0 ≤ h0.size) (P0 : Exa Z h0 dq sD) (P1 : Fld Z h0 dq sD "elements" sLO (.ref el)) (P2 : Fld Z h0 dq sD "head" "I" (.int 14)) (P3 : Fld Z h0 dq sD "tail" "I" (.int 0)) (P4 : Arv Z h0 el ke (.object sO) (17 : Int32) [.null, .null, .null, .null, .null, .null, .null, .null, .null, .null, .null, .null, .null, .null, .ref y3, .ref y2, .ref y1] .null) (P5 : Ovr Z ke sO) (g_dq : n0 ≤ dq) (g_el : n0 ≤ el) :
    own_Met l Y_33 (Jvm.Cond.code Y_33 jdk_21_method_35_code 1 (some (.object "java/lang/Object")) :: ws) (RM 3 0 0 42) #[.ref dq] Z h0 (QPO3 Z dq el ke y1 y2 y3 h0 n0) := by
  refine own_bS pn_38 rfl D_38 (fun m => ef_PO3 m dq) hw fun p e s m below meth c sZ Bd hx hby hml hown hnm hh hZ X0 e0 w H pre0 => ?_
  have N0 := Fr.nil n0
  have K0 := Keep.refl h0 [dq, el]
  obtain ⟨cq1, kq1, q1a, q1b, q1c⟩ := isOf hZ e0 P0
  obtain ⟨_, T1, lo1, Lc1, X1, N1, hQ1, st1⟩ := own_af (QRF3 Z dq el ke y1 y2 y3 h0 n0) 0 0 0 0 0 0 (X0.virtualBack hx (y := Y_32) (z := Y_32) hown (mvT hZ (w 233 rfl)) (mvT hZ (w 234 rfl)) (own_ns hZ (w 236 rfl)) (mvT hZ (w 236 rfl)) (mvT hZ (w 235 rfl)) (by decide) (backOf (W := 0) (rmRF3 l Z a0 hw [] dq el ke y1 y2 y3 h0 n0 Z0 P0 P1 P2 P3 P4 P5 g_dq g_el) hZ (w 237 rfl) (w 57 rfl) (by decide) (by decide)) q1a q1c (g := (mkF m 1 #[vR dq] [.ref dq])) rfl (by rw [hml]; rfl) (Steps.refl _) (argsL := []) (rest := []) (lenOf pd_28 rfl) rfl (lq rfl) (H 1 rfl) (fun _ _ => ⟨rfl, e0, (by decide : 0 + 0 ≤ _), (by decide : 0 + 0 ≤ _)⟩)) N0 (fun _ _ _ h => h.2.1) rfl rfl
  dsimp only at st1
  obtain ⟨rfl, N1q, r1_0, r1_1, r1_2, r1_3, r1_4⟩ := hQ1
  have K1 := K0.trans r1_0 (allS (own_m 0 rfl) (allS (own_m 1 rfl) all0))
  obtain ⟨fs, hr, hrun, hended, hW, hsame⟩ := X1.leave (v := some (.ref y3)) (fun h => by rw [Bd.returns] at h; cases h)
  refine ⟨_, _, pre0 _ ?_, hrun, hended, _, _, rfl, ?_, ⟨_, rfl⟩, hW, hsame.mono (by decide) (by decide)⟩
  · show SG X0 0 #[vR dq] [] _
    refine XS.aloadN X0.here hx rfl (H 0 rfl) rfl rfl ?_
    refine st1.trans ?_
    show SG X1 4 #[vR dq] [.ref y3] _
    jvm_step X1.here [X1.here.top, hx, (H 2 rfl), X1.method', Bd.returns, Value.isRef, FieldType.isReference]
    first | (intro acts; rw [hr _ acts rfl rfl rfl]) | rw [hr _ _ rfl rfl rfl]
    exact Steps.refl _
  · show QPO3 Z dq el ke y1 y2 y3 h0 n0 _ T1.heap _
    exact ⟨rfl, N1, K1, r1_1, r1_2, r1_3, r1_4⟩

theorem ef_EA2 (m : MethodId) (el : Addr) : entryFrame m #[.ref el, .int 15] 2 = mkF m 0 #[.val (.ref el), .val (.int 15)] [] := by simp [entryFrame, mkF, argsToLocals, Value.category]
def QEA2 (Z : State) (el : Addr) (ke : ClassId) (y1 y2 : Addr) (h0 : Heap) (n0 : Nat) (v : Option Value) (h : Heap) (L : List Loc) : Prop := v = some (.ref y2) ∧ Fr n0 L ∧ h = h0
theorem rmEA2 (l : Launch) (Z : State) (a0 : Array Value) (hw : HWd a0 Z) (ws : List Jvm.Cond) (el : Addr) (ke : ClassId) (y1 y2 : Addr) (h0 : Heap) (n0 : Nat) (Z0 : n0 ≤ h0.size) (P0 : Arv Z h0 el ke (.object sO) (17 : Int32) [.null, .null, .null, .null, .null, .null, .null, .null, .null, .null, .null, .null, .null, .null, .null, .ref y2, .ref y1] .null) :
    own_Met l Y_29 (Jvm.Cond.code Y_29 jdk_21_method_10_code 2 (some (.object "java/lang/Object")) :: ws) (RM 0 0 0 0) #[.ref el, .int 15] Z h0 (QEA2 Z el ke y1 y2 h0 n0) := by
  refine own_bS pn_41 rfl D_41 (fun m => ef_EA2 m el) hw fun p e s m below meth c sZ Bd hx hby hml hown hnm hh hZ X0 e0 w H pre0 => ?_
  have N0 := Fr.nil n0
  obtain ⟨cl1, Ar1, -, S1, M1, H1, G1⟩ := id P0
  have hin1 : ¬ ((15 : Int32) < 0 ∨ cl1.slots.size ≤ ((15 : Int32)).toNatClampNeg) := inb_of S1 ⟨by decide, by decide⟩
  have hat1 : cl1.slots[((15 : Int32)).toNatClampNeg]? = some (.ref y2) := Has.at H1 hin1 rfl
  obtain ⟨fs, hr, hrun, hended, hW, hsame⟩ := X0.leave (v := some (.ref y2)) (fun h => by rw [Bd.returns] at h; cases h)
  refine ⟨_, _, pre0 _ ?_, hrun, hended, _, _, rfl, ?_, ⟨_, rfl⟩, hW, hsame.mono (by decide) (by decide)⟩
  · show SG X0 0 #[vR el, vI 15] [] _
    refine XS.aloadN X0.here hx rfl (H 0 rfl) rfl rfl ?_
    refine XS.iloadN X0.here hx rfl (H 1 rfl) rfl ?_
    refine X0.aaload hx (j := (15 : Int32)) (v := (.ref y2)) (by rw [e0]; exact Ar1.1) (State.isArrayOf_alike hZ.alike Ar1.2.1) rfl Ar1.2.2 hin1 hat1 (g := (mkF m 2 #[vR el, vI 15] [.int 15, .ref el])) rfl rfl (H 2 rfl) _ ?_
    show SG X0 3 #[vR el, vI 15] [.ref y2] _
    jvm_step X0.here [X0.here.top, hx, (H 3 rfl), X0.method', Bd.returns, Value.isRef, FieldType.isReference]
    first | (intro acts; rw [hr _ acts rfl rfl rfl]) | rw [hr _ _ rfl rfl rfl]
    exact Steps.refl _
  · show QEA2 Z el ke y1 y2 h0 n0 _ sZ.heap _
    rw [e0]
    exact ⟨rfl, N0, rfl⟩

theorem ef_IC2 (m : MethodId)  : entryFrame m #[.int 15, .int 17] 2 = mkF m 0 #[.val (.int 15), .val (.int 17)] [] := by simp [entryFrame, mkF, argsToLocals, Value.category]
def QIC2 (Z : State)  (h0 : Heap) (n0 : Nat) (v : Option Value) (h : Heap) (L : List Loc) : Prop := v = some (.int 16) ∧ Fr n0 L ∧ h = h0
theorem rmIC2 (l : Launch) (Z : State) (a0 : Array Value) (hw : HWd a0 Z) (ws : List Jvm.Cond)  (h0 : Heap) (n0 : Nat) (Z0 : n0 ≤ h0.size) :
    own_Met l Y_30 (Jvm.Cond.code Y_30 jdk_21_method_6_code 2 (some .int) :: ws) (RM 0 0 0 0) #[.int 15, .int 17] Z h0 (QIC2 Z  h0 n0) := by
  refine own_bS pn_42 rfl D_42 (fun m => ef_IC2 m) hw fun p e s m below meth c sZ Bd hx hby hml hown hnm hh hZ X0 e0 w H pre0 => ?_
  have N0 := Fr.nil n0
  obtain ⟨fs, hr, hrun, hended, hW, hsame⟩ := X0.leave (v := some (.int 16)) (fun h => by rw [Bd.returns] at h; cases h)
  refine ⟨_, _, pre0 _ ?_, hrun, hended, _, _, rfl, ?_, ⟨_, rfl⟩, hW, hsame.mono (by decide) (by decide)⟩
  · show SG X0 0 #[vI 15, vI 17] [] _
    refine XS.iinc X0.here hx rfl (H 0 rfl) rfl (l' := #[vI 16, vI 17]) rfl ?_
    show SG X0 3 #[vI 16, vI 17] [] _
    refine XS.iloadN X0.here hx rfl (H 1 rfl) rfl ?_
    refine XS.iloadN X0.here hx rfl (H 2 rfl) rfl ?_
    refine XS.icmpYes X0.here hx rfl (pc0 := 5) (pc' := 10) rfl (H 3 rfl) rfl (tlt (by decide : ((16 : Int32) < (17 : Int32)))).1 (by decide) (by decide) ?_
    refine XS.iloadN X0.here hx rfl (H 6 rfl) rfl ?_
    exact retI X0 hx Bd.returns (H 7 rfl) hr
  · show QIC2 Z  h0 n0 _ sZ.heap _
    rw [e0]
    exact ⟨rfl, N0, rfl⟩

theorem ef_PF2 (m : MethodId) (dq : Addr) : entryFrame m #[.ref dq] 4 = mkF m 0 #[.val (.ref dq), .unset, .unset, .unset] [] := by simp [entryFrame, mkF, argsToLocals, Value.category]
def QPF2 (Z : State) (dq el : Addr) (ke : ClassId) (y1 y2 : Addr) (h0 : Heap) (n0 : Nat) (v : Option Value) (h : Heap) (L : List Loc) : Prop := v = some (.ref y2) ∧ Fr n0 L ∧ Keep h0 h [dq, el] ∧ Fld Z h dq sD "elements" sLO (.ref el) ∧ Fld Z h dq sD "head" "I" (.int 16) ∧ Fld Z h dq sD "tail" "I" (.int 0) ∧ Arv Z h el ke (.object sO) (17 : Int32) [.null, .null, .null, .null, .null, .null, .null, .null, .null, .null, .null, .null, .null, .null, .null, .null, .ref y1] .null
theorem rmPF2 (l : Launch) (Z : State) (a0 : Array Value) (hw : HWd a0 Z) (ws : List Jvm.Cond) (dq el : Addr) (ke : ClassId) (y1 y2 : Addr) (h0 : Heap) (n0 : Nat) (Z0 : n0 ≤ h0.size) (P0 : Exa Z h0 dq sD) (P1 : Fld Z h0 dq sD "elements" sLO (.ref el)) (P2 : Fld Z h0 dq sD "head" "I" (.int 15)) (P3 : Fld Z h0 dq sD "tail" "I" (.int 0)) (P4 : Arv Z h0 el ke (.object sO) (17 : Int32) [.null, .null, .null, .null, .null, .null, .null, .null, .null, .null, .null, .null, .null, .null, .null, .ref y2, .ref y1] .null) (P5 : Ovr Z ke sO) (g_dq : n0 ≤ dq) (g_el : n0 ≤ el) :
    own_Met l Y_31 (Jvm.Cond.code Y_31 jdk_21_method_20_code 4 (some (.object "java/lang/Object")) :: ws) (RM 1 0 0 14) #[.ref dq] Z h0 (QPF2 Z dq el ke y1 y2 h0 n0) := by
  refine own_bS pn_40 rfl D_40 (fun m => ef_PF2 m dq) hw fun p e s m below meth c sZ Bd hx hby hml hown hnm hh hZ X0 e0 w H pre0 => ?_
  have N0 := Fr.nil n0
  have K0 := Keep.refl h0 [dq, el]
  obtain ⟨T1, X1, e1, st1⟩ := getF X0 hx hZ hown (host := "") (Or.inl (w 70 rfl)) Via.refl e0 P1 (g := (mkF m 1 #[vR dq, vU, vU, vU] [.ref dq])) rfl rfl (H 1 rfl)
  obtain ⟨T2, X2, e2, st2⟩ := getF X1 hx hZ hown (host := "") (Or.inl (w 187 rfl)) Via.refl e1 P2 (g := (mkF m 7 #[vR dq, vR el, vU, vU] [.ref dq, .ref el])) rfl rfl (H 5 rfl)
  obtain ⟨_, T3, lo3, Lc3, X3, N3, hQ3, st3⟩ := own_af (QEA2 Z el ke y1 y2 h0 n0) 0 0 0 0 0 0 (Jvm.LawKit.callS X2 hx (y := Y_29) hown (mvT hZ (w 243 rfl)) (mvT hZ (w 244 rfl)) (mvT hZ (w 57 rfl)) (mvT hZ (w 245 rfl)) (by decide) (backOf (W := 0) (rmEA2 l Z a0 hw [] el ke y1 y2 h0 n0 Z0 P4) hZ (w 245 rfl) (w 57 rfl) (by decide) (by decide)) (g := (mkF m 12 #[vR dq, vR el, vI 15, vU] [.int 15, .ref el])) rfl (by rw [hml]; rfl) (argsL := [.ref el, .int 15]) (rest := []) (lenOf pd_29 rfl) rfl (lq rfl) (H 8 rfl) (fun _ _ => ⟨rfl, e2, (by decide : 0 + 0 ≤ _), (by decide : 0 + 0 ≤ _)⟩)) N0 (fun _ _ _ h => h.2.1) rfl rfl
  dsimp only at st3
  obtain ⟨rfl, N3q, r3_0⟩ := hQ3
  obtain ⟨cl4, Ar4, q4, S4, M4, H4, G4⟩ := id P4
  have hin4 : ¬ ((15 : Int32) < 0 ∨ cl4.slots.size ≤ ((15 : Int32)).toNatClampNeg) := inb_of S4 ⟨by decide, by decide⟩
  obtain ⟨T4, h4, X4, e4, W4, st4⟩ := stR X3 hx hZ r3_0 Ar4 (j := (15 : Int32)) hin4 rfl (Or.inl rfl) (g := (mkF m 23 #[vR dq, vR el, vI 15, vR y2] [.null, .int 15, .ref el])) rfl rfl (H 15 rfl)
  have V4 := Arv.set Ar4 q4 S4 M4 H4 G4 rfl W4 15 rfl (bl rfl)
  have f5 := P0.wr W4
  have ne6 : dq ≠ el := Exa.neArv P0 P4 (w 56 rfl)
  have f8 := P2.other W4 (Or.inl ne6)
  have K4 := K0.wr W4 (own_m 1 rfl)
  have N4 := Fr.snoc X4 N3 g_el
  have Z4 : n0 ≤ h4.size := Nat.le_trans Z0 (Keep.of_wr W4).1
  have U4 : Arv Z h4 el ke (.object "java/lang/Object") (17 : Int32) [.null, .null, .null, .null, .null, .null, .null, .null, .null, .null, .null, .null, .null, .null, .null, .null, .ref y1] .null := V4
  obtain ⟨_, T10, lo10, Lc10, X10, N10, hQ10, st10⟩ := own_af (QIC2 Z  h4 n0) 0 0 0 0 0 0 (Jvm.LawKit.callS X4 hx (y := Y_30) hown (mvT hZ (w 246 rfl)) (mvT hZ (w 247 rfl)) (mvT hZ (w 57 rfl)) (mvT hZ (w 248 rfl)) (by decide) (backOf (W := 1) (rmIC2 l Z a0 hw []  h4 n0 Z4) hZ (w 248 rfl) (w 57 rfl) (by decide) (by decide)) (g := (mkF m 28 #[vR dq, vR el, vI 15, vR y2] [.int 17, .int 15, .ref dq])) rfl (by rw [hml]; rfl) (argsL := [.int 15, .int 17]) (rest := [.ref dq]) (lenOf pd_13 rfl) rfl (lq rfl) (H 20 rfl) (fun _ _ => ⟨rfl, e4, (by decide : 0 + 0 ≤ _), (by decide : 0 + 0 ≤ _)⟩)) N4 (fun _ _ _ h => h.2.1) rfl rfl
  dsimp only at st10
  obtain ⟨rfl, N10q, r10_0⟩ := hQ10
  obtain ⟨T11, h11, X11, e11, W11, st11⟩ := putF X10 hx hZ hown (host := "") (Or.inl (w 187 rfl)) Via.refl r10_0 f8 f5 (Or.inl (w 188 rfl)) (w 56 rfl) (ty := .int) (by decide) rfl rfl (g := (mkF m 31 #[vR dq, vR el, vI 15, vR y2] [.int 16, .ref dq])) rfl rfl (H 21 rfl)
  have f12 := f8.same W11
  have f14 := (P1.other W4 (Or.inl ne6)).other W11 (Or.inr (slot_ne (Or.inl (w 71 rfl)) (Or.inl (w 188 rfl)) (by decide) (t := (.array (.object "java/lang/Object"))) (t' := .int) (by decide) (by decide)))
  have f15 := (P3.other W4 (Or.inl ne6)).other W11 (Or.inr (slot_ne (Or.inl (w 186 rfl)) (Or.inl (w 188 rfl)) (by decide) (t := .int) (t' := .int) (by decide) (by decide)))
  have f16 := U4.other W11 (Ne.symm ne6)
  have K11 := K4.wr W11 (own_m 0 rfl)
  have N11 := Fr.snoc X11 N10 g_dq
  obtain ⟨fs, hr, hrun, hended, hW, hsame⟩ := X11.leave (v := some (.ref y2)) (fun h => by rw [Bd.returns] at h; cases h)
  refine ⟨_, _, pre0 _ ?_, hrun, hended, _, _, rfl, ?_, ⟨_, rfl⟩, hW, hsame.mono (by decide) (by decide)⟩
  · show SG X0 0 #[vR dq, vU, vU, vU] [] _
    refine XS.aloadN X0.here hx rfl (H 0 rfl) rfl rfl ?_
    refine st1 _ ?_
    show SG X1 4 #[vR dq, vU, vU, vU] [.ref el] _
    refine XS.dup X1.here hx rfl (H 2 rfl) rfl rfl ?_
    refine XS.astoreN X1.here hx rfl (H 3 rfl) rfl rfl (l' := #[vR dq, vR el, vU, vU]) rfl ?_
    refine XS.aloadN X1.here hx rfl (H 4 rfl) rfl rfl ?_
    refine st2 _ ?_
    show SG X2 10 #[vR dq, vR el, vU, vU] [.int 15, .ref el] _
    refine XS.dup X2.here hx rfl (H 6 rfl) rfl rfl ?_
    refine XS.istoreN X2.here hx rfl (H 7 rfl) rfl (l' := #[vR dq, vR el, vI 15, vU]) rfl ?_
    refine st3 _ ?_
    show SG X3 15 #[vR dq, vR el, vI 15, vU] [.ref y2] _
    refine XS.astoreN X3.here hx rfl (H 9 rfl) rfl rfl (l' := #[vR dq, vR el, vI 15, vR y2]) rfl ?_
    refine XS.aloadN X3.here hx rfl (H 10 rfl) rfl rfl ?_
    refine XS.ifnullNo X3.here hx rfl (H 11 rfl) rfl ?_
    refine XS.aloadN X3.here hx rfl (H 12 rfl) rfl rfl ?_
    refine XS.iloadN X3.here hx rfl (H 13 rfl) rfl ?_
    refine XS.aconstNull X3.here hx rfl (H 14 rfl) ?_
    refine st4 _ ?_
    show SG X4 24 #[vR dq, vR el, vI 15, vR y2] [] _
    refine XS.aloadN X4.here hx rfl (H 16 rfl) rfl rfl ?_
    refine XS.iloadN X4.here hx rfl (H 17 rfl) rfl ?_
    refine XS.aloadN X4.here hx rfl (H 18 rfl) rfl rfl ?_
    refine own_alen X4 hx hZ e4 U4 (H 19 rfl) ?_
    refine st10 _ ?_
    show SG X10 31 #[vR dq, vR el, vI 15, vR y2] [.int 16, .ref dq] _
    refine st11 _ ?_
    show SG X11 34 #[vR dq, vR el, vI 15, vR y2] [] _
    refine XS.aloadN X11.here hx rfl (H 22 rfl) rfl rfl ?_
    jvm_step X11.here [X11.here.top, hx, (H 23 rfl), X11.method', Bd.returns, Value.isRef, FieldType.isReference]
    first | (intro acts; rw [hr _ acts rfl rfl rfl]) | rw [hr _ _ rfl rfl rfl]
    exact Steps.refl _
  · show QPF2 Z dq el ke y1 y2 h0 n0 _ T11.heap _
    rw [e11]
    exact ⟨rfl, N11, K11, f14, f12, f15, f16⟩

theorem ef_RF2 (m : MethodId) (dq : Addr) : entryFrame m #[.ref dq] 2 = mkF m 0 #[.val (.ref dq), .unset] [] := by simp [entryFrame, mkF, argsToLocals, Value.category]
def QRF2 (Z : State) (dq el : Addr) (ke : ClassId) (y1 y2 : Addr) (h0 : Heap) (n0 : Nat) (v : Option Value) (h : Heap) (L : List Loc) : Prop := v = some (.ref y2) ∧ Fr n0 L ∧ Keep h0 h [dq, el] ∧ Fld Z h dq sD "elements" sLO (.ref el) ∧ Fld Z h dq sD "head" "I" (.int 16) ∧ Fld Z h dq sD "tail" "I" (.int 0) ∧ Arv Z h el ke (.object sO) (17 : Int32) [.null, .null, .null, .null, .null, .null, .null, .null, .null, .null, .null, .null, .null, .null, .null, .null, .ref y1] .null
theorem rmRF2 (l : Launch) (Z : State) (a0 : Array Value) (hw : HWd a0 Z) (ws : List Jvm.Cond) (dq el : Addr) (ke : ClassId) (y1 y2 : Addr) (h0 : Heap) (n0 : Nat) (Z0 : n0 ≤ h0.size) (P0 : Exa Z h0 dq sD) (P1 : Fld Z h0 dq sD "elements" sLO (.ref el)) (P2 : Fld Z h0 dq sD "head" "I" (.int 15)) (P3 : Fld Z h0 dq sD "tail" "I" (.int 0)) (P4 : Arv Z h0 el ke (.object sO) (17 : Int32) [.null, .null, .null, .null, .null, .null, .null, .null, .null, .null, .null, .null, .null, .null, .null, .ref y2, .ref y1] .null) (P5 : Ovr Z ke sO) (g_dq : n0 ≤ dq) (g_el : n0 ≤ el) :
    own_Met l Y_32 (Jvm.Cond.code Y_32 jdk_21_method_18_code 2 (some (.object "java/lang/Object")) :: ws) (RM 2 0 0 29) #[.ref dq] Z h0 (QRF2 Z dq el ke y1 y2 h0 n0) := by
  refine own_bS pn_39 rfl D_39 (fun m => ef_RF2 m dq) hw fun p e s m below meth c sZ Bd hx hby hml hown hnm hh hZ X0 e0 w H pre0 => ?_
  have N0 := Fr.nil n0
  have K0 := Keep.refl h0 [dq, el]
  obtain ⟨cq1, kq1, q1a, q1b, q1c⟩ := isOf hZ e0 P0
  obtain ⟨_, T1, lo1, Lc1, X1, N1, hQ1, st1⟩ := own_af (QPF2 Z dq el ke y1 y2 h0 n0) 0 0 0 0 0 0 (X0.virtualBack hx (y := Y_31) (z := Y_31) hown (mvT hZ (w 238 rfl)) (mvT hZ (w 239 rfl)) (own_ns hZ (w 241 rfl)) (mvT hZ (w 241 rfl)) (mvT hZ (w 240 rfl)) (by decide) (backOf (W := 0) (rmPF2 l Z a0 hw [] dq el ke y1 y2 h0 n0 Z0 P0 P1 P2 P3 P4 P5 g_dq g_el) hZ (w 242 rfl) (w 57 rfl) (by decide) (by decide)) q1a q1c (g := (mkF m 1 #[vR dq, vU] [.ref dq])) rfl (by rw [hml]; rfl) (Steps.refl _) (argsL := []) (rest := []) (lenOf pd_28 rfl) rfl (lq rfl) (H 1 rfl) (fun _ _ => ⟨rfl, e0, (by decide : 0 + 0 ≤ _), (by decide : 0 + 0 ≤ _)⟩)) N0 (fun _ _ _ h => h.2.1) rfl rfl
  dsimp only at st1
  obtain ⟨rfl, N1q, r1_0, r1_1, r1_2, r1_3, r1_4⟩ := hQ1
  have K1 := K0.trans r1_0 (allS (own_m 0 rfl) (allS (own_m 1 rfl) all0))
  obtain ⟨fs, hr, hrun, hended, hW, hsame⟩ := X1.leave (v := some (.ref y2)) (fun h => by rw [Bd.returns] at h; cases h)
  refine ⟨_, _, pre0 _ ?_, hrun, hended, _, _, rfl, ?_, ⟨_, rfl⟩, hW, hsame.mono (by decide) (by decide)⟩
  · show SG X0 0 #[vR dq, vU] [] _
    refine XS.aloadN X0.here hx rfl (H 0 rfl) rfl rfl ?_
    refine st1.trans ?_
    show SG X1 4 #[vR dq, vU] [.ref y2] _
    refine XS.astoreN X1.here hx rfl (H 2 rfl) rfl rfl (l' := #[vR dq, vR y2]) rfl ?_
    refine XS.aloadN X1.here hx rfl (H 3 rfl) rfl rfl ?_
    refine XS.ifnonnullYes X1.here hx rfl (pc0 := 6) (pc' := 17) rfl (H 4 rfl) rfl (by decide) (by decide) ?_
    refine XS.aloadN X1.here hx rfl (H 5 rfl) rfl rfl ?_
    jvm_step X1.here [X1.here.top, hx, (H 6 rfl), X1.method', Bd.returns, Value.isRef, FieldType.isReference]
    first | (intro acts; rw [hr _ acts rfl rfl rfl]) | rw [hr _ _ rfl rfl rfl]
    exact Steps.refl _
  · show QRF2 Z dq el ke y1 y2 h0 n0 _ T1.heap _
    exact ⟨rfl, N1, K1, r1_1, r1_2, r1_3, r1_4⟩

theorem ef_PO2 (m : MethodId) (dq : Addr) : entryFrame m #[.ref dq] 1 = mkF m 0 #[.val (.ref dq)] [] := by simp [entryFrame, mkF, argsToLocals, Value.category]
def QPO2 (Z : State) (dq el : Addr) (ke : ClassId) (y1 y2 : Addr) (h0 : Heap) (n0 : Nat) (v : Option Value) (h : Heap) (L : List Loc) : Prop := v = some (.ref y2) ∧ Fr n0 L ∧ Keep h0 h [dq, el] ∧ Fld Z h dq sD "elements" sLO (.ref el) ∧ Fld Z h dq sD "head" "I" (.int 16) ∧ Fld Z h dq sD "tail" "I" (.int 0) ∧ Arv Z h el ke (.object sO) (17 : Int32) [.null, .null, .null, .null, .null, .null, .null, .null, .null, .null, .null, .null, .null, .null, .null, .null, .ref y1] .null
theorem rmPO2 (l : Launch) (Z : State) (a0 : Array Value) (hw : HWd a0 Z) (ws : List Jvm.Cond) (dq el : Addr) (ke : ClassId) (y1 y2 : Addr) (h0 : Heap) (n0 : Nat) (Z0 : n0 ≤ h0.size) (P0 : Exa Z h0 dq sD) (P1 : Fld Z h0 dq sD "elements" sLO (.ref el)) (P2 : Fld Z h0 dq sD "head" "I" (.int 15)) (P3 : Fld Z h0 dq sD "tail" "I" (.int 0)) (P4 : Arv Z h0 el ke (.object sO) (17 : Int32) [.null, .null, .null, .null, .null, .null, .null, .null, .null, .null, .null, .null, .null, .null, .null, .ref y2, .ref y1] .null) (P5 : Ovr Z ke sO) (g_dq : n0 ≤ dq) (g_el : n0 ≤ el) :
    own_Met l Y_33 (Jvm.Cond.code Y_33 jdk_21_method_35_code 1 (some (.object "java/lang/Object")) :: ws) (RM 3 0 0 42) #[.ref dq] Z h0 (QPO2 Z dq el ke y1 y2 h0 n0) := by
  refine own_bS pn_38 rfl D_38 (fun m => ef_PO2 m dq) hw fun p e s m below meth c sZ Bd hx hby hml hown hnm hh hZ X0 e0 w H pre0 => ?_
  have N0 := Fr.nil n0
  have K0 := Keep.refl h0 [dq, el]
  obtain ⟨cq1, kq1, q1a, q1b, q1c⟩ := isOf hZ e0 P0
  obtain ⟨_, T1, lo1, Lc1, X1, N1, hQ1, st1⟩ := own_af (QRF2 Z dq el ke y1 y2 h0 n0) 0 0 0 0 0 0 (X0.virtualBack hx (y := Y_32) (z := Y_32) hown (mvT hZ (w 233 rfl)) (mvT hZ (w 234 rfl)) (own_ns hZ (w 236 rfl)) (mvT hZ (w 236 rfl)) (mvT hZ (w 235 rfl)) (by decide) (backOf (W := 0) (rmRF2 l Z a0 hw [] dq el ke y1 y2 h0 n0 Z0 P0 P1 P2 P3 P4 P5 g_dq g_el) hZ (w 237 rfl) (w 57 rfl) (by decide) (by decide)) q1a q1c (g := (mkF m 1 #[vR dq] [.ref dq])) rfl (by rw [hml]; rfl) (Steps.refl _) (argsL := []) (rest := []) (lenOf pd_28 rfl) rfl (lq rfl) (H 1 rfl) (fun _ _ => ⟨rfl, e0, (by decide : 0 + 0 ≤ _), (by decide : 0 + 0 ≤ _)⟩)) N0 (fun _ _ _ h => h.2.1) rfl rfl
  dsimp only at st1
  obtain ⟨rfl, N1q, r1_0, r1_1, r1_2, r1_3, r1_4⟩ := hQ1
  have K1 := K0.trans r1_0 (allS (own_m 0 rfl) (allS (own_m 1 rfl) all0))
  obtain ⟨fs, hr, hrun, hended, hW, hsame⟩ := X1.leave (v := some (.ref y2)) (fun h => by rw [Bd.returns] at h; cases h)
  refine ⟨_, _, pre0 _ ?_, hrun, hended, _, _, rfl, ?_, ⟨_, rfl⟩, hW, hsame.mono (by decide) (by decide)⟩
  · show SG X0 0 #[vR dq] [] _
    refine XS.aloadN X0.here hx rfl (H 0 rfl) rfl rfl ?_
    refine st1.trans ?_
    show SG X1 4 #[vR dq] [.ref y2] _
    jvm_step X1.here [X1.here.top, hx, (H 2 rfl), X1.method', Bd.returns, Value.isRef, FieldType.isReference]
    first | (intro acts; rw [hr _ acts rfl rfl rfl]) | rw [hr _ _ rfl rfl rfl]
    exact Steps.refl _
  · show QPO2 Z dq el ke y1 y2 h0 n0 _ T1.heap _
    exact ⟨rfl, N1, K1, r1_1, r1_2, r1_3, r1_4⟩

theorem ef_EA1 (m : MethodId) (el : Addr) : entryFrame m #[.ref el, .int 16] 2 = mkF m 0 #[.val (.ref el), .val (.int 16)] [] := by simp [entryFrame, mkF, argsToLocals, Value.category]
def QEA1 (Z : State) (el : Addr) (ke : ClassId) (y1 : Addr) (h0 : Heap) (n0 : Nat) (v : Option Value) (h : Heap) (L : List Loc) : Prop := v = some (.ref y1) ∧ Fr n0 L ∧ h = h0
theorem rmEA1 (l : Launch) (Z : State) (a0 : Array Value) (hw : HWd a0 Z) (ws : List Jvm.Cond) (el : Addr) (ke : ClassId) (y1 : Addr) (h0 : Heap) (n0 : Nat) (Z0 : n0 ≤ h0.size) (P0 : Arv Z h0 el ke (.object sO) (17 : Int32) [.null, .null, .null, .null, .null, .null, .null, .null, .null, .null, .null, .null, .null, .null, .null, .null, .ref y1] .null) :
    own_Met l Y_29 (Jvm.Cond.code Y_29 jdk_21_method_10_code 2 (some (.object "java/lang/Object")) :: ws) (RM 0 0 0 0) #[.ref el, .int 16] Z h0 (QEA1 Z el ke y1 h0 n0) := by
  refine own_bS pn_41 rfl D_41 (fun m => ef_EA1 m el) hw fun p e s m below meth c sZ Bd hx hby hml hown hnm hh hZ X0 e0 w H pre0 => ?_
  have N0 := Fr.nil n0
  obtain ⟨cl1, Ar1, -, S1, M1, H1, G1⟩ := id P0
  have hin1 : ¬ ((16 : Int32) < 0 ∨ cl1.slots.size ≤ ((16 : Int32)).toNatClampNeg) := inb_of S1 ⟨by decide, by decide⟩
  have hat1 : cl1.slots[((16 : Int32)).toNatClampNeg]? = some (.ref y1) := Has.at H1 hin1 rfl
  obtain ⟨fs, hr, hrun, hended, hW, hsame⟩ := X0.leave (v := some (.ref y1)) (fun h => by rw [Bd.returns] at h; cases h)
  refine ⟨_, _, pre0 _ ?_, hrun, hended, _, _, rfl, ?_, ⟨_, rfl⟩, hW, hsame.mono (by decide) (by decide)⟩
  · show SG X0 0 #[vR el, vI 16] [] _
    refine XS.aloadN X0.here hx rfl (H 0 rfl) rfl rfl ?_
    refine XS.iloadN X0.here hx rfl (H 1 rfl) rfl ?_
    refine X0.aaload hx (j := (16 : Int32)) (v := (.ref y1)) (by rw [e0]; exact Ar1.1) (State.isArrayOf_alike hZ.alike Ar1.2.1) rfl Ar1.2.2 hin1 hat1 (g := (mkF m 2 #[vR el, vI 16] [.int 16, .ref el])) rfl rfl (H 2 rfl) _ ?_
    show SG X0 3 #[vR el, vI 16] [.ref y1] _
    jvm_step X0.here [X0.here.top, hx, (H 3 rfl), X0.method', Bd.returns, Value.isRef, FieldType.isReference]
    first | (intro acts; rw [hr _ acts rfl rfl rfl]) | rw [hr _ _ rfl rfl rfl]
    exact Steps.refl _
  · show QEA1 Z el ke y1 h0 n0 _ sZ.heap _
    rw [e0]
    exact ⟨rfl, N0, rfl⟩

theorem ef_IC1 (m : MethodId)  : entryFrame m #[.int 16, .int 17] 2 = mkF m 0 #[.val (.int 16), .val (.int 17)] [] := by simp [entryFrame, mkF, argsToLocals, Value.category]
def QIC1 (Z : State)  (h0 : Heap) (n0 : Nat) (v : Option Value) (h : Heap) (L : List Loc) : Prop := v = some (.int 0) ∧ Fr n0 L ∧ h = h0
theorem rmIC1 (l : Launch) (Z : State) (a0 : Array Value) (hw : HWd a0 Z) (ws : List Jvm.Cond)  (h0 : Heap) (n0 : Nat) (Z0 : n0 ≤ h0.size) :
    own_Met l Y_30 (Jvm.Cond.code Y_30 jdk_21_method_6_code 2 (some .int) :: ws) (RM 0 0 0 0) #[.int 16, .int 17] Z h0 (QIC1 Z  h0 n0) := by
  refine own_bS pn_42 rfl D_42 (fun m => ef_IC1 m) hw fun p e s m below meth c sZ Bd hx hby hml hown hnm hh hZ X0 e0 w H pre0 => ?_
  have N0 := Fr.nil n0
  obtain ⟨fs, hr, hrun, hended, hW, hsame⟩ := X0.leave (v := some (.int 0)) (fun h => by rw [Bd.returns] at h; cases h)
  refine ⟨_, _, pre0 _ ?_, hrun, hended, _, _, rfl, ?_, ⟨_, rfl⟩, hW, hsame.mono (by decide) (by decide)⟩
  · show SG X0 0 #[vI 16, vI 17] [] _
    refine XS.iinc X0.here hx rfl (H 0 rfl) rfl (l' := #[vI 17, vI 17]) rfl ?_
    show SG X0 3 #[vI 17, vI 17] [] _
    refine XS.iloadN X0.here hx rfl (H 1 rfl) rfl ?_
    refine XS.iloadN X0.here hx rfl (H 2 rfl) rfl ?_
    refine XS.icmpNo X0.here hx rfl (H 3 rfl) rfl (flt (by decide : ¬ ((17 : Int32) < (17 : Int32)))).1 ?_
    refine XS.iconst X0.here hx rfl (H 4 rfl) ?_
    refine XS.istoreN X0.here hx rfl (H 5 rfl) rfl (l' := #[vI 0, vI 17]) rfl ?_
    refine XS.iloadN X0.here hx rfl (H 6 rfl) rfl ?_
    exact retI X0 hx Bd.returns (H 7 rfl) hr
  · show QIC1 Z  h0 n0 _ sZ.heap _
    rw [e0]
    exact ⟨rfl, N0, rfl⟩

theorem ef_PF1 (m : MethodId) (dq : Addr) : entryFrame m #[.ref dq] 4 = mkF m 0 #[.val (.ref dq), .unset, .unset, .unset] [] := by simp [entryFrame, mkF, argsToLocals, Value.category]
def QPF1 (Z : State) (dq el : Addr) (ke : ClassId) (y1 : Addr) (h0 : Heap) (n0 : Nat) (v : Option Value) (h : Heap) (L : List Loc) : Prop := v = some (.ref y1) ∧ Fr n0 L ∧ Keep h0 h [dq, el] ∧ Fld Z h dq sD "elements" sLO (.ref el) ∧ Fld Z h dq sD "head" "I" (.int 0) ∧ Fld Z h dq sD "tail" "I" (.int 0) ∧ Arv Z h el ke (.object sO) (17 : Int32) [.null, .null, .null, .null, .null, .null, .null, .null, .null, .null, .null, .null, .null, .null, .null, .null, .null] .null
theorem rmPF1 (l : Launch) (Z : State) (a0 : Array Value) (hw : HWd a0 Z) (ws : List Jvm.Cond) (dq el : Addr) (ke : ClassId) (y1 : Addr) (h0 : Heap) (n0 : Nat) (Z0 : n0 ≤ h0.size) (P0 : Exa Z h0 dq sD) (P1 : Fld Z h0 dq sD "elements" sLO (.ref el)) (P2 : Fld Z h0 dq sD "head" "I" (.int 16)) (P3 : Fld Z h0 dq sD "tail" "I" (.int 0)) (P4 : Arv Z h0 el ke (.object sO) (17 : Int32) [.null, .null, .null, .null, .null, .null, .null, .null, .null, .null, .null, .null, .null, .null, .null, .null, .ref y1] .null) (P5 : Ovr Z ke sO) (g_dq : n0 ≤ dq) (g_el : n0 ≤ el) :
    own_Met l Y_31 (Jvm.Cond.code Y_31 jdk_21_method_20_code 4 (some (.object "java/lang/Object")) :: ws) (RM 1 0 0 14) #[.ref dq] Z h0 (QPF1 Z dq el ke y1 h0 n0) := by
  refine own_bS pn_40 rfl D_40 (fun m => ef_PF1 m dq) hw fun p e s m below meth c sZ Bd hx hby hml hown hnm hh hZ X0 e0 w H pre0 => ?_
  have N0 := Fr.nil n0
  have K0 := Keep.refl h0 [dq, el]
  obtain ⟨T1, X1, e1, st1⟩ := getF X0 hx hZ hown (host := "") (Or.inl (w 70 rfl)) Via.refl e0 P1 (g := (mkF m 1 #[vR dq, vU, vU, vU] [.ref dq])) rfl rfl (H 1 rfl)
  obtain ⟨T2, X2, e2, st2⟩ := getF X1 hx hZ hown (host := "") (Or.inl (w 187 rfl)) Via.refl e1 P2 (g := (mkF m 7 #[vR dq, vR el, vU, vU] [.ref dq, .ref el])) rfl rfl (H 5 rfl)
  obtain ⟨_, T3, lo3, Lc3, X3, N3, hQ3, st3⟩ := own_af (QEA1 Z el ke y1 h0 n0) 0 0 0 0 0 0 (Jvm.LawKit.callS X2 hx (y := Y_29) hown (mvT hZ (w 243 rfl)) (mvT hZ (w 244 rfl)) (mvT hZ (w 57 rfl)) (mvT hZ (w 245 rfl)) (by decide) (backOf (W := 0) (rmEA1 l Z a0 hw [] el ke y1 h0 n0 Z0 P4) hZ (w 245 rfl) (w 57 rfl) (by decide) (by decide)) (g := (mkF m 12 #[vR dq, vR el, vI 16, vU] [.int 16, .ref el])) rfl (by rw [hml]; rfl) (argsL := [.ref el, .int 16]) (rest := []) (lenOf pd_29 rfl) rfl (lq rfl) (H 8 rfl) (fun _ _ => ⟨rfl, e2, (by decide : 0 + 0 ≤ _), (by decide : 0 + 0 ≤ _)⟩)) N0 (fun _ _ _ h => h.2.1) rfl rfl
  dsimp only at st3
  obtain ⟨rfl, N3q, r3_0⟩ := hQ3
  obtain ⟨cl4, Ar4, q4, S4, M4, H4, G4⟩ := id P4
  have hin4 : ¬ ((16 : Int32) < 0 ∨ cl4.slots.size ≤ ((16 : Int32)).toNatClampNeg) := inb_of S4 ⟨by decide, by decide⟩
  obtain ⟨T4, h4, X4, e4, W4, st4⟩ := stR X3 hx hZ r3_0 Ar4 (j := (16 : Int32)) hin4 rfl (Or.inl rfl) (g := (mkF m 23 #[vR dq, vR el, vI 16, vR y1] [.null, .int 16, .ref el])) rfl rfl (H 15 rfl)
  have V4 := Arv.set Ar4 q4 S4 M4 H4 G4 rfl W4 16 rfl (bl rfl)
  have f5 := P0.wr W4
  have ne6 : dq ≠ el := Exa.neArv P0 P4 (w 56 rfl)
  have f8 := P2.other W4 (Or.inl ne6)
  have K4 := K0.wr W4 (own_m 1 rfl)
  have N4 := Fr.snoc X4 N3 g_el
  have Z4 : n0 ≤ h4.size := Nat.le_trans Z0 (Keep.of_wr W4).1
  have U4 : Arv Z h4 el ke (.object "java/lang/Object") (17 : Int32) [.null, .null, .null, .null, .null, .null, .null, .null, .null, .null, .null, .null, .null, .null, .null, .null, .null] .null := V4
  obtain ⟨_, T10, lo10, Lc10, X10, N10, hQ10, st10⟩ := own_af (QIC1 Z  h4 n0) 0 0 0 0 0 0 (Jvm.LawKit.callS X4 hx (y := Y_30) hown (mvT hZ (w 246 rfl)) (mvT hZ (w 247 rfl)) (mvT hZ (w 57 rfl)) (mvT hZ (w 248 rfl)) (by decide) (backOf (W := 1) (rmIC1 l Z a0 hw []  h4 n0 Z4) hZ (w 248 rfl) (w 57 rfl) (by decide) (by decide)) (g := (mkF m 28 #[vR dq, vR el, vI 16, vR y1] [.int 17, .int 16, .ref dq])) rfl (by rw [hml]; rfl) (argsL := [.int 16, .int 17]) (rest := [.ref dq]) (lenOf pd_13 rfl) rfl (lq rfl) (H 20 rfl) (fun _ _ => ⟨rfl, e4, (by decide : 0 + 0 ≤ _), (by decide : 0 + 0 ≤ _)⟩)) N4 (fun _ _ _ h => h.2.1) rfl rfl
  dsimp only at st10
  obtain ⟨rfl, N10q, r10_0⟩ := hQ10
  obtain ⟨T11, h11, X11, e11, W11, st11⟩ := putF X10 hx hZ hown (host := "") (Or.inl (w 187 rfl)) Via.refl r10_0 f8 f5 (Or.inl (w 188 rfl)) (w 56 rfl) (ty := .int) (by decide) rfl rfl (g := (mkF m 31 #[vR dq, vR el, vI 16, vR y1] [.int 0, .ref dq])) rfl rfl (H 21 rfl)
  have f12 := f8.same W11
  have f14 := (P1.other W4 (Or.inl ne6)).other W11 (Or.inr (slot_ne (Or.inl (w 71 rfl)) (Or.inl (w 188 rfl)) (by decide) (t := (.array (.object "java/lang/Object"))) (t' := .int) (by decide) (by decide)))
  have f15 := (P3.other W4 (Or.inl ne6)).other W11 (Or.inr (slot_ne (Or.inl (w 186 rfl)) (Or.inl (w 188 rfl)) (by decide) (t := .int) (t' := .int) (by decide) (by decide)))
  have f16 := U4.other W11 (Ne.symm ne6)
  have K11 := K4.wr W11 (own_m 0 rfl)
  have N11 := Fr.snoc X11 N10 g_dq
  obtain ⟨fs, hr, hrun, hended, hW, hsame⟩ := X11.leave (v := some (.ref y1)) (fun h => by rw [Bd.returns] at h; cases h)
  refine ⟨_, _, pre0 _ ?_, hrun, hended, _, _, rfl, ?_, ⟨_, rfl⟩, hW, hsame.mono (by decide) (by decide)⟩
  · show SG X0 0 #[vR dq, vU, vU, vU] [] _
    refine XS.aloadN X0.here hx rfl (H 0 rfl) rfl rfl ?_
    refine st1 _ ?_
    show SG X1 4 #[vR dq, vU, vU, vU] [.ref el] _
    refine XS.dup X1.here hx rfl (H 2 rfl) rfl rfl ?_
    refine XS.astoreN X1.here hx rfl (H 3 rfl) rfl rfl (l' := #[vR dq, vR el, vU, vU]) rfl ?_
    refine XS.aloadN X1.here hx rfl (H 4 rfl) rfl rfl ?_
    refine st2 _ ?_
    show SG X2 10 #[vR dq, vR el, vU, vU] [.int 16, .ref el] _
    refine XS.dup X2.here hx rfl (H 6 rfl) rfl rfl ?_
    refine XS.istoreN X2.here hx rfl (H 7 rfl) rfl (l' := #[vR dq, vR el, vI 16, vU]) rfl ?_
    refine st3 _ ?_
    show SG X3 15 #[vR dq, vR el, vI 16, vU] [.ref y1] _
    refine XS.astoreN X3.here hx rfl (H 9 rfl) rfl rfl (l' := #[vR dq, vR el, vI 16, vR y1]) rfl ?_
    refine XS.aloadN X3.here hx rfl (H 10 rfl) rfl rfl ?_
    refine XS.ifnullNo X3.here hx rfl (H 11 rfl) rfl ?_
    refine XS.aloadN X3.here hx rfl (H 12 rfl) rfl rfl ?_
    refine XS.iloadN X3.here hx rfl (H 13 rfl) rfl ?_
    refine XS.aconstNull X3.here hx rfl (H 14 rfl) ?_
    refine st4 _ ?_
    show SG X4 24 #[vR dq, vR el, vI 16, vR y1] [] _
    refine XS.aloadN X4.here hx rfl (H 16 rfl) rfl rfl ?_
    refine XS.iloadN X4.here hx rfl (H 17 rfl) rfl ?_
    refine XS.aloadN X4.here hx rfl (H 18 rfl) rfl rfl ?_
    refine own_alen X4 hx hZ e4 U4 (H 19 rfl) ?_
    refine st10 _ ?_
    show SG X10 31 #[vR dq, vR el, vI 16, vR y1] [.int 0, .ref dq] _
    refine st11 _ ?_
    show SG X11 34 #[vR dq, vR el, vI 16, vR y1] [] _
    refine XS.aloadN X11.here hx rfl (H 22 rfl) rfl rfl ?_
    jvm_step X11.here [X11.here.top, hx, (H 23 rfl), X11.method', Bd.returns, Value.isRef, FieldType.isReference]
    first | (intro acts; rw [hr _ acts rfl rfl rfl]) | rw [hr _ _ rfl rfl rfl]
    exact Steps.refl _
  · show QPF1 Z dq el ke y1 h0 n0 _ T11.heap _
    rw [e11]
    exact ⟨rfl, N11, K11, f14, f12, f15, f16⟩

theorem ef_RF1 (m : MethodId) (dq : Addr) : entryFrame m #[.ref dq] 2 = mkF m 0 #[.val (.ref dq), .unset] [] := by simp [entryFrame, mkF, argsToLocals, Value.category]
def QRF1 (Z : State) (dq el : Addr) (ke : ClassId) (y1 : Addr) (h0 : Heap) (n0 : Nat) (v : Option Value) (h : Heap) (L : List Loc) : Prop := v = some (.ref y1) ∧ Fr n0 L ∧ Keep h0 h [dq, el] ∧ Fld Z h dq sD "elements" sLO (.ref el) ∧ Fld Z h dq sD "head" "I" (.int 0) ∧ Fld Z h dq sD "tail" "I" (.int 0) ∧ Arv Z h el ke (.object sO) (17 : Int32) [.null, .null, .null, .null, .null, .null, .null, .null, .null, .null, .null, .null, .null, .null, .null, .null, .null] .null
theorem rmRF1 (l : Launch) (Z : State) (a0 : Array Value) (hw : HWd a0 Z) (ws : List Jvm.Cond) (dq el : Addr) (ke : ClassId) (y1 : Addr) (h0 : Heap) (n0 : Nat) (Z0 : n0 ≤ h0.size) (P0 : Exa Z h0 dq sD) (P1 : Fld Z h0 dq sD "elements" sLO (.ref el)) (P2 : Fld Z h0 dq sD "head" "I" (.int 16)) (P3 : Fld Z h0 dq sD "tail" "I" (.int 0)) (P4 : Arv Z h0 el ke (.object sO) (17 : Int32) [.null, .null, .null, .null, .null, .null, .null, .null, .null, .null, .null, .null, .null, .null, .null, .null, .ref y1] .null) (P5 : Ovr Z ke sO) (g_dq : n0 ≤ dq) (g_el : n0 ≤ el) :
    own_Met l Y_32 (Jvm.Cond.code Y_32 jdk_21_method_18_code 2 (some (.object "java/lang/Object")) :: ws) (RM 2 0 0 29) #[.ref dq] Z h0 (QRF1 Z dq el ke y1 h0 n0) := by
  refine own_bS pn_39 rfl D_39 (fun m => ef_RF1 m dq) hw fun p e s m below meth c sZ Bd hx hby hml hown hnm hh hZ X0 e0 w H pre0 => ?_
  have N0 := Fr.nil n0
  have K0 := Keep.refl h0 [dq, el]
  obtain ⟨cq1, kq1, q1a, q1b, q1c⟩ := isOf hZ e0 P0
  obtain ⟨_, T1, lo1, Lc1, X1, N1, hQ1, st1⟩ := own_af (QPF1 Z dq el ke y1 h0 n0) 0 0 0 0 0 0 (X0.virtualBack hx (y := Y_31) (z := Y_31) hown (mvT hZ (w 238 rfl)) (mvT hZ (w 239 rfl)) (own_ns hZ (w 241 rfl)) (mvT hZ (w 241 rfl)) (mvT hZ (w 240 rfl)) (by decide) (backOf (W := 0) (rmPF1 l Z a0 hw [] dq el ke y1 h0 n0 Z0 P0 P1 P2 P3 P4 P5 g_dq g_el) hZ (w 242 rfl) (w 57 rfl) (by decide) (by decide)) q1a q1c (g := (mkF m 1 #[vR dq, vU] [.ref dq])) rfl (by rw [hml]; rfl) (Steps.refl _) (argsL := []) (rest := []) (lenOf pd_28 rfl) rfl (lq rfl) (H 1 rfl) (fun _ _ => ⟨rfl, e0, (by decide : 0 + 0 ≤ _), (by decide : 0 + 0 ≤ _)⟩)) N0 (fun _ _ _ h => h.2.1) rfl rfl
  dsimp only at st1
  obtain ⟨rfl, N1q, r1_0, r1_1, r1_2, r1_3, r1_4⟩ := hQ1
  have K1 := K0.trans r1_0 (allS (own_m 0 rfl) (allS (own_m 1 rfl) all0))
  obtain ⟨fs, hr, hrun, hended, hW, hsame⟩ := X1.leave (v := some (.ref y1)) (fun h => by rw [Bd.returns] at h; cases h)
  refine ⟨_, _, pre0 _ ?_, hrun, hended, _, _, rfl, ?_, ⟨_, rfl⟩, hW, hsame.mono (by decide) (by decide)⟩
  · show SG X0 0 #[vR dq, vU] [] _
    refine XS.aloadN X0.here hx rfl (H 0 rfl) rfl rfl ?_
    refine st1.trans ?_
    show SG X1 4 #[vR dq, vU] [.ref y1] _
    refine XS.astoreN X1.here hx rfl (H 2 rfl) rfl rfl (l' := #[vR dq, vR y1]) rfl ?_
    refine XS.aloadN X1.here hx rfl (H 3 rfl) rfl rfl ?_
    refine XS.ifnonnullYes X1.here hx rfl (pc0 := 6) (pc' := 17) rfl (H 4 rfl) rfl (by decide) (by decide) ?_
    refine XS.aloadN X1.here hx rfl (H 5 rfl) rfl rfl ?_
    jvm_step X1.here [X1.here.top, hx, (H 6 rfl), X1.method', Bd.returns, Value.isRef, FieldType.isReference]
    first | (intro acts; rw [hr _ acts rfl rfl rfl]) | rw [hr _ _ rfl rfl rfl]
    exact Steps.refl _
  · show QRF1 Z dq el ke y1 h0 n0 _ T1.heap _
    exact ⟨rfl, N1, K1, r1_1, r1_2, r1_3, r1_4⟩

theorem ef_PO1 (m : MethodId) (dq : Addr) : entryFrame m #[.ref dq] 1 = mkF m 0 #[.val (.ref dq)] [] := by simp [entryFrame, mkF, argsToLocals, Value.category]
def QPO1 (Z : State) (dq el : Addr) (ke : ClassId) (y1 : Addr) (h0 : Heap) (n0 : Nat) (v : Option Value) (h : Heap) (L : List Loc) : Prop := v = some (.ref y1) ∧ Fr n0 L ∧ Keep h0 h [dq, el] ∧ Fld Z h dq sD "elements" sLO (.ref el) ∧ Fld Z h dq sD "head" "I" (.int 0) ∧ Fld Z h dq sD "tail" "I" (.int 0) ∧ Arv Z h el ke (.object sO) (17 : Int32) [.null, .null, .null, .null, .null, .null, .null, .null, .null, .null, .null, .null, .null, .null, .null, .null, .null] .null
theorem rmPO1 (l : Launch) (Z : State) (a0 : Array Value) (hw : HWd a0 Z) (ws : List Jvm.Cond) (dq el : Addr) (ke : ClassId) (y1 : Addr) (h0 : Heap) (n0 : Nat) (Z0 : n0 ≤ h0.size) (P0 : Exa Z h0 dq sD) (P1 : Fld Z h0 dq sD "elements" sLO (.ref el)) (P2 : Fld Z h0 dq sD "head" "I" (.int 16)) (P3 : Fld Z h0 dq sD "tail" "I" (.int 0)) (P4 : Arv Z h0 el ke (.object sO) (17 : Int32) [.null, .null, .null, .null, .null, .null, .null, .null, .null, .null, .null, .null, .null, .null, .null, .null, .ref y1] .null) (P5 : Ovr Z ke sO) (g_dq : n0 ≤ dq) (g_el : n0 ≤ el) :
    own_Met l Y_33 (Jvm.Cond.code Y_33 jdk_21_method_35_code 1 (some (.object "java/lang/Object")) :: ws) (RM 3 0 0 42) #[.ref dq] Z h0 (QPO1 Z dq el ke y1 h0 n0) := by
  refine own_bS pn_38 rfl D_38 (fun m => ef_PO1 m dq) hw fun p e s m below meth c sZ Bd hx hby hml hown hnm hh hZ X0 e0 w H pre0 => ?_
  have N0 := Fr.nil n0
  have K0 := Keep.refl h0 [dq, el]
  obtain ⟨cq1, kq1, q1a, q1b, q1c⟩ := isOf hZ e0 P0
  obtain ⟨_, T1, lo1, Lc1, X1, N1, hQ1, st1⟩ := own_af (QRF1 Z dq el ke y1 h0 n0) 0 0 0 0 0 0 (X0.virtualBack hx (y := Y_32) (z := Y_32) hown (mvT hZ (w 233 rfl)) (mvT hZ (w 234 rfl)) (own_ns hZ (w 236 rfl)) (mvT hZ (w 236 rfl)) (mvT hZ (w 235 rfl)) (by decide) (backOf (W := 0) (rmRF1 l Z a0 hw [] dq el ke y1 h0 n0 Z0 P0 P1 P2 P3 P4 P5 g_dq g_el) hZ (w 237 rfl) (w 57 rfl) (by decide) (by decide)) q1a q1c (g := (mkF m 1 #[vR dq] [.ref dq])) rfl (by rw [hml]; rfl) (Steps.refl _) (argsL := []) (rest := []) (lenOf pd_28 rfl) rfl (lq rfl) (H 1 rfl) (fun _ _ => ⟨rfl, e0, (by decide : 0 + 0 ≤ _), (by decide : 0 + 0 ≤ _)⟩)) N0 (fun _ _ _ h => h.2.1) rfl rfl
  dsimp only at st1
  obtain ⟨rfl, N1q, r1_0, r1_1, r1_2, r1_3, r1_4⟩ := hQ1
  have K1 := K0.trans r1_0 (allS (own_m 0 rfl) (allS (own_m 1 rfl) all0))
  obtain ⟨fs, hr, hrun, hended, hW, hsame⟩ := X1.leave (v := some (.ref y1)) (fun h => by rw [Bd.returns] at h; cases h)
  refine ⟨_, _, pre0 _ ?_, hrun, hended, _, _, rfl, ?_, ⟨_, rfl⟩, hW, hsame.mono (by decide) (by decide)⟩
  · show SG X0 0 #[vR dq] [] _
    refine XS.aloadN X0.here hx rfl (H 0 rfl) rfl rfl ?_
    refine st1.trans ?_
    show SG X1 4 #[vR dq] [.ref y1] _
    jvm_step X1.here [X1.here.top, hx, (H 2 rfl), X1.method', Bd.returns, Value.isRef, FieldType.isReference]
    first | (intro acts; rw [hr _ acts rfl rfl rfl]) | rw [hr _ _ rfl rfl rfl]
    exact Steps.refl _
  · show QPO1 Z dq el ke y1 h0 n0 _ T1.heap _
    exact ⟨rfl, N1, K1, r1_1, r1_2, r1_3, r1_4⟩

theorem pn_43 : plainName "java/util/ArrayDeque" = true := by first | (simp [plainName, overriddenIn]; done) | decide +kernel
theorem ef_IE (m : MethodId) (dq : Addr) : entryFrame m #[.ref dq] 1 = mkF m 0 #[.val (.ref dq)] [] := by simp [entryFrame, mkF, argsToLocals, Value.category]
def QIE (Z : State) (dq el : Addr) (ke : ClassId) (h0 : Heap) (n0 : Nat) (v : Option Value) (h : Heap) (L : List Loc) : Prop := v = some (.int 1) ∧ Fr n0 L ∧ h = h0
theorem rmIE (l : Launch) (Z : State) (a0 : Array Value) (hw : HWd a0 Z) (ws : List Jvm.Cond) (dq el : Addr) (ke : ClassId) (h0 : Heap) (n0 : Nat) (Z0 : n0 ≤ h0.size) (P0 : Exa Z h0 dq sD) (P1 : Fld Z h0 dq sD "elements" sLO (.ref el)) (P2 : Fld Z h0 dq sD "head" "I" (.int 0)) (P3 : Fld Z h0 dq sD "tail" "I" (.int 0)) (P4 : Arv Z h0 el ke (.object sO) (17 : Int32) [.null, .null, .null, .null, .null, .null, .null, .null, .null, .null, .null, .null, .null, .null, .null, .null, .null] .null) (P5 : Ovr Z ke sO) :
    own_Met l Y_34 (Jvm.Cond.code Y_34 jdk_21_method_38_code 1 (some .boolean) :: ws) (RM 0 0 0 0) #[.ref dq] Z h0 (QIE Z dq el ke h0 n0) := by
  refine own_bS pn_43 rfl D_43 (fun m => ef_IE m dq) hw fun p e s m below meth c sZ Bd hx hby hml hown hnm hh hZ X0 e0 w H pre0 => ?_
  have N0 := Fr.nil n0
  obtain ⟨T1, X1, e1, st1⟩ := getF X0 hx hZ hown (host := "") (Or.inl (w 187 rfl)) Via.refl e0 P2 (g := (mkF m 1 #[vR dq] [.ref dq])) rfl rfl (H 1 rfl)
  obtain ⟨T2, X2, e2, st2⟩ := getF X1 hx hZ hown (host := "") (Or.inl (w 185 rfl)) Via.refl e1 P3 (g := (mkF m 5 #[vR dq] [.ref dq, .int 0])) rfl rfl (H 3 rfl)
  obtain ⟨fs, hr, hrun, hended, hW, hsame⟩ := X2.leave (v := some (.int 1)) (fun h => by rw [Bd.returns] at h; cases h)
  refine ⟨_, _, pre0 _ ?_, hrun, hended, _, _, rfl, ?_, ⟨_, rfl⟩, hW, hsame.mono (by decide) (by decide)⟩
  · show SG X0 0 #[vR dq] [] _
    refine XS.aloadN X0.here hx rfl (H 0 rfl) rfl rfl ?_
    refine st1 _ ?_
    show SG X1 4 #[vR dq] [.int 0] _
    refine XS.aloadN X1.here hx rfl (H 2 rfl) rfl rfl ?_
    refine st2 _ ?_
    show SG X2 8 #[vR dq] [.int 0, .int 0] _
    refine XS.icmpNo X2.here hx rfl (H 4 rfl) rfl (teq (by decide : ((0 : Int32) = (0 : Int32)))).2 ?_
    refine XS.iconst X2.here hx rfl (H 5 rfl) ?_
    refine XS.goto X2.here hx rfl (pc0 := 12) (pc' := 16) rfl (H 6 rfl) (by decide) (by decide) ?_
    exact retN X2 hx (t := .boolean) Bd.returns (by simp) (H 7 rfl) hr
  · show QIE Z dq el ke h0 n0 _ T2.heap _
    rw [e2]
    exact ⟨rfl, N0, rfl⟩

theorem pn_32 : plainName "java/lang/String" = true := by first | (simp [plainName, overriddenIn]; done) | decide +kernel
theorem ef_RP1 (m : MethodId) (sg : Addr) : entryFrame m #[.ref sg, .int 1] 5 = mkF m 0 #[.val (.ref sg), .val (.int 1), .unset, .unset, .unset] [] := by simp [entryFrame, mkF, argsToLocals, Value.category]
def QRP1 (Z : State) (sg : Addr) (h0 : Heap) (n0 : Nat) (v : Option Value) (h : Heap) (L : List Loc) : Prop := v = some (.ref sg) ∧ Fr n0 L ∧ h = h0
theorem rmRP1 (l : Launch) (Z : State) (a0 : Array Value) (hw : HWd a0 Z) (ws : List Jvm.Cond) (sg : Addr) (h0 : Heap) (n0 : Nat) (Z0 : n0 ≤ h0.size) :
    own_Met l Y_35 (Jvm.Cond.code Y_35 jdk_42_method_145_code 5 (some (.object "java/lang/String")) :: ws) (RM 0 0 0 0) #[.ref sg, .int 1] Z h0 (QRP1 Z sg h0 n0) := by
  refine own_bS pn_32 rfl D_32 (fun m => ef_RP1 m sg) hw fun p e s m below meth c sZ Bd hx hby hml hown hnm hh hZ X0 e0 w H pre0 => ?_
  have N0 := Fr.nil n0
  obtain ⟨fs, hr, hrun, hended, hW, hsame⟩ := X0.leave (v := some (.ref sg)) (fun h => by rw [Bd.returns] at h; cases h)
  refine ⟨_, _, pre0 _ ?_, hrun, hended, _, _, rfl, ?_, ⟨_, rfl⟩, hW, hsame.mono (by decide) (by decide)⟩
  · show SG X0 0 #[vR sg, vI 1, vU, vU, vU] [] _
    refine XS.iloadN X0.here hx rfl (H 0 rfl) rfl ?_
    refine XS.ifYes X0.here hx rfl (pc0 := 1) (pc' := 32) rfl (H 1 rfl) rfl ((if0 _ _).trans (flt (by decide : ¬ ((1 : Int32) < (0 : Int32)))).2.1) (by decide) (by decide) ?_
    refine XS.iloadN X0.here hx rfl (H 2 rfl) rfl ?_
    refine XS.iconst X0.here hx rfl (H 3 rfl) ?_
    refine XS.icmpNo X0.here hx rfl (H 4 rfl) rfl (teq (by decide : ((1 : Int32) = (1 : Int32)))).2 ?_
    refine XS.aloadN X0.here hx rfl (H 5 rfl) rfl rfl ?_
    jvm_step X0.here [X0.here.top, hx, (H 6 rfl), X0.method', Bd.returns, Value.isRef, FieldType.isReference]
    first | (intro acts; rw [hr _ acts rfl rfl rfl]) | rw [hr _ _ rfl rfl rfl]
    exact Steps.refl _
  · show QRP1 Z sg h0 n0 _ sZ.heap _
    rw [e0]
    exact ⟨rfl, N0, rfl⟩

theorem pn_59 : plainName "java/util/Arrays" = true := by first | (simp [plainName, overriddenIn]; done) | decide +kernel
theorem ef_FI (m : MethodId) (bb : Addr) : entryFrame m #[.ref bb, .int 9] 4 = mkF m 0 #[.val (.ref bb), .val (.int 9), .unset, .unset] [] := by simp [entryFrame, mkF, argsToLocals, Value.category]
def QFI (Z : State) (bb : Addr) (kb : ClassId) (h0 : Heap) (n0 : Nat) (v : Option Value) (h : Heap) (L : List Loc) : Prop := v = none ∧ Fr n0 L ∧ Keep h0 h [bb] ∧ Arv Z h bb kb .byte (Int32.ofNat [(9 : Int32), (9 : Int32)].length) (own_iv [(9 : Int32), (9 : Int32)]) (.int 0)
theorem rmFI (l : Launch) (Z : State) (a0 : Array Value) (hw : HWd a0 Z) (ws : List Jvm.Cond) (bb : Addr) (kb : ClassId) (h0 : Heap) (n0 : Nat) (Z0 : n0 ≤ h0.size) (P0 : Arv Z h0 bb kb .byte (2 : Int32) [.int 0, .int 0] (.int 0)) (g_bb : n0 ≤ bb) :
    own_Met l Y_36 (Jvm.Cond.code Y_36 jdk_65_method_109_code 4 none :: ws) (RM 0 0 0 0) #[.ref bb, .int 9] Z h0 (QFI Z bb kb h0 n0) := by
  refine own_bS pn_59 rfl D_59 (fun m => ef_FI m bb) hw fun p e s m below meth c sZ Bd hx hby hml hown hnm hh hZ X0 e0 w H pre0 => ?_
  have N0 := Fr.nil n0
  have K0 := Keep.refl h0 [bb]
  obtain ⟨cl1, Ar1, q1, S1, M1, H1, G1⟩ := id P0
  have hin1 : ¬ ((0 : Int32) < 0 ∨ cl1.slots.size ≤ ((0 : Int32)).toNatClampNeg) := inb_of S1 ⟨by decide, by decide⟩
  obtain ⟨T1, h1, X1, e1, W1, st1⟩ := stB X0 hx hZ e0 Ar1 (j := (0 : Int32)) hin1 (g := (mkF m 13 #[vR bb, vI 9, vI 0, vI 2] [.int 9, .int 0, .ref bb])) rfl rfl (H 11 rfl)
  have V1 := Arv.set Ar1 q1 S1 M1 H1 G1 (fits_nar_byte _) W1 0 rfl (bl rfl)
  have K1 := K0.wr W1 (own_m 0 rfl)
  have N1 := Fr.snoc X1 N0 g_bb
  have U1 : Arv Z h1 bb kb .byte (2 : Int32) [.int ((9 : Int32)).toInt8.toInt32, .int 0] (.int 0) := V1
  obtain ⟨cl2, Ar2, q2, S2, M2, H2, G2⟩ := id U1
  have hin2 : ¬ ((1 : Int32) < 0 ∨ cl2.slots.size ≤ ((1 : Int32)).toNatClampNeg) := inb_of S2 ⟨by decide, by decide⟩
  obtain ⟨T2, h2, X2, e2, W2, st2⟩ := stB X1 hx hZ e1 Ar2 (j := (1 : Int32)) hin2 (g := (mkF m 13 #[vR bb, vI 9, vI 1, vI 2] [.int 9, .int 1, .ref bb])) rfl rfl (H 11 rfl)
  have V2 := Arv.set Ar2 q2 S2 M2 H2 G2 (fits_nar_byte _) W2 1 rfl (bl rfl)
  have K2 := K1.wr W2 (own_m 0 rfl)
  have N2 := Fr.snoc X2 N1 g_bb
  have U2 : Arv Z h2 bb kb .byte (2 : Int32) [.int ((9 : Int32)).toInt8.toInt32, .int ((9 : Int32)).toInt8.toInt32] (.int 0) := V2
  have f3 : Arv Z h2 bb kb .byte (Int32.ofNat [(9 : Int32), (9 : Int32)].length) (own_iv [(9 : Int32), (9 : Int32)]) (.int 0) := own_arv U2 (by decide) (by rfl)
  obtain ⟨fs, hr, hrun, hended, hW, hsame⟩ := X2.leave (v := none) (fun _ => rfl)
  refine ⟨_, _, pre0 _ ?_, hrun, hended, _, _, rfl, ?_, ⟨_, rfl⟩, hW, hsame.mono (by decide) (by decide)⟩
  · show SG X0 0 #[vR bb, vI 9, vU, vU] [] _
    refine XS.iconst X0.here hx rfl (H 0 rfl) ?_
    refine XS.istoreN X0.here hx rfl (H 1 rfl) rfl (l' := #[vR bb, vI 9, vI 0, vU]) rfl ?_
    refine XS.aloadN X0.here hx rfl (H 2 rfl) rfl rfl ?_
    refine own_alen X0 hx hZ e0 P0 (H 3 rfl) ?_
    refine XS.istoreN X0.here hx rfl (H 4 rfl) rfl (l' := #[vR bb, vI 9, vI 0, vI 2]) rfl ?_
    refine XS.iloadN X0.here hx rfl (H 5 rfl) rfl ?_
    refine XS.iloadN X0.here hx rfl (H 6 rfl) rfl ?_
    refine XS.icmpNo X0.here hx rfl (H 7 rfl) rfl (tlt (by decide : ((0 : Int32) < (2 : Int32)))).2.1 ?_
    refine XS.aloadN X0.here hx rfl (H 8 rfl) rfl rfl ?_
    refine XS.iloadN X0.here hx rfl (H 9 rfl) rfl ?_
    refine XS.iloadN X0.here hx rfl (H 10 rfl) rfl ?_
    refine st1 _ ?_
    show SG X1 14 #[vR bb, vI 9, vI 0, vI 2] [] _
    refine XS.iinc X1.here hx rfl (H 12 rfl) rfl (l' := #[vR bb, vI 9, vI 1, vI 2]) rfl ?_
    show SG X1 17 #[vR bb, vI 9, vI 1, vI 2] [] _
    refine XS.goto X1.here hx rfl (pc0 := 17) (pc' := 5) rfl (H 13 rfl) (by decide) (by decide) ?_
    refine XS.iloadN X1.here hx rfl (H 5 rfl) rfl ?_
    refine XS.iloadN X1.here hx rfl (H 6 rfl) rfl ?_
    refine XS.icmpNo X1.here hx rfl (H 7 rfl) rfl (tlt (by decide : ((1 : Int32) < (2 : Int32)))).2.1 ?_
    refine XS.aloadN X1.here hx rfl (H 8 rfl) rfl rfl ?_
    refine XS.iloadN X1.here hx rfl (H 9 rfl) rfl ?_
    refine XS.iloadN X1.here hx rfl (H 10 rfl) rfl ?_
    refine st2 _ ?_
    show SG X2 14 #[vR bb, vI 9, vI 1, vI 2] [] _
    refine XS.iinc X2.here hx rfl (H 12 rfl) rfl (l' := #[vR bb, vI 9, vI 2, vI 2]) rfl ?_
    show SG X2 17 #[vR bb, vI 9, vI 2, vI 2] [] _
    refine XS.goto X2.here hx rfl (pc0 := 17) (pc' := 5) rfl (H 13 rfl) (by decide) (by decide) ?_
    refine XS.iloadN X2.here hx rfl (H 5 rfl) rfl ?_
    refine XS.iloadN X2.here hx rfl (H 6 rfl) rfl ?_
    refine XS.icmpYes X2.here hx rfl (pc0 := 7) (pc' := 20) rfl (H 7 rfl) rfl (flt (by decide : ¬ ((2 : Int32) < (2 : Int32)))).2.1 (by decide) (by decide) ?_
    exact X2.returnOut hx Bd.returns (H 14 rfl) hr
  · show QFI Z bb kb h0 n0 _ T2.heap _
    rw [e2]
    exact ⟨rfl, N2, K2, f3⟩

theorem ef_RP2 (m : MethodId) (sg : Addr) : entryFrame m #[.ref sg, .int 2] 5 = mkF m 0 #[.val (.ref sg), .val (.int 2), .unset, .unset, .unset] [] := by simp [entryFrame, mkF, argsToLocals, Value.category]
def QRP2 (Z : State) (sg ub : Addr) (ku : ClassId) (h0 : Heap) (n0 : Nat) (v : Option Value) (h : Heap) (L : List Loc) : Prop := ∃ xt : Addr, ∃ xb : Addr, ∃ xk : ClassId, v = some (.ref xt) ∧ Fr n0 L ∧ Keep h0 h [] ∧ h0.size ≤ xt ∧ h0.size ≤ xb ∧ Exa Z h xt sS ∧ Fld Z h xt sS "value" "[B" (.ref xb) ∧ Fld Z h xt sS "coder" "B" (.int 0) ∧ Arv Z h xb xk .byte (Int32.ofNat [(9 : Int32), (9 : Int32)].length) (own_iv [(9 : Int32), (9 : Int32)]) (.int 0)
theorem rmRP2 (l : Launch) (Z : State) (a0 : Array Value) (hw : HWd a0 Z) (ws : List Jvm.Cond) (sg ub : Addr) (ku : ClassId) (h0 : Heap) (n0 : Nat) (Z0 : n0 ≤ h0.size) (P0 : Exa Z h0 sg sS) (P1 : Fld Z h0 sg sS "value" "[B" (.ref ub)) (P2 : Fld Z h0 sg sS "coder" "B" (.int 0)) (P3 : Arv Z h0 ub ku .byte (Int32.ofNat [(9 : Int32)].length) (own_iv [(9 : Int32)]) (.int 0)) :
    own_Met l Y_35 (Jvm.Cond.code Y_35 jdk_42_method_145_code 5 (some (.object "java/lang/String")) :: ws) (RM 2 2 6 27) #[.ref sg, .int 2] Z h0 (QRP2 Z sg ub ku h0 n0) := by
  refine own_bS pn_32 rfl D_32 (fun m => ef_RP2 m sg) hw fun p e s m below meth c sZ Bd hx hby hml hown hnm hh hZ X0 e0 w H pre0 => ?_
  have N0 := Fr.nil n0
  have K0 := Keep.refl h0 []
  obtain ⟨T1, X1, e1, st1⟩ := getF X0 hx hZ hown (host := "") (Or.inl (w 25 rfl)) Via.refl e0 P1 (g := (mkF m 40 #[vR sg, vI 2, vU, vU, vU] [.ref sg])) rfl rfl (H 8 rfl)
  obtain ⟨T2, h2, k2, X2, e2, E2, A2, st2⟩ := newP X1 hx hZ (w 17 rfl) e1 (g := (mkF m 82 #[vR sg, vI 2, vI 1, vU, vU] [.int 2])) rfl (H 26 rfl) rfl (by decide) (cap := 2) (by decide) (by decide) (by decide) (by decide)
  obtain ⟨b2, g2⟩ : ∃ z, z = h0.size := ⟨_, rfl⟩
  rw [← g2] at A2 st2
  have g_b2 : n0 ≤ b2 := Nat.le_trans Z0 (Nat.le_of_eq g2.symm)
  have sz_b2 : h0.size ≤ b2 := Nat.le_trans K0.1 (Nat.le_of_eq g2.symm)
  have ne3 : sg ≠ b2 := Nat.ne_of_lt (Nat.lt_of_lt_of_le P0.lt (Nat.le_of_eq g2.symm))
  have f6 := P1.ext E2
  have f8 := P3.ext E2
  have K2 := K0.ext E2
  have Z2 : n0 ≤ h2.size := Nat.le_trans Z0 E2.1
  have V2 : Arv Z h2 b2 k2 .byte (2 : Int32) [.int 0, .int 0] (.int 0) := (Arv.new A2 (by decide)).pad (pad_rep [] (.int 0) 2)
  obtain ⟨T9, X9, e9, st9⟩ := getF X2 hx hZ hown (host := "") (Or.inl (w 25 rfl)) Via.refl e2 f6 (g := (mkF m 87 #[vR sg, vI 2, vI 1, vR b2, vU] [.ref sg, .ref b2])) rfl rfl (H 30 rfl)
  obtain ⟨_, T10, lo10, Lc10, X10, N10, hQ10, st10⟩ := own_af (QFI Z b2 k2 h2 n0) 1 0 2 0 1 2 (Jvm.LawKit.callS X9 hx (y := Y_36) hown (mvT hZ (w 331 rfl)) (mvT hZ (w 332 rfl)) (mvT hZ (w 121 rfl)) (mvT hZ (w 333 rfl)) (by decide) (backOf (W := 0) (rmFI l Z a0 hw [] b2 k2 h2 n0 Z2 V2 g_b2) hZ (w 333 rfl) (w 121 rfl) (by decide) (by decide)) (g := (mkF m 92 #[vR sg, vI 2, vI 1, vR b2, vU] [.int 9, .ref b2])) rfl (by rw [hml]; rfl) (argsL := [.ref b2, .int 9]) (rest := []) (lenOf pd_3 rfl) rfl (lq rfl) (H 33 rfl) (fun _ _ => ⟨rfl, e9, (by decide : 1 + 0 ≤ _), (by decide : 2 + 0 ≤ _)⟩)) N0 (fun _ _ _ h => h.2.1) rfl rfl
  dsimp only at st10
  obtain ⟨rfl, N10q, r10_0, r10_1⟩ := hQ10
  have K10 := K2.trans r10_0 (allS (Or.inr sz_b2) all0)
  have Z10 : n0 ≤ T10.heap.size := Nat.le_trans Z2 r10_0.1
  obtain ⟨T15, h15, X15, e15, E15, A15, D15, -, st15⟩ := newO X10 hx hZ hown (w 12 rfl) (w 13 rfl) (w 5 rfl) rfl (g := (mkF m 95 #[vR sg, vI 2, vI 1, vR b2, vU] [])) rfl (H 34 rfl) (by decide) (by decide)
  obtain ⟨b15, g15⟩ : ∃ z, z = T10.heap.size := ⟨_, rfl⟩
  rw [← g15] at A15 D15 st15
  have g_b15 : n0 ≤ b15 := Nat.le_trans Z10 (Nat.le_of_eq g15.symm)
  have sz_b15 : h0.size ≤ b15 := Nat.le_trans K10.1 (Nat.le_of_eq g15.symm)
  have ne18 : b2 ≠ b15 := Nat.ne_of_lt (Nat.lt_of_lt_of_le r10_1.lt (Nat.le_of_eq g15.symm))
  have f21 := ((P2.ext E2).keep r10_0 (ninS ne3 nin0)).ext E15
  have K15 := K10.ext E15
  have Z15 : n0 ≤ h15.size := Nat.le_trans Z10 E15.1
  have f24 : Fld Z h15 b15 "java/lang/String" "value" "[B" .null := D15 (Or.inr (w 26 rfl)) (ty := (.array .byte)) (by decide)
  have f25 : Fld Z h15 b15 "java/lang/String" "coder" "B" (.int 0) := D15 (Or.inr (w 28 rfl)) (ty := .byte) (by decide)
  obtain ⟨T26, X26, e26, st26⟩ := getF X15 hx hZ hown (host := "") (Or.inl (w 27 rfl)) Via.refl e15 f21 (g := (mkF m 101 #[vR sg, vI 2, vI 1, vR b2, vU] [.ref sg, .ref b2, .ref b15, .ref b15])) rfl rfl (H 38 rfl)
  obtain ⟨_, T27, lo27, Lc27, X27, N27, hQ27, st27⟩ := own_af (QSI Z b15 b2 h15 n0) 2 0 6 0 2 6 (X26.specialBack hx (y := Y_2) rfl hown (mvT hZ (w 18 rfl)) (mvT hZ (w 19 rfl)) (mvT hZ (w 21 rfl)) (by decide) (backOf (W := 1) (rmSI l Z a0 hw [] b15 b2 h15 n0 Z15 A15 f24 f25 g_b15) hZ (w 21 rfl) (w 5 rfl) (by decide) (by decide)) (g := (mkF m 104 #[vR sg, vI 2, vI 1, vR b2, vU] [.int 0, .ref b2, .ref b15, .ref b15])) rfl (by rw [hml]; rfl) (Steps.refl _) (a := b15) (argsL := [.ref b2, .int 0]) (rest := [.ref b15]) (lenOf pd_3 rfl) rfl (lq rfl) (H 39 rfl) (fun _ _ => ⟨rfl, e26, (by decide : 2 + 0 ≤ _), (by decide : 6 + 0 ≤ _)⟩)) N10 (fun _ _ _ h => h.2.1) rfl rfl
  dsimp only at st27
  obtain ⟨rfl, N27q, r27_0, r27_1, r27_2⟩ := hQ27
  have f32 := (r10_1.ext E15).keep r27_0 (ninS ne18 nin0)
  have f33 := A15.keep r27_0
  have K27 := K15.trans r27_0 (allS (Or.inr sz_b15) all0)
  obtain ⟨fs, hr, hrun, hended, hW, hsame⟩ := X27.leave (v := some (.ref b15)) (fun h => by rw [Bd.returns] at h; cases h)
  refine ⟨_, _, pre0 _ ?_, hrun, hended, _, _, rfl, ?_, ⟨_, rfl⟩, hW, hsame.mono (by decide) (by decide)⟩
  · show SG X0 0 #[vR sg, vI 2, vU, vU, vU] [] _
    refine XS.iloadN X0.here hx rfl (H 0 rfl) rfl ?_
    refine XS.ifYes X0.here hx rfl (pc0 := 1) (pc' := 32) rfl (H 1 rfl) rfl ((if0 _ _).trans (flt (by decide : ¬ ((2 : Int32) < (0 : Int32)))).2.1) (by decide) (by decide) ?_
    refine XS.iloadN X0.here hx rfl (H 2 rfl) rfl ?_
    refine XS.iconst X0.here hx rfl (H 3 rfl) ?_
    refine XS.icmpYes X0.here hx rfl (pc0 := 34) (pc' := 39) rfl (H 4 rfl) rfl (feq (by decide : ¬ ((2 : Int32) = (1 : Int32)))).2 (by decide) (by decide) ?_
    refine XS.aloadN X0.here hx rfl (H 7 rfl) rfl rfl ?_
    refine st1 _ ?_
    show SG X1 43 #[vR sg, vI 2, vU, vU, vU] [.ref ub] _
    refine own_alen X1 hx hZ e1 P3 (H 9 rfl) ?_
    show SG X1 44 #[vR sg, vI 2, vU, vU, vU] [.int (Int32.ofNat [(9 : Int32)].length)] _
    rw [own_l9]
    show SG X1 44 #[vR sg, vI 2, vU, vU, vU] [.int 1] _
    refine XS.istoreN X1.here hx rfl (H 10 rfl) rfl (l' := #[vR sg, vI 2, vI 1, vU, vU]) rfl ?_
    refine XS.iloadN X1.here hx rfl (H 11 rfl) rfl ?_
    refine XS.ifNo X1.here hx rfl (H 12 rfl) rfl ((if0 _ _).trans (feq (by decide : ¬ ((1 : Int32) = (0 : Int32)))).1) ?_
    refine XS.iloadN X1.here hx rfl (H 13 rfl) rfl ?_
    refine XS.ifYes X1.here hx rfl (pc0 := 50) (pc' := 56) rfl (H 14 rfl) rfl ((if0 _ _).trans (feq (by decide : ¬ ((2 : Int32) = (0 : Int32)))).2) (by decide) (by decide) ?_
    refine X1.ldcwInt hx hown (mvT hZ (w 330 rfl)) (g := (mkF m 56 #[vR sg, vI 2, vI 1, vU, vU] [])) rfl (H 17 rfl) _ ?_
    show SG X1 59 #[vR sg, vI 2, vI 1, vU, vU] [.int 2147483647] _
    refine XS.iloadN X1.here hx rfl (H 18 rfl) rfl ?_
    refine XS.idiv X1.here hx rfl (H 19 rfl) rfl (by decide) ?_
    show SG X1 61 #[vR sg, vI 2, vI 1, vU, vU] [.int ((2147483647 : Int32) / (2 : Int32))] _
    refine XS.iloadN X1.here hx rfl (H 20 rfl) rfl ?_
    refine XS.icmpYes X1.here hx rfl (pc0 := 62) (pc' := 76) rfl (H 21 rfl) rfl (flt (by decide : ¬ (((2147483647 : Int32) / (2 : Int32)) < (1 : Int32)))).2.1 (by decide) (by decide) ?_
    refine XS.iloadN X1.here hx rfl (H 22 rfl) rfl ?_
    refine XS.iconst X1.here hx rfl (H 23 rfl) ?_
    refine XS.icmpNo X1.here hx rfl (H 24 rfl) rfl (teq (by decide : ((1 : Int32) = (1 : Int32)))).2 ?_
    refine XS.iloadN X1.here hx rfl (H 25 rfl) rfl ?_
    refine st2 _ ?_
    show SG X2 84 #[vR sg, vI 2, vI 1, vU, vU] [.ref b2] _
    refine XS.astoreN X2.here hx rfl (H 27 rfl) rfl rfl (l' := #[vR sg, vI 2, vI 1, vR b2, vU]) rfl ?_
    refine XS.aloadN X2.here hx rfl (H 28 rfl) rfl rfl ?_
    refine XS.aloadN X2.here hx rfl (H 29 rfl) rfl rfl ?_
    refine st9 _ ?_
    show SG X9 90 #[vR sg, vI 2, vI 1, vR b2, vU] [.ref ub, .ref b2] _
    refine XS.iconst X9.here hx rfl (H 31 rfl) ?_
    refine own_bal X9 hx hZ e9 f8 (x := (9 : Int32)) (by decide) rfl (H 32 rfl) ?_
    refine st10 _ ?_
    show SG X10 95 #[vR sg, vI 2, vI 1, vR b2, vU] [] _
    refine st15 _ ?_
    show SG X15 98 #[vR sg, vI 2, vI 1, vR b2, vU] [.ref b15] _
    refine XS.dup X15.here hx rfl (H 35 rfl) rfl rfl ?_
    refine XS.aloadN X15.here hx rfl (H 36 rfl) rfl rfl ?_
    refine XS.aloadN X15.here hx rfl (H 37 rfl) rfl rfl ?_
    refine st26 _ ?_
    show SG X26 104 #[vR sg, vI 2, vI 1, vR b2, vU] [.int 0, .ref b2, .ref b15, .ref b15] _
    refine st27.trans ?_
    show SG X27 107 #[vR sg, vI 2, vI 1, vR b2, vU] [.ref b15] _
    jvm_step X27.here [X27.here.top, hx, (H 40 rfl), X27.method', Bd.returns, Value.isRef, FieldType.isReference]
    first | (intro acts; rw [hr _ acts rfl rfl rfl]) | rw [hr _ _ rfl rfl rfl]
    exact Steps.refl _
  · show QRP2 Z sg ub ku h0 n0 _ T27.heap _
    exact ⟨b15, b2, k2, rfl, N27, K27, sz_b15, sz_b2, f33, r27_1, r27_2, f32⟩

theorem ef_RP0 (m : MethodId) (sg : Addr) : entryFrame m #[.ref sg, .int 0] 5 = mkF m 0 #[.val (.ref sg), .val (.int 0), .unset, .unset, .unset] [] := by simp [entryFrame, mkF, argsToLocals, Value.category]
def QRP0 (Z : State) (sg ub : Addr) (ku : ClassId) (h0 : Heap) (n0 : Nat) (v : Option Value) (h : Heap) (L : List Loc) : Prop := ∃ xt : Addr, ∃ xb : Addr, ∃ xk : ClassId, v = some (.ref xt) ∧ Fr n0 L ∧ Keep h0 h [] ∧ Exa Z h xt sS ∧ Fld Z h xt sS "value" "[B" (.ref xb) ∧ Fld Z h xt sS "coder" "B" (.int 0) ∧ Arv Z h xb xk .byte (Int32.ofNat ([] : List Int32).length) (own_iv ([] : List Int32)) (.int 0)
theorem rmRP0 (l : Launch) (Z : State) (a0 : Array Value) (hw : HWd a0 Z) (ws : List Jvm.Cond) (sg ub : Addr) (ku : ClassId) (h0 : Heap) (n0 : Nat) (Z0 : n0 ≤ h0.size) (P0 : Exa Z h0 sg sS) (P1 : Fld Z h0 sg sS "value" "[B" (.ref ub)) (P2 : Fld Z h0 sg sS "coder" "B" (.int 0)) (P3 : Arv Z h0 ub ku .byte (Int32.ofNat [(9 : Int32)].length) (own_iv [(9 : Int32)]) (.int 0)) :
    own_MetW l Y_35 (Jvm.Cond.code Y_35 jdk_42_method_145_code 5 (some (.object "java/lang/String")) :: ws) (RM 0 2 5 0) #[.ref sg, .int 0] Z h0 (QRP0 Z sg ub ku h0 n0) := by
  refine own_bSW pn_32 rfl D_32 (fun m => ef_RP0 m sg) hw fun p e s m below meth c sZ Bd hx hby hml hown hnm hh hZ X0 e0 w H pre0 hC0 hC hS hk => ?_
  have N0 := Fr.nil n0
  have K0 := Keep.refl h0 []
  obtain ⟨T1, X1, e1, st1⟩ := getF X0 hx hZ hown (host := "") (Or.inl (w 25 rfl)) Via.refl e0 P1 (g := (mkF m 40 #[vR sg, vI 0, vU, vU, vU] [.ref sg])) rfl rfl (H 8 rfl)
  have ch2 : Goes p e below sZ (entryFrame m #[.ref sg, .int 0] 5) T1 (mkF m 53 #[vR sg, vI 0, vI 1, vU, vU] []) := fun t kt => pre0 t (by
    show SG X0 0 #[vR sg, vI 0, vU, vU, vU] [] _
    refine XS.iloadN X0.here hx rfl (H 0 rfl) rfl ?_
    refine XS.ifYes X0.here hx rfl (pc0 := 1) (pc' := 32) rfl (H 1 rfl) rfl ((if0 _ _).trans (flt (by decide : ¬ ((0 : Int32) < (0 : Int32)))).2.1) (by decide) (by decide) ?_
    refine XS.iloadN X0.here hx rfl (H 2 rfl) rfl ?_
    refine XS.iconst X0.here hx rfl (H 3 rfl) ?_
    refine XS.icmpYes X0.here hx rfl (pc0 := 34) (pc' := 39) rfl (H 4 rfl) rfl (feq (by decide : ¬ ((0 : Int32) = (1 : Int32)))).2 (by decide) (by decide) ?_
    refine XS.aloadN X0.here hx rfl (H 7 rfl) rfl rfl ?_
    refine st1 _ ?_
    show SG X1 43 #[vR sg, vI 0, vU, vU, vU] [.ref ub] _
    refine own_alen X1 hx hZ e1 P3 (H 9 rfl) ?_
    show SG X1 44 #[vR sg, vI 0, vU, vU, vU] [.int (Int32.ofNat [(9 : Int32)].length)] _
    rw [own_l9]
    show SG X1 44 #[vR sg, vI 0, vU, vU, vU] [.int 1] _
    refine XS.istoreN X1.here hx rfl (H 10 rfl) rfl (l' := #[vR sg, vI 0, vI 1, vU, vU]) rfl ?_
    refine XS.iloadN X1.here hx rfl (H 11 rfl) rfl ?_
    refine XS.ifNo X1.here hx rfl (H 12 rfl) rfl ((if0 _ _).trans (feq (by decide : ¬ ((1 : Int32) = (0 : Int32)))).1) ?_
    refine XS.iloadN X1.here hx rfl (H 13 rfl) rfl ?_
    refine XS.ifNo X1.here hx rfl (H 14 rfl) rfl ((if0 _ _).trans (teq (by decide : ((0 : Int32) = (0 : Int32)))).2) ?_
    exact kt)
  obtain ⟨a3, T3, h3, kk3, b3, kc3, X3, e3, E3, hS, hk, hZ, hown, A3, B3, C3, V3, -, -, hCn, -, -, st3⟩ := ldcCH X1 hx hZ hown (w 197 rfl) (own_wS hw) e1 hS hk (own_EW hw) (List.mem_of_getElem? (i := 3) rfl) hC.1 (vs := own_iv ([] : List Int32)) (z := Int32.ofNat ([] : List Int32).length) own_lit3 (by decide) (by decide) (g := (mkF m 53 #[vR sg, vI 0, vI 1, vU, vU] [])) rfl (H 15 rfl) (n := 1) (by decide) (by decide) (by decide) (by decide)
  have hC := hC.trans hCn
  have K3 := K0.ext E3
  obtain ⟨fs, hr, hrun, hended, hW⟩ := X3.leaveW (v := some (.ref a3)) hS (by rw [e3]; exact hk) (fun h => by rw [Bd.returns] at h; cases h)
  refine ⟨_, _, ch2 _ ?_, hrun, hended, _, _, rfl, ?_, ?_, ⟨hW.1, hW.2.1, hW.2.2.1, hW.2.2.2.mono (by decide) (by decide)⟩⟩
  · show SG X1 53 #[vR sg, vI 0, vI 1, vU, vU] [] _
    refine st3 _ ?_
    show SG X3 55 #[vR sg, vI 0, vI 1, vU, vU] [.ref a3] _
    jvm_step X3.here [X3.here.top, hx, (H 16 rfl), X3.method', Bd.returns, Value.isRef, FieldType.isReference]
    first | (intro acts; rw [hr _ acts rfl rfl rfl]) | rw [hr _ _ rfl rfl rfl]
    exact Steps.refl _
  · show QRP0 Z sg ub ku h0 n0 _ T3.heap _
    rw [e3]
    exact ⟨a3, b3, kc3, rfl, N0, K3, A3, C3, B3, V3⟩
  · show CHr Z consts_1 s.vm s.heap T3.vm T3.heap
    rw [hh, e3]
    exact hC.trans (CHv.at X3 hZ (own_EW hw) hC.1)

theorem pn_47 : plainName "java/lang/AbstractStringBuilder" = true := by first | (simp [plainName, overriddenIn]; done) | decide +kernel
theorem ef_GV (m : MethodId) (ob : Addr) : entryFrame m #[.ref ob] 1 = mkF m 0 #[.val (.ref ob)] [] := by simp [entryFrame, mkF, argsToLocals, Value.category]
def QGV (Z : State) (ob bb : Addr) (h0 : Heap) (n0 : Nat) (v : Option Value) (h : Heap) (L : List Loc) : Prop := v = some (.ref bb) ∧ Fr n0 L ∧ h = h0
theorem rmGV (l : Launch) (Z : State) (a0 : Array Value) (hw : HWd a0 Z) (ws : List Jvm.Cond) (ob bb : Addr) (h0 : Heap) (n0 : Nat) (Z0 : n0 ≤ h0.size) (P0 : Exa Z h0 ob sB) (P1 : Fld Z h0 ob sA "value" "[B" (.ref bb)) :
    own_Met l Y_37 (Jvm.Cond.code Y_37 jdk_68_method_64_code 1 (some (.array .byte)) :: ws) (RM 0 0 0 0) #[.ref ob] Z h0 (QGV Z ob bb h0 n0) := by
  refine own_bS pn_47 rfl D_47 (fun m => ef_GV m ob) hw fun p e s m below meth c sZ Bd hx hby hml hown hnm hh hZ X0 e0 w H pre0 => ?_
  have N0 := Fr.nil n0
  obtain ⟨T1, X1, e1, st1⟩ := getF X0 hx hZ hown (host := "") (Or.inl (w 49 rfl)) Via.refl e0 P1 (g := (mkF m 1 #[vR ob] [.ref ob])) rfl rfl (H 1 rfl)
  obtain ⟨fs, hr, hrun, hended, hW, hsame⟩ := X1.leave (v := some (.ref bb)) (fun h => by rw [Bd.returns] at h; cases h)
  refine ⟨_, _, pre0 _ ?_, hrun, hended, _, _, rfl, ?_, ⟨_, rfl⟩, hW, hsame.mono (by decide) (by decide)⟩
  · show SG X0 0 #[vR ob] [] _
    refine XS.aloadN X0.here hx rfl (H 0 rfl) rfl rfl ?_
    refine st1 _ ?_
    show SG X1 4 #[vR ob] [.ref bb] _
    jvm_step X1.here [X1.here.top, hx, (H 2 rfl), X1.method', Bd.returns, Value.isRef, FieldType.isReference]
    first | (intro acts; rw [hr _ acts rfl rfl rfl]) | rw [hr _ _ rfl rfl rfl]
    exact Steps.refl _
  · show QGV Z ob bb h0 n0 _ T1.heap _
    rw [e1]
    exact ⟨rfl, N0, rfl⟩

theorem pn_49 : plainName "java/lang/AbstractStringBuilder" = true := by first | (simp [plainName, overriddenIn]; done) | decide +kernel
theorem ef_AL (m : MethodId) (ob : Addr) : entryFrame m #[.ref ob] 1 = mkF m 0 #[.val (.ref ob)] [] := by simp [entryFrame, mkF, argsToLocals, Value.category]
def QAL (Z : State) (ob : Addr) (ct : Int32) (h0 : Heap) (n0 : Nat) (v : Option Value) (h : Heap) (L : List Loc) : Prop := v = some (.int ct) ∧ Fr n0 L ∧ h = h0
theorem rmAL (l : Launch) (Z : State) (a0 : Array Value) (hw : HWd a0 Z) (ws : List Jvm.Cond) (ob : Addr) (ct : Int32) (h0 : Heap) (n0 : Nat) (Z0 : n0 ≤ h0.size) (P0 : Exa Z h0 ob sB) (P1 : Fld Z h0 ob sA "count" "I" (.int ct)) :
    own_Met l Y_38 (Jvm.Cond.code Y_38 jdk_68_method_6_code 1 (some .int) :: ws) (RM 0 0 0 0) #[.ref ob] Z h0 (QAL Z ob ct h0 n0) := by
  refine own_bS pn_49 rfl D_49 (fun m => ef_AL m ob) hw fun p e s m below meth c sZ Bd hx hby hml hown hnm hh hZ X0 e0 w H pre0 => ?_
  have N0 := Fr.nil n0
  obtain ⟨T1, X1, e1, st1⟩ := getF X0 hx hZ hown (host := "") (Or.inl (w 97 rfl)) Via.refl e0 P1 (g := (mkF m 1 #[vR ob] [.ref ob])) rfl rfl (H 1 rfl)
  obtain ⟨fs, hr, hrun, hended, hW, hsame⟩ := X1.leave (v := some (.int ct)) (fun h => by rw [Bd.returns] at h; cases h)
  refine ⟨_, _, pre0 _ ?_, hrun, hended, _, _, rfl, ?_, ⟨_, rfl⟩, hW, hsame.mono (by decide) (by decide)⟩
  · show SG X0 0 #[vR ob] [] _
    refine XS.aloadN X0.here hx rfl (H 0 rfl) rfl rfl ?_
    refine st1 _ ?_
    show SG X1 4 #[vR ob] [.int ct] _
    exact retI X1 hx Bd.returns (H 2 rfl) hr
  · show QAL Z ob ct h0 n0 _ T1.heap _
    rw [e1]
    exact ⟨rfl, N0, rfl⟩

theorem pn_48 : plainName "java/lang/StringBuilder" = true := by first | (simp [plainName, overriddenIn]; done) | decide +kernel
theorem ef_BL (m : MethodId) (ob : Addr) : entryFrame m #[.ref ob] 1 = mkF m 0 #[.val (.ref ob)] [] := by simp [entryFrame, mkF, argsToLocals, Value.category]
def QBL (Z : State) (ob : Addr) (ct : Int32) (h0 : Heap) (n0 : Nat) (v : Option Value) (h : Heap) (L : List Loc) : Prop := v = some (.int ct) ∧ Fr n0 L ∧ h = h0
theorem rmBL (l : Launch) (Z : State) (a0 : Array Value) (hw : HWd a0 Z) (ws : List Jvm.Cond) (ob : Addr) (ct : Int32) (h0 : Heap) (n0 : Nat) (Z0 : n0 ≤ h0.size) (P0 : Exa Z h0 ob sB) (P1 : Fld Z h0 ob sA "count" "I" (.int ct)) :
    own_Met l Y_39 (Jvm.Cond.code Y_39 jdk_67_method_93_code 1 (some .int) :: ws) (RM 1 0 0 12) #[.ref ob] Z h0 (QBL Z ob ct h0 n0) := by
  refine own_bS pn_48 rfl D_48 (fun m => ef_BL m ob) hw fun p e s m below meth c sZ Bd hx hby hml hown hnm hh hZ X0 e0 w H pre0 => ?_
  have N0 := Fr.nil n0
  obtain ⟨_, T1, lo1, Lc1, X1, N1, hQ1, st1⟩ := own_af (QAL Z ob ct h0 n0) 0 0 0 0 0 0 (superBack X0 hx hZ (y := Y_38) hown (w 282 rfl) (own_same (y := Y_38) (z := Y_10) (w 102 rfl) (w 278 rfl) rfl (by decide)) (w 278 rfl) (w 84 rfl) (by decide) (backOf (W := 0) (rmAL l Z a0 hw [] ob ct h0 n0 Z0 P0 P1) hZ (w 283 rfl) (w 45 rfl) (by decide) (by decide)) e0 (Ins.self P0) (g := (mkF m 1 #[vR ob] [.ref ob])) rfl (by rw [hml]; rfl) (w 283 rfl) (argsL := []) (rest := []) (lenOf pd_9 rfl) rfl (lq rfl) (H 1 rfl) (fun _ _ => ⟨rfl, e0, (by decide : 0 + 0 ≤ _), (by decide : 0 + 0 ≤ _)⟩)) N0 (fun _ _ _ h => h.2.1) rfl rfl
  dsimp only at st1
  obtain ⟨rfl, N1q, r1_0⟩ := hQ1
  obtain ⟨fs, hr, hrun, hended, hW, hsame⟩ := X1.leave (v := some (.int ct)) (fun h => by rw [Bd.returns] at h; cases h)
  refine ⟨_, _, pre0 _ ?_, hrun, hended, _, _, rfl, ?_, ⟨_, rfl⟩, hW, hsame.mono (by decide) (by decide)⟩
  · show SG X0 0 #[vR ob] [] _
    refine XS.aloadN X0.here hx rfl (H 0 rfl) rfl rfl ?_
    refine st1.trans ?_
    show SG X1 4 #[vR ob] [.int ct] _
    exact retI X1 hx Bd.returns (H 2 rfl) hr
  · show QBL Z ob ct h0 n0 _ T1.heap _
    rw [r1_0]
    exact ⟨rfl, N1, rfl⟩

theorem pn_52 : plainName "java/util/Arrays" = true := by first | (simp [plainName, overriddenIn]; done) | decide +kernel
theorem ef_KL (m : MethodId) (ct : Int32) : entryFrame m #[.int 0, .int ct] 2 = mkF m 0 #[.val (.int 0), .val (.int ct)] [] := by simp [entryFrame, mkF, argsToLocals, Value.category]
def QKL (Z : State) (ct : Int32) (h0 : Heap) (n0 : Nat) (v : Option Value) (h : Heap) (L : List Loc) : Prop := v = none ∧ Fr n0 L ∧ h = h0
theorem rmKL (l : Launch) (Z : State) (a0 : Array Value) (hw : HWd a0 Z) (ws : List Jvm.Cond) (ct : Int32) (h0 : Heap) (n0 : Nat) (Z0 : n0 ≤ h0.size) (hct : ¬ ct < (0 : Int32)) :
    own_Met l Y_40 (Jvm.Cond.code Y_40 jdk_65_method_131_code 2 none :: ws) (RM 0 0 0 0) #[.int 0, .int ct] Z h0 (QKL Z ct h0 n0) := by
  refine own_bS pn_52 rfl D_52 (fun m => ef_KL m ct) hw fun p e s m below meth c sZ Bd hx hby hml hown hnm hh hZ X0 e0 w H pre0 => ?_
  have N0 := Fr.nil n0
  obtain ⟨fs, hr, hrun, hended, hW, hsame⟩ := X0.leave (v := none) (fun _ => rfl)
  refine ⟨_, _, pre0 _ ?_, hrun, hended, _, _, rfl, ?_, ⟨_, rfl⟩, hW, hsame.mono (by decide) (by decide)⟩
  · show SG X0 0 #[vI 0, vI ct] [] _
    refine XS.iloadN X0.here hx rfl (H 0 rfl) rfl ?_
    refine XS.iloadN X0.here hx rfl (H 1 rfl) rfl ?_
    refine XS.icmpYes X0.here hx rfl (pc0 := 2) (pc' := 37) rfl (H 2 rfl) rfl (flt (hct : ¬ (ct < (0 : Int32)))).2.1 (by decide) (by decide) ?_
    exact X0.returnOut hx Bd.returns (H 3 rfl) hr
  · show QKL Z ct h0 n0 _ sZ.heap _
    rw [e0]
    exact ⟨rfl, N0, rfl⟩

theorem ef_MNX (m : MethodId) (ct : Int32) : entryFrame m #[.int 78, .int ct] 2 = mkF m 0 #[.val (.int 78), .val (.int ct)] [] := by simp [entryFrame, mkF, argsToLocals, Value.category]
def QMNX (Z : State) (ct : Int32) (h0 : Heap) (n0 : Nat) (v : Option Value) (h : Heap) (L : List Loc) : Prop := v = some (.int ct) ∧ Fr n0 L ∧ h = h0
theorem rmMNX (l : Launch) (Z : State) (a0 : Array Value) (hw : HWd a0 Z) (ws : List Jvm.Cond) (ct : Int32) (h0 : Heap) (n0 : Nat) (Z0 : n0 ≤ h0.size) (hct : ct < (78 : Int32)) :
    own_Met l Y_12 (Jvm.Cond.code Y_12 jdk_29_method_69_code 2 (some .int) :: ws) (RM 0 0 0 0) #[.int 78, .int ct] Z h0 (QMNX Z ct h0 n0) := by
  refine MetFree.of_bodySF (Jvm.Free.JP.mathPlain rfl (by decide +kernel)) hisR ?_
  intro p e s m args below meth c sZ Bd hml0 hP hK
  obtain ⟨rfl, hZ, hh⟩ := hP
  have hx := Bd.exec
  have w := @own_w Z a0 hw
  have hby := Bd.bytes
  have H := @own_hb _ _ _ hby D_20
  have hml : c.maxLocals = 2 := hml0
  have hown : s.vm.findClass "java/lang/Math" = some m.cls := findClass_of_methodNamed Bd.named
  have hnm := (name_of_methodNamed Bd.named Bd.method).1
  have X0 : Stand p l e (RM 0 0 0 0) s m #[.int 78, .int ct] below meth c sZ [] 0 0 := Stand.of_body Bd
  have e0 : sZ.heap = h0 := by rw [← hh, Bd.state]; rfl
  have N0 := Fr.nil n0
  have pre0 : Goes p e below sZ (entryFrame m #[.int 78, .int ct] 2) sZ (mkF m 0 #[vI 78, vI ct] []) := fun t k => castTop (ef_MNX m ct) k
  obtain ⟨fs, hr, hrun, hended, hW, hsame⟩ := X0.leave (v := some (.int ct)) (fun h => by rw [Bd.returns] at h; cases h)
  refine ⟨_, _, pre0 _ ?_, hrun, hended, _, _, rfl, ?_, ⟨_, rfl⟩, hW, hsame.mono (by decide) (by decide)⟩
  · show SG X0 0 #[vI 78, vI ct] [] _
    refine XS.iloadN X0.here hx rfl (H 0 rfl) rfl ?_
    refine XS.iloadN X0.here hx rfl (H 1 rfl) rfl ?_
    refine XS.icmpYes X0.here hx rfl (pc0 := 2) (pc' := 9) rfl (H 2 rfl) rfl (tlt (hct : (ct < (78 : Int32)))).2.2.1 (by decide) (by decide) ?_
    refine XS.iloadN X0.here hx rfl (H 5 rfl) rfl ?_
    exact retI X0 hx Bd.returns (H 6 rfl) hr
  · show QMNX Z ct h0 n0 _ sZ.heap _
    rw [e0]
    exact ⟨rfl, N0, rfl⟩

theorem pn_51 : plainName "java/util/Arrays" = true := by first | (simp [plainName, overriddenIn]; done) | decide +kernel
theorem ef_RB (m : MethodId) (bb : Addr) (bs : List Int32) : entryFrame m #[.ref bb, .int 0, .int (Int32.ofNat bs.length)] 5 = mkF m 0 #[.val (.ref bb), .val (.int 0), .val (.int (Int32.ofNat bs.length)), .unset, .unset] [] := by simp [entryFrame, mkF, argsToLocals, Value.category]
theorem pd_34 : parseMethodDescriptor "(II)V" = some ⟨[.int, .int], none⟩ := by decide +kernel
def QRB (Z : State) (bb : Addr) (kb : ClassId) (bs : List Int32) (h0 : Heap) (n0 : Nat) (v : Option Value) (h : Heap) (L : List Loc) : Prop := ∃ xb : Addr, ∃ xk : ClassId, v = some (.ref xb) ∧ Fr n0 L ∧ Keep h0 h [] ∧ h0.size ≤ xb ∧ Arv Z h xb xk .byte (Int32.ofNat bs.length) (own_iv bs) (.int 0) ∧ Exa Z h xb "[B"
theorem rmRB (l : Launch) (Z : State) (a0 : Array Value) (hw : HWd a0 Z) (ws : List Jvm.Cond) (bb : Addr) (kb : ClassId) (bs : List Int32) (h0 : Heap) (n0 : Nat) (Z0 : n0 ≤ h0.size) (P0 : Arv Z h0 bb kb .byte (78 : Int32) (own_iv bs) (.int 0)) (hb1 : bs.length + 1 ≤ 78) :
    own_Met l Y_41 (Jvm.Cond.code Y_41 jdk_65_method_133_code 5 (some (.array .byte)) :: ws) (RM 1 1 78 32) #[.ref bb, .int 0, .int (Int32.ofNat bs.length)] Z h0 (QRB Z bb kb bs h0 n0) := by
  refine own_bS pn_51 rfl D_51 (fun m => ef_RB m bb bs) hw fun p e s m below meth c sZ Bd hx hby hml hown hnm hh hZ X0 e0 w H pre0 => ?_
  have N0 := Fr.nil n0
  have K0 := Keep.refl h0 []
  obtain ⟨_, T1, lo1, Lc1, X1, N1, hQ1, st1⟩ := own_af (QKL Z (Int32.ofNat bs.length) h0 n0) 0 0 0 0 0 0 (Jvm.LawKit.callS X0 hx (y := Y_40) hown (mvT hZ (w 291 rfl)) (mvT hZ (w 292 rfl)) (mvT hZ (w 121 rfl)) (mvT hZ (w 293 rfl)) (by decide) (backOf (W := 0) (rmKL l Z a0 hw [] (Int32.ofNat bs.length) h0 n0 Z0 (own_nz hb1)) hZ (w 293 rfl) (w 121 rfl) (by decide) (by decide)) (g := (mkF m 2 #[vR bb, vI 0, .val (.int (Int32.ofNat bs.length)), vU, vU] [.int (Int32.ofNat bs.length), .int 0])) rfl (by rw [hml]; rfl) (argsL := [.int 0, .int (Int32.ofNat bs.length)]) (rest := []) (lenOf pd_34 rfl) rfl (lq rfl) (H 2 rfl) (fun _ _ => ⟨rfl, e0, (by decide : 0 + 0 ≤ _), (by decide : 0 + 0 ≤ _)⟩)) N0 (fun _ _ _ h => h.2.1) rfl rfl
  dsimp only at st1
  obtain ⟨rfl, N1q, r1_0⟩ := hQ1
  obtain ⟨T2, h2, k2, X2, e2, E2, A2, x2, st2⟩ := newPE X1 hx hZ (w 17 rfl) r1_0 (g := (mkF m 10 #[vR bb, vI 0, .val (.int (Int32.ofNat bs.length)), .val (.int (Int32.ofNat bs.length)), vU] [.int (Int32.ofNat bs.length)])) rfl (H 8 rfl) rfl (own_nz hb1) (cap := 78) (own_le78 hb1) (by decide) (by decide) (by decide) (ad := "[B") rfl
  obtain ⟨b2, g2⟩ : ∃ z, z = h0.size := ⟨_, rfl⟩
  rw [← g2] at A2 x2 st2
  have g_b2 : n0 ≤ b2 := Nat.le_trans Z0 (Nat.le_of_eq g2.symm)
  have sz_b2 : h0.size ≤ b2 := Nat.le_trans K0.1 (Nat.le_of_eq g2.symm)
  have f4 := P0.ext E2
  have K2 := K0.ext E2
  have Z2 : n0 ≤ h2.size := Nat.le_trans Z0 E2.1
  have V2 : Arv Z h2 b2 k2 .byte (Int32.ofNat bs.length) (own_iv []) (.int 0) := Arv.new A2 (own_nz hb1)
  obtain ⟨_, T5, lo5, Lc5, X5, N5, hQ5, st5⟩ := own_af (QMNX Z (Int32.ofNat bs.length) h2 n0) 1 0 78 0 1 78 (Jvm.LawKit.callS X2 hx (y := Y_12) hown (mvT hZ (w 123 rfl)) (mvT hZ (w 124 rfl)) (mvT hZ (w 115 rfl)) (mvT hZ (w 125 rfl)) (by decide) (backOf (W := 4) (rmMNX l Z a0 hw [] (Int32.ofNat bs.length) h2 n0 Z2 (own_lt78 hb1)) hZ (w 125 rfl) (w 115 rfl) (by decide) (by decide)) (g := (mkF m 24 #[vR bb, vI 0, .val (.int (Int32.ofNat bs.length)), .val (.int (Int32.ofNat bs.length)), vR b2] [.int (Int32.ofNat bs.length), .int 78, .int 0, .ref b2, .int 0, .ref bb])) rfl (by rw [hml]; rfl) (argsL := [.int 78, .int (Int32.ofNat bs.length)]) (rest := [.int 0, .ref b2, .int 0, .ref bb]) (lenOf pd_13 rfl) rfl (lq rfl) (H 19 rfl) (fun _ _ => ⟨rfl, e2, (by decide : 1 + 0 ≤ _), (by decide : 78 + 0 ≤ _)⟩)) N1 (fun _ _ _ h => h.2.1) rfl rfl
  dsimp only at st5
  obtain ⟨rfl, N5q, r5_0⟩ := hQ5
  have pv6 : Arv Z h2 b2 k2 .byte (Int32.ofNat bs.length) (own_iv [] ++ List.replicate bs.length (.int 0)) (.int 0) := V2.pad (own_pad [] bs.length)
  obtain ⟨T6, h6, L6, X6, e6, N6, Kc6, V6, st6⟩ := cpA X5 hx hZ hown (w 126 rfl) (w 129 rfl) (w 127 rfl) (w 128 rfl) r5_0 (us := (own_iv bs)) f4 pv6 (Or.inl ⟨rfl, rfl⟩) (by decide) (by decide) (own_nz hb1) (own_b4 hb1) (own_a4 bs) (own_rng bs _ (own_n bs.length (by omega)).2.1) (own_b6 hb1) N5 g_b2 (g := (mkF m 27 #[vR bb, vI 0, .val (.int (Int32.ofNat bs.length)), .val (.int (Int32.ofNat bs.length)), vR b2] [.int (Int32.ofNat bs.length), .int 0, .ref b2, .int 0, .ref bb])) rfl (by rw [hml]; rfl) rfl (H 20 rfl) (by decide) (W := 0) (lq rfl) (by decide)
  have f8 := x2.keep Kc6
  have K6 := K2.trans Kc6 (allS (Or.inr sz_b2) all0)
  have U6 : Arv Z h6 b2 k2 .byte (Int32.ofNat bs.length) (own_iv bs) (.int 0) := own_arv V6 rfl (own_b7 hb1)
  obtain ⟨fs, hr, hrun, hended, hW, hsame⟩ := X6.leave (v := some (.ref b2)) (fun h => by rw [Bd.returns] at h; cases h)
  refine ⟨_, _, pre0 _ ?_, hrun, hended, _, _, rfl, ?_, ⟨_, rfl⟩, hW, hsame.mono (by decide) (by decide)⟩
  · show SG X0 0 #[vR bb, vI 0, .val (.int (Int32.ofNat bs.length)), vU, vU] [] _
    refine XS.iloadN X0.here hx rfl (H 0 rfl) rfl ?_
    refine XS.iloadN X0.here hx rfl (H 1 rfl) rfl ?_
    refine st1 _ ?_
    show SG X1 5 #[vR bb, vI 0, .val (.int (Int32.ofNat bs.length)), vU, vU] [] _
    refine XS.iloadN X1.here hx rfl (H 3 rfl) rfl ?_
    refine XS.iloadN X1.here hx rfl (H 4 rfl) rfl ?_
    refine XS.isub X1.here hx rfl (H 5 rfl) rfl ?_
    show SG X1 8 #[vR bb, vI 0, .val (.int (Int32.ofNat bs.length)), vU, vU] [.int ((Int32.ofNat bs.length) - (0 : Int32))] _
    rw [(own_s0 (Int32.ofNat bs.length))]
    show SG X1 8 #[vR bb, vI 0, .val (.int (Int32.ofNat bs.length)), vU, vU] [.int (Int32.ofNat bs.length)] _
    refine XS.istoreN X1.here hx rfl (H 6 rfl) rfl (l' := #[vR bb, vI 0, .val (.int (Int32.ofNat bs.length)), .val (.int (Int32.ofNat bs.length)), vU]) rfl ?_
    refine XS.iloadN X1.here hx rfl (H 7 rfl) rfl ?_
    refine st2 _ ?_
    show SG X2 12 #[vR bb, vI 0, .val (.int (Int32.ofNat bs.length)), .val (.int (Int32.ofNat bs.length)), vU] [.ref b2] _
    refine XS.astore X2.here hx rfl (H 9 rfl) rfl rfl (l' := #[vR bb, vI 0, .val (.int (Int32.ofNat bs.length)), .val (.int (Int32.ofNat bs.length)), vR b2]) rfl ?_
    refine XS.aloadN X2.here hx rfl (H 10 rfl) rfl rfl ?_
    refine XS.iloadN X2.here hx rfl (H 11 rfl) rfl ?_
    refine XS.aload X2.here hx rfl (H 12 rfl) rfl rfl ?_
    refine XS.iconst X2.here hx rfl (H 13 rfl) ?_
    refine XS.aloadN X2.here hx rfl (H 14 rfl) rfl rfl ?_
    refine own_alen X2 hx hZ e2 f4 (H 15 rfl) ?_
    refine XS.iloadN X2.here hx rfl (H 16 rfl) rfl ?_
    refine XS.isub X2.here hx rfl (H 17 rfl) rfl ?_
    show SG X2 23 #[vR bb, vI 0, .val (.int (Int32.ofNat bs.length)), .val (.int (Int32.ofNat bs.length)), vR b2] [.int 78, .int 0, .ref b2, .int 0, .ref bb] _
    refine XS.iloadN X2.here hx rfl (H 18 rfl) rfl ?_
    refine st5 _ ?_
    show SG X5 27 #[vR bb, vI 0, .val (.int (Int32.ofNat bs.length)), .val (.int (Int32.ofNat bs.length)), vR b2] [.int (Int32.ofNat bs.length), .int 0, .ref b2, .int 0, .ref bb] _
    refine st6 _ ?_
    show SG X6 30 #[vR bb, vI 0, .val (.int (Int32.ofNat bs.length)), .val (.int (Int32.ofNat bs.length)), vR b2] [] _
    refine XS.aload X6.here hx rfl (H 21 rfl) rfl rfl ?_
    jvm_step X6.here [X6.here.top, hx, (H 22 rfl), X6.method', Bd.returns, Value.isRef, FieldType.isReference]
    first | (intro acts; rw [hr _ acts rfl rfl rfl]) | rw [hr _ _ rfl rfl rfl]
    exact Steps.refl _
  · show QRB Z bb kb bs h0 n0 _ T6.heap _
    rw [e6]
    exact ⟨b2, k2, rfl, N6, K6, sz_b2, U6, f8⟩

theorem pn_50 : plainName "java/util/Arrays" = true := by first | (simp [plainName, overriddenIn]; done) | decide +kernel
theorem ef_CR (m : MethodId) (bb : Addr) (bs : List Int32) : entryFrame m #[.ref bb, .int 0, .int (Int32.ofNat bs.length)] 3 = mkF m 0 #[.val (.ref bb), .val (.int 0), .val (.int (Int32.ofNat bs.length))] [] := by simp [entryFrame, mkF, argsToLocals, Value.category]
theorem pd_33 : parseMethodDescriptor "([BII)[B" = some ⟨[(.array .byte), .int, .int], some (.array .byte)⟩ := by decide +kernel
def QCR (Z : State) (bb : Addr) (kb : ClassId) (bs : List Int32) (h0 : Heap) (n0 : Nat) (v : Option Value) (h : Heap) (L : List Loc) : Prop := ∃ xb : Addr, ∃ xk : ClassId, v = some (.ref xb) ∧ Fr n0 L ∧ Keep h0 h [] ∧ h0.size ≤ xb ∧ Arv Z h xb xk .byte (Int32.ofNat bs.length) (own_iv bs) (.int 0) ∧ Exa Z h xb "[B"
theorem rmCR (l : Launch) (Z : State) (a0 : Array Value) (hw : HWd a0 Z) (ws : List Jvm.Cond) (bb : Addr) (kb : ClassId) (bs : List Int32) (h0 : Heap) (n0 : Nat) (Z0 : n0 ≤ h0.size) (P0 : Arv Z h0 bb kb .byte (78 : Int32) (own_iv bs) (.int 0)) (hb1 : bs.length + 1 ≤ 78) :
    own_Met l Y_42 (Jvm.Cond.code Y_42 jdk_65_method_132_code 3 (some (.array .byte)) :: ws) (RM 2 1 78 48) #[.ref bb, .int 0, .int (Int32.ofNat bs.length)] Z h0 (QCR Z bb kb bs h0 n0) := by
  refine own_bS pn_50 rfl D_50 (fun m => ef_CR m bb bs) hw fun p e s m below meth c sZ Bd hx hby hml hown hnm hh hZ X0 e0 w H pre0 => ?_
  have N0 := Fr.nil n0
  have K0 := Keep.refl h0 []
  obtain ⟨_, T1, lo1, Lc1, X1, N1, hQ1, st1⟩ := own_af (QRB Z bb kb bs h0 n0) 0 1 0 78 1 78 (Jvm.LawKit.callS X0 hx (y := Y_41) hown (mvT hZ (w 288 rfl)) (mvT hZ (w 289 rfl)) (mvT hZ (w 121 rfl)) (mvT hZ (w 290 rfl)) (by decide) (backOf (W := 0) (rmRB l Z a0 hw [] bb kb bs h0 n0 Z0 P0 hb1) hZ (w 290 rfl) (w 121 rfl) (by decide) (by decide)) (g := (mkF m 13 #[vR bb, vI 0, .val (.int (Int32.ofNat bs.length))] [.int (Int32.ofNat bs.length), .int 0, .ref bb])) rfl (by rw [hml]; rfl) (argsL := [.ref bb, .int 0, .int (Int32.ofNat bs.length)]) (rest := []) (lenOf pd_33 rfl) rfl (lq rfl) (H 9 rfl) (fun _ _ => ⟨rfl, e0, (by decide : 0 + 1 ≤ _), (by decide : 0 + 78 ≤ _)⟩)) N0 (by rintro _ _ _ ⟨_, _, -, N, -⟩; exact N) rfl rfl
  dsimp only at st1
  obtain ⟨x1_0, x1_1, rfl, N1q, r1_0, r1_1, r1_2, r1_3⟩ := hQ1
  have sz_x1_0 : h0.size ≤ x1_0 := Nat.le_trans K0.1 r1_1
  have K1 := K0.trans r1_0 all0
  obtain ⟨fs, hr, hrun, hended, hW, hsame⟩ := X1.leave (v := some (.ref x1_0)) (fun h => by rw [Bd.returns] at h; cases h)
  refine ⟨_, _, pre0 _ ?_, hrun, hended, _, _, rfl, ?_, ⟨_, rfl⟩, hW, hsame.mono (by decide) (by decide)⟩
  · show SG X0 0 #[vR bb, vI 0, .val (.int (Int32.ofNat bs.length))] [] _
    refine XS.iloadN X0.here hx rfl (H 0 rfl) rfl ?_
    refine XS.ifNo X0.here hx rfl (H 1 rfl) rfl ((if0 _ _).trans (teq (by decide : ((0 : Int32) = (0 : Int32)))).2) ?_
    refine XS.iloadN X0.here hx rfl (H 2 rfl) rfl ?_
    refine XS.aloadN X0.here hx rfl (H 3 rfl) rfl rfl ?_
    refine own_alen X0 hx hZ e0 P0 (H 4 rfl) ?_
    refine XS.icmpNo X0.here hx rfl (H 5 rfl) rfl (feq (own_ne78 hb1 : ¬ ((Int32.ofNat bs.length) = (78 : Int32)))).1 ?_
    refine XS.aloadN X0.here hx rfl (H 6 rfl) rfl rfl ?_
    refine XS.iloadN X0.here hx rfl (H 7 rfl) rfl ?_
    refine XS.iloadN X0.here hx rfl (H 8 rfl) rfl ?_
    refine st1 _ ?_
    show SG X1 16 #[vR bb, vI 0, .val (.int (Int32.ofNat bs.length))] [.ref x1_0] _
    jvm_step X1.here [X1.here.top, hx, (H 10 rfl), X1.method', Bd.returns, Value.isRef, FieldType.isReference]
    first | (intro acts; rw [hr _ acts rfl rfl rfl]) | rw [hr _ _ rfl rfl rfl]
    exact Steps.refl _
  · show QCR Z bb kb bs h0 n0 _ T1.heap _
    exact ⟨x1_0, x1_1, rfl, N1, K1, sz_x1_0, r1_2, r1_3⟩

theorem pn_46 : plainName "java/lang/String" = true := by first | (simp [plainName, overriddenIn]; done) | decide +kernel
theorem ef_SV (m : MethodId) (sg ob : Addr) : entryFrame m #[.ref sg, .ref ob, .null] 5 = mkF m 0 #[.val (.ref sg), .val (.ref ob), .val .null, .unset, .unset] [] := by simp [entryFrame, mkF, argsToLocals, Value.category]
theorem pd_26 : parseMethodDescriptor "()[B" = some ⟨[], some (.array .byte)⟩ := by decide +kernel
def QSV (Z : State) (sg ob bb : Addr) (kb : ClassId) (bs : List Int32) (cs : Int32) (h0 : Heap) (n0 : Nat) (v : Option Value) (h : Heap) (L : List Loc) : Prop := ∃ xb : Addr, ∃ xk : ClassId, v = none ∧ Fr n0 L ∧ Keep h0 h [sg] ∧ h0.size ≤ xb ∧ Fld Z h sg sS "value" "[B" (.ref xb) ∧ Fld Z h sg sS "coder" "B" (.int 0) ∧ Arv Z h xb xk .byte (Int32.ofNat bs.length) (own_iv bs) (.int 0) ∧ Exa Z h xb "[B"
theorem rmSV (l : Launch) (Z : State) (a0 : Array Value) (hw : HWd a0 Z) (ws : List Jvm.Cond) (sg ob bb : Addr) (kb : ClassId) (bs : List Int32) (cs : Int32) (h0 : Heap) (n0 : Nat) (Z0 : n0 ≤ h0.size) (P0 : Exa Z h0 sg sS) (P1 : Fld Z h0 sg sS "value" "[B" .null) (P2 : Fld Z h0 sg sS "coder" "B" (.int 0)) (P3 : Exa Z h0 ob sB) (P4 : Fld Z h0 ob sA "value" "[B" (.ref bb)) (P5 : Fld Z h0 ob sA "coder" "B" (.int 0)) (P6 : Fld Z h0 ob sA "count" "I" (.int (Int32.ofNat bs.length))) (P7 : Arv Z h0 bb kb .byte (78 : Int32) (own_iv bs) (.int 0)) (P8 : Sta Z h0 sS sC "Z" (.int cs)) (hcs : ¬ cs = (0 : Int32)) (hb1 : bs.length + 1 ≤ 78) (g_sg : n0 ≤ sg) :
    own_Met l Y_43 (Jvm.Cond.code Y_43 jdk_42_method_150_code 5 none :: ws) (RM 3 1 78 63) #[.ref sg, .ref ob, .null] Z h0 (QSV Z sg ob bb kb bs cs h0 n0) := by
  refine own_bS pn_46 rfl D_46 (fun m => ef_SV m sg ob) hw fun p e s m below meth c sZ Bd hx hby hml hown hnm hh hZ X0 e0 w H pre0 => ?_
  have N0 := Fr.nil n0
  have K0 := Keep.refl h0 [sg]
  obtain ⟨T1, X1, e1, st1⟩ := initO X0 hx hZ hown (w 22 rfl) (w 23 rfl) (w 24 rfl) e0 (g := (mkF m 1 #[vR sg, vR ob, .val .null, vU, vU] [.ref sg])) rfl (by rw [hml]; rfl) rfl (H 1 rfl) (by decide) (W := 0) (lq rfl) (by decide)
  obtain ⟨cq2, kq2, q2a, q2b, q2c⟩ := isOf hZ e1 P3
  obtain ⟨_, T2, lo2, Lc2, X2, N2, hQ2, st2⟩ := own_af (QGV Z ob bb h0 n0) 0 0 0 0 0 0 (X1.virtualBack hx (y := Y_37) (z := Y_37) hown (mvT hZ (w 271 rfl)) (mvT hZ (w 272 rfl)) (own_ns hZ (w 274 rfl)) (mvT hZ (w 274 rfl)) (mvT hZ (w 273 rfl)) (by decide) (backOf (W := 0) (rmGV l Z a0 hw [] ob bb h0 n0 Z0 P3 P4) hZ (w 275 rfl) (w 45 rfl) (by decide) (by decide)) q2a q2c (g := (mkF m 5 #[vR sg, vR ob, .val .null, vU, vU] [.ref ob])) rfl (by rw [hml]; rfl) (Steps.refl _) (argsL := []) (rest := []) (lenOf pd_26 rfl) rfl (lq rfl) (H 3 rfl) (fun _ _ => ⟨rfl, e1, (by decide : 0 + 0 ≤ _), (by decide : 0 + 0 ≤ _)⟩)) N0 (fun _ _ _ h => h.2.1) rfl rfl
  dsimp only at st2
  obtain ⟨rfl, N2q, r2_0⟩ := hQ2
  obtain ⟨cq3, kq3, q3a, q3b, q3c⟩ := isOf hZ r2_0 P3
  obtain ⟨_, T3, lo3, Lc3, X3, N3, hQ3, st3⟩ := own_af (QBL Z ob (Int32.ofNat bs.length) h0 n0) 0 0 0 0 0 0 (X2.virtualBack hx (y := Y_38) (z := Y_39) hown (mvT hZ (w 276 rfl)) (mvT hZ (w 277 rfl)) (own_nf (y := Y_38) (z := Y_10) (args := #[]) (mvT hZ (w 102 rfl)) rfl) (mvT hZ (w 279 rfl)) (mvT hZ (w 280 rfl)) (by decide) (backOf (W := 0) (rmBL l Z a0 hw [] ob (Int32.ofNat bs.length) h0 n0 Z0 P3 P6) hZ (w 281 rfl) (w 37 rfl) (by decide) (by decide)) q3a q3c (g := (mkF m 10 #[vR sg, vR ob, .val .null, vR bb, vU] [.ref ob])) rfl (by rw [hml]; rfl) (Steps.refl _) (argsL := []) (rest := []) (lenOf pd_9 rfl) rfl (lq rfl) (H 6 rfl) (fun _ _ => ⟨rfl, r2_0, (by decide : 0 + 0 ≤ _), (by decide : 0 + 0 ≤ _)⟩)) N2 (fun _ _ _ h => h.2.1) rfl rfl
  dsimp only at st3
  obtain ⟨rfl, N3q, r3_0⟩ := hQ3
  obtain ⟨cq4, kq4, q4a, q4b, q4c⟩ := isOf hZ r3_0 P3
  obtain ⟨_, T4, lo4, Lc4, X4, N4, hQ4, st4⟩ := own_af (QL1 Z ob cs h0 n0) 0 0 0 0 0 0 (X3.virtualBack hx (y := Y_21) (z := Y_21) hown (mvT hZ (w 284 rfl)) (mvT hZ (w 170 rfl)) (own_ns hZ (w 172 rfl)) (mvT hZ (w 172 rfl)) (mvT hZ (w 171 rfl)) (by decide) (backOf (W := 0) (rmL1 l Z a0 hw [] ob cs h0 n0 Z0 P3 P5 P8 hcs) hZ (w 173 rfl) (w 45 rfl) (by decide) (by decide)) q4a q4c (g := (mkF m 16 #[vR sg, vR ob, .val .null, vR bb, .val (.int (Int32.ofNat bs.length))] [.ref ob])) rfl (by rw [hml]; rfl) (Steps.refl _) (argsL := []) (rest := []) (lenOf pd_23 rfl) rfl (lq rfl) (H 9 rfl) (fun _ _ => ⟨rfl, r3_0, (by decide : 0 + 0 ≤ _), (by decide : 0 + 0 ≤ _)⟩)) N3 (fun _ _ _ h => h.2.1) rfl rfl
  dsimp only at st4
  obtain ⟨rfl, N4q, r4_0⟩ := hQ4
  obtain ⟨T5, h5, X5, e5, W5, st5⟩ := putFN X4 hx hZ hown (w 27 rfl) Via.refl r4_0 P2 P0 (Or.inr ⟨(w 28 rfl), rfl, hnm⟩) (w 13 rfl) (ty := .byte) (v' := (.int 0)) (by decide) rfl (fits_nar_byte (0 : Int32)) (g := (mkF m 24 #[vR sg, vR ob, .val .null, vR bb, .val (.int (Int32.ofNat bs.length))] [.int 0, .ref sg])) rfl rfl (H 13 rfl)
  have f7 := P0.wr W5
  have ne14 : bb ≠ sg := Ne.symm (Exa.neArv P0 P7 (w 13 rfl))
  have f15 := P7.other W5 ne14
  have K5 := K0.wr W5 (own_m 0 rfl)
  have N5 := Fr.snoc X5 N4 g_sg
  have Z5 : n0 ≤ h5.size := Nat.le_trans Z0 (Keep.of_wr W5).1
  obtain ⟨_, T17, lo17, Lc17, X17, N17, hQ17, st17⟩ := own_af (QCR Z bb kb bs h5 n0) 0 1 0 78 1 78 (Jvm.LawKit.callS X5 hx (y := Y_42) hown (mvT hZ (w 285 rfl)) (mvT hZ (w 286 rfl)) (mvT hZ (w 121 rfl)) (mvT hZ (w 287 rfl)) (by decide) (backOf (W := 1) (rmCR l Z a0 hw [] bb kb bs h5 n0 Z5 f15 hb1) hZ (w 287 rfl) (w 121 rfl) (by decide) (by decide)) (g := (mkF m 32 #[vR sg, vR ob, .val .null, vR bb, .val (.int (Int32.ofNat bs.length))] [.int (Int32.ofNat bs.length), .int 0, .ref bb, .ref sg])) rfl (by rw [hml]; rfl) (argsL := [.ref bb, .int 0, .int (Int32.ofNat bs.length)]) (rest := [.ref sg]) (lenOf pd_33 rfl) rfl (lq rfl) (H 18 rfl) (fun _ _ => ⟨rfl, e5, (by decide : 0 + 1 ≤ _), (by decide : 0 + 78 ≤ _)⟩)) N5 (by rintro _ _ _ ⟨_, _, -, N, -⟩; exact N) rfl rfl
  dsimp only at st17
  obtain ⟨x17_0, x17_1, rfl, N17q, r17_0, r17_1, r17_2, r17_3⟩ := hQ17
  have sz_x17_0 : h0.size ≤ x17_0 := Nat.le_trans K5.1 r17_1
  have f19 := f7.keep r17_0
  have f20 := (P1.other W5 (Or.inr (slot_ne (Or.inr (w 26 rfl)) (Or.inr (w 28 rfl)) (by decide) (t := (.array .byte)) (t' := .byte) (by decide) (by decide)))).keep r17_0 nin0
  have K17 := K5.trans r17_0 all0
  obtain ⟨T27, h27, X27, e27, W27, st27⟩ := putF X17 hx hZ hown (host := "") (Or.inl (w 25 rfl)) Via.refl rfl f20 f19 (Or.inr ⟨(w 26 rfl), rfl, hnm⟩) (w 13 rfl) (ty := (.array .byte)) (by decide) rfl rfl (g := (mkF m 35 #[vR sg, vR ob, .val .null, vR bb, .val (.int (Int32.ofNat bs.length))] [.ref x17_0, .ref sg])) rfl rfl (H 19 rfl)
  have f28 := f20.same W27
  have f30 := ((P2.same W5).keep r17_0 nin0).other W27 (Or.inr (slot_ne (Or.inr (w 28 rfl)) (Or.inr (w 26 rfl)) (by decide) (t := .byte) (t' := (.array .byte)) (by decide) (by decide)))
  have ne37 : sg ≠ x17_0 := Nat.ne_of_lt (Nat.lt_of_lt_of_le f7.lt r17_1)
  have f38 := r17_2.other W27 (Ne.symm ne37)
  have f39 := r17_3.wr W27
  have K27 := K17.wr W27 (own_m 0 rfl)
  have N27 := Fr.snoc X27 N17 g_sg
  obtain ⟨fs, hr, hrun, hended, hW, hsame⟩ := X27.leave (v := none) (fun _ => rfl)
  refine ⟨_, _, pre0 _ ?_, hrun, hended, _, _, rfl, ?_, ⟨_, rfl⟩, hW, hsame.mono (by decide) (by decide)⟩
  · show SG X0 0 #[vR sg, vR ob, .val .null, vU, vU] [] _
    refine XS.aloadN X0.here hx rfl (H 0 rfl) rfl rfl ?_
    refine st1 _ ?_
    show SG X1 4 #[vR sg, vR ob, .val .null, vU, vU] [] _
    refine XS.aloadN X1.here hx rfl (H 2 rfl) rfl rfl ?_
    refine st2.trans ?_
    show SG X2 8 #[vR sg, vR ob, .val .null, vU, vU] [.ref bb] _
    refine XS.astoreN X2.here hx rfl (H 4 rfl) rfl rfl (l' := #[vR sg, vR ob, .val .null, vR bb, vU]) rfl ?_
    refine XS.aloadN X2.here hx rfl (H 5 rfl) rfl rfl ?_
    refine st3.trans ?_
    show SG X3 13 #[vR sg, vR ob, .val .null, vR bb, vU] [.int (Int32.ofNat bs.length)] _
    refine XS.istore X3.here hx rfl (H 7 rfl) rfl (l' := #[vR sg, vR ob, .val .null, vR bb, .val (.int (Int32.ofNat bs.length))]) rfl ?_
    refine XS.aloadN X3.here hx rfl (H 8 rfl) rfl rfl ?_
    refine st4.trans ?_
    show SG X4 19 #[vR sg, vR ob, .val .null, vR bb, .val (.int (Int32.ofNat bs.length))] [.int 1] _
    refine XS.ifNo X4.here hx rfl (H 10 rfl) rfl ((if0 _ _).trans (feq (by decide : ¬ ((1 : Int32) = (0 : Int32)))).1) ?_
    refine XS.aloadN X4.here hx rfl (H 11 rfl) rfl rfl ?_
    refine XS.iconst X4.here hx rfl (H 12 rfl) ?_
    refine st5 _ ?_
    show SG X5 27 #[vR sg, vR ob, .val .null, vR bb, .val (.int (Int32.ofNat bs.length))] [] _
    refine XS.aloadN X5.here hx rfl (H 14 rfl) rfl rfl ?_
    refine XS.aloadN X5.here hx rfl (H 15 rfl) rfl rfl ?_
    refine XS.iconst X5.here hx rfl (H 16 rfl) ?_
    refine XS.iload X5.here hx rfl (H 17 rfl) rfl ?_
    refine st17 _ ?_
    show SG X17 35 #[vR sg, vR ob, .val .null, vR bb, .val (.int (Int32.ofNat bs.length))] [.ref x17_0, .ref sg] _
    refine st27 _ ?_
    show SG X27 38 #[vR sg, vR ob, .val .null, vR bb, .val (.int (Int32.ofNat bs.length))] [] _
    refine XS.goto X27.here hx rfl (pc0 := 38) (pc' := 97) rfl (H 20 rfl) (by decide) (by decide) ?_
    exact X27.returnOut hx Bd.returns (H 21 rfl) hr
  · show QSV Z sg ob bb kb bs cs h0 n0 _ T27.heap _
    rw [e27]
    exact ⟨x17_0, x17_1, rfl, N27, K27, sz_x17_0, f28, f30, f38, f39⟩

theorem pn_45 : plainName "java/lang/String" = true := by first | (simp [plainName, overriddenIn]; done) | decide +kernel
theorem ef_SS (m : MethodId) (sg ob : Addr) : entryFrame m #[.ref sg, .ref ob] 2 = mkF m 0 #[.val (.ref sg), .val (.ref ob)] [] := by simp [entryFrame, mkF, argsToLocals, Value.category]
theorem pd_32 : parseMethodDescriptor "(Ljava/lang/AbstractStringBuilder;Ljava/lang/Void;)V" = some ⟨[(.object "java/lang/AbstractStringBuilder"), (.object "java/lang/Void")], none⟩ := by decide +kernel
def QSS (Z : State) (sg ob bb : Addr) (kb : ClassId) (bs : List Int32) (cs : Int32) (h0 : Heap) (n0 : Nat) (v : Option Value) (h : Heap) (L : List Loc) : Prop := ∃ xb : Addr, ∃ xk : ClassId, v = none ∧ Fr n0 L ∧ Keep h0 h [sg] ∧ h0.size ≤ xb ∧ Fld Z h sg sS "value" "[B" (.ref xb) ∧ Fld Z h sg sS "coder" "B" (.int 0) ∧ Arv Z h xb xk .byte (Int32.ofNat bs.length) (own_iv bs) (.int 0) ∧ Exa Z h xb "[B"
theorem rmSS (l : Launch) (Z : State) (a0 : Array Value) (hw : HWd a0 Z) (ws : List Jvm.Cond) (sg ob bb : Addr) (kb : ClassId) (bs : List Int32) (cs : Int32) (h0 : Heap) (n0 : Nat) (Z0 : n0 ≤ h0.size) (P0 : Exa Z h0 sg sS) (P1 : Fld Z h0 sg sS "value" "[B" .null) (P2 : Fld Z h0 sg sS "coder" "B" (.int 0)) (P3 : Exa Z h0 ob sB) (P4 : Fld Z h0 ob sA "value" "[B" (.ref bb)) (P5 : Fld Z h0 ob sA "coder" "B" (.int 0)) (P6 : Fld Z h0 ob sA "count" "I" (.int (Int32.ofNat bs.length))) (P7 : Arv Z h0 bb kb .byte (78 : Int32) (own_iv bs) (.int 0)) (P8 : Sta Z h0 sS sC "Z" (.int cs)) (hcs : ¬ cs = (0 : Int32)) (hb1 : bs.length + 1 ≤ 78) (g_sg : n0 ≤ sg) :
    own_Met l Y_44 (Jvm.Cond.code Y_44 jdk_42_method_53_code 2 none :: ws) (RM 4 1 78 79) #[.ref sg, .ref ob] Z h0 (QSS Z sg ob bb kb bs cs h0 n0) := by
  refine own_bS pn_45 rfl D_45 (fun m => ef_SS m sg ob) hw fun p e s m below meth c sZ Bd hx hby hml hown hnm hh hZ X0 e0 w H pre0 => ?_
  have N0 := Fr.nil n0
  have K0 := Keep.refl h0 [sg]
  obtain ⟨_, T1, lo1, Lc1, X1, N1, hQ1, st1⟩ := own_af (QSV Z sg ob bb kb bs cs h0 n0) 0 1 0 78 1 78 (X0.specialBack hx (y := Y_43) rfl hown (mvT hZ (w 268 rfl)) (mvT hZ (w 269 rfl)) (mvT hZ (w 270 rfl)) (by decide) (backOf (W := 0) (rmSV l Z a0 hw [] sg ob bb kb bs cs h0 n0 Z0 P0 P1 P2 P3 P4 P5 P6 P7 P8 hcs hb1 g_sg) hZ (w 270 rfl) (w 5 rfl) (by decide) (by decide)) (g := (mkF m 3 #[vR sg, vR ob] [.null, .ref ob, .ref sg])) rfl (by rw [hml]; rfl) (Steps.refl _) (a := sg) (argsL := [.ref ob, .null]) (rest := []) (lenOf pd_32 rfl) rfl (lq rfl) (H 3 rfl) (fun _ _ => ⟨rfl, e0, (by decide : 0 + 1 ≤ _), (by decide : 0 + 78 ≤ _)⟩)) N0 (by rintro _ _ _ ⟨_, _, -, N, -⟩; exact N) rfl rfl
  dsimp only at st1
  obtain ⟨x1_0, x1_1, rfl, N1q, r1_0, r1_1, r1_2, r1_3, r1_4, r1_5⟩ := hQ1
  have sz_x1_0 : h0.size ≤ x1_0 := Nat.le_trans K0.1 r1_1
  have K1 := K0.trans r1_0 (allS (own_m 0 rfl) all0)
  obtain ⟨fs, hr, hrun, hended, hW, hsame⟩ := X1.leave (v := none) (fun _ => rfl)
  refine ⟨_, _, pre0 _ ?_, hrun, hended, _, _, rfl, ?_, ⟨_, rfl⟩, hW, hsame.mono (by decide) (by decide)⟩
  · show SG X0 0 #[vR sg, vR ob] [] _
    refine XS.aloadN X0.here hx rfl (H 0 rfl) rfl rfl ?_
    refine XS.aloadN X0.here hx rfl (H 1 rfl) rfl rfl ?_
    refine XS.aconstNull X0.here hx rfl (H 2 rfl) ?_
    refine st1.trans ?_
    show SG X1 6 #[vR sg, vR ob] [] _
    exact X1.returnOut hx Bd.returns (H 4 rfl) hr
  · show QSS Z sg ob bb kb bs cs h0 n0 _ T1.heap _
    exact ⟨x1_0, x1_1, rfl, N1, K1, sz_x1_0, r1_2, r1_3, r1_4, r1_5⟩

theorem pn_44 : plainName "java/lang/StringBuilder" = true := by first | (simp [plainName, overriddenIn]; done) | decide +kernel
theorem ef_TS (m : MethodId) (ob : Addr) : entryFrame m #[.ref ob] 1 = mkF m 0 #[.val (.ref ob)] [] := by simp [entryFrame, mkF, argsToLocals, Value.category]
theorem pd_31 : parseMethodDescriptor "(Ljava/lang/StringBuilder;)V" = some ⟨[(.object "java/lang/StringBuilder")], none⟩ := by decide +kernel
def QTS (Z : State) (ob bb : Addr) (kb : ClassId) (bs : List Int32) (cs : Int32) (h0 : Heap) (n0 : Nat) (v : Option Value) (h : Heap) (L : List Loc) : Prop := ∃ xt : Addr, ∃ xb : Addr, ∃ xk : ClassId, v = some (.ref xt) ∧ Fr n0 L ∧ Keep h0 h [] ∧ h0.size ≤ xt ∧ h0.size ≤ xb ∧ Exa Z h xt sS ∧ Fld Z h xt sS "value" "[B" (.ref xb) ∧ Fld Z h xt sS "coder" "B" (.int 0) ∧ Arv Z h xb xk .byte (Int32.ofNat bs.length) (own_iv bs) (.int 0) ∧ Exa Z h xb "[B"
theorem rmTS (l : Launch) (Z : State) (a0 : Array Value) (hw : HWd a0 Z) (ws : List Jvm.Cond) (ob bb : Addr) (kb : ClassId) (bs : List Int32) (cs : Int32) (h0 : Heap) (n0 : Nat) (Z0 : n0 ≤ h0.size) (P0 : Exa Z h0 ob sB) (P1 : Fld Z h0 ob sA "value" "[B" (.ref bb)) (P2 : Fld Z h0 ob sA "coder" "B" (.int 0)) (P3 : Fld Z h0 ob sA "count" "I" (.int (Int32.ofNat bs.length))) (P4 : Arv Z h0 bb kb .byte (78 : Int32) (own_iv bs) (.int 0)) (P5 : Sta Z h0 sS sC "Z" (.int cs)) (hcs : ¬ cs = (0 : Int32)) (hb1 : bs.length + 1 ≤ 78) :
    own_Met l Y_45 (Jvm.Cond.code Y_45 jdk_67_method_42_code 1 (some (.object "java/lang/String")) :: ws) (RM 5 2 82 93) #[.ref ob] Z h0 (QTS Z ob bb kb bs cs h0 n0) := by
  refine own_bS pn_44 rfl D_44 (fun m => ef_TS m ob) hw fun p e s m below meth c sZ Bd hx hby hml hown hnm hh hZ X0 e0 w H pre0 => ?_
  have N0 := Fr.nil n0
  have K0 := Keep.refl h0 []
  obtain ⟨T1, h1, X1, e1, E1, A1, D1, -, st1⟩ := newO X0 hx hZ hown (w 264 rfl) (w 13 rfl) (w 5 rfl) e0 (g := (mkF m 0 #[vR ob] [])) rfl (H 0 rfl) (by decide) (by decide)
  obtain ⟨b1, g1⟩ : ∃ z, z = h0.size := ⟨_, rfl⟩
  rw [← g1] at A1 D1 st1
  have g_b1 : n0 ≤ b1 := Nat.le_trans Z0 (Nat.le_of_eq g1.symm)
  have sz_b1 : h0.size ≤ b1 := Nat.le_trans K0.1 (Nat.le_of_eq g1.symm)
  have f4 := P0.ext E1
  have f5 := P1.ext E1
  have f6 := P2.ext E1
  have f7 := P3.ext E1
  have f8 := P4.ext E1
  have f9 := P5.ext E1
  have K1 := K0.ext E1
  have Z1 : n0 ≤ h1.size := Nat.le_trans Z0 E1.1
  have f10 : Fld Z h1 b1 "java/lang/String" "value" "[B" .null := D1 (Or.inr (w 26 rfl)) (ty := (.array .byte)) (by decide)
  have f11 : Fld Z h1 b1 "java/lang/String" "coder" "B" (.int 0) := D1 (Or.inr (w 28 rfl)) (ty := .byte) (by decide)
  obtain ⟨_, T12, lo12, Lc12, X12, N12, hQ12, st12⟩ := own_af (QSS Z b1 ob bb kb bs cs h1 n0) 1 1 4 78 2 82 (X1.specialBack hx (y := Y_44) rfl hown (mvT hZ (w 265 rfl)) (mvT hZ (w 266 rfl)) (mvT hZ (w 267 rfl)) (by decide) (backOf (W := 1) (rmSS l Z a0 hw [] b1 ob bb kb bs cs h1 n0 Z1 A1 f10 f11 f4 f5 f6 f7 f8 f9 hcs hb1 g_b1) hZ (w 267 rfl) (w 5 rfl) (by decide) (by decide)) (g := (mkF m 5 #[vR ob] [.ref ob, .ref b1, .ref b1])) rfl (by rw [hml]; rfl) (Steps.refl _) (a := b1) (argsL := [.ref ob]) (rest := [.ref b1]) (lenOf pd_31 rfl) rfl (lq rfl) (H 3 rfl) (fun _ _ => ⟨rfl, e1, (by decide : 1 + 1 ≤ _), (by decide : 4 + 78 ≤ _)⟩)) N0 (by rintro _ _ _ ⟨_, _, -, N, -⟩; exact N) rfl rfl
  dsimp only at st12
  obtain ⟨x12_0, x12_1, rfl, N12q, r12_0, r12_1, r12_2, r12_3, r12_4, r12_5⟩ := hQ12
  have sz_x12_0 : h0.size ≤ x12_0 := Nat.le_trans K1.1 r12_1
  have f19 := A1.keep r12_0
  have K12 := K1.trans r12_0 (allS (Or.inr sz_b1) all0)
  obtain ⟨fs, hr, hrun, hended, hW, hsame⟩ := X12.leave (v := some (.ref b1)) (fun h => by rw [Bd.returns] at h; cases h)
  refine ⟨_, _, pre0 _ ?_, hrun, hended, _, _, rfl, ?_, ⟨_, rfl⟩, hW, hsame.mono (by decide) (by decide)⟩
  · show SG X0 0 #[vR ob] [] _
    refine st1 _ ?_
    show SG X1 3 #[vR ob] [.ref b1] _
    refine XS.dup X1.here hx rfl (H 1 rfl) rfl rfl ?_
    refine XS.aloadN X1.here hx rfl (H 2 rfl) rfl rfl ?_
    refine st12.trans ?_
    show SG X12 8 #[vR ob] [.ref b1] _
    jvm_step X12.here [X12.here.top, hx, (H 4 rfl), X12.method', Bd.returns, Value.isRef, FieldType.isReference]
    first | (intro acts; rw [hr _ acts rfl rfl rfl]) | rw [hr _ _ rfl rfl rfl]
    exact Steps.refl _
  · show QTS Z ob bb kb bs cs h0 n0 _ T12.heap _
    exact ⟨b1, x12_0, x12_1, rfl, N12, K12, sz_b1, sz_x12_0, f19, r12_2, r12_3, r12_4, r12_5⟩

theorem pn_57 : plainName "java/lang/StringCoding" = true := by first | (simp [plainName, overriddenIn]; done) | decide +kernel
theorem ef_CP (m : MethodId) (ub : Addr) (bs : List Int32) : entryFrame m #[.ref ub, .int 0, .int (Int32.ofNat bs.length)] 5 = mkF m 0 #[.val (.ref ub), .val (.int 0), .val (.int (Int32.ofNat bs.length)), .unset, .unset] [] := by simp [entryFrame, mkF, argsToLocals, Value.category]
def QCP (Z : State) (ub : Addr) (ku : ClassId) (bs : List Int32) (h0 : Heap) (n0 : Nat) (v : Option Value) (h : Heap) (L : List Loc) : Prop := v = some (.int (Int32.ofNat bs.length)) ∧ Fr n0 L ∧ h = h0
theorem rmCP (l : Launch) (Z : State) (a0 : Array Value) (hw : HWd a0 Z) (ws : List Jvm.Cond) (ub : Addr) (ku : ClassId) (bs : List Int32) (h0 : Heap) (n0 : Nat) (Z0 : n0 ≤ h0.size) (P0 : Arv Z h0 ub ku .byte (Int32.ofNat bs.length) (own_iv bs) (.int 0)) (hb1 : bs.length + 1 ≤ 78) (hpos : ∀ x ∈ bs, ¬ x < (0 : Int32)) :
    own_Met l Y_46 (Jvm.Cond.code Y_46 jdk_123_method_3_code 5 (some .int) :: ws) (RM 0 0 0 0) #[.ref ub, .int 0, .int (Int32.ofNat bs.length)] Z h0 (QCP Z ub ku bs h0 n0) := by
  refine own_bS pn_57 rfl D_57 (fun m => ef_CP m ub bs) hw fun p e s m below meth c sZ Bd hx hby hml hown hnm hh hZ X0 e0 w H pre0 => ?_
  have N0 := Fr.nil n0
  have ch1 : Goes p e below sZ (entryFrame m #[.ref ub, .int 0, .int (Int32.ofNat bs.length)] 5) sZ (mkF m 7 #[vR ub, vI 0, .val (.int (Int32.ofNat bs.length)), .val (.int (Int32.ofNat bs.length)), vI 0] []) := fun t kt => pre0 t (by
    show SG X0 0 #[vR ub, vI 0, .val (.int (Int32.ofNat bs.length)), vU, vU] [] _
    refine XS.iloadN X0.here hx rfl (H 0 rfl) rfl ?_
    refine XS.iloadN X0.here hx rfl (H 1 rfl) rfl ?_
    refine XS.iadd X0.here hx rfl (H 2 rfl) rfl ?_
    refine XS.istoreN X0.here hx rfl (H 3 rfl) rfl (l' := #[vR ub, vI 0, .val (.int (Int32.ofNat bs.length)), .val (.int ((0 : Int32) + (Int32.ofNat bs.length))), vU]) rfl ?_
    refine XS.iloadN X0.here hx rfl (H 4 rfl) rfl ?_
    refine XS.istore X0.here hx rfl (H 5 rfl) rfl (l' := #[vR ub, vI 0, .val (.int (Int32.ofNat bs.length)), .val (.int ((0 : Int32) + (Int32.ofNat bs.length))), vI 0]) rfl ?_
    show SG X0 7 #[vR ub, vI 0, .val (.int (Int32.ofNat bs.length)), .val (.int ((0 : Int32) + (Int32.ofNat bs.length))), vI 0] [] _
    rw [(own_0a (Int32.ofNat bs.length))]
    show SG X0 7 #[vR ub, vI 0, .val (.int (Int32.ofNat bs.length)), .val (.int (Int32.ofNat bs.length)), vI 0] [] _
    exact kt)
  have LP : ∀ (k j : Nat), j + k = bs.length → Goes p e below sZ (mkF m 7 #[vR ub, vI 0, .val (.int (Int32.ofNat bs.length)), .val (.int (Int32.ofNat bs.length)), .val (.int (Int32.ofNat j))] []) sZ (mkF m 31 #[vR ub, vI 0, .val (.int (Int32.ofNat bs.length)), .val (.int (Int32.ofNat bs.length)), .val (.int (Int32.ofNat bs.length))] []) := by
    intro k
    induction k with
    | zero =>
      intro j hj
      obtain rfl : j = bs.length := by omega
      intro t kt
      show SG X0 7 #[vR ub, vI 0, .val (.int (Int32.ofNat bs.length)), .val (.int (Int32.ofNat bs.length)), .val (.int (Int32.ofNat bs.length))] [] _
      refine XS.iload X0.here hx rfl (H 6 rfl) rfl ?_
      refine XS.iloadN X0.here hx rfl (H 7 rfl) rfl ?_
      refine XS.icmpYes X0.here hx rfl (pc0 := 10) (pc' := 31) rfl (H 8 rfl) rfl (flt own_nltj).2.1 (by decide) (by decide) ?_
      exact kt
    | succ k ih =>
      intro j hj
      have hj1 : j < bs.length := by omega
      have hq1 := own_ltj hb1 hj1
      have hq2 := own_posj hpos hj1
      intro t kt
      show SG X0 7 #[vR ub, vI 0, .val (.int (Int32.ofNat bs.length)), .val (.int (Int32.ofNat bs.length)), .val (.int (Int32.ofNat j))] [] _
      refine XS.iload X0.here hx rfl (H 6 rfl) rfl ?_
      refine XS.iloadN X0.here hx rfl (H 7 rfl) rfl ?_
      refine XS.icmpNo X0.here hx rfl (H 8 rfl) rfl (tlt hq1).2.1 ?_
      refine XS.aloadN X0.here hx rfl (H 9 rfl) rfl rfl ?_
      refine XS.iload X0.here hx rfl (H 10 rfl) rfl ?_
      refine own_bal X0 hx hZ e0 P0 (x := (bs.getD j 0)) ⟨(own_n j (by omega)).1, hq1⟩ (own_elj hb1 hj1) (H 11 rfl) ?_
      refine XS.ifYes X0.here hx rfl (pc0 := 17) (pc' := 25) rfl (H 12 rfl) rfl ((if0 _ _).trans (flt hq2).2.1) (by decide) (by decide) ?_
      refine XS.iinc X0.here hx rfl (H 13 rfl) rfl (l' := #[vR ub, vI 0, .val (.int (Int32.ofNat bs.length)), .val (.int (Int32.ofNat bs.length)), .val (.int ((Int32.ofNat j) + (1 : Int32)))]) rfl ?_
      refine XS.goto X0.here hx rfl (pc0 := 28) (pc' := 7) rfl (H 14 rfl) (by decide) (by decide) ?_
      rw [own_succ]
      exact ih (j + 1) (by omega) t kt
  have ch2 : Goes p e below sZ (entryFrame m #[.ref ub, .int 0, .int (Int32.ofNat bs.length)] 5) sZ (mkF m 31 #[vR ub, vI 0, .val (.int (Int32.ofNat bs.length)), .val (.int (Int32.ofNat bs.length)), .val (.int (Int32.ofNat bs.length))] []) := fun t kt => ch1 t (LP bs.length 0 (by omega) t kt)
  obtain ⟨fs, hr, hrun, hended, hW, hsame⟩ := X0.leave (v := some (.int (Int32.ofNat bs.length))) (fun h => by rw [Bd.returns] at h; cases h)
  refine ⟨_, _, ch2 _ ?_, hrun, hended, _, _, rfl, ?_, ⟨_, rfl⟩, hW, hsame.mono (by decide) (by decide)⟩
  · show SG X0 31 #[vR ub, vI 0, .val (.int (Int32.ofNat bs.length)), .val (.int (Int32.ofNat bs.length)), .val (.int (Int32.ofNat bs.length))] [] _
    refine XS.iloadN X0.here hx rfl (H 15 rfl) rfl ?_
    exact retI X0 hx Bd.returns (H 16 rfl) hr
  · show QCP Z ub ku bs h0 n0 _ sZ.heap _
    rw [e0]
    exact ⟨rfl, N0, rfl⟩

theorem pn_56 : plainName "java/lang/StringCoding" = true := by first | (simp [plainName, overriddenIn]; done) | decide +kernel
theorem ef_HN (m : MethodId) (ub : Addr) (bs : List Int32) : entryFrame m #[.ref ub, .int 0, .int (Int32.ofNat bs.length)] 3 = mkF m 0 #[.val (.ref ub), .val (.int 0), .val (.int (Int32.ofNat bs.length))] [] := by simp [entryFrame, mkF, argsToLocals, Value.category]
theorem pd_39 : parseMethodDescriptor "([BII)I" = some ⟨[(.array .byte), .int, .int], some .int⟩ := by decide +kernel
def QHN (Z : State) (ub : Addr) (ku : ClassId) (bs : List Int32) (h0 : Heap) (n0 : Nat) (v : Option Value) (h : Heap) (L : List Loc) : Prop := v = some (.int 0) ∧ Fr n0 L ∧ h = h0
theorem rmHN (l : Launch) (Z : State) (a0 : Array Value) (hw : HWd a0 Z) (ws : List Jvm.Cond) (ub : Addr) (ku : ClassId) (bs : List Int32) (h0 : Heap) (n0 : Nat) (Z0 : n0 ≤ h0.size) (P0 : Arv Z h0 ub ku .byte (Int32.ofNat bs.length) (own_iv bs) (.int 0)) (hb1 : bs.length + 1 ≤ 78) (hpos : ∀ x ∈ bs, ¬ x < (0 : Int32)) :
    own_Met l Y_47 (Jvm.Cond.code Y_47 jdk_123_method_2_code 3 (some .boolean) :: ws) (RM 1 0 0 16) #[.ref ub, .int 0, .int (Int32.ofNat bs.length)] Z h0 (QHN Z ub ku bs h0 n0) := by
  refine own_bS pn_56 rfl D_56 (fun m => ef_HN m ub bs) hw fun p e s m below meth c sZ Bd hx hby hml hown hnm hh hZ X0 e0 w H pre0 => ?_
  have N0 := Fr.nil n0
  obtain ⟨_, T1, lo1, Lc1, X1, N1, hQ1, st1⟩ := own_af (QCP Z ub ku bs h0 n0) 0 0 0 0 0 0 (Jvm.LawKit.callS X0 hx (y := Y_46) hown (mvT hZ (w 313 rfl)) (mvT hZ (w 314 rfl)) (mvT hZ (w 311 rfl)) (mvT hZ (w 315 rfl)) (by decide) (backOf (W := 0) (rmCP l Z a0 hw [] ub ku bs h0 n0 Z0 P0 hb1 hpos) hZ (w 315 rfl) (w 311 rfl) (by decide) (by decide)) (g := (mkF m 3 #[vR ub, vI 0, .val (.int (Int32.ofNat bs.length))] [.int (Int32.ofNat bs.length), .int 0, .ref ub])) rfl (by rw [hml]; rfl) (argsL := [.ref ub, .int 0, .int (Int32.ofNat bs.length)]) (rest := []) (lenOf pd_39 rfl) rfl (lq rfl) (H 3 rfl) (fun _ _ => ⟨rfl, e0, (by decide : 0 + 0 ≤ _), (by decide : 0 + 0 ≤ _)⟩)) N0 (fun _ _ _ h => h.2.1) rfl rfl
  dsimp only at st1
  obtain ⟨rfl, N1q, r1_0⟩ := hQ1
  obtain ⟨fs, hr, hrun, hended, hW, hsame⟩ := X1.leave (v := some (.int 0)) (fun h => by rw [Bd.returns] at h; cases h)
  refine ⟨_, _, pre0 _ ?_, hrun, hended, _, _, rfl, ?_, ⟨_, rfl⟩, hW, hsame.mono (by decide) (by decide)⟩
  · show SG X0 0 #[vR ub, vI 0, .val (.int (Int32.ofNat bs.length))] [] _
    refine XS.aloadN X0.here hx rfl (H 0 rfl) rfl rfl ?_
    refine XS.iloadN X0.here hx rfl (H 1 rfl) rfl ?_
    refine XS.iloadN X0.here hx rfl (H 2 rfl) rfl ?_
    refine st1 _ ?_
    show SG X1 6 #[vR ub, vI 0, .val (.int (Int32.ofNat bs.length))] [.int (Int32.ofNat bs.length)] _
    refine XS.iloadN X1.here hx rfl (H 4 rfl) rfl ?_
    refine XS.icmpYes X1.here hx rfl (pc0 := 7) (pc' := 14) rfl (H 5 rfl) rfl (teq (rfl : (Int32.ofNat bs.length) = (Int32.ofNat bs.length))).1 (by decide) (by decide) ?_
    refine XS.iconst X1.here hx rfl (H 6 rfl) ?_
    exact retN X1 hx (t := .boolean) Bd.returns (by simp) (H 7 rfl) hr
  · show QHN Z ub ku bs h0 n0 _ T1.heap _
    rw [r1_0]
    exact ⟨rfl, N1, rfl⟩

theorem pn_55 : plainName "java/lang/String" = true := by first | (simp [plainName, overriddenIn]; done) | decide +kernel
theorem ef_EU (m : MethodId) (ub : Addr) : entryFrame m #[.int 0, .ref ub, .int 1] 9 = mkF m 0 #[.val (.int 0), .val (.ref ub), .val (.int 1), .unset, .unset, .unset, .unset, .unset, .unset] [] := by simp [entryFrame, mkF, argsToLocals, Value.category]
theorem pd_38 : parseMethodDescriptor "([BII)Z" = some ⟨[(.array .byte), .int, .int], some .boolean⟩ := by decide +kernel
def QEU (Z : State) (ub : Addr) (ku : ClassId) (bs : List Int32) (h0 : Heap) (n0 : Nat) (v : Option Value) (h : Heap) (L : List Loc) : Prop := ∃ xb : Addr, ∃ xk : ClassId, v = some (.ref xb) ∧ Fr n0 L ∧ Keep h0 h [] ∧ h0.size ≤ xb ∧ Arv Z h xb xk .byte (Int32.ofNat bs.length) (own_iv bs) (.int 0)
theorem rmEU (l : Launch) (Z : State) (a0 : Array Value) (hw : HWd a0 Z) (ws : List Jvm.Cond) (ub : Addr) (ku : ClassId) (bs : List Int32) (h0 : Heap) (n0 : Nat) (Z0 : n0 ≤ h0.size) (P0 : Arv Z h0 ub ku .byte (Int32.ofNat bs.length) (own_iv bs) (.int 0)) (P1 : Exa Z h0 ub "[B") (hb1 : bs.length + 1 ≤ 78) (hpos : ∀ x ∈ bs, ¬ x < (0 : Int32)) :
    own_Met l Y_48 (Jvm.Cond.code Y_48 jdk_42_method_46_code 9 (some (.array .byte)) :: ws) (RM 2 1 78 30) #[.int 0, .ref ub, .int 1] Z h0 (QEU Z ub ku bs h0 n0) := by
  refine own_bS pn_55 rfl D_55 (fun m => ef_EU m ub) hw fun p e s m below meth c sZ Bd hx hby hml hown hnm hh hZ X0 e0 w H pre0 => ?_
  have N0 := Fr.nil n0
  have K0 := Keep.refl h0 []
  obtain ⟨_, T1, lo1, Lc1, X1, N1, hQ1, st1⟩ := own_af (QHN Z ub ku bs h0 n0) 0 0 0 0 0 0 (Jvm.LawKit.callS X0 hx (y := Y_47) hown (mvT hZ (w 309 rfl)) (mvT hZ (w 310 rfl)) (mvT hZ (w 311 rfl)) (mvT hZ (w 312 rfl)) (by decide) (backOf (W := 0) (rmHN l Z a0 hw [] ub ku bs h0 n0 Z0 P0 hb1 hpos) hZ (w 312 rfl) (w 311 rfl) (by decide) (by decide)) (g := (mkF m 15 #[vI 0, vR ub, vI 1, vU, vU, vU, vU, vU, vU] [.int (Int32.ofNat bs.length), .int 0, .ref ub])) rfl (by rw [hml]; rfl) (argsL := [.ref ub, .int 0, .int (Int32.ofNat bs.length)]) (rest := []) (lenOf pd_38 rfl) rfl (lq rfl) (H 7 rfl) (fun _ _ => ⟨rfl, e0, (by decide : 0 + 0 ≤ _), (by decide : 0 + 0 ≤ _)⟩)) N0 (fun _ _ _ h => h.2.1) rfl rfl
  dsimp only at st1
  obtain ⟨rfl, N1q, r1_0⟩ := hQ1
  obtain ⟨T2, h2, X2, e2, E2, A2, x2, st2⟩ := cloneH X1 hx hZ hown (w 316 rfl) (w 317 rfl) (w 321 rfl) (w 319 rfl) (w 320 rfl) (w 322 rfl) r1_0 P0.arh P1 (g := (mkF m 22 #[vI 0, vR ub, vI 1, vU, vU, vU, vU, vU, vU] [.ref ub])) rfl (by rw [hml]; rfl) rfl (H 10 rfl) (by decide) (W := 0) (cap := 78) (lq rfl) (by decide) (own_le78 hb1) (by decide) (by decide)
  obtain ⟨b2, g2⟩ : ∃ z, z = h0.size := ⟨_, rfl⟩
  rw [← g2] at A2 x2 st2
  have sz_b2 : h0.size ≤ b2 := Nat.le_trans K0.1 (Nat.le_of_eq g2.symm)
  have K2 := K0.ext E2
  have V2 : Arv Z h2 b2 ku .byte (Int32.ofNat bs.length) (own_iv bs) (.int 0) := A2
  obtain ⟨T6, X6, e6, st6⟩ := castY X2 hx hZ hown (w 323 rfl) e2 (Ins.self x2) (g := (mkF m 25 #[vI 0, vR ub, vI 1, vU, vU, vU, vU, vU, vU] [.ref b2])) rfl rfl (H 11 rfl)
  obtain ⟨fs, hr, hrun, hended, hW, hsame⟩ := X6.leave (v := some (.ref b2)) (fun h => by rw [Bd.returns] at h; cases h)
  refine ⟨_, _, pre0 _ ?_, hrun, hended, _, _, rfl, ?_, ⟨_, rfl⟩, hW, hsame.mono (by decide) (by decide)⟩
  · show SG X0 0 #[vI 0, vR ub, vI 1, vU, vU, vU, vU, vU, vU] [] _
    refine XS.iloadN X0.here hx rfl (H 0 rfl) rfl ?_
    refine XS.iconst X0.here hx rfl (H 1 rfl) ?_
    refine XS.icmpYes X0.here hx rfl (pc0 := 2) (pc' := 11) rfl (H 2 rfl) rfl (feq (by decide : ¬ ((0 : Int32) = (1 : Int32)))).2 (by decide) (by decide) ?_
    refine XS.aloadN X0.here hx rfl (H 3 rfl) rfl rfl ?_
    refine XS.iconst X0.here hx rfl (H 4 rfl) ?_
    refine XS.aloadN X0.here hx rfl (H 5 rfl) rfl rfl ?_
    refine own_alen X0 hx hZ e0 P0 (H 6 rfl) ?_
    refine st1 _ ?_
    show SG X1 18 #[vI 0, vR ub, vI 1, vU, vU, vU, vU, vU, vU] [.int 0] _
    refine XS.ifNo X1.here hx rfl (H 8 rfl) rfl ((if0 _ _).trans (teq (by decide : ((0 : Int32) = (0 : Int32)))).2) ?_
    refine XS.aloadN X1.here hx rfl (H 9 rfl) rfl rfl ?_
    refine st2 _ ?_
    show SG X2 25 #[vI 0, vR ub, vI 1, vU, vU, vU, vU, vU, vU] [.ref b2] _
    refine st6 _ ?_
    show SG X6 28 #[vI 0, vR ub, vI 1, vU, vU, vU, vU, vU, vU] [.ref b2] _
    jvm_step X6.here [X6.here.top, hx, (H 12 rfl), X6.method', Bd.returns, Value.isRef, FieldType.isReference]
    first | (intro acts; rw [hr _ acts rfl rfl rfl]) | rw [hr _ _ rfl rfl rfl]
    exact Steps.refl _
  · show QEU Z ub ku bs h0 n0 _ T6.heap _
    rw [e6]
    exact ⟨b2, ku, rfl, N1, K2, sz_b2, V2⟩

theorem pn_54 : plainName "java/lang/String" = true := by first | (simp [plainName, overriddenIn]; done) | decide +kernel
theorem ef_EC (m : MethodId) (uc ub : Addr) : entryFrame m #[.ref uc, .int 0, .ref ub] 3 = mkF m 0 #[.val (.ref uc), .val (.int 0), .val (.ref ub)] [] := by simp [entryFrame, mkF, argsToLocals, Value.category]
theorem pd_37 : parseMethodDescriptor "(B[BZ)[B" = some ⟨[.byte, (.array .byte), .boolean], some (.array .byte)⟩ := by decide +kernel
def QEC (Z : State) (uc ub : Addr) (ku : ClassId) (bs : List Int32) (h0 : Heap) (n0 : Nat) (v : Option Value) (h : Heap) (L : List Loc) : Prop := ∃ xb : Addr, ∃ xk : ClassId, v = some (.ref xb) ∧ Fr n0 L ∧ Keep h0 h [] ∧ h0.size ≤ xb ∧ Arv Z h xb xk .byte (Int32.ofNat bs.length) (own_iv bs) (.int 0)
theorem rmEC (l : Launch) (Z : State) (a0 : Array Value) (hw : HWd a0 Z) (ws : List Jvm.Cond) (uc ub : Addr) (ku : ClassId) (bs : List Int32) (h0 : Heap) (n0 : Nat) (Z0 : n0 ≤ h0.size) (P0 : Arv Z h0 ub ku .byte (Int32.ofNat bs.length) (own_iv bs) (.int 0)) (P1 : Exa Z h0 ub "[B") (P2 : Sta Z h0 "sun/nio/cs/UTF_8" "INSTANCE" "Lsun/nio/cs/UTF_8;" (.ref uc)) (hb1 : bs.length + 1 ≤ 78) (hpos : ∀ x ∈ bs, ¬ x < (0 : Int32)) :
    own_Met l Y_49 (Jvm.Cond.code Y_49 jdk_42_method_18_code 3 (some (.array .byte)) :: ws) (RM 3 1 78 50) #[.ref uc, .int 0, .ref ub] Z h0 (QEC Z uc ub ku bs h0 n0) := by
  refine own_bS pn_54 rfl D_54 (fun m => ef_EC m uc ub) hw fun p e s m below meth c sZ Bd hx hby hml hown hnm hh hZ X0 e0 w H pre0 => ?_
  have N0 := Fr.nil n0
  have K0 := Keep.refl h0 []
  obtain ⟨T1, X1, e1, st1⟩ := getS2 X0 hx hZ hown (host := "") (Or.inl (w 304 rfl)) Via.refl e0 P2 (g := (mkF m 1 #[vR uc, vI 0, vR ub] [.ref uc])) rfl (H 1 rfl)
  obtain ⟨_, T2, lo2, Lc2, X2, N2, hQ2, st2⟩ := own_af (QEU Z ub ku bs h0 n0) 0 1 0 78 1 78 (Jvm.LawKit.callS X1 hx (y := Y_48) hown (mvT hZ (w 306 rfl)) (mvT hZ (w 307 rfl)) (mvT hZ (w 5 rfl)) (mvT hZ (w 308 rfl)) (by decide) (backOf (W := 0) (rmEU l Z a0 hw [] ub ku bs h0 n0 Z0 P0 P1 hb1 hpos) hZ (w 308 rfl) (w 5 rfl) (by decide) (by decide)) (g := (mkF m 10 #[vR uc, vI 0, vR ub] [.int 1, .ref ub, .int 0])) rfl (by rw [hml]; rfl) (argsL := [.int 0, .ref ub, .int 1]) (rest := []) (lenOf pd_37 rfl) rfl (lq rfl) (H 6 rfl) (fun _ _ => ⟨rfl, e1, (by decide : 0 + 1 ≤ _), (by decide : 0 + 78 ≤ _)⟩)) N0 (by rintro _ _ _ ⟨_, _, -, N, -⟩; exact N) rfl rfl
  dsimp only at st2
  obtain ⟨x2_0, x2_1, rfl, N2q, r2_0, r2_1, r2_2⟩ := hQ2
  have sz_x2_0 : h0.size ≤ x2_0 := Nat.le_trans K0.1 r2_1
  have K2 := K0.trans r2_0 all0
  obtain ⟨fs, hr, hrun, hended, hW, hsame⟩ := X2.leave (v := some (.ref x2_0)) (fun h => by rw [Bd.returns] at h; cases h)
  refine ⟨_, _, pre0 _ ?_, hrun, hended, _, _, rfl, ?_, ⟨_, rfl⟩, hW, hsame.mono (by decide) (by decide)⟩
  · show SG X0 0 #[vR uc, vI 0, vR ub] [] _
    refine XS.aloadN X0.here hx rfl (H 0 rfl) rfl rfl ?_
    refine st1 _ ?_
    show SG X1 4 #[vR uc, vI 0, vR ub] [.ref uc, .ref uc] _
    refine Jvm.RoadKit.acmp (g := (mkF m 4 #[vR uc, vI 0, vR ub] [.ref uc, .ref uc])) X1 hx rfl rfl rfl (pc0 := 4) (pc' := 7) (same := true) rfl (H 2 rfl) rfl (decide_eq_true rfl) (by decide) (by decide) ?_
    refine XS.iloadN X1.here hx rfl (H 3 rfl) rfl ?_
    refine XS.aloadN X1.here hx rfl (H 4 rfl) rfl rfl ?_
    refine XS.iconst X1.here hx rfl (H 5 rfl) ?_
    refine st2 _ ?_
    show SG X2 13 #[vR uc, vI 0, vR ub] [.ref x2_0] _
    jvm_step X2.here [X2.here.top, hx, (H 7 rfl), X2.method', Bd.returns, Value.isRef, FieldType.isReference]
    first | (intro acts; rw [hr _ acts rfl rfl rfl]) | rw [hr _ _ rfl rfl rfl]
    exact Steps.refl _
  · show QEC Z uc ub ku bs h0 n0 _ T2.heap _
    exact ⟨x2_0, x2_1, rfl, N2, K2, sz_x2_0, r2_2⟩

theorem pn_53 : plainName "java/lang/String" = true := by first | (simp [plainName, overriddenIn]; done) | decide +kernel
theorem ef_GY (m : MethodId) (sg uc : Addr) : entryFrame m #[.ref sg, .ref uc] 2 = mkF m 0 #[.val (.ref sg), .val (.ref uc)] [] := by simp [entryFrame, mkF, argsToLocals, Value.category]
theorem pd_36 : parseMethodDescriptor "(Ljava/nio/charset/Charset;B[B)[B" = some ⟨[(.object "java/nio/charset/Charset"), .byte, (.array .byte)], some (.array .byte)⟩ := by decide +kernel
def QGY (Z : State) (sg uc ub : Addr) (ku : ClassId) (bs : List Int32) (cs : Int32) (h0 : Heap) (n0 : Nat) (v : Option Value) (h : Heap) (L : List Loc) : Prop := ∃ xb : Addr, ∃ xk : ClassId, v = some (.ref xb) ∧ Fr n0 L ∧ Keep h0 h [] ∧ h0.size ≤ xb ∧ Arv Z h xb xk .byte (Int32.ofNat bs.length) (own_iv bs) (.int 0)
theorem rmGY (l : Launch) (Z : State) (a0 : Array Value) (hw : HWd a0 Z) (ws : List Jvm.Cond) (sg uc ub : Addr) (ku : ClassId) (bs : List Int32) (cs : Int32) (h0 : Heap) (n0 : Nat) (Z0 : n0 ≤ h0.size) (P0 : Exa Z h0 sg sS) (P1 : Fld Z h0 sg sS "value" "[B" (.ref ub)) (P2 : Fld Z h0 sg sS "coder" "B" (.int 0)) (P3 : Arv Z h0 ub ku .byte (Int32.ofNat bs.length) (own_iv bs) (.int 0)) (P4 : Exa Z h0 ub "[B") (P5 : Sta Z h0 "sun/nio/cs/UTF_8" "INSTANCE" "Lsun/nio/cs/UTF_8;" (.ref uc)) (P6 : Sta Z h0 sS sC "Z" (.int cs)) (hcs : ¬ cs = (0 : Int32)) (hb1 : bs.length + 1 ≤ 78) (hpos : ∀ x ∈ bs, ¬ x < (0 : Int32)) :
    own_Met l Y_50 (Jvm.Cond.code Y_50 jdk_42_method_64_code 2 (some (.array .byte)) :: ws) (RM 4 1 78 64) #[.ref sg, .ref uc] Z h0 (QGY Z sg uc ub ku bs cs h0 n0) := by
  refine own_bS pn_53 rfl D_53 (fun m => ef_GY m sg uc) hw fun p e s m below meth c sZ Bd hx hby hml hown hnm hh hZ X0 e0 w H pre0 => ?_
  have N0 := Fr.nil n0
  have K0 := Keep.refl h0 []
  obtain ⟨cq1, kq1, q1a, q1b, q1c⟩ := isOf hZ e0 P0
  obtain ⟨_, T1, lo1, Lc1, X1, N1, hQ1, st1⟩ := own_af (QSC Z sg cs h0 n0) 0 0 0 0 0 0 (X0.virtualBack hx (y := Y_8) (z := Y_8) hown (mvT hZ (w 92 rfl)) (mvT hZ (w 93 rfl)) (own_ns hZ (w 95 rfl)) (mvT hZ (w 95 rfl)) (mvT hZ (w 94 rfl)) (by decide) (backOf (W := 1) (rmSC l Z a0 hw [] sg cs h0 n0 Z0 P2 P0 P6 hcs) hZ (w 96 rfl) (w 5 rfl) (by decide) (by decide)) q1a q1c (g := (mkF m 14 #[vR sg, vR uc] [.ref sg, .ref uc])) rfl (by rw [hml]; rfl) (Steps.refl _) (argsL := []) (rest := [.ref uc]) (lenOf pd_10 rfl) rfl (lq rfl) (H 4 rfl) (fun _ _ => ⟨rfl, e0, (by decide : 0 + 0 ≤ _), (by decide : 0 + 0 ≤ _)⟩)) N0 (fun _ _ _ h => h.2.1) rfl rfl
  dsimp only at st1
  obtain ⟨rfl, N1q, r1_0⟩ := hQ1
  obtain ⟨T2, X2, e2, st2⟩ := getF X1 hx hZ hown (host := "") (Or.inl (w 25 rfl)) Via.refl r1_0 P1 (g := (mkF m 18 #[vR sg, vR uc] [.ref sg, .int 0, .ref uc])) rfl rfl (H 6 rfl)
  obtain ⟨_, T3, lo3, Lc3, X3, N3, hQ3, st3⟩ := own_af (QEC Z uc ub ku bs h0 n0) 0 1 0 78 1 78 (Jvm.LawKit.callS X2 hx (y := Y_49) hown (mvT hZ (w 301 rfl)) (mvT hZ (w 302 rfl)) (mvT hZ (w 5 rfl)) (mvT hZ (w 303 rfl)) (by decide) (backOf (W := 0) (rmEC l Z a0 hw [] uc ub ku bs h0 n0 Z0 P3 P4 P5 hb1 hpos) hZ (w 303 rfl) (w 5 rfl) (by decide) (by decide)) (g := (mkF m 21 #[vR sg, vR uc] [.ref ub, .int 0, .ref uc])) rfl (by rw [hml]; rfl) (argsL := [.ref uc, .int 0, .ref ub]) (rest := []) (lenOf pd_36 rfl) rfl (lq rfl) (H 7 rfl) (fun _ _ => ⟨rfl, e2, (by decide : 0 + 1 ≤ _), (by decide : 0 + 78 ≤ _)⟩)) N1 (by rintro _ _ _ ⟨_, _, -, N, -⟩; exact N) rfl rfl
  dsimp only at st3
  obtain ⟨x3_0, x3_1, rfl, N3q, r3_0, r3_1, r3_2⟩ := hQ3
  have sz_x3_0 : h0.size ≤ x3_0 := Nat.le_trans K0.1 r3_1
  have K3 := K0.trans r3_0 all0
  obtain ⟨fs, hr, hrun, hended, hW, hsame⟩ := X3.leave (v := some (.ref x3_0)) (fun h => by rw [Bd.returns] at h; cases h)
  refine ⟨_, _, pre0 _ ?_, hrun, hended, _, _, rfl, ?_, ⟨_, rfl⟩, hW, hsame.mono (by decide) (by decide)⟩
  · show SG X0 0 #[vR sg, vR uc] [] _
    refine XS.aloadN X0.here hx rfl (H 0 rfl) rfl rfl ?_
    refine XS.ifnonnullYes X0.here hx rfl (pc0 := 1) (pc' := 12) rfl (H 1 rfl) rfl (by decide) (by decide) ?_
    refine XS.aloadN X0.here hx rfl (H 2 rfl) rfl rfl ?_
    refine XS.aloadN X0.here hx rfl (H 3 rfl) rfl rfl ?_
    refine st1.trans ?_
    show SG X1 17 #[vR sg, vR uc] [.int 0, .ref uc] _
    refine XS.aloadN X1.here hx rfl (H 5 rfl) rfl rfl ?_
    refine st2 _ ?_
    show SG X2 21 #[vR sg, vR uc] [.ref ub, .int 0, .ref uc] _
    refine st3 _ ?_
    show SG X3 24 #[vR sg, vR uc] [.ref x3_0] _
    jvm_step X3.here [X3.here.top, hx, (H 8 rfl), X3.method', Bd.returns, Value.isRef, FieldType.isReference]
    first | (intro acts; rw [hr _ acts rfl rfl rfl]) | rw [hr _ _ rfl rfl rfl]
    exact Steps.refl _
  · show QGY Z sg uc ub ku bs cs h0 n0 _ T3.heap _
    exact ⟨x3_0, x3_1, rfl, N3, K3, sz_x3_0, r3_2⟩

theorem pn_58 : plainName "com/example/cartolog/cartolog/xml/XmlDocumentEndPinLaw" = true := by first | (simp [plainName, overriddenIn]; done) | decide +kernel
theorem ef_TG38_0_0 (m : MethodId) (oa : Addr) (nh : Int32) : entryFrame m #[.ref oa, .int 38, .int 0, .int 0, .int nh] 7 = mkF m 0 #[.val (.ref oa), .val (.int 38), .val (.int 0), .val (.int 0), .val (.int nh), .unset, .unset] [] := by simp [entryFrame, mkF, argsToLocals, Value.category]
def QTG38_0_0 (Z : State) (oa : Addr) (nh : Int32) (ka : ClassId) (nz : Int32) (vs : List Value) (h0 : Heap) (n0 : Nat) (v : Option Value) (h : Heap) (L : List Loc) : Prop := v = some (.int 42) ∧ Fr n0 L ∧ h = h0
theorem rmTG38_0_0 (l : Launch) (Z : State) (a0 : Array Value) (hw : HWd a0 Z) (ws : List Jvm.Cond) (oa : Addr) (nh : Int32) (ka : ClassId) (nz : Int32) (vs : List Value) (h0 : Heap) (n0 : Nat) (Z0 : n0 ≤ h0.size) (P0 : Arv Z h0 oa ka .byte nz vs (.int 0)) (hz : ¬ nz < (42 : Int32)) (hv38 : vs.getD ((38 : Int32)).toNatClampNeg (.int 0) = .int 10) (hv39 : vs.getD ((39 : Int32)).toNatClampNeg (.int 0) = .int 60) (hv40 : vs.getD ((40 : Int32)).toNatClampNeg (.int 0) = .int (nh.toInt8.toInt32)) (hv41 : vs.getD ((41 : Int32)).toNatClampNeg (.int 0) = .int 62) :
    own_Met l Y_51 (Jvm.Cond.code Y_51 method_3_code 7 (some .int) :: ws) (RM 0 0 0 0) #[.ref oa, .int 38, .int 0, .int 0, .int nh] Z h0 (QTG38_0_0 Z oa nh ka nz vs h0 n0) := by
  refine own_bS pn_58 rfl D_58 (fun m => ef_TG38_0_0 m oa nh) hw fun p e s m below meth c sZ Bd hx hby hml hown hnm hh hZ X0 e0 w H pre0 => ?_
  have N0 := Fr.nil n0
  obtain ⟨fs, hr, hrun, hended, hW, hsame⟩ := X0.leave (v := some (.int 42)) (fun h => by rw [Bd.returns] at h; cases h)
  refine ⟨_, _, pre0 _ ?_, hrun, hended, _, _, rfl, ?_, ⟨_, rfl⟩, hW, hsame.mono (by decide) (by decide)⟩
  · show SG X0 0 #[vR oa, vI 38, vI 0, vI 0, vI nh, vU, vU] [] _
    refine XS.iloadN X0.here hx rfl (H 0 rfl) rfl ?_
    refine XS.ifYes X0.here hx rfl (pc0 := 1) (pc' := 6) rfl (H 1 rfl) rfl ((if0 _ _).trans (flt (by decide : ¬ ((38 : Int32) < (0 : Int32)))).2.1) (by decide) (by decide) ?_
    refine XS.iconst X0.here hx rfl (H 2 rfl) ?_
    refine XS.iloadN X0.here hx rfl (H 3 rfl) rfl ?_
    refine XS.iadd X0.here hx rfl (H 4 rfl) rfl ?_
    show SG X0 9 #[vR oa, vI 38, vI 0, vI 0, vI nh, vU, vU] [.int 4] _
    refine XS.iloadN X0.here hx rfl (H 5 rfl) rfl ?_
    refine XS.ifYes X0.here hx rfl (pc0 := 10) (pc' := 17) rfl (H 6 rfl) rfl ((if0 _ _).trans (teq (by decide : ((0 : Int32) = (0 : Int32)))).1) (by decide) (by decide) ?_
    refine XS.iconst X0.here hx rfl (H 9 rfl) ?_
    refine XS.iadd X0.here hx rfl (H 10 rfl) rfl ?_
    show SG X0 19 #[vR oa, vI 38, vI 0, vI 0, vI nh, vU, vU] [.int 4] _
    refine XS.istore X0.here hx rfl (H 11 rfl) rfl (l' := #[vR oa, vI 38, vI 0, vI 0, vI nh, vI 4, vU]) rfl ?_
    refine XS.iloadN X0.here hx rfl (H 12 rfl) rfl ?_
    refine XS.iload X0.here hx rfl (H 13 rfl) rfl ?_
    refine XS.iadd X0.here hx rfl (H 14 rfl) rfl ?_
    show SG X0 25 #[vR oa, vI 38, vI 0, vI 0, vI nh, vI 4, vU] [.int 42] _
    refine XS.aloadN X0.here hx rfl (H 15 rfl) rfl rfl ?_
    refine own_alen X0 hx hZ e0 P0 (H 16 rfl) ?_
    refine XS.icmpYes X0.here hx rfl (pc0 := 27) (pc' := 32) rfl (H 17 rfl) rfl (flt (hz : ¬ (nz < (42 : Int32)))).2.2.2 (by decide) (by decide) ?_
    refine XS.aloadN X0.here hx rfl (H 18 rfl) rfl rfl ?_
    refine XS.iloadN X0.here hx rfl (H 19 rfl) rfl ?_
    refine own_bal X0 hx hZ e0 P0 (x := (10 : Int32)) ⟨by decide, own_nlt hz (by decide)⟩ hv38 (H 20 rfl) ?_
    refine XS.bipush X0.here hx rfl (H 21 rfl) ?_
    refine XS.icmpYes X0.here hx rfl (pc0 := 37) (pc' := 42) rfl (H 22 rfl) rfl (teq (by decide : ((10 : Int32) = (10 : Int32)))).1 (by decide) (by decide) ?_
    refine XS.iloadN X0.here hx rfl (H 23 rfl) rfl ?_
    refine XS.iconst X0.here hx rfl (H 24 rfl) ?_
    refine XS.icmpYes X0.here hx rfl (pc0 := 44) (pc' := 59) rfl (H 25 rfl) rfl (tlt (by decide : ((0 : Int32) < (1 : Int32)))).1 (by decide) (by decide) ?_
    refine XS.iloadN X0.here hx rfl (H 33 rfl) rfl ?_
    refine XS.iconst X0.here hx rfl (H 34 rfl) ?_
    refine XS.icmpYes X0.here hx rfl (pc0 := 61) (pc' := 76) rfl (H 35 rfl) rfl (tlt (by decide : ((0 : Int32) < (2 : Int32)))).1 (by decide) (by decide) ?_
    refine XS.iloadN X0.here hx rfl (H 43 rfl) rfl ?_
    refine XS.iconst X0.here hx rfl (H 44 rfl) ?_
    refine XS.iadd X0.here hx rfl (H 45 rfl) rfl ?_
    show SG X0 79 #[vR oa, vI 38, vI 0, vI 0, vI nh, vI 4, vU] [.int 39] _
    refine XS.iloadN X0.here hx rfl (H 46 rfl) rfl ?_
    refine XS.iadd X0.here hx rfl (H 47 rfl) rfl ?_
    show SG X0 81 #[vR oa, vI 38, vI 0, vI 0, vI nh, vI 4, vU] [.int 39] _
    refine XS.istore X0.here hx rfl (H 48 rfl) rfl (l' := #[vR oa, vI 38, vI 0, vI 0, vI nh, vI 4, vI 39]) rfl ?_
    refine XS.aloadN X0.here hx rfl (H 49 rfl) rfl rfl ?_
    refine XS.iload X0.here hx rfl (H 50 rfl) rfl ?_
    refine own_bal X0 hx hZ e0 P0 (x := (60 : Int32)) ⟨by decide, own_nlt hz (by decide)⟩ hv39 (H 51 rfl) ?_
    refine XS.bipush X0.here hx rfl (H 52 rfl) ?_
    refine XS.icmpYes X0.here hx rfl (pc0 := 89) (pc' := 94) rfl (H 53 rfl) rfl (teq (by decide : ((60 : Int32) = (60 : Int32)))).1 (by decide) (by decide) ?_
    refine XS.iload X0.here hx rfl (H 54 rfl) rfl ?_
    refine XS.iconst X0.here hx rfl (H 55 rfl) ?_
    refine XS.iadd X0.here hx rfl (H 56 rfl) rfl ?_
    show SG X0 98 #[vR oa, vI 38, vI 0, vI 0, vI nh, vI 4, vI 39] [.int 40] _
    refine XS.istore X0.here hx rfl (H 57 rfl) rfl (l' := #[vR oa, vI 38, vI 0, vI 0, vI nh, vI 4, vI 40]) rfl ?_
    refine XS.iloadN X0.here hx rfl (H 58 rfl) rfl ?_
    refine XS.ifYes X0.here hx rfl (pc0 := 101) (pc' := 121) rfl (H 59 rfl) rfl ((if0 _ _).trans (teq (by decide : ((0 : Int32) = (0 : Int32)))).1) (by decide) (by decide) ?_
    refine XS.aloadN X0.here hx rfl (H 69 rfl) rfl rfl ?_
    refine XS.iload X0.here hx rfl (H 70 rfl) rfl ?_
    refine own_bal X0 hx hZ e0 P0 (x := (nh.toInt8.toInt32)) ⟨by decide, own_nlt hz (by decide)⟩ hv40 (H 71 rfl) ?_
    refine XS.iload X0.here hx rfl (H 72 rfl) rfl ?_
    refine XS.i2b X0.here hx rfl (H 73 rfl) rfl ?_
    refine XS.icmpYes X0.here hx rfl (pc0 := 128) (pc' := 133) rfl (H 74 rfl) rfl (teq (rfl : (nh.toInt8.toInt32) = (nh.toInt8.toInt32))).1 (by decide) (by decide) ?_
    refine XS.iload X0.here hx rfl (H 75 rfl) rfl ?_
    refine XS.iconst X0.here hx rfl (H 76 rfl) ?_
    refine XS.iadd X0.here hx rfl (H 77 rfl) rfl ?_
    show SG X0 137 #[vR oa, vI 38, vI 0, vI 0, vI nh, vI 4, vI 40] [.int 41] _
    refine XS.istore X0.here hx rfl (H 78 rfl) rfl (l' := #[vR oa, vI 38, vI 0, vI 0, vI nh, vI 4, vI 41]) rfl ?_
    refine XS.aloadN X0.here hx rfl (H 79 rfl) rfl rfl ?_
    refine XS.iload X0.here hx rfl (H 80 rfl) rfl ?_
    refine own_bal X0 hx hZ e0 P0 (x := (62 : Int32)) ⟨by decide, own_nlt hz (by decide)⟩ hv41 (H 81 rfl) ?_
    refine XS.bipush X0.here hx rfl (H 82 rfl) ?_
    refine XS.icmpYes X0.here hx rfl (pc0 := 145) (pc' := 150) rfl (H 83 rfl) rfl (teq (by decide : ((62 : Int32) = (62 : Int32)))).1 (by decide) (by decide) ?_
    refine XS.iload X0.here hx rfl (H 84 rfl) rfl ?_
    refine XS.iconst X0.here hx rfl (H 85 rfl) ?_
    refine XS.iadd X0.here hx rfl (H 86 rfl) rfl ?_
    show SG X0 154 #[vR oa, vI 38, vI 0, vI 0, vI nh, vI 4, vI 41] [.int 42] _
    exact retI X0 hx Bd.returns (H 87 rfl) hr
  · show QTG38_0_0 Z oa nh ka nz vs h0 n0 _ sZ.heap _
    rw [e0]
    exact ⟨rfl, N0, rfl⟩

theorem ef_TG42_0_1 (m : MethodId) (oa : Addr) (nh : Int32) : entryFrame m #[.ref oa, .int 42, .int 0, .int 1, .int nh] 7 = mkF m 0 #[.val (.ref oa), .val (.int 42), .val (.int 0), .val (.int 1), .val (.int nh), .unset, .unset] [] := by simp [entryFrame, mkF, argsToLocals, Value.category]
def QTG42_0_1 (Z : State) (oa : Addr) (nh : Int32) (ka : ClassId) (nz : Int32) (vs : List Value) (h0 : Heap) (n0 : Nat) (v : Option Value) (h : Heap) (L : List Loc) : Prop := v = some (.int 47) ∧ Fr n0 L ∧ h = h0
theorem rmTG42_0_1 (l : Launch) (Z : State) (a0 : Array Value) (hw : HWd a0 Z) (ws : List Jvm.Cond) (oa : Addr) (nh : Int32) (ka : ClassId) (nz : Int32) (vs : List Value) (h0 : Heap) (n0 : Nat) (Z0 : n0 ≤ h0.size) (P0 : Arv Z h0 oa ka .byte nz vs (.int 0)) (hz : ¬ nz < (47 : Int32)) (hv42 : vs.getD ((42 : Int32)).toNatClampNeg (.int 0) = .int 10) (hv43 : vs.getD ((43 : Int32)).toNatClampNeg (.int 0) = .int 60) (hv45 : vs.getD ((45 : Int32)).toNatClampNeg (.int 0) = .int (nh.toInt8.toInt32)) (hv46 : vs.getD ((46 : Int32)).toNatClampNeg (.int 0) = .int 62) (hv44 : vs.getD ((44 : Int32)).toNatClampNeg (.int 0) = .int 47) :
    own_Met l Y_51 (Jvm.Cond.code Y_51 method_3_code 7 (some .int) :: ws) (RM 0 0 0 0) #[.ref oa, .int 42, .int 0, .int 1, .int nh] Z h0 (QTG42_0_1 Z oa nh ka nz vs h0 n0) := by
  refine own_bS pn_58 rfl D_58 (fun m => ef_TG42_0_1 m oa nh) hw fun p e s m below meth c sZ Bd hx hby hml hown hnm hh hZ X0 e0 w H pre0 => ?_
  have N0 := Fr.nil n0
  obtain ⟨fs, hr, hrun, hended, hW, hsame⟩ := X0.leave (v := some (.int 47)) (fun h => by rw [Bd.returns] at h; cases h)
  refine ⟨_, _, pre0 _ ?_, hrun, hended, _, _, rfl, ?_, ⟨_, rfl⟩, hW, hsame.mono (by decide) (by decide)⟩
  · show SG X0 0 #[vR oa, vI 42, vI 0, vI 1, vI nh, vU, vU] [] _
    refine XS.iloadN X0.here hx rfl (H 0 rfl) rfl ?_
    refine XS.ifYes X0.here hx rfl (pc0 := 1) (pc' := 6) rfl (H 1 rfl) rfl ((if0 _ _).trans (flt (by decide : ¬ ((42 : Int32) < (0 : Int32)))).2.1) (by decide) (by decide) ?_
    refine XS.iconst X0.here hx rfl (H 2 rfl) ?_
    refine XS.iloadN X0.here hx rfl (H 3 rfl) rfl ?_
    refine XS.iadd X0.here hx rfl (H 4 rfl) rfl ?_
    show SG X0 9 #[vR oa, vI 42, vI 0, vI 1, vI nh, vU, vU] [.int 4] _
    refine XS.iloadN X0.here hx rfl (H 5 rfl) rfl ?_
    refine XS.ifNo X0.here hx rfl (H 6 rfl) rfl ((if0 _ _).trans (feq (by decide : ¬ ((1 : Int32) = (0 : Int32)))).1) ?_
    refine XS.iconst X0.here hx rfl (H 7 rfl) ?_
    refine XS.goto X0.here hx rfl (pc0 := 14) (pc' := 18) rfl (H 8 rfl) (by decide) (by decide) ?_
    refine XS.iadd X0.here hx rfl (H 10 rfl) rfl ?_
    show SG X0 19 #[vR oa, vI 42, vI 0, vI 1, vI nh, vU, vU] [.int 5] _
    refine XS.istore X0.here hx rfl (H 11 rfl) rfl (l' := #[vR oa, vI 42, vI 0, vI 1, vI nh, vI 5, vU]) rfl ?_
    refine XS.iloadN X0.here hx rfl (H 12 rfl) rfl ?_
    refine XS.iload X0.here hx rfl (H 13 rfl) rfl ?_
    refine XS.iadd X0.here hx rfl (H 14 rfl) rfl ?_
    show SG X0 25 #[vR oa, vI 42, vI 0, vI 1, vI nh, vI 5, vU] [.int 47] _
    refine XS.aloadN X0.here hx rfl (H 15 rfl) rfl rfl ?_
    refine own_alen X0 hx hZ e0 P0 (H 16 rfl) ?_
    refine XS.icmpYes X0.here hx rfl (pc0 := 27) (pc' := 32) rfl (H 17 rfl) rfl (flt (hz : ¬ (nz < (47 : Int32)))).2.2.2 (by decide) (by decide) ?_
    refine XS.aloadN X0.here hx rfl (H 18 rfl) rfl rfl ?_
    refine XS.iloadN X0.here hx rfl (H 19 rfl) rfl ?_
    refine own_bal X0 hx hZ e0 P0 (x := (10 : Int32)) ⟨by decide, own_nlt hz (by decide)⟩ hv42 (H 20 rfl) ?_
    refine XS.bipush X0.here hx rfl (H 21 rfl) ?_
    refine XS.icmpYes X0.here hx rfl (pc0 := 37) (pc' := 42) rfl (H 22 rfl) rfl (teq (by decide : ((10 : Int32) = (10 : Int32)))).1 (by decide) (by decide) ?_
    refine XS.iloadN X0.here hx rfl (H 23 rfl) rfl ?_
    refine XS.iconst X0.here hx rfl (H 24 rfl) ?_
    refine XS.icmpYes X0.here hx rfl (pc0 := 44) (pc' := 59) rfl (H 25 rfl) rfl (tlt (by decide : ((0 : Int32) < (1 : Int32)))).1 (by decide) (by decide) ?_
    refine XS.iloadN X0.here hx rfl (H 33 rfl) rfl ?_
    refine XS.iconst X0.here hx rfl (H 34 rfl) ?_
    refine XS.icmpYes X0.here hx rfl (pc0 := 61) (pc' := 76) rfl (H 35 rfl) rfl (tlt (by decide : ((0 : Int32) < (2 : Int32)))).1 (by decide) (by decide) ?_
    refine XS.iloadN X0.here hx rfl (H 43 rfl) rfl ?_
    refine XS.iconst X0.here hx rfl (H 44 rfl) ?_
    refine XS.iadd X0.here hx rfl (H 45 rfl) rfl ?_
    show SG X0 79 #[vR oa, vI 42, vI 0, vI 1, vI nh, vI 5, vU] [.int 43] _
    refine XS.iloadN X0.here hx rfl (H 46 rfl) rfl ?_
    refine XS.iadd X0.here hx rfl (H 47 rfl) rfl ?_
    show SG X0 81 #[vR oa, vI 42, vI 0, vI 1, vI nh, vI 5, vU] [.int 43] _
    refine XS.istore X0.here hx rfl (H 48 rfl) rfl (l' := #[vR oa, vI 42, vI 0, vI 1, vI nh, vI 5, vI 43]) rfl ?_
    refine XS.aloadN X0.here hx rfl (H 49 rfl) rfl rfl ?_
    refine XS.iload X0.here hx rfl (H 50 rfl) rfl ?_
    refine own_bal X0 hx hZ e0 P0 (x := (60 : Int32)) ⟨by decide, own_nlt hz (by decide)⟩ hv43 (H 51 rfl) ?_
    refine XS.bipush X0.here hx rfl (H 52 rfl) ?_
    refine XS.icmpYes X0.here hx rfl (pc0 := 89) (pc' := 94) rfl (H 53 rfl) rfl (teq (by decide : ((60 : Int32) = (60 : Int32)))).1 (by decide) (by decide) ?_
    refine XS.iload X0.here hx rfl (H 54 rfl) rfl ?_
    refine XS.iconst X0.here hx rfl (H 55 rfl) ?_
    refine XS.iadd X0.here hx rfl (H 56 rfl) rfl ?_
    show SG X0 98 #[vR oa, vI 42, vI 0, vI 1, vI nh, vI 5, vI 43] [.int 44] _
    refine XS.istore X0.here hx rfl (H 57 rfl) rfl (l' := #[vR oa, vI 42, vI 0, vI 1, vI nh, vI 5, vI 44]) rfl ?_
    refine XS.iloadN X0.here hx rfl (H 58 rfl) rfl ?_
    refine XS.ifNo X0.here hx rfl (H 59 rfl) rfl ((if0 _ _).trans (feq (by decide : ¬ ((1 : Int32) = (0 : Int32)))).1) ?_
    refine XS.aloadN X0.here hx rfl (H 60 rfl) rfl rfl ?_
    refine XS.iload X0.here hx rfl (H 61 rfl) rfl ?_
    refine own_bal X0 hx hZ e0 P0 (x := (47 : Int32)) ⟨by decide, own_nlt hz (by decide)⟩ hv44 (H 62 rfl) ?_
    refine XS.bipush X0.here hx rfl (H 63 rfl) ?_
    refine XS.icmpYes X0.here hx rfl (pc0 := 110) (pc' := 115) rfl (H 64 rfl) rfl (teq (by decide : ((47 : Int32) = (47 : Int32)))).1 (by decide) (by decide) ?_
    refine XS.iload X0.here hx rfl (H 65 rfl) rfl ?_
    refine XS.iconst X0.here hx rfl (H 66 rfl) ?_
    refine XS.iadd X0.here hx rfl (H 67 rfl) rfl ?_
    show SG X0 119 #[vR oa, vI 42, vI 0, vI 1, vI nh, vI 5, vI 44] [.int 45] _
    refine XS.istore X0.here hx rfl (H 68 rfl) rfl (l' := #[vR oa, vI 42, vI 0, vI 1, vI nh, vI 5, vI 45]) rfl ?_
    refine XS.aloadN X0.here hx rfl (H 69 rfl) rfl rfl ?_
    refine XS.iload X0.here hx rfl (H 70 rfl) rfl ?_
    refine own_bal X0 hx hZ e0 P0 (x := (nh.toInt8.toInt32)) ⟨by decide, own_nlt hz (by decide)⟩ hv45 (H 71 rfl) ?_
    refine XS.iload X0.here hx rfl (H 72 rfl) rfl ?_
    refine XS.i2b X0.here hx rfl (H 73 rfl) rfl ?_
    refine XS.icmpYes X0.here hx rfl (pc0 := 128) (pc' := 133) rfl (H 74 rfl) rfl (teq (rfl : (nh.toInt8.toInt32) = (nh.toInt8.toInt32))).1 (by decide) (by decide) ?_
    refine XS.iload X0.here hx rfl (H 75 rfl) rfl ?_
    refine XS.iconst X0.here hx rfl (H 76 rfl) ?_
    refine XS.iadd X0.here hx rfl (H 77 rfl) rfl ?_
    show SG X0 137 #[vR oa, vI 42, vI 0, vI 1, vI nh, vI 5, vI 45] [.int 46] _
    refine XS.istore X0.here hx rfl (H 78 rfl) rfl (l' := #[vR oa, vI 42, vI 0, vI 1, vI nh, vI 5, vI 46]) rfl ?_
    refine XS.aloadN X0.here hx rfl (H 79 rfl) rfl rfl ?_
    refine XS.iload X0.here hx rfl (H 80 rfl) rfl ?_
    refine own_bal X0 hx hZ e0 P0 (x := (62 : Int32)) ⟨by decide, own_nlt hz (by decide)⟩ hv46 (H 81 rfl) ?_
    refine XS.bipush X0.here hx rfl (H 82 rfl) ?_
    refine XS.icmpYes X0.here hx rfl (pc0 := 145) (pc' := 150) rfl (H 83 rfl) rfl (teq (by decide : ((62 : Int32) = (62 : Int32)))).1 (by decide) (by decide) ?_
    refine XS.iload X0.here hx rfl (H 84 rfl) rfl ?_
    refine XS.iconst X0.here hx rfl (H 85 rfl) ?_
    refine XS.iadd X0.here hx rfl (H 86 rfl) rfl ?_
    show SG X0 154 #[vR oa, vI 42, vI 0, vI 1, vI nh, vI 5, vI 46] [.int 47] _
    exact retI X0 hx Bd.returns (H 87 rfl) hr
  · show QTG42_0_1 Z oa nh ka nz vs h0 n0 _ sZ.heap _
    rw [e0]
    exact ⟨rfl, N0, rfl⟩

theorem ef_TG42_1_0 (m : MethodId) (oa : Addr) (nh : Int32) : entryFrame m #[.ref oa, .int 42, .int 1, .int 0, .int nh] 7 = mkF m 0 #[.val (.ref oa), .val (.int 42), .val (.int 1), .val (.int 0), .val (.int nh), .unset, .unset] [] := by simp [entryFrame, mkF, argsToLocals, Value.category]
def QTG42_1_0 (Z : State) (oa : Addr) (nh : Int32) (ka : ClassId) (nz : Int32) (vs : List Value) (h0 : Heap) (n0 : Nat) (v : Option Value) (h : Heap) (L : List Loc) : Prop := v = some (.int 47) ∧ Fr n0 L ∧ h = h0
theorem rmTG42_1_0 (l : Launch) (Z : State) (a0 : Array Value) (hw : HWd a0 Z) (ws : List Jvm.Cond) (oa : Addr) (nh : Int32) (ka : ClassId) (nz : Int32) (vs : List Value) (h0 : Heap) (n0 : Nat) (Z0 : n0 ≤ h0.size) (P0 : Arv Z h0 oa ka .byte nz vs (.int 0)) (hz : ¬ nz < (47 : Int32)) (hv42 : vs.getD ((42 : Int32)).toNatClampNeg (.int 0) = .int 10) (hv44 : vs.getD ((44 : Int32)).toNatClampNeg (.int 0) = .int 60) (hv45 : vs.getD ((45 : Int32)).toNatClampNeg (.int 0) = .int (nh.toInt8.toInt32)) (hv46 : vs.getD ((46 : Int32)).toNatClampNeg (.int 0) = .int 62) (hv43 : vs.getD ((43 : Int32)).toNatClampNeg (.int 0) = .int 9) :
    own_Met l Y_51 (Jvm.Cond.code Y_51 method_3_code 7 (some .int) :: ws) (RM 0 0 0 0) #[.ref oa, .int 42, .int 1, .int 0, .int nh] Z h0 (QTG42_1_0 Z oa nh ka nz vs h0 n0) := by
  refine own_bS pn_58 rfl D_58 (fun m => ef_TG42_1_0 m oa nh) hw fun p e s m below meth c sZ Bd hx hby hml hown hnm hh hZ X0 e0 w H pre0 => ?_
  have N0 := Fr.nil n0
  obtain ⟨fs, hr, hrun, hended, hW, hsame⟩ := X0.leave (v := some (.int 47)) (fun h => by rw [Bd.returns] at h; cases h)
  refine ⟨_, _, pre0 _ ?_, hrun, hended, _, _, rfl, ?_, ⟨_, rfl⟩, hW, hsame.mono (by decide) (by decide)⟩
  · show SG X0 0 #[vR oa, vI 42, vI 1, vI 0, vI nh, vU, vU] [] _
    refine XS.iloadN X0.here hx rfl (H 0 rfl) rfl ?_
    refine XS.ifYes X0.here hx rfl (pc0 := 1) (pc' := 6) rfl (H 1 rfl) rfl ((if0 _ _).trans (flt (by decide : ¬ ((42 : Int32) < (0 : Int32)))).2.1) (by decide) (by decide) ?_
    refine XS.iconst X0.here hx rfl (H 2 rfl) ?_
    refine XS.iloadN X0.here hx rfl (H 3 rfl) rfl ?_
    refine XS.iadd X0.here hx rfl (H 4 rfl) rfl ?_
    show SG X0 9 #[vR oa, vI 42, vI 1, vI 0, vI nh, vU, vU] [.int 5] _
    refine XS.iloadN X0.here hx rfl (H 5 rfl) rfl ?_
    refine XS.ifYes X0.here hx rfl (pc0 := 10) (pc' := 17) rfl (H 6 rfl) rfl ((if0 _ _).trans (teq (by decide : ((0 : Int32) = (0 : Int32)))).1) (by decide) (by decide) ?_
    refine XS.iconst X0.here hx rfl (H 9 rfl) ?_
    refine XS.iadd X0.here hx rfl (H 10 rfl) rfl ?_
    show SG X0 19 #[vR oa, vI 42, vI 1, vI 0, vI nh, vU, vU] [.int 5] _
    refine XS.istore X0.here hx rfl (H 11 rfl) rfl (l' := #[vR oa, vI 42, vI 1, vI 0, vI nh, vI 5, vU]) rfl ?_
    refine XS.iloadN X0.here hx rfl (H 12 rfl) rfl ?_
    refine XS.iload X0.here hx rfl (H 13 rfl) rfl ?_
    refine XS.iadd X0.here hx rfl (H 14 rfl) rfl ?_
    show SG X0 25 #[vR oa, vI 42, vI 1, vI 0, vI nh, vI 5, vU] [.int 47] _
    refine XS.aloadN X0.here hx rfl (H 15 rfl) rfl rfl ?_
    refine own_alen X0 hx hZ e0 P0 (H 16 rfl) ?_
    refine XS.icmpYes X0.here hx rfl (pc0 := 27) (pc' := 32) rfl (H 17 rfl) rfl (flt (hz : ¬ (nz < (47 : Int32)))).2.2.2 (by decide) (by decide) ?_
    refine XS.aloadN X0.here hx rfl (H 18 rfl) rfl rfl ?_
    refine XS.iloadN X0.here hx rfl (H 19 rfl) rfl ?_
    refine own_bal X0 hx hZ e0 P0 (x := (10 : Int32)) ⟨by decide, own_nlt hz (by decide)⟩ hv42 (H 20 rfl) ?_
    refine XS.bipush X0.here hx rfl (H 21 rfl) ?_
    refine XS.icmpYes X0.here hx rfl (pc0 := 37) (pc' := 42) rfl (H 22 rfl) rfl (teq (by decide : ((10 : Int32) = (10 : Int32)))).1 (by decide) (by decide) ?_
    refine XS.iloadN X0.here hx rfl (H 23 rfl) rfl ?_
    refine XS.iconst X0.here hx rfl (H 24 rfl) ?_
    refine XS.icmpNo X0.here hx rfl (H 25 rfl) rfl (flt (by decide : ¬ ((1 : Int32) < (1 : Int32)))).1 ?_
    refine XS.aloadN X0.here hx rfl (H 26 rfl) rfl rfl ?_
    refine XS.iloadN X0.here hx rfl (H 27 rfl) rfl ?_
    refine XS.iconst X0.here hx rfl (H 28 rfl) ?_
    refine XS.iadd X0.here hx rfl (H 29 rfl) rfl ?_
    show SG X0 51 #[vR oa, vI 42, vI 1, vI 0, vI nh, vI 5, vU] [.int 43, .ref oa] _
    refine own_bal X0 hx hZ e0 P0 (x := (9 : Int32)) ⟨by decide, own_nlt hz (by decide)⟩ hv43 (H 30 rfl) ?_
    refine XS.bipush X0.here hx rfl (H 31 rfl) ?_
    refine XS.icmpYes X0.here hx rfl (pc0 := 54) (pc' := 59) rfl (H 32 rfl) rfl (teq (by decide : ((9 : Int32) = (9 : Int32)))).1 (by decide) (by decide) ?_
    refine XS.iloadN X0.here hx rfl (H 33 rfl) rfl ?_
    refine XS.iconst X0.here hx rfl (H 34 rfl) ?_
    refine XS.icmpYes X0.here hx rfl (pc0 := 61) (pc' := 76) rfl (H 35 rfl) rfl (tlt (by decide : ((1 : Int32) < (2 : Int32)))).1 (by decide) (by decide) ?_
    refine XS.iloadN X0.here hx rfl (H 43 rfl) rfl ?_
    refine XS.iconst X0.here hx rfl (H 44 rfl) ?_
    refine XS.iadd X0.here hx rfl (H 45 rfl) rfl ?_
    show SG X0 79 #[vR oa, vI 42, vI 1, vI 0, vI nh, vI 5, vU] [.int 43] _
    refine XS.iloadN X0.here hx rfl (H 46 rfl) rfl ?_
    refine XS.iadd X0.here hx rfl (H 47 rfl) rfl ?_
    show SG X0 81 #[vR oa, vI 42, vI 1, vI 0, vI nh, vI 5, vU] [.int 44] _
    refine XS.istore X0.here hx rfl (H 48 rfl) rfl (l' := #[vR oa, vI 42, vI 1, vI 0, vI nh, vI 5, vI 44]) rfl ?_
    refine XS.aloadN X0.here hx rfl (H 49 rfl) rfl rfl ?_
    refine XS.iload X0.here hx rfl (H 50 rfl) rfl ?_
    refine own_bal X0 hx hZ e0 P0 (x := (60 : Int32)) ⟨by decide, own_nlt hz (by decide)⟩ hv44 (H 51 rfl) ?_
    refine XS.bipush X0.here hx rfl (H 52 rfl) ?_
    refine XS.icmpYes X0.here hx rfl (pc0 := 89) (pc' := 94) rfl (H 53 rfl) rfl (teq (by decide : ((60 : Int32) = (60 : Int32)))).1 (by decide) (by decide) ?_
    refine XS.iload X0.here hx rfl (H 54 rfl) rfl ?_
    refine XS.iconst X0.here hx rfl (H 55 rfl) ?_
    refine XS.iadd X0.here hx rfl (H 56 rfl) rfl ?_
    show SG X0 98 #[vR oa, vI 42, vI 1, vI 0, vI nh, vI 5, vI 44] [.int 45] _
    refine XS.istore X0.here hx rfl (H 57 rfl) rfl (l' := #[vR oa, vI 42, vI 1, vI 0, vI nh, vI 5, vI 45]) rfl ?_
    refine XS.iloadN X0.here hx rfl (H 58 rfl) rfl ?_
    refine XS.ifYes X0.here hx rfl (pc0 := 101) (pc' := 121) rfl (H 59 rfl) rfl ((if0 _ _).trans (teq (by decide : ((0 : Int32) = (0 : Int32)))).1) (by decide) (by decide) ?_
    refine XS.aloadN X0.here hx rfl (H 69 rfl) rfl rfl ?_
    refine XS.iload X0.here hx rfl (H 70 rfl) rfl ?_
    refine own_bal X0 hx hZ e0 P0 (x := (nh.toInt8.toInt32)) ⟨by decide, own_nlt hz (by decide)⟩ hv45 (H 71 rfl) ?_
    refine XS.iload X0.here hx rfl (H 72 rfl) rfl ?_
    refine XS.i2b X0.here hx rfl (H 73 rfl) rfl ?_
    refine XS.icmpYes X0.here hx rfl (pc0 := 128) (pc' := 133) rfl (H 74 rfl) rfl (teq (rfl : (nh.toInt8.toInt32) = (nh.toInt8.toInt32))).1 (by decide) (by decide) ?_
    refine XS.iload X0.here hx rfl (H 75 rfl) rfl ?_
    refine XS.iconst X0.here hx rfl (H 76 rfl) ?_
    refine XS.iadd X0.here hx rfl (H 77 rfl) rfl ?_
    show SG X0 137 #[vR oa, vI 42, vI 1, vI 0, vI nh, vI 5, vI 45] [.int 46] _
    refine XS.istore X0.here hx rfl (H 78 rfl) rfl (l' := #[vR oa, vI 42, vI 1, vI 0, vI nh, vI 5, vI 46]) rfl ?_
    refine XS.aloadN X0.here hx rfl (H 79 rfl) rfl rfl ?_
    refine XS.iload X0.here hx rfl (H 80 rfl) rfl ?_
    refine own_bal X0 hx hZ e0 P0 (x := (62 : Int32)) ⟨by decide, own_nlt hz (by decide)⟩ hv46 (H 81 rfl) ?_
    refine XS.bipush X0.here hx rfl (H 82 rfl) ?_
    refine XS.icmpYes X0.here hx rfl (pc0 := 145) (pc' := 150) rfl (H 83 rfl) rfl (teq (by decide : ((62 : Int32) = (62 : Int32)))).1 (by decide) (by decide) ?_
    refine XS.iload X0.here hx rfl (H 84 rfl) rfl ?_
    refine XS.iconst X0.here hx rfl (H 85 rfl) ?_
    refine XS.iadd X0.here hx rfl (H 86 rfl) rfl ?_
    show SG X0 154 #[vR oa, vI 42, vI 1, vI 0, vI nh, vI 5, vI 46] [.int 47] _
    exact retI X0 hx Bd.returns (H 87 rfl) hr
  · show QTG42_1_0 Z oa nh ka nz vs h0 n0 _ sZ.heap _
    rw [e0]
    exact ⟨rfl, N0, rfl⟩

theorem ef_TG47_1_1 (m : MethodId) (oa : Addr) (nh : Int32) : entryFrame m #[.ref oa, .int 47, .int 1, .int 1, .int nh] 7 = mkF m 0 #[.val (.ref oa), .val (.int 47), .val (.int 1), .val (.int 1), .val (.int nh), .unset, .unset] [] := by simp [entryFrame, mkF, argsToLocals, Value.category]
def QTG47_1_1 (Z : State) (oa : Addr) (nh : Int32) (ka : ClassId) (nz : Int32) (vs : List Value) (h0 : Heap) (n0 : Nat) (v : Option Value) (h : Heap) (L : List Loc) : Prop := v = some (.int 53) ∧ Fr n0 L ∧ h = h0
theorem rmTG47_1_1 (l : Launch) (Z : State) (a0 : Array Value) (hw : HWd a0 Z) (ws : List Jvm.Cond) (oa : Addr) (nh : Int32) (ka : ClassId) (nz : Int32) (vs : List Value) (h0 : Heap) (n0 : Nat) (Z0 : n0 ≤ h0.size) (P0 : Arv Z h0 oa ka .byte nz vs (.int 0)) (hz : ¬ nz < (53 : Int32)) (hv47 : vs.getD ((47 : Int32)).toNatClampNeg (.int 0) = .int 10) (hv49 : vs.getD ((49 : Int32)).toNatClampNeg (.int 0) = .int 60) (hv51 : vs.getD ((51 : Int32)).toNatClampNeg (.int 0) = .int (nh.toInt8.toInt32)) (hv52 : vs.getD ((52 : Int32)).toNatClampNeg (.int 0) = .int 62) (hv48 : vs.getD ((48 : Int32)).toNatClampNeg (.int 0) = .int 9) (hv50 : vs.getD ((50 : Int32)).toNatClampNeg (.int 0) = .int 47) :
    own_Met l Y_51 (Jvm.Cond.code Y_51 method_3_code 7 (some .int) :: ws) (RM 0 0 0 0) #[.ref oa, .int 47, .int 1, .int 1, .int nh] Z h0 (QTG47_1_1 Z oa nh ka nz vs h0 n0) := by
  refine own_bS pn_58 rfl D_58 (fun m => ef_TG47_1_1 m oa nh) hw fun p e s m below meth c sZ Bd hx hby hml hown hnm hh hZ X0 e0 w H pre0 => ?_
  have N0 := Fr.nil n0
  obtain ⟨fs, hr, hrun, hended, hW, hsame⟩ := X0.leave (v := some (.int 53)) (fun h => by rw [Bd.returns] at h; cases h)
  refine ⟨_, _, pre0 _ ?_, hrun, hended, _, _, rfl, ?_, ⟨_, rfl⟩, hW, hsame.mono (by decide) (by decide)⟩
  · show SG X0 0 #[vR oa, vI 47, vI 1, vI 1, vI nh, vU, vU] [] _
    refine XS.iloadN X0.here hx rfl (H 0 rfl) rfl ?_
    refine XS.ifYes X0.here hx rfl (pc0 := 1) (pc' := 6) rfl (H 1 rfl) rfl ((if0 _ _).trans (flt (by decide : ¬ ((47 : Int32) < (0 : Int32)))).2.1) (by decide) (by decide) ?_
    refine XS.iconst X0.here hx rfl (H 2 rfl) ?_
    refine XS.iloadN X0.here hx rfl (H 3 rfl) rfl ?_
    refine XS.iadd X0.here hx rfl (H 4 rfl) rfl ?_
    show SG X0 9 #[vR oa, vI 47, vI 1, vI 1, vI nh, vU, vU] [.int 5] _
    refine XS.iloadN X0.here hx rfl (H 5 rfl) rfl ?_
    refine XS.ifNo X0.here hx rfl (H 6 rfl) rfl ((if0 _ _).trans (feq (by decide : ¬ ((1 : Int32) = (0 : Int32)))).1) ?_
    refine XS.iconst X0.here hx rfl (H 7 rfl) ?_
    refine XS.goto X0.here hx rfl (pc0 := 14) (pc' := 18) rfl (H 8 rfl) (by decide) (by decide) ?_
    refine XS.iadd X0.here hx rfl (H 10 rfl) rfl ?_
    show SG X0 19 #[vR oa, vI 47, vI 1, vI 1, vI nh, vU, vU] [.int 6] _
    refine XS.istore X0.here hx rfl (H 11 rfl) rfl (l' := #[vR oa, vI 47, vI 1, vI 1, vI nh, vI 6, vU]) rfl ?_
    refine XS.iloadN X0.here hx rfl (H 12 rfl) rfl ?_
    refine XS.iload X0.here hx rfl (H 13 rfl) rfl ?_
    refine XS.iadd X0.here hx rfl (H 14 rfl) rfl ?_
    show SG X0 25 #[vR oa, vI 47, vI 1, vI 1, vI nh, vI 6, vU] [.int 53] _
    refine XS.aloadN X0.here hx rfl (H 15 rfl) rfl rfl ?_
    refine own_alen X0 hx hZ e0 P0 (H 16 rfl) ?_
    refine XS.icmpYes X0.here hx rfl (pc0 := 27) (pc' := 32) rfl (H 17 rfl) rfl (flt (hz : ¬ (nz < (53 : Int32)))).2.2.2 (by decide) (by decide) ?_
    refine XS.aloadN X0.here hx rfl (H 18 rfl) rfl rfl ?_
    refine XS.iloadN X0.here hx rfl (H 19 rfl) rfl ?_
    refine own_bal X0 hx hZ e0 P0 (x := (10 : Int32)) ⟨by decide, own_nlt hz (by decide)⟩ hv47 (H 20 rfl) ?_
    refine XS.bipush X0.here hx rfl (H 21 rfl) ?_
    refine XS.icmpYes X0.here hx rfl (pc0 := 37) (pc' := 42) rfl (H 22 rfl) rfl (teq (by decide : ((10 : Int32) = (10 : Int32)))).1 (by decide) (by decide) ?_
    refine XS.iloadN X0.here hx rfl (H 23 rfl) rfl ?_
    refine XS.iconst X0.here hx rfl (H 24 rfl) ?_
    refine XS.icmpNo X0.here hx rfl (H 25 rfl) rfl (flt (by decide : ¬ ((1 : Int32) < (1 : Int32)))).1 ?_
    refine XS.aloadN X0.here hx rfl (H 26 rfl) rfl rfl ?_
    refine XS.iloadN X0.here hx rfl (H 27 rfl) rfl ?_
    refine XS.iconst X0.here hx rfl (H 28 rfl) ?_
    refine XS.iadd X0.here hx rfl (H 29 rfl) rfl ?_
    show SG X0 51 #[vR oa, vI 47, vI 1, vI 1, vI nh, vI 6, vU] [.int 48, .ref oa] _
    refine own_bal X0 hx hZ e0 P0 (x := (9 : Int32)) ⟨by decide, own_nlt hz (by decide)⟩ hv48 (H 30 rfl) ?_
    refine XS.bipush X0.here hx rfl (H 31 rfl) ?_
    refine XS.icmpYes X0.here hx rfl (pc0 := 54) (pc' := 59) rfl (H 32 rfl) rfl (teq (by decide : ((9 : Int32) = (9 : Int32)))).1 (by decide) (by decide) ?_
    refine XS.iloadN X0.here hx rfl (H 33 rfl) rfl ?_
    refine XS.iconst X0.here hx rfl (H 34 rfl) ?_
    refine XS.icmpYes X0.here hx rfl (pc0 := 61) (pc' := 76) rfl (H 35 rfl) rfl (tlt (by decide : ((1 : Int32) < (2 : Int32)))).1 (by decide) (by decide) ?_
    refine XS.iloadN X0.here hx rfl (H 43 rfl) rfl ?_
    refine XS.iconst X0.here hx rfl (H 44 rfl) ?_
    refine XS.iadd X0.here hx rfl (H 45 rfl) rfl ?_
    show SG X0 79 #[vR oa, vI 47, vI 1, vI 1, vI nh, vI 6, vU] [.int 48] _
    refine XS.iloadN X0.here hx rfl (H 46 rfl) rfl ?_
    refine XS.iadd X0.here hx rfl (H 47 rfl) rfl ?_
    show SG X0 81 #[vR oa, vI 47, vI 1, vI 1, vI nh, vI 6, vU] [.int 49] _
    refine XS.istore X0.here hx rfl (H 48 rfl) rfl (l' := #[vR oa, vI 47, vI 1, vI 1, vI nh, vI 6, vI 49]) rfl ?_
    refine XS.aloadN X0.here hx rfl (H 49 rfl) rfl rfl ?_
    refine XS.iload X0.here hx rfl (H 50 rfl) rfl ?_
    refine own_bal X0 hx hZ e0 P0 (x := (60 : Int32)) ⟨by decide, own_nlt hz (by decide)⟩ hv49 (H 51 rfl) ?_
    refine XS.bipush X0.here hx rfl (H 52 rfl) ?_
    refine XS.icmpYes X0.here hx rfl (pc0 := 89) (pc' := 94) rfl (H 53 rfl) rfl (teq (by decide : ((60 : Int32) = (60 : Int32)))).1 (by decide) (by decide) ?_
    refine XS.iload X0.here hx rfl (H 54 rfl) rfl ?_
    refine XS.iconst X0.here hx rfl (H 55 rfl) ?_
    refine XS.iadd X0.here hx rfl (H 56 rfl) rfl ?_
    show SG X0 98 #[vR oa, vI 47, vI 1, vI 1, vI nh, vI 6, vI 49] [.int 50] _
    refine XS.istore X0.here hx rfl (H 57 rfl) rfl (l' := #[vR oa, vI 47, vI 1, vI 1, vI nh, vI 6, vI 50]) rfl ?_
    refine XS.iloadN X0.here hx rfl (H 58 rfl) rfl ?_
    refine XS.ifNo X0.here hx rfl (H 59 rfl) rfl ((if0 _ _).trans (feq (by decide : ¬ ((1 : Int32) = (0 : Int32)))).1) ?_
    refine XS.aloadN X0.here hx rfl (H 60 rfl) rfl rfl ?_
    refine XS.iload X0.here hx rfl (H 61 rfl) rfl ?_
    refine own_bal X0 hx hZ e0 P0 (x := (47 : Int32)) ⟨by decide, own_nlt hz (by decide)⟩ hv50 (H 62 rfl) ?_
    refine XS.bipush X0.here hx rfl (H 63 rfl) ?_
    refine XS.icmpYes X0.here hx rfl (pc0 := 110) (pc' := 115) rfl (H 64 rfl) rfl (teq (by decide : ((47 : Int32) = (47 : Int32)))).1 (by decide) (by decide) ?_
    refine XS.iload X0.here hx rfl (H 65 rfl) rfl ?_
    refine XS.iconst X0.here hx rfl (H 66 rfl) ?_
    refine XS.iadd X0.here hx rfl (H 67 rfl) rfl ?_
    show SG X0 119 #[vR oa, vI 47, vI 1, vI 1, vI nh, vI 6, vI 50] [.int 51] _
    refine XS.istore X0.here hx rfl (H 68 rfl) rfl (l' := #[vR oa, vI 47, vI 1, vI 1, vI nh, vI 6, vI 51]) rfl ?_
    refine XS.aloadN X0.here hx rfl (H 69 rfl) rfl rfl ?_
    refine XS.iload X0.here hx rfl (H 70 rfl) rfl ?_
    refine own_bal X0 hx hZ e0 P0 (x := (nh.toInt8.toInt32)) ⟨by decide, own_nlt hz (by decide)⟩ hv51 (H 71 rfl) ?_
    refine XS.iload X0.here hx rfl (H 72 rfl) rfl ?_
    refine XS.i2b X0.here hx rfl (H 73 rfl) rfl ?_
    refine XS.icmpYes X0.here hx rfl (pc0 := 128) (pc' := 133) rfl (H 74 rfl) rfl (teq (rfl : (nh.toInt8.toInt32) = (nh.toInt8.toInt32))).1 (by decide) (by decide) ?_
    refine XS.iload X0.here hx rfl (H 75 rfl) rfl ?_
    refine XS.iconst X0.here hx rfl (H 76 rfl) ?_
    refine XS.iadd X0.here hx rfl (H 77 rfl) rfl ?_
    show SG X0 137 #[vR oa, vI 47, vI 1, vI 1, vI nh, vI 6, vI 51] [.int 52] _
    refine XS.istore X0.here hx rfl (H 78 rfl) rfl (l' := #[vR oa, vI 47, vI 1, vI 1, vI nh, vI 6, vI 52]) rfl ?_
    refine XS.aloadN X0.here hx rfl (H 79 rfl) rfl rfl ?_
    refine XS.iload X0.here hx rfl (H 80 rfl) rfl ?_
    refine own_bal X0 hx hZ e0 P0 (x := (62 : Int32)) ⟨by decide, own_nlt hz (by decide)⟩ hv52 (H 81 rfl) ?_
    refine XS.bipush X0.here hx rfl (H 82 rfl) ?_
    refine XS.icmpYes X0.here hx rfl (pc0 := 145) (pc' := 150) rfl (H 83 rfl) rfl (teq (by decide : ((62 : Int32) = (62 : Int32)))).1 (by decide) (by decide) ?_
    refine XS.iload X0.here hx rfl (H 84 rfl) rfl ?_
    refine XS.iconst X0.here hx rfl (H 85 rfl) ?_
    refine XS.iadd X0.here hx rfl (H 86 rfl) rfl ?_
    show SG X0 154 #[vR oa, vI 47, vI 1, vI 1, vI nh, vI 6, vI 52] [.int 53] _
    exact retI X0 hx Bd.returns (H 87 rfl) hr
  · show QTG47_1_1 Z oa nh ka nz vs h0 n0 _ sZ.heap _
    rw [e0]
    exact ⟨rfl, N0, rfl⟩

theorem ef_TG53_0_1 (m : MethodId) (oa : Addr) (nh : Int32) : entryFrame m #[.ref oa, .int 53, .int 0, .int 1, .int nh] 7 = mkF m 0 #[.val (.ref oa), .val (.int 53), .val (.int 0), .val (.int 1), .val (.int nh), .unset, .unset] [] := by simp [entryFrame, mkF, argsToLocals, Value.category]
def QTG53_0_1 (Z : State) (oa : Addr) (nh : Int32) (ka : ClassId) (nz : Int32) (vs : List Value) (h0 : Heap) (n0 : Nat) (v : Option Value) (h : Heap) (L : List Loc) : Prop := v = some (.int 58) ∧ Fr n0 L ∧ h = h0
theorem rmTG53_0_1 (l : Launch) (Z : State) (a0 : Array Value) (hw : HWd a0 Z) (ws : List Jvm.Cond) (oa : Addr) (nh : Int32) (ka : ClassId) (nz : Int32) (vs : List Value) (h0 : Heap) (n0 : Nat) (Z0 : n0 ≤ h0.size) (P0 : Arv Z h0 oa ka .byte nz vs (.int 0)) (hz : ¬ nz < (58 : Int32)) (hv53 : vs.getD ((53 : Int32)).toNatClampNeg (.int 0) = .int 10) (hv54 : vs.getD ((54 : Int32)).toNatClampNeg (.int 0) = .int 60) (hv56 : vs.getD ((56 : Int32)).toNatClampNeg (.int 0) = .int (nh.toInt8.toInt32)) (hv57 : vs.getD ((57 : Int32)).toNatClampNeg (.int 0) = .int 62) (hv55 : vs.getD ((55 : Int32)).toNatClampNeg (.int 0) = .int 47) :
    own_Met l Y_51 (Jvm.Cond.code Y_51 method_3_code 7 (some .int) :: ws) (RM 0 0 0 0) #[.ref oa, .int 53, .int 0, .int 1, .int nh] Z h0 (QTG53_0_1 Z oa nh ka nz vs h0 n0) := by
  refine own_bS pn_58 rfl D_58 (fun m => ef_TG53_0_1 m oa nh) hw fun p e s m below meth c sZ Bd hx hby hml hown hnm hh hZ X0 e0 w H pre0 => ?_
  have N0 := Fr.nil n0
  obtain ⟨fs, hr, hrun, hended, hW, hsame⟩ := X0.leave (v := some (.int 58)) (fun h => by rw [Bd.returns] at h; cases h)
  refine ⟨_, _, pre0 _ ?_, hrun, hended, _, _, rfl, ?_, ⟨_, rfl⟩, hW, hsame.mono (by decide) (by decide)⟩
  · show SG X0 0 #[vR oa, vI 53, vI 0, vI 1, vI nh, vU, vU] [] _
    refine XS.iloadN X0.here hx rfl (H 0 rfl) rfl ?_
    refine XS.ifYes X0.here hx rfl (pc0 := 1) (pc' := 6) rfl (H 1 rfl) rfl ((if0 _ _).trans (flt (by decide : ¬ ((53 : Int32) < (0 : Int32)))).2.1) (by decide) (by decide) ?_
    refine XS.iconst X0.here hx rfl (H 2 rfl) ?_
    refine XS.iloadN X0.here hx rfl (H 3 rfl) rfl ?_
    refine XS.iadd X0.here hx rfl (H 4 rfl) rfl ?_
    show SG X0 9 #[vR oa, vI 53, vI 0, vI 1, vI nh, vU, vU] [.int 4] _
    refine XS.iloadN X0.here hx rfl (H 5 rfl) rfl ?_
    refine XS.ifNo X0.here hx rfl (H 6 rfl) rfl ((if0 _ _).trans (feq (by decide : ¬ ((1 : Int32) = (0 : Int32)))).1) ?_
    refine XS.iconst X0.here hx rfl (H 7 rfl) ?_
    refine XS.goto X0.here hx rfl (pc0 := 14) (pc' := 18) rfl (H 8 rfl) (by decide) (by decide) ?_
    refine XS.iadd X0.here hx rfl (H 10 rfl) rfl ?_
    show SG X0 19 #[vR oa, vI 53, vI 0, vI 1, vI nh, vU, vU] [.int 5] _
    refine XS.istore X0.here hx rfl (H 11 rfl) rfl (l' := #[vR oa, vI 53, vI 0, vI 1, vI nh, vI 5, vU]) rfl ?_
    refine XS.iloadN X0.here hx rfl (H 12 rfl) rfl ?_
    refine XS.iload X0.here hx rfl (H 13 rfl) rfl ?_
    refine XS.iadd X0.here hx rfl (H 14 rfl) rfl ?_
    show SG X0 25 #[vR oa, vI 53, vI 0, vI 1, vI nh, vI 5, vU] [.int 58] _
    refine XS.aloadN X0.here hx rfl (H 15 rfl) rfl rfl ?_
    refine own_alen X0 hx hZ e0 P0 (H 16 rfl) ?_
    refine XS.icmpYes X0.here hx rfl (pc0 := 27) (pc' := 32) rfl (H 17 rfl) rfl (flt (hz : ¬ (nz < (58 : Int32)))).2.2.2 (by decide) (by decide) ?_
    refine XS.aloadN X0.here hx rfl (H 18 rfl) rfl rfl ?_
    refine XS.iloadN X0.here hx rfl (H 19 rfl) rfl ?_
    refine own_bal X0 hx hZ e0 P0 (x := (10 : Int32)) ⟨by decide, own_nlt hz (by decide)⟩ hv53 (H 20 rfl) ?_
    refine XS.bipush X0.here hx rfl (H 21 rfl) ?_
    refine XS.icmpYes X0.here hx rfl (pc0 := 37) (pc' := 42) rfl (H 22 rfl) rfl (teq (by decide : ((10 : Int32) = (10 : Int32)))).1 (by decide) (by decide) ?_
    refine XS.iloadN X0.here hx rfl (H 23 rfl) rfl ?_
    refine XS.iconst X0.here hx rfl (H 24 rfl) ?_
    refine XS.icmpYes X0.here hx rfl (pc0 := 44) (pc' := 59) rfl (H 25 rfl) rfl (tlt (by decide : ((0 : Int32) < (1 : Int32)))).1 (by decide) (by decide) ?_
    refine XS.iloadN X0.here hx rfl (H 33 rfl) rfl ?_
    refine XS.iconst X0.here hx rfl (H 34 rfl) ?_
    refine XS.icmpYes X0.here hx rfl (pc0 := 61) (pc' := 76) rfl (H 35 rfl) rfl (tlt (by decide : ((0 : Int32) < (2 : Int32)))).1 (by decide) (by decide) ?_
    refine XS.iloadN X0.here hx rfl (H 43 rfl) rfl ?_
    refine XS.iconst X0.here hx rfl (H 44 rfl) ?_
    refine XS.iadd X0.here hx rfl (H 45 rfl) rfl ?_
    show SG X0 79 #[vR oa, vI 53, vI 0, vI 1, vI nh, vI 5, vU] [.int 54] _
    refine XS.iloadN X0.here hx rfl (H 46 rfl) rfl ?_
    refine XS.iadd X0.here hx rfl (H 47 rfl) rfl ?_
    show SG X0 81 #[vR oa, vI 53, vI 0, vI 1, vI nh, vI 5, vU] [.int 54] _
    refine XS.istore X0.here hx rfl (H 48 rfl) rfl (l' := #[vR oa, vI 53, vI 0, vI 1, vI nh, vI 5, vI 54]) rfl ?_
    refine XS.aloadN X0.here hx rfl (H 49 rfl) rfl rfl ?_
    refine XS.iload X0.here hx rfl (H 50 rfl) rfl ?_
    refine own_bal X0 hx hZ e0 P0 (x := (60 : Int32)) ⟨by decide, own_nlt hz (by decide)⟩ hv54 (H 51 rfl) ?_
    refine XS.bipush X0.here hx rfl (H 52 rfl) ?_
    refine XS.icmpYes X0.here hx rfl (pc0 := 89) (pc' := 94) rfl (H 53 rfl) rfl (teq (by decide : ((60 : Int32) = (60 : Int32)))).1 (by decide) (by decide) ?_
    refine XS.iload X0.here hx rfl (H 54 rfl) rfl ?_
    refine XS.iconst X0.here hx rfl (H 55 rfl) ?_
    refine XS.iadd X0.here hx rfl (H 56 rfl) rfl ?_
    show SG X0 98 #[vR oa, vI 53, vI 0, vI 1, vI nh, vI 5, vI 54] [.int 55] _
    refine XS.istore X0.here hx rfl (H 57 rfl) rfl (l' := #[vR oa, vI 53, vI 0, vI 1, vI nh, vI 5, vI 55]) rfl ?_
    refine XS.iloadN X0.here hx rfl (H 58 rfl) rfl ?_
    refine XS.ifNo X0.here hx rfl (H 59 rfl) rfl ((if0 _ _).trans (feq (by decide : ¬ ((1 : Int32) = (0 : Int32)))).1) ?_
    refine XS.aloadN X0.here hx rfl (H 60 rfl) rfl rfl ?_
    refine XS.iload X0.here hx rfl (H 61 rfl) rfl ?_
    refine own_bal X0 hx hZ e0 P0 (x := (47 : Int32)) ⟨by decide, own_nlt hz (by decide)⟩ hv55 (H 62 rfl) ?_
    refine XS.bipush X0.here hx rfl (H 63 rfl) ?_
    refine XS.icmpYes X0.here hx rfl (pc0 := 110) (pc' := 115) rfl (H 64 rfl) rfl (teq (by decide : ((47 : Int32) = (47 : Int32)))).1 (by decide) (by decide) ?_
    refine XS.iload X0.here hx rfl (H 65 rfl) rfl ?_
    refine XS.iconst X0.here hx rfl (H 66 rfl) ?_
    refine XS.iadd X0.here hx rfl (H 67 rfl) rfl ?_
    show SG X0 119 #[vR oa, vI 53, vI 0, vI 1, vI nh, vI 5, vI 55] [.int 56] _
    refine XS.istore X0.here hx rfl (H 68 rfl) rfl (l' := #[vR oa, vI 53, vI 0, vI 1, vI nh, vI 5, vI 56]) rfl ?_
    refine XS.aloadN X0.here hx rfl (H 69 rfl) rfl rfl ?_
    refine XS.iload X0.here hx rfl (H 70 rfl) rfl ?_
    refine own_bal X0 hx hZ e0 P0 (x := (nh.toInt8.toInt32)) ⟨by decide, own_nlt hz (by decide)⟩ hv56 (H 71 rfl) ?_
    refine XS.iload X0.here hx rfl (H 72 rfl) rfl ?_
    refine XS.i2b X0.here hx rfl (H 73 rfl) rfl ?_
    refine XS.icmpYes X0.here hx rfl (pc0 := 128) (pc' := 133) rfl (H 74 rfl) rfl (teq (rfl : (nh.toInt8.toInt32) = (nh.toInt8.toInt32))).1 (by decide) (by decide) ?_
    refine XS.iload X0.here hx rfl (H 75 rfl) rfl ?_
    refine XS.iconst X0.here hx rfl (H 76 rfl) ?_
    refine XS.iadd X0.here hx rfl (H 77 rfl) rfl ?_
    show SG X0 137 #[vR oa, vI 53, vI 0, vI 1, vI nh, vI 5, vI 56] [.int 57] _
    refine XS.istore X0.here hx rfl (H 78 rfl) rfl (l' := #[vR oa, vI 53, vI 0, vI 1, vI nh, vI 5, vI 57]) rfl ?_
    refine XS.aloadN X0.here hx rfl (H 79 rfl) rfl rfl ?_
    refine XS.iload X0.here hx rfl (H 80 rfl) rfl ?_
    refine own_bal X0 hx hZ e0 P0 (x := (62 : Int32)) ⟨by decide, own_nlt hz (by decide)⟩ hv57 (H 81 rfl) ?_
    refine XS.bipush X0.here hx rfl (H 82 rfl) ?_
    refine XS.icmpYes X0.here hx rfl (pc0 := 145) (pc' := 150) rfl (H 83 rfl) rfl (teq (by decide : ((62 : Int32) = (62 : Int32)))).1 (by decide) (by decide) ?_
    refine XS.iload X0.here hx rfl (H 84 rfl) rfl ?_
    refine XS.iconst X0.here hx rfl (H 85 rfl) ?_
    refine XS.iadd X0.here hx rfl (H 86 rfl) rfl ?_
    show SG X0 154 #[vR oa, vI 53, vI 0, vI 1, vI nh, vI 5, vI 57] [.int 58] _
    exact retI X0 hx Bd.returns (H 87 rfl) hr
  · show QTG53_0_1 Z oa nh ka nz vs h0 n0 _ sZ.heap _
    rw [e0]
    exact ⟨rfl, N0, rfl⟩

theorem ef_TG47_2_0 (m : MethodId) (oa : Addr) (nh : Int32) : entryFrame m #[.ref oa, .int 47, .int 2, .int 0, .int nh] 7 = mkF m 0 #[.val (.ref oa), .val (.int 47), .val (.int 2), .val (.int 0), .val (.int nh), .unset, .unset] [] := by simp [entryFrame, mkF, argsToLocals, Value.category]
def QTG47_2_0 (Z : State) (oa : Addr) (nh : Int32) (ka : ClassId) (nz : Int32) (vs : List Value) (h0 : Heap) (n0 : Nat) (v : Option Value) (h : Heap) (L : List Loc) : Prop := v = some (.int 53) ∧ Fr n0 L ∧ h = h0
theorem rmTG47_2_0 (l : Launch) (Z : State) (a0 : Array Value) (hw : HWd a0 Z) (ws : List Jvm.Cond) (oa : Addr) (nh : Int32) (ka : ClassId) (nz : Int32) (vs : List Value) (h0 : Heap) (n0 : Nat) (Z0 : n0 ≤ h0.size) (P0 : Arv Z h0 oa ka .byte nz vs (.int 0)) (hz : ¬ nz < (53 : Int32)) (hv47 : vs.getD ((47 : Int32)).toNatClampNeg (.int 0) = .int 10) (hv50 : vs.getD ((50 : Int32)).toNatClampNeg (.int 0) = .int 60) (hv51 : vs.getD ((51 : Int32)).toNatClampNeg (.int 0) = .int (nh.toInt8.toInt32)) (hv52 : vs.getD ((52 : Int32)).toNatClampNeg (.int 0) = .int 62) (hv48 : vs.getD ((48 : Int32)).toNatClampNeg (.int 0) = .int 9) (hv49 : vs.getD ((49 : Int32)).toNatClampNeg (.int 0) = .int 9) :
    own_Met l Y_51 (Jvm.Cond.code Y_51 method_3_code 7 (some .int) :: ws) (RM 0 0 0 0) #[.ref oa, .int 47, .int 2, .int 0, .int nh] Z h0 (QTG47_2_0 Z oa nh ka nz vs h0 n0) := by
  refine own_bS pn_58 rfl D_58 (fun m => ef_TG47_2_0 m oa nh) hw fun p e s m below meth c sZ Bd hx hby hml hown hnm hh hZ X0 e0 w H pre0 => ?_
  have N0 := Fr.nil n0
  obtain ⟨fs, hr, hrun, hended, hW, hsame⟩ := X0.leave (v := some (.int 53)) (fun h => by rw [Bd.returns] at h; cases h)
  refine ⟨_, _, pre0 _ ?_, hrun, hended, _, _, rfl, ?_, ⟨_, rfl⟩, hW, hsame.mono (by decide) (by decide)⟩
  · show SG X0 0 #[vR oa, vI 47, vI 2, vI 0, vI nh, vU, vU] [] _
    refine XS.iloadN X0.here hx rfl (H 0 rfl) rfl ?_
    refine XS.ifYes X0.here hx rfl (pc0 := 1) (pc' := 6) rfl (H 1 rfl) rfl ((if0 _ _).trans (flt (by decide : ¬ ((47 : Int32) < (0 : Int32)))).2.1) (by decide) (by decide) ?_
    refine XS.iconst X0.here hx rfl (H 2 rfl) ?_
    refine XS.iloadN X0.here hx rfl (H 3 rfl) rfl ?_
    refine XS.iadd X0.here hx rfl (H 4 rfl) rfl ?_
    show SG X0 9 #[vR oa, vI 47, vI 2, vI 0, vI nh, vU, vU] [.int 6] _
    refine XS.iloadN X0.here hx rfl (H 5 rfl) rfl ?_
    refine XS.ifYes X0.here hx rfl (pc0 := 10) (pc' := 17) rfl (H 6 rfl) rfl ((if0 _ _).trans (teq (by decide : ((0 : Int32) = (0 : Int32)))).1) (by decide) (by decide) ?_
    refine XS.iconst X0.here hx rfl (H 9 rfl) ?_
    refine XS.iadd X0.here hx rfl (H 10 rfl) rfl ?_
    show SG X0 19 #[vR oa, vI 47, vI 2, vI 0, vI nh, vU, vU] [.int 6] _
    refine XS.istore X0.here hx rfl (H 11 rfl) rfl (l' := #[vR oa, vI 47, vI 2, vI 0, vI nh, vI 6, vU]) rfl ?_
    refine XS.iloadN X0.here hx rfl (H 12 rfl) rfl ?_
    refine XS.iload X0.here hx rfl (H 13 rfl) rfl ?_
    refine XS.iadd X0.here hx rfl (H 14 rfl) rfl ?_
    show SG X0 25 #[vR oa, vI 47, vI 2, vI 0, vI nh, vI 6, vU] [.int 53] _
    refine XS.aloadN X0.here hx rfl (H 15 rfl) rfl rfl ?_
    refine own_alen X0 hx hZ e0 P0 (H 16 rfl) ?_
    refine XS.icmpYes X0.here hx rfl (pc0 := 27) (pc' := 32) rfl (H 17 rfl) rfl (flt (hz : ¬ (nz < (53 : Int32)))).2.2.2 (by decide) (by decide) ?_
    refine XS.aloadN X0.here hx rfl (H 18 rfl) rfl rfl ?_
    refine XS.iloadN X0.here hx rfl (H 19 rfl) rfl ?_
    refine own_bal X0 hx hZ e0 P0 (x := (10 : Int32)) ⟨by decide, own_nlt hz (by decide)⟩ hv47 (H 20 rfl) ?_
    refine XS.bipush X0.here hx rfl (H 21 rfl) ?_
    refine XS.icmpYes X0.here hx rfl (pc0 := 37) (pc' := 42) rfl (H 22 rfl) rfl (teq (by decide : ((10 : Int32) = (10 : Int32)))).1 (by decide) (by decide) ?_
    refine XS.iloadN X0.here hx rfl (H 23 rfl) rfl ?_
    refine XS.iconst X0.here hx rfl (H 24 rfl) ?_
    refine XS.icmpNo X0.here hx rfl (H 25 rfl) rfl (flt (by decide : ¬ ((2 : Int32) < (1 : Int32)))).1 ?_
    refine XS.aloadN X0.here hx rfl (H 26 rfl) rfl rfl ?_
    refine XS.iloadN X0.here hx rfl (H 27 rfl) rfl ?_
    refine XS.iconst X0.here hx rfl (H 28 rfl) ?_
    refine XS.iadd X0.here hx rfl (H 29 rfl) rfl ?_
    show SG X0 51 #[vR oa, vI 47, vI 2, vI 0, vI nh, vI 6, vU] [.int 48, .ref oa] _
    refine own_bal X0 hx hZ e0 P0 (x := (9 : Int32)) ⟨by decide, own_nlt hz (by decide)⟩ hv48 (H 30 rfl) ?_
    refine XS.bipush X0.here hx rfl (H 31 rfl) ?_
    refine XS.icmpYes X0.here hx rfl (pc0 := 54) (pc' := 59) rfl (H 32 rfl) rfl (teq (by decide : ((9 : Int32) = (9 : Int32)))).1 (by decide) (by decide) ?_
    refine XS.iloadN X0.here hx rfl (H 33 rfl) rfl ?_
    refine XS.iconst X0.here hx rfl (H 34 rfl) ?_
    refine XS.icmpNo X0.here hx rfl (H 35 rfl) rfl (flt (by decide : ¬ ((2 : Int32) < (2 : Int32)))).1 ?_
    refine XS.aloadN X0.here hx rfl (H 36 rfl) rfl rfl ?_
    refine XS.iloadN X0.here hx rfl (H 37 rfl) rfl ?_
    refine XS.iconst X0.here hx rfl (H 38 rfl) ?_
    refine XS.iadd X0.here hx rfl (H 39 rfl) rfl ?_
    show SG X0 68 #[vR oa, vI 47, vI 2, vI 0, vI nh, vI 6, vU] [.int 49, .ref oa] _
    refine own_bal X0 hx hZ e0 P0 (x := (9 : Int32)) ⟨by decide, own_nlt hz (by decide)⟩ hv49 (H 40 rfl) ?_
    refine XS.bipush X0.here hx rfl (H 41 rfl) ?_
    refine XS.icmpYes X0.here hx rfl (pc0 := 71) (pc' := 76) rfl (H 42 rfl) rfl (teq (by decide : ((9 : Int32) = (9 : Int32)))).1 (by decide) (by decide) ?_
    refine XS.iloadN X0.here hx rfl (H 43 rfl) rfl ?_
    refine XS.iconst X0.here hx rfl (H 44 rfl) ?_
    refine XS.iadd X0.here hx rfl (H 45 rfl) rfl ?_
    show SG X0 79 #[vR oa, vI 47, vI 2, vI 0, vI nh, vI 6, vU] [.int 48] _
    refine XS.iloadN X0.here hx rfl (H 46 rfl) rfl ?_
    refine XS.iadd X0.here hx rfl (H 47 rfl) rfl ?_
    show SG X0 81 #[vR oa, vI 47, vI 2, vI 0, vI nh, vI 6, vU] [.int 50] _
    refine XS.istore X0.here hx rfl (H 48 rfl) rfl (l' := #[vR oa, vI 47, vI 2, vI 0, vI nh, vI 6, vI 50]) rfl ?_
    refine XS.aloadN X0.here hx rfl (H 49 rfl) rfl rfl ?_
    refine XS.iload X0.here hx rfl (H 50 rfl) rfl ?_
    refine own_bal X0 hx hZ e0 P0 (x := (60 : Int32)) ⟨by decide, own_nlt hz (by decide)⟩ hv50 (H 51 rfl) ?_
    refine XS.bipush X0.here hx rfl (H 52 rfl) ?_
    refine XS.icmpYes X0.here hx rfl (pc0 := 89) (pc' := 94) rfl (H 53 rfl) rfl (teq (by decide : ((60 : Int32) = (60 : Int32)))).1 (by decide) (by decide) ?_
    refine XS.iload X0.here hx rfl (H 54 rfl) rfl ?_
    refine XS.iconst X0.here hx rfl (H 55 rfl) ?_
    refine XS.iadd X0.here hx rfl (H 56 rfl) rfl ?_
    show SG X0 98 #[vR oa, vI 47, vI 2, vI 0, vI nh, vI 6, vI 50] [.int 51] _
    refine XS.istore X0.here hx rfl (H 57 rfl) rfl (l' := #[vR oa, vI 47, vI 2, vI 0, vI nh, vI 6, vI 51]) rfl ?_
    refine XS.iloadN X0.here hx rfl (H 58 rfl) rfl ?_
    refine XS.ifYes X0.here hx rfl (pc0 := 101) (pc' := 121) rfl (H 59 rfl) rfl ((if0 _ _).trans (teq (by decide : ((0 : Int32) = (0 : Int32)))).1) (by decide) (by decide) ?_
    refine XS.aloadN X0.here hx rfl (H 69 rfl) rfl rfl ?_
    refine XS.iload X0.here hx rfl (H 70 rfl) rfl ?_
    refine own_bal X0 hx hZ e0 P0 (x := (nh.toInt8.toInt32)) ⟨by decide, own_nlt hz (by decide)⟩ hv51 (H 71 rfl) ?_
    refine XS.iload X0.here hx rfl (H 72 rfl) rfl ?_
    refine XS.i2b X0.here hx rfl (H 73 rfl) rfl ?_
    refine XS.icmpYes X0.here hx rfl (pc0 := 128) (pc' := 133) rfl (H 74 rfl) rfl (teq (rfl : (nh.toInt8.toInt32) = (nh.toInt8.toInt32))).1 (by decide) (by decide) ?_
    refine XS.iload X0.here hx rfl (H 75 rfl) rfl ?_
    refine XS.iconst X0.here hx rfl (H 76 rfl) ?_
    refine XS.iadd X0.here hx rfl (H 77 rfl) rfl ?_
    show SG X0 137 #[vR oa, vI 47, vI 2, vI 0, vI nh, vI 6, vI 51] [.int 52] _
    refine XS.istore X0.here hx rfl (H 78 rfl) rfl (l' := #[vR oa, vI 47, vI 2, vI 0, vI nh, vI 6, vI 52]) rfl ?_
    refine XS.aloadN X0.here hx rfl (H 79 rfl) rfl rfl ?_
    refine XS.iload X0.here hx rfl (H 80 rfl) rfl ?_
    refine own_bal X0 hx hZ e0 P0 (x := (62 : Int32)) ⟨by decide, own_nlt hz (by decide)⟩ hv52 (H 81 rfl) ?_
    refine XS.bipush X0.here hx rfl (H 82 rfl) ?_
    refine XS.icmpYes X0.here hx rfl (pc0 := 145) (pc' := 150) rfl (H 83 rfl) rfl (teq (by decide : ((62 : Int32) = (62 : Int32)))).1 (by decide) (by decide) ?_
    refine XS.iload X0.here hx rfl (H 84 rfl) rfl ?_
    refine XS.iconst X0.here hx rfl (H 85 rfl) ?_
    refine XS.iadd X0.here hx rfl (H 86 rfl) rfl ?_
    show SG X0 154 #[vR oa, vI 47, vI 2, vI 0, vI nh, vI 6, vI 52] [.int 53] _
    exact retI X0 hx Bd.returns (H 87 rfl) hr
  · show QTG47_2_0 Z oa nh ka nz vs h0 n0 _ sZ.heap _
    rw [e0]
    exact ⟨rfl, N0, rfl⟩

theorem ef_TG53_2_1 (m : MethodId) (oa : Addr) (nh : Int32) : entryFrame m #[.ref oa, .int 53, .int 2, .int 1, .int nh] 7 = mkF m 0 #[.val (.ref oa), .val (.int 53), .val (.int 2), .val (.int 1), .val (.int nh), .unset, .unset] [] := by simp [entryFrame, mkF, argsToLocals, Value.category]
def QTG53_2_1 (Z : State) (oa : Addr) (nh : Int32) (ka : ClassId) (nz : Int32) (vs : List Value) (h0 : Heap) (n0 : Nat) (v : Option Value) (h : Heap) (L : List Loc) : Prop := v = some (.int 60) ∧ Fr n0 L ∧ h = h0
theorem rmTG53_2_1 (l : Launch) (Z : State) (a0 : Array Value) (hw : HWd a0 Z) (ws : List Jvm.Cond) (oa : Addr) (nh : Int32) (ka : ClassId) (nz : Int32) (vs : List Value) (h0 : Heap) (n0 : Nat) (Z0 : n0 ≤ h0.size) (P0 : Arv Z h0 oa ka .byte nz vs (.int 0)) (hz : ¬ nz < (60 : Int32)) (hv53 : vs.getD ((53 : Int32)).toNatClampNeg (.int 0) = .int 10) (hv56 : vs.getD ((56 : Int32)).toNatClampNeg (.int 0) = .int 60) (hv58 : vs.getD ((58 : Int32)).toNatClampNeg (.int 0) = .int (nh.toInt8.toInt32)) (hv59 : vs.getD ((59 : Int32)).toNatClampNeg (.int 0) = .int 62) (hv54 : vs.getD ((54 : Int32)).toNatClampNeg (.int 0) = .int 9) (hv55 : vs.getD ((55 : Int32)).toNatClampNeg (.int 0) = .int 9) (hv57 : vs.getD ((57 : Int32)).toNatClampNeg (.int 0) = .int 47) :
    own_Met l Y_51 (Jvm.Cond.code Y_51 method_3_code 7 (some .int) :: ws) (RM 0 0 0 0) #[.ref oa, .int 53, .int 2, .int 1, .int nh] Z h0 (QTG53_2_1 Z oa nh ka nz vs h0 n0) := by
  refine own_bS pn_58 rfl D_58 (fun m => ef_TG53_2_1 m oa nh) hw fun p e s m below meth c sZ Bd hx hby hml hown hnm hh hZ X0 e0 w H pre0 => ?_
  have N0 := Fr.nil n0
  obtain ⟨fs, hr, hrun, hended, hW, hsame⟩ := X0.leave (v := some (.int 60)) (fun h => by rw [Bd.returns] at h; cases h)
  refine ⟨_, _, pre0 _ ?_, hrun, hended, _, _, rfl, ?_, ⟨_, rfl⟩, hW, hsame.mono (by decide) (by decide)⟩
  · show SG X0 0 #[vR oa, vI 53, vI 2, vI 1, vI nh, vU, vU] [] _
    refine XS.iloadN X0.here hx rfl (H 0 rfl) rfl ?_
    refine XS.ifYes X0.here hx rfl (pc0 := 1) (pc' := 6) rfl (H 1 rfl) rfl ((if0 _ _).trans (flt (by decide : ¬ ((53 : Int32) < (0 : Int32)))).2.1) (by decide) (by decide) ?_
    refine XS.iconst X0.here hx rfl (H 2 rfl) ?_
    refine XS.iloadN X0.here hx rfl (H 3 rfl) rfl ?_
    refine XS.iadd X0.here hx rfl (H 4 rfl) rfl ?_
    show SG X0 9 #[vR oa, vI 53, vI 2, vI 1, vI nh, vU, vU] [.int 6] _
    refine XS.iloadN X0.here hx rfl (H 5 rfl) rfl ?_
    refine XS.ifNo X0.here hx rfl (H 6 rfl) rfl ((if0 _ _).trans (feq (by decide : ¬ ((1 : Int32) = (0 : Int32)))).1) ?_
    refine XS.iconst X0.here hx rfl (H 7 rfl) ?_
    refine XS.goto X0.here hx rfl (pc0 := 14) (pc' := 18) rfl (H 8 rfl) (by decide) (by decide) ?_
    refine XS.iadd X0.here hx rfl (H 10 rfl) rfl ?_
    show SG X0 19 #[vR oa, vI 53, vI 2, vI 1, vI nh, vU, vU] [.int 7] _
    refine XS.istore X0.here hx rfl (H 11 rfl) rfl (l' := #[vR oa, vI 53, vI 2, vI 1, vI nh, vI 7, vU]) rfl ?_
    refine XS.iloadN X0.here hx rfl (H 12 rfl) rfl ?_
    refine XS.iload X0.here hx rfl (H 13 rfl) rfl ?_
    refine XS.iadd X0.here hx rfl (H 14 rfl) rfl ?_
    show SG X0 25 #[vR oa, vI 53, vI 2, vI 1, vI nh, vI 7, vU] [.int 60] _
    refine XS.aloadN X0.here hx rfl (H 15 rfl) rfl rfl ?_
    refine own_alen X0 hx hZ e0 P0 (H 16 rfl) ?_
    refine XS.icmpYes X0.here hx rfl (pc0 := 27) (pc' := 32) rfl (H 17 rfl) rfl (flt (hz : ¬ (nz < (60 : Int32)))).2.2.2 (by decide) (by decide) ?_
    refine XS.aloadN X0.here hx rfl (H 18 rfl) rfl rfl ?_
    refine XS.iloadN X0.here hx rfl (H 19 rfl) rfl ?_
    refine own_bal X0 hx hZ e0 P0 (x := (10 : Int32)) ⟨by decide, own_nlt hz (by decide)⟩ hv53 (H 20 rfl) ?_
    refine XS.bipush X0.here hx rfl (H 21 rfl) ?_
    refine XS.icmpYes X0.here hx rfl (pc0 := 37) (pc' := 42) rfl (H 22 rfl) rfl (teq (by decide : ((10 : Int32) = (10 : Int32)))).1 (by decide) (by decide) ?_
    refine XS.iloadN X0.here hx rfl (H 23 rfl) rfl ?_
    refine XS.iconst X0.here hx rfl (H 24 rfl) ?_
    refine XS.icmpNo X0.here hx rfl (H 25 rfl) rfl (flt (by decide : ¬ ((2 : Int32) < (1 : Int32)))).1 ?_
    refine XS.aloadN X0.here hx rfl (H 26 rfl) rfl rfl ?_
    refine XS.iloadN X0.here hx rfl (H 27 rfl) rfl ?_
    refine XS.iconst X0.here hx rfl (H 28 rfl) ?_
    refine XS.iadd X0.here hx rfl (H 29 rfl) rfl ?_
    show SG X0 51 #[vR oa, vI 53, vI 2, vI 1, vI nh, vI 7, vU] [.int 54, .ref oa] _
    refine own_bal X0 hx hZ e0 P0 (x := (9 : Int32)) ⟨by decide, own_nlt hz (by decide)⟩ hv54 (H 30 rfl) ?_
    refine XS.bipush X0.here hx rfl (H 31 rfl) ?_
    refine XS.icmpYes X0.here hx rfl (pc0 := 54) (pc' := 59) rfl (H 32 rfl) rfl (teq (by decide : ((9 : Int32) = (9 : Int32)))).1 (by decide) (by decide) ?_
    refine XS.iloadN X0.here hx rfl (H 33 rfl) rfl ?_
    refine XS.iconst X0.here hx rfl (H 34 rfl) ?_
    refine XS.icmpNo X0.here hx rfl (H 35 rfl) rfl (flt (by decide : ¬ ((2 : Int32) < (2 : Int32)))).1 ?_
    refine XS.aloadN X0.here hx rfl (H 36 rfl) rfl rfl ?_
    refine XS.iloadN X0.here hx rfl (H 37 rfl) rfl ?_
    refine XS.iconst X0.here hx rfl (H 38 rfl) ?_
    refine XS.iadd X0.here hx rfl (H 39 rfl) rfl ?_
    show SG X0 68 #[vR oa, vI 53, vI 2, vI 1, vI nh, vI 7, vU] [.int 55, .ref oa] _
    refine own_bal X0 hx hZ e0 P0 (x := (9 : Int32)) ⟨by decide, own_nlt hz (by decide)⟩ hv55 (H 40 rfl) ?_
    refine XS.bipush X0.here hx rfl (H 41 rfl) ?_
    refine XS.icmpYes X0.here hx rfl (pc0 := 71) (pc' := 76) rfl (H 42 rfl) rfl (teq (by decide : ((9 : Int32) = (9 : Int32)))).1 (by decide) (by decide) ?_
    refine XS.iloadN X0.here hx rfl (H 43 rfl) rfl ?_
    refine XS.iconst X0.here hx rfl (H 44 rfl) ?_
    refine XS.iadd X0.here hx rfl (H 45 rfl) rfl ?_
    show SG X0 79 #[vR oa, vI 53, vI 2, vI 1, vI nh, vI 7, vU] [.int 54] _
    refine XS.iloadN X0.here hx rfl (H 46 rfl) rfl ?_
    refine XS.iadd X0.here hx rfl (H 47 rfl) rfl ?_
    show SG X0 81 #[vR oa, vI 53, vI 2, vI 1, vI nh, vI 7, vU] [.int 56] _
    refine XS.istore X0.here hx rfl (H 48 rfl) rfl (l' := #[vR oa, vI 53, vI 2, vI 1, vI nh, vI 7, vI 56]) rfl ?_
    refine XS.aloadN X0.here hx rfl (H 49 rfl) rfl rfl ?_
    refine XS.iload X0.here hx rfl (H 50 rfl) rfl ?_
    refine own_bal X0 hx hZ e0 P0 (x := (60 : Int32)) ⟨by decide, own_nlt hz (by decide)⟩ hv56 (H 51 rfl) ?_
    refine XS.bipush X0.here hx rfl (H 52 rfl) ?_
    refine XS.icmpYes X0.here hx rfl (pc0 := 89) (pc' := 94) rfl (H 53 rfl) rfl (teq (by decide : ((60 : Int32) = (60 : Int32)))).1 (by decide) (by decide) ?_
    refine XS.iload X0.here hx rfl (H 54 rfl) rfl ?_
    refine XS.iconst X0.here hx rfl (H 55 rfl) ?_
    refine XS.iadd X0.here hx rfl (H 56 rfl) rfl ?_
    show SG X0 98 #[vR oa, vI 53, vI 2, vI 1, vI nh, vI 7, vI 56] [.int 57] _
    refine XS.istore X0.here hx rfl (H 57 rfl) rfl (l' := #[vR oa, vI 53, vI 2, vI 1, vI nh, vI 7, vI 57]) rfl ?_
    refine XS.iloadN X0.here hx rfl (H 58 rfl) rfl ?_
    refine XS.ifNo X0.here hx rfl (H 59 rfl) rfl ((if0 _ _).trans (feq (by decide : ¬ ((1 : Int32) = (0 : Int32)))).1) ?_
    refine XS.aloadN X0.here hx rfl (H 60 rfl) rfl rfl ?_
    refine XS.iload X0.here hx rfl (H 61 rfl) rfl ?_
    refine own_bal X0 hx hZ e0 P0 (x := (47 : Int32)) ⟨by decide, own_nlt hz (by decide)⟩ hv57 (H 62 rfl) ?_
    refine XS.bipush X0.here hx rfl (H 63 rfl) ?_
    refine XS.icmpYes X0.here hx rfl (pc0 := 110) (pc' := 115) rfl (H 64 rfl) rfl (teq (by decide : ((47 : Int32) = (47 : Int32)))).1 (by decide) (by decide) ?_
    refine XS.iload X0.here hx rfl (H 65 rfl) rfl ?_
    refine XS.iconst X0.here hx rfl (H 66 rfl) ?_
    refine XS.iadd X0.here hx rfl (H 67 rfl) rfl ?_
    show SG X0 119 #[vR oa, vI 53, vI 2, vI 1, vI nh, vI 7, vI 57] [.int 58] _
    refine XS.istore X0.here hx rfl (H 68 rfl) rfl (l' := #[vR oa, vI 53, vI 2, vI 1, vI nh, vI 7, vI 58]) rfl ?_
    refine XS.aloadN X0.here hx rfl (H 69 rfl) rfl rfl ?_
    refine XS.iload X0.here hx rfl (H 70 rfl) rfl ?_
    refine own_bal X0 hx hZ e0 P0 (x := (nh.toInt8.toInt32)) ⟨by decide, own_nlt hz (by decide)⟩ hv58 (H 71 rfl) ?_
    refine XS.iload X0.here hx rfl (H 72 rfl) rfl ?_
    refine XS.i2b X0.here hx rfl (H 73 rfl) rfl ?_
    refine XS.icmpYes X0.here hx rfl (pc0 := 128) (pc' := 133) rfl (H 74 rfl) rfl (teq (rfl : (nh.toInt8.toInt32) = (nh.toInt8.toInt32))).1 (by decide) (by decide) ?_
    refine XS.iload X0.here hx rfl (H 75 rfl) rfl ?_
    refine XS.iconst X0.here hx rfl (H 76 rfl) ?_
    refine XS.iadd X0.here hx rfl (H 77 rfl) rfl ?_
    show SG X0 137 #[vR oa, vI 53, vI 2, vI 1, vI nh, vI 7, vI 58] [.int 59] _
    refine XS.istore X0.here hx rfl (H 78 rfl) rfl (l' := #[vR oa, vI 53, vI 2, vI 1, vI nh, vI 7, vI 59]) rfl ?_
    refine XS.aloadN X0.here hx rfl (H 79 rfl) rfl rfl ?_
    refine XS.iload X0.here hx rfl (H 80 rfl) rfl ?_
    refine own_bal X0 hx hZ e0 P0 (x := (62 : Int32)) ⟨by decide, own_nlt hz (by decide)⟩ hv59 (H 81 rfl) ?_
    refine XS.bipush X0.here hx rfl (H 82 rfl) ?_
    refine XS.icmpYes X0.here hx rfl (pc0 := 145) (pc' := 150) rfl (H 83 rfl) rfl (teq (by decide : ((62 : Int32) = (62 : Int32)))).1 (by decide) (by decide) ?_
    refine XS.iload X0.here hx rfl (H 84 rfl) rfl ?_
    refine XS.iconst X0.here hx rfl (H 85 rfl) ?_
    refine XS.iadd X0.here hx rfl (H 86 rfl) rfl ?_
    show SG X0 154 #[vR oa, vI 53, vI 2, vI 1, vI nh, vI 7, vI 59] [.int 60] _
    exact retI X0 hx Bd.returns (H 87 rfl) hr
  · show QTG53_2_1 Z oa nh ka nz vs h0 n0 _ sZ.heap _
    rw [e0]
    exact ⟨rfl, N0, rfl⟩

theorem ef_TG60_1_1 (m : MethodId) (oa : Addr) (nh : Int32) : entryFrame m #[.ref oa, .int 60, .int 1, .int 1, .int nh] 7 = mkF m 0 #[.val (.ref oa), .val (.int 60), .val (.int 1), .val (.int 1), .val (.int nh), .unset, .unset] [] := by simp [entryFrame, mkF, argsToLocals, Value.category]
def QTG60_1_1 (Z : State) (oa : Addr) (nh : Int32) (ka : ClassId) (nz : Int32) (vs : List Value) (h0 : Heap) (n0 : Nat) (v : Option Value) (h : Heap) (L : List Loc) : Prop := v = some (.int 66) ∧ Fr n0 L ∧ h = h0
theorem rmTG60_1_1 (l : Launch) (Z : State) (a0 : Array Value) (hw : HWd a0 Z) (ws : List Jvm.Cond) (oa : Addr) (nh : Int32) (ka : ClassId) (nz : Int32) (vs : List Value) (h0 : Heap) (n0 : Nat) (Z0 : n0 ≤ h0.size) (P0 : Arv Z h0 oa ka .byte nz vs (.int 0)) (hz : ¬ nz < (66 : Int32)) (hv60 : vs.getD ((60 : Int32)).toNatClampNeg (.int 0) = .int 10) (hv62 : vs.getD ((62 : Int32)).toNatClampNeg (.int 0) = .int 60) (hv64 : vs.getD ((64 : Int32)).toNatClampNeg (.int 0) = .int (nh.toInt8.toInt32)) (hv65 : vs.getD ((65 : Int32)).toNatClampNeg (.int 0) = .int 62) (hv61 : vs.getD ((61 : Int32)).toNatClampNeg (.int 0) = .int 9) (hv63 : vs.getD ((63 : Int32)).toNatClampNeg (.int 0) = .int 47) :
    own_Met l Y_51 (Jvm.Cond.code Y_51 method_3_code 7 (some .int) :: ws) (RM 0 0 0 0) #[.ref oa, .int 60, .int 1, .int 1, .int nh] Z h0 (QTG60_1_1 Z oa nh ka nz vs h0 n0) := by
  refine own_bS pn_58 rfl D_58 (fun m => ef_TG60_1_1 m oa nh) hw fun p e s m below meth c sZ Bd hx hby hml hown hnm hh hZ X0 e0 w H pre0 => ?_
  have N0 := Fr.nil n0
  obtain ⟨fs, hr, hrun, hended, hW, hsame⟩ := X0.leave (v := some (.int 66)) (fun h => by rw [Bd.returns] at h; cases h)
  refine ⟨_, _, pre0 _ ?_, hrun, hended, _, _, rfl, ?_, ⟨_, rfl⟩, hW, hsame.mono (by decide) (by decide)⟩
  · show SG X0 0 #[vR oa, vI 60, vI 1, vI 1, vI nh, vU, vU] [] _
    refine XS.iloadN X0.here hx rfl (H 0 rfl) rfl ?_
    refine XS.ifYes X0.here hx rfl (pc0 := 1) (pc' := 6) rfl (H 1 rfl) rfl ((if0 _ _).trans (flt (by decide : ¬ ((60 : Int32) < (0 : Int32)))).2.1) (by decide) (by decide) ?_
    refine XS.iconst X0.here hx rfl (H 2 rfl) ?_
    refine XS.iloadN X0.here hx rfl (H 3 rfl) rfl ?_
    refine XS.iadd X0.here hx rfl (H 4 rfl) rfl ?_
    show SG X0 9 #[vR oa, vI 60, vI 1, vI 1, vI nh, vU, vU] [.int 5] _
    refine XS.iloadN X0.here hx rfl (H 5 rfl) rfl ?_
    refine XS.ifNo X0.here hx rfl (H 6 rfl) rfl ((if0 _ _).trans (feq (by decide : ¬ ((1 : Int32) = (0 : Int32)))).1) ?_
    refine XS.iconst X0.here hx rfl (H 7 rfl) ?_
    refine XS.goto X0.here hx rfl (pc0 := 14) (pc' := 18) rfl (H 8 rfl) (by decide) (by decide) ?_
    refine XS.iadd X0.here hx rfl (H 10 rfl) rfl ?_
    show SG X0 19 #[vR oa, vI 60, vI 1, vI 1, vI nh, vU, vU] [.int 6] _
    refine XS.istore X0.here hx rfl (H 11 rfl) rfl (l' := #[vR oa, vI 60, vI 1, vI 1, vI nh, vI 6, vU]) rfl ?_
    refine XS.iloadN X0.here hx rfl (H 12 rfl) rfl ?_
    refine XS.iload X0.here hx rfl (H 13 rfl) rfl ?_
    refine XS.iadd X0.here hx rfl (H 14 rfl) rfl ?_
    show SG X0 25 #[vR oa, vI 60, vI 1, vI 1, vI nh, vI 6, vU] [.int 66] _
    refine XS.aloadN X0.here hx rfl (H 15 rfl) rfl rfl ?_
    refine own_alen X0 hx hZ e0 P0 (H 16 rfl) ?_
    refine XS.icmpYes X0.here hx rfl (pc0 := 27) (pc' := 32) rfl (H 17 rfl) rfl (flt (hz : ¬ (nz < (66 : Int32)))).2.2.2 (by decide) (by decide) ?_
    refine XS.aloadN X0.here hx rfl (H 18 rfl) rfl rfl ?_
    refine XS.iloadN X0.here hx rfl (H 19 rfl) rfl ?_
    refine own_bal X0 hx hZ e0 P0 (x := (10 : Int32)) ⟨by decide, own_nlt hz (by decide)⟩ hv60 (H 20 rfl) ?_
    refine XS.bipush X0.here hx rfl (H 21 rfl) ?_
    refine XS.icmpYes X0.here hx rfl (pc0 := 37) (pc' := 42) rfl (H 22 rfl) rfl (teq (by decide : ((10 : Int32) = (10 : Int32)))).1 (by decide) (by decide) ?_
    refine XS.iloadN X0.here hx rfl (H 23 rfl) rfl ?_
    refine XS.iconst X0.here hx rfl (H 24 rfl) ?_
    refine XS.icmpNo X0.here hx rfl (H 25 rfl) rfl (flt (by decide : ¬ ((1 : Int32) < (1 : Int32)))).1 ?_
    refine XS.aloadN X0.here hx rfl (H 26 rfl) rfl rfl ?_
    refine XS.iloadN X0.here hx rfl (H 27 rfl) rfl ?_
    refine XS.iconst X0.here hx rfl (H 28 rfl) ?_
    refine XS.iadd X0.here hx rfl (H 29 rfl) rfl ?_
    show SG X0 51 #[vR oa, vI 60, vI 1, vI 1, vI nh, vI 6, vU] [.int 61, .ref oa] _
    refine own_bal X0 hx hZ e0 P0 (x := (9 : Int32)) ⟨by decide, own_nlt hz (by decide)⟩ hv61 (H 30 rfl) ?_
    refine XS.bipush X0.here hx rfl (H 31 rfl) ?_
    refine XS.icmpYes X0.here hx rfl (pc0 := 54) (pc' := 59) rfl (H 32 rfl) rfl (teq (by decide : ((9 : Int32) = (9 : Int32)))).1 (by decide) (by decide) ?_
    refine XS.iloadN X0.here hx rfl (H 33 rfl) rfl ?_
    refine XS.iconst X0.here hx rfl (H 34 rfl) ?_
    refine XS.icmpYes X0.here hx rfl (pc0 := 61) (pc' := 76) rfl (H 35 rfl) rfl (tlt (by decide : ((1 : Int32) < (2 : Int32)))).1 (by decide) (by decide) ?_
    refine XS.iloadN X0.here hx rfl (H 43 rfl) rfl ?_
    refine XS.iconst X0.here hx rfl (H 44 rfl) ?_
    refine XS.iadd X0.here hx rfl (H 45 rfl) rfl ?_
    show SG X0 79 #[vR oa, vI 60, vI 1, vI 1, vI nh, vI 6, vU] [.int 61] _
    refine XS.iloadN X0.here hx rfl (H 46 rfl) rfl ?_
    refine XS.iadd X0.here hx rfl (H 47 rfl) rfl ?_
    show SG X0 81 #[vR oa, vI 60, vI 1, vI 1, vI nh, vI 6, vU] [.int 62] _
    refine XS.istore X0.here hx rfl (H 48 rfl) rfl (l' := #[vR oa, vI 60, vI 1, vI 1, vI nh, vI 6, vI 62]) rfl ?_
    refine XS.aloadN X0.here hx rfl (H 49 rfl) rfl rfl ?_
    refine XS.iload X0.here hx rfl (H 50 rfl) rfl ?_
    refine own_bal X0 hx hZ e0 P0 (x := (60 : Int32)) ⟨by decide, own_nlt hz (by decide)⟩ hv62 (H 51 rfl) ?_
    refine XS.bipush X0.here hx rfl (H 52 rfl) ?_
    refine XS.icmpYes X0.here hx rfl (pc0 := 89) (pc' := 94) rfl (H 53 rfl) rfl (teq (by decide : ((60 : Int32) = (60 : Int32)))).1 (by decide) (by decide) ?_
    refine XS.iload X0.here hx rfl (H 54 rfl) rfl ?_
    refine XS.iconst X0.here hx rfl (H 55 rfl) ?_
    refine XS.iadd X0.here hx rfl (H 56 rfl) rfl ?_
    show SG X0 98 #[vR oa, vI 60, vI 1, vI 1, vI nh, vI 6, vI 62] [.int 63] _
    refine XS.istore X0.here hx rfl (H 57 rfl) rfl (l' := #[vR oa, vI 60, vI 1, vI 1, vI nh, vI 6, vI 63]) rfl ?_
    refine XS.iloadN X0.here hx rfl (H 58 rfl) rfl ?_
    refine XS.ifNo X0.here hx rfl (H 59 rfl) rfl ((if0 _ _).trans (feq (by decide : ¬ ((1 : Int32) = (0 : Int32)))).1) ?_
    refine XS.aloadN X0.here hx rfl (H 60 rfl) rfl rfl ?_
    refine XS.iload X0.here hx rfl (H 61 rfl) rfl ?_
    refine own_bal X0 hx hZ e0 P0 (x := (47 : Int32)) ⟨by decide, own_nlt hz (by decide)⟩ hv63 (H 62 rfl) ?_
    refine XS.bipush X0.here hx rfl (H 63 rfl) ?_
    refine XS.icmpYes X0.here hx rfl (pc0 := 110) (pc' := 115) rfl (H 64 rfl) rfl (teq (by decide : ((47 : Int32) = (47 : Int32)))).1 (by decide) (by decide) ?_
    refine XS.iload X0.here hx rfl (H 65 rfl) rfl ?_
    refine XS.iconst X0.here hx rfl (H 66 rfl) ?_
    refine XS.iadd X0.here hx rfl (H 67 rfl) rfl ?_
    show SG X0 119 #[vR oa, vI 60, vI 1, vI 1, vI nh, vI 6, vI 63] [.int 64] _
    refine XS.istore X0.here hx rfl (H 68 rfl) rfl (l' := #[vR oa, vI 60, vI 1, vI 1, vI nh, vI 6, vI 64]) rfl ?_
    refine XS.aloadN X0.here hx rfl (H 69 rfl) rfl rfl ?_
    refine XS.iload X0.here hx rfl (H 70 rfl) rfl ?_
    refine own_bal X0 hx hZ e0 P0 (x := (nh.toInt8.toInt32)) ⟨by decide, own_nlt hz (by decide)⟩ hv64 (H 71 rfl) ?_
    refine XS.iload X0.here hx rfl (H 72 rfl) rfl ?_
    refine XS.i2b X0.here hx rfl (H 73 rfl) rfl ?_
    refine XS.icmpYes X0.here hx rfl (pc0 := 128) (pc' := 133) rfl (H 74 rfl) rfl (teq (rfl : (nh.toInt8.toInt32) = (nh.toInt8.toInt32))).1 (by decide) (by decide) ?_
    refine XS.iload X0.here hx rfl (H 75 rfl) rfl ?_
    refine XS.iconst X0.here hx rfl (H 76 rfl) ?_
    refine XS.iadd X0.here hx rfl (H 77 rfl) rfl ?_
    show SG X0 137 #[vR oa, vI 60, vI 1, vI 1, vI nh, vI 6, vI 64] [.int 65] _
    refine XS.istore X0.here hx rfl (H 78 rfl) rfl (l' := #[vR oa, vI 60, vI 1, vI 1, vI nh, vI 6, vI 65]) rfl ?_
    refine XS.aloadN X0.here hx rfl (H 79 rfl) rfl rfl ?_
    refine XS.iload X0.here hx rfl (H 80 rfl) rfl ?_
    refine own_bal X0 hx hZ e0 P0 (x := (62 : Int32)) ⟨by decide, own_nlt hz (by decide)⟩ hv65 (H 81 rfl) ?_
    refine XS.bipush X0.here hx rfl (H 82 rfl) ?_
    refine XS.icmpYes X0.here hx rfl (pc0 := 145) (pc' := 150) rfl (H 83 rfl) rfl (teq (by decide : ((62 : Int32) = (62 : Int32)))).1 (by decide) (by decide) ?_
    refine XS.iload X0.here hx rfl (H 84 rfl) rfl ?_
    refine XS.iconst X0.here hx rfl (H 85 rfl) ?_
    refine XS.iadd X0.here hx rfl (H 86 rfl) rfl ?_
    show SG X0 154 #[vR oa, vI 60, vI 1, vI 1, vI nh, vI 6, vI 65] [.int 66] _
    exact retI X0 hx Bd.returns (H 87 rfl) hr
  · show QTG60_1_1 Z oa nh ka nz vs h0 n0 _ sZ.heap _
    rw [e0]
    exact ⟨rfl, N0, rfl⟩

theorem ef_TG66_0_1 (m : MethodId) (oa : Addr) (nh : Int32) : entryFrame m #[.ref oa, .int 66, .int 0, .int 1, .int nh] 7 = mkF m 0 #[.val (.ref oa), .val (.int 66), .val (.int 0), .val (.int 1), .val (.int nh), .unset, .unset] [] := by simp [entryFrame, mkF, argsToLocals, Value.category]
def QTG66_0_1 (Z : State) (oa : Addr) (nh : Int32) (ka : ClassId) (nz : Int32) (vs : List Value) (h0 : Heap) (n0 : Nat) (v : Option Value) (h : Heap) (L : List Loc) : Prop := v = some (.int 71) ∧ Fr n0 L ∧ h = h0
theorem rmTG66_0_1 (l : Launch) (Z : State) (a0 : Array Value) (hw : HWd a0 Z) (ws : List Jvm.Cond) (oa : Addr) (nh : Int32) (ka : ClassId) (nz : Int32) (vs : List Value) (h0 : Heap) (n0 : Nat) (Z0 : n0 ≤ h0.size) (P0 : Arv Z h0 oa ka .byte nz vs (.int 0)) (hz : ¬ nz < (71 : Int32)) (hv66 : vs.getD ((66 : Int32)).toNatClampNeg (.int 0) = .int 10) (hv67 : vs.getD ((67 : Int32)).toNatClampNeg (.int 0) = .int 60) (hv69 : vs.getD ((69 : Int32)).toNatClampNeg (.int 0) = .int (nh.toInt8.toInt32)) (hv70 : vs.getD ((70 : Int32)).toNatClampNeg (.int 0) = .int 62) (hv68 : vs.getD ((68 : Int32)).toNatClampNeg (.int 0) = .int 47) :
    own_Met l Y_51 (Jvm.Cond.code Y_51 method_3_code 7 (some .int) :: ws) (RM 0 0 0 0) #[.ref oa, .int 66, .int 0, .int 1, .int nh] Z h0 (QTG66_0_1 Z oa nh ka nz vs h0 n0) := by
  refine own_bS pn_58 rfl D_58 (fun m => ef_TG66_0_1 m oa nh) hw fun p e s m below meth c sZ Bd hx hby hml hown hnm hh hZ X0 e0 w H pre0 => ?_
  have N0 := Fr.nil n0
  obtain ⟨fs, hr, hrun, hended, hW, hsame⟩ := X0.leave (v := some (.int 71)) (fun h => by rw [Bd.returns] at h; cases h)
  refine ⟨_, _, pre0 _ ?_, hrun, hended, _, _, rfl, ?_, ⟨_, rfl⟩, hW, hsame.mono (by decide) (by decide)⟩
  · show SG X0 0 #[vR oa, vI 66, vI 0, vI 1, vI nh, vU, vU] [] _
    refine XS.iloadN X0.here hx rfl (H 0 rfl) rfl ?_
    refine XS.ifYes X0.here hx rfl (pc0 := 1) (pc' := 6) rfl (H 1 rfl) rfl ((if0 _ _).trans (flt (by decide : ¬ ((66 : Int32) < (0 : Int32)))).2.1) (by decide) (by decide) ?_
    refine XS.iconst X0.here hx rfl (H 2 rfl) ?_
    refine XS.iloadN X0.here hx rfl (H 3 rfl) rfl ?_
    refine XS.iadd X0.here hx rfl (H 4 rfl) rfl ?_
    show SG X0 9 #[vR oa, vI 66, vI 0, vI 1, vI nh, vU, vU] [.int 4] _
    refine XS.iloadN X0.here hx rfl (H 5 rfl) rfl ?_
    refine XS.ifNo X0.here hx rfl (H 6 rfl) rfl ((if0 _ _).trans (feq (by decide : ¬ ((1 : Int32) = (0 : Int32)))).1) ?_
    refine XS.iconst X0.here hx rfl (H 7 rfl) ?_
    refine XS.goto X0.here hx rfl (pc0 := 14) (pc' := 18) rfl (H 8 rfl) (by decide) (by decide) ?_
    refine XS.iadd X0.here hx rfl (H 10 rfl) rfl ?_
    show SG X0 19 #[vR oa, vI 66, vI 0, vI 1, vI nh, vU, vU] [.int 5] _
    refine XS.istore X0.here hx rfl (H 11 rfl) rfl (l' := #[vR oa, vI 66, vI 0, vI 1, vI nh, vI 5, vU]) rfl ?_
    refine XS.iloadN X0.here hx rfl (H 12 rfl) rfl ?_
    refine XS.iload X0.here hx rfl (H 13 rfl) rfl ?_
    refine XS.iadd X0.here hx rfl (H 14 rfl) rfl ?_
    show SG X0 25 #[vR oa, vI 66, vI 0, vI 1, vI nh, vI 5, vU] [.int 71] _
    refine XS.aloadN X0.here hx rfl (H 15 rfl) rfl rfl ?_
    refine own_alen X0 hx hZ e0 P0 (H 16 rfl) ?_
    refine XS.icmpYes X0.here hx rfl (pc0 := 27) (pc' := 32) rfl (H 17 rfl) rfl (flt (hz : ¬ (nz < (71 : Int32)))).2.2.2 (by decide) (by decide) ?_
    refine XS.aloadN X0.here hx rfl (H 18 rfl) rfl rfl ?_
    refine XS.iloadN X0.here hx rfl (H 19 rfl) rfl ?_
    refine own_bal X0 hx hZ e0 P0 (x := (10 : Int32)) ⟨by decide, own_nlt hz (by decide)⟩ hv66 (H 20 rfl) ?_
    refine XS.bipush X0.here hx rfl (H 21 rfl) ?_
    refine XS.icmpYes X0.here hx rfl (pc0 := 37) (pc' := 42) rfl (H 22 rfl) rfl (teq (by decide : ((10 : Int32) = (10 : Int32)))).1 (by decide) (by decide) ?_
    refine XS.iloadN X0.here hx rfl (H 23 rfl) rfl ?_
    refine XS.iconst X0.here hx rfl (H 24 rfl) ?_
    refine XS.icmpYes X0.here hx rfl (pc0 := 44) (pc' := 59) rfl (H 25 rfl) rfl (tlt (by decide : ((0 : Int32) < (1 : Int32)))).1 (by decide) (by decide) ?_
    refine XS.iloadN X0.here hx rfl (H 33 rfl) rfl ?_
    refine XS.iconst X0.here hx rfl (H 34 rfl) ?_
    refine XS.icmpYes X0.here hx rfl (pc0 := 61) (pc' := 76) rfl (H 35 rfl) rfl (tlt (by decide : ((0 : Int32) < (2 : Int32)))).1 (by decide) (by decide) ?_
    refine XS.iloadN X0.here hx rfl (H 43 rfl) rfl ?_
    refine XS.iconst X0.here hx rfl (H 44 rfl) ?_
    refine XS.iadd X0.here hx rfl (H 45 rfl) rfl ?_
    show SG X0 79 #[vR oa, vI 66, vI 0, vI 1, vI nh, vI 5, vU] [.int 67] _
    refine XS.iloadN X0.here hx rfl (H 46 rfl) rfl ?_
    refine XS.iadd X0.here hx rfl (H 47 rfl) rfl ?_
    show SG X0 81 #[vR oa, vI 66, vI 0, vI 1, vI nh, vI 5, vU] [.int 67] _
    refine XS.istore X0.here hx rfl (H 48 rfl) rfl (l' := #[vR oa, vI 66, vI 0, vI 1, vI nh, vI 5, vI 67]) rfl ?_
    refine XS.aloadN X0.here hx rfl (H 49 rfl) rfl rfl ?_
    refine XS.iload X0.here hx rfl (H 50 rfl) rfl ?_
    refine own_bal X0 hx hZ e0 P0 (x := (60 : Int32)) ⟨by decide, own_nlt hz (by decide)⟩ hv67 (H 51 rfl) ?_
    refine XS.bipush X0.here hx rfl (H 52 rfl) ?_
    refine XS.icmpYes X0.here hx rfl (pc0 := 89) (pc' := 94) rfl (H 53 rfl) rfl (teq (by decide : ((60 : Int32) = (60 : Int32)))).1 (by decide) (by decide) ?_
    refine XS.iload X0.here hx rfl (H 54 rfl) rfl ?_
    refine XS.iconst X0.here hx rfl (H 55 rfl) ?_
    refine XS.iadd X0.here hx rfl (H 56 rfl) rfl ?_
    show SG X0 98 #[vR oa, vI 66, vI 0, vI 1, vI nh, vI 5, vI 67] [.int 68] _
    refine XS.istore X0.here hx rfl (H 57 rfl) rfl (l' := #[vR oa, vI 66, vI 0, vI 1, vI nh, vI 5, vI 68]) rfl ?_
    refine XS.iloadN X0.here hx rfl (H 58 rfl) rfl ?_
    refine XS.ifNo X0.here hx rfl (H 59 rfl) rfl ((if0 _ _).trans (feq (by decide : ¬ ((1 : Int32) = (0 : Int32)))).1) ?_
    refine XS.aloadN X0.here hx rfl (H 60 rfl) rfl rfl ?_
    refine XS.iload X0.here hx rfl (H 61 rfl) rfl ?_
    refine own_bal X0 hx hZ e0 P0 (x := (47 : Int32)) ⟨by decide, own_nlt hz (by decide)⟩ hv68 (H 62 rfl) ?_
    refine XS.bipush X0.here hx rfl (H 63 rfl) ?_
    refine XS.icmpYes X0.here hx rfl (pc0 := 110) (pc' := 115) rfl (H 64 rfl) rfl (teq (by decide : ((47 : Int32) = (47 : Int32)))).1 (by decide) (by decide) ?_
    refine XS.iload X0.here hx rfl (H 65 rfl) rfl ?_
    refine XS.iconst X0.here hx rfl (H 66 rfl) ?_
    refine XS.iadd X0.here hx rfl (H 67 rfl) rfl ?_
    show SG X0 119 #[vR oa, vI 66, vI 0, vI 1, vI nh, vI 5, vI 68] [.int 69] _
    refine XS.istore X0.here hx rfl (H 68 rfl) rfl (l' := #[vR oa, vI 66, vI 0, vI 1, vI nh, vI 5, vI 69]) rfl ?_
    refine XS.aloadN X0.here hx rfl (H 69 rfl) rfl rfl ?_
    refine XS.iload X0.here hx rfl (H 70 rfl) rfl ?_
    refine own_bal X0 hx hZ e0 P0 (x := (nh.toInt8.toInt32)) ⟨by decide, own_nlt hz (by decide)⟩ hv69 (H 71 rfl) ?_
    refine XS.iload X0.here hx rfl (H 72 rfl) rfl ?_
    refine XS.i2b X0.here hx rfl (H 73 rfl) rfl ?_
    refine XS.icmpYes X0.here hx rfl (pc0 := 128) (pc' := 133) rfl (H 74 rfl) rfl (teq (rfl : (nh.toInt8.toInt32) = (nh.toInt8.toInt32))).1 (by decide) (by decide) ?_
    refine XS.iload X0.here hx rfl (H 75 rfl) rfl ?_
    refine XS.iconst X0.here hx rfl (H 76 rfl) ?_
    refine XS.iadd X0.here hx rfl (H 77 rfl) rfl ?_
    show SG X0 137 #[vR oa, vI 66, vI 0, vI 1, vI nh, vI 5, vI 69] [.int 70] _
    refine XS.istore X0.here hx rfl (H 78 rfl) rfl (l' := #[vR oa, vI 66, vI 0, vI 1, vI nh, vI 5, vI 70]) rfl ?_
    refine XS.aloadN X0.here hx rfl (H 79 rfl) rfl rfl ?_
    refine XS.iload X0.here hx rfl (H 80 rfl) rfl ?_
    refine own_bal X0 hx hZ e0 P0 (x := (62 : Int32)) ⟨by decide, own_nlt hz (by decide)⟩ hv70 (H 81 rfl) ?_
    refine XS.bipush X0.here hx rfl (H 82 rfl) ?_
    refine XS.icmpYes X0.here hx rfl (pc0 := 145) (pc' := 150) rfl (H 83 rfl) rfl (teq (by decide : ((62 : Int32) = (62 : Int32)))).1 (by decide) (by decide) ?_
    refine XS.iload X0.here hx rfl (H 84 rfl) rfl ?_
    refine XS.iconst X0.here hx rfl (H 85 rfl) ?_
    refine XS.iadd X0.here hx rfl (H 86 rfl) rfl ?_
    show SG X0 154 #[vR oa, vI 66, vI 0, vI 1, vI nh, vI 5, vI 70] [.int 71] _
    exact retI X0 hx Bd.returns (H 87 rfl) hr
  · show QTG66_0_1 Z oa nh ka nz vs h0 n0 _ sZ.heap _
    rw [e0]
    exact ⟨rfl, N0, rfl⟩

theorem pn_26 : plainName "com/example/cartolog/cartolog/xml/XmlDocument" = true := by first | (simp [plainName, overriddenIn]; done) | decide +kernel
theorem ef_NW0G (m : MethodId) (dc : Addr) : entryFrame m #[.ref dc] 1 = mkF m 0 #[.val (.ref dc)] [] := by simp [entryFrame, mkF, argsToLocals, Value.category]
theorem pd_21 : parseMethodDescriptor "(C)Ljava/lang/StringBuilder;" = some ⟨[.char], some (.object "java/lang/StringBuilder")⟩ := by decide +kernel
theorem pd_24 : parseMethodDescriptor "(I)Ljava/lang/String;" = some ⟨[.int], some (.object "java/lang/String")⟩ := by decide +kernel
theorem pd_7 : parseMethodDescriptor "(Ljava/lang/String;)Ljava/lang/StringBuilder;" = some ⟨[(.object "java/lang/String")], some (.object "java/lang/StringBuilder")⟩ := by decide +kernel
def QNW0G (Z : State) (dc ob : Addr) (dq bb : Addr) (kb : ClassId) (bs : List Int32) (el : Addr) (ke : ClassId) (cs : Int32) (h0 : Heap) (n0 : Nat) (v : Option Value) (h : Heap) (L : List Loc) : Prop := ∃ xb : Addr, ∃ xk : ClassId, v = none ∧ Fr n0 L ∧ Keep h0 h [ob] ∧ h0.size ≤ xb ∧ Fld Z h ob sA "value" "[B" (.ref xb) ∧ Fld Z h ob sA "coder" "B" (.int 0) ∧ Fld Z h ob sA "count" "I" (.int (Int32.ofNat ((bs ++ [own_c10]) ++ ([] : List Int32)).length)) ∧ Arv Z h xb xk .byte (78 : Int32) (own_iv ((bs ++ [own_c10]) ++ ([] : List Int32))) (.int 0)
theorem rmNW0G (l : Launch) (Z : State) (a0 : Array Value) (hw : HWd a0 Z) (ws : List Jvm.Cond) (dc ob : Addr) (dq bb : Addr) (kb : ClassId) (bs : List Int32) (el : Addr) (ke : ClassId) (cs : Int32) (h0 : Heap) (n0 : Nat) (Z0 : n0 ≤ h0.size) (P0 : Exa Z h0 dc sX) (P1 : Fld Z h0 dc sX "xml" sLB (.ref ob)) (P2 : Fld Z h0 dc sX "open" sLD (.ref dq)) (P3 : Exa Z h0 ob sB) (P4 : Fld Z h0 ob sA "value" "[B" (.ref bb)) (P5 : Fld Z h0 ob sA "coder" "B" (.int 0)) (P6 : Fld Z h0 ob sA "count" "I" (.int (Int32.ofNat bs.length))) (P7 : Arv Z h0 bb kb .byte (38 : Int32) (own_iv bs) (.int 0)) (P8 : Exa Z h0 dq sD) (P9 : Fld Z h0 dq sD "elements" sLO (.ref el)) (P10 : Fld Z h0 dq sD "head" "I" (.int 0)) (P11 : Fld Z h0 dq sD "tail" "I" (.int 0)) (P12 : Arv Z h0 el ke (.object sO) (17 : Int32) [.null, .null, .null, .null, .null, .null, .null, .null, .null, .null, .null, .null, .null, .null, .null, .null, .null] .null) (P13 : Ovr Z ke sO) (P14 : Sta Z h0 sS sC "Z" (.int cs)) (hcs : ¬ cs = (0 : Int32)) (hl : bs.length = 38) (g_ob : n0 ≤ ob) :
    own_MetW l Y_52 (Jvm.Cond.code Y_52 prog_33_method_13_code 1 none :: ws) (RM 6 5 91 88) #[.ref dc] Z h0 (QNW0G Z dc ob dq bb kb bs el ke cs h0 n0) := by
  refine own_bSW pn_26 rfl D_26 (fun m => ef_NW0G m dc) hw fun p e s m below meth c sZ Bd hx hby hml hown hnm hh hZ X0 e0 w H pre0 hC0 hC hS hk => ?_
  have N0 := Fr.nil n0
  have K0 := Keep.refl h0 [ob]
  have hN := own_len40 hl
  obtain ⟨T1, X1, e1, st1⟩ := getF X0 hx hZ hown (host := "") (Or.inl (w 53 rfl)) Via.refl e0 P1 (g := (mkF m 1 #[vR dc] [.ref dc])) rfl rfl (H 1 rfl)
  obtain ⟨cq2, kq2, q2a, q2b, q2c⟩ := isOf hZ e1 P3
  obtain ⟨_, T2, lo2, Lc2, X2, N2, hQ2, st2⟩ := own_af (QCB2 Z ob (10 : Int32) bb kb bs cs h0 n0) 0 1 0 78 1 78 (X1.virtualBack hx (y := Y_23) (z := Y_23) hown (mvT hZ (w 160 rfl)) (mvT hZ (w 161 rfl)) (own_ns hZ (w 163 rfl)) (mvT hZ (w 163 rfl)) (mvT hZ (w 162 rfl)) (by decide) (backOf (W := 0) (rmCB2 l Z a0 hw [] ob (10 : Int32) bb kb bs cs h0 n0 Z0 P3 P4 P5 P6 P7 P14 hcs (by decide) hl g_ob) hZ (w 164 rfl) (w 37 rfl) (by decide) (by decide)) q2a q2c (g := (mkF m 6 #[vR dc] [.int 10, .ref ob])) rfl (by rw [hml]; rfl) (Steps.refl _) (argsL := [.int 10]) (rest := []) (lenOf pd_21 rfl) rfl (lq rfl) (H 3 rfl) (fun _ _ => ⟨rfl, e1, (by decide : 0 + 1 ≤ _), (by decide : 0 + 78 ≤ _)⟩)) N0 (by rintro _ _ _ ⟨_, _, -, N, -⟩; exact N) rfl rfl
  dsimp only at st2
  obtain ⟨x2_0, x2_1, rfl, N2q, r2_0, r2_1, r2_2, r2_3, r2_4, r2_5⟩ := hQ2
  have hC := hC.trans (CHr.keep r2_0 (sfS (Safe.exa hZ.alike P3 (by decide) (by decide)) sf0) hC.1)
  have hk := Nat.le_trans hk r2_0.1
  have g_x2_0 : n0 ≤ x2_0 := Nat.le_trans Z0 r2_1
  have sz_x2_0 : h0.size ≤ x2_0 := Nat.le_trans K0.1 r2_1
  have ne5 : dc ≠ ob := Exa.ne P0 P3 (by decide)
  have ne12 : dq ≠ ob := Exa.ne P8 P3 (by decide)
  have ne16 : el ≠ ob := Ne.symm (Exa.neArv P3 P12 (w 36 rfl))
  have K2 := K0.trans r2_0 (allS (own_m 0 rfl) all0)
  have Z2 : n0 ≤ T2.heap.size := Nat.le_trans Z0 r2_0.1
  have ch18 : Goes p e below sZ (entryFrame m #[.ref dc] 1) T2 (mkF m 9 #[vR dc] [.ref ob]) := fun t kt => pre0 t (by
    show SG X0 0 #[vR dc] [] _
    refine XS.aloadN X0.here hx rfl (H 0 rfl) rfl rfl ?_
    refine st1 _ ?_
    show SG X1 4 #[vR dc] [.ref ob] _
    refine XS.bipush X1.here hx rfl (H 2 rfl) ?_
    refine st2.trans ?_
    show SG X2 9 #[vR dc] [.ref ob] _
    exact kt)
  obtain ⟨a19, T19, h19, kk19, b19, kc19, X19, e19, E19, hS, hk, hZ, hown, A19, B19, C19, V19, -, -, hCn, -, -, st19⟩ := ldcCH X2 hx hZ hown (w 175 rfl) (own_wS hw) rfl hS hk (own_EW hw) (List.mem_of_getElem? (i := 2) rfl) hC.1 (vs := own_iv [(9 : Int32)]) (z := Int32.ofNat [(9 : Int32)].length) own_lit2 (by decide) (by decide) (g := (mkF m 9 #[vR dc] [.ref ob])) rfl (H 4 rfl) (n := 4) (by decide) (by decide) (by decide) (by decide)
  have hC := hC.trans hCn
  have f22 := (P2.keep r2_0 (ninS ne5 nin0)).ext E19
  have f25 := (P8.keep r2_0).ext E19
  have f26 := (P9.keep r2_0 (ninS ne12 nin0)).ext E19
  have f27 := (P10.keep r2_0 (ninS ne12 nin0)).ext E19
  have f28 := (P11.keep r2_0 (ninS ne12 nin0)).ext E19
  have f29 := (P12.keep r2_0 (ninS ne16 nin0)).ext E19
  have f30 := (own_sta P14 r2_0 (nsS P3.nostat ns0)).ext E19
  have K19 := K2.ext E19
  have Z19 : n0 ≤ h19.size := Nat.le_trans Z2 E19.1
  obtain ⟨T35, X35, e35, st35⟩ := getF X19 hx hZ hown (host := "") (Or.inl (w 72 rfl)) Via.refl e19 f22 (g := (mkF m 12 #[vR dc] [.ref dc, .ref a19, .ref ob])) rfl rfl (H 6 rfl)
  obtain ⟨cq36, kq36, q36a, q36b, q36c⟩ := isOf hZ e35 f25
  obtain ⟨_, T36, lo36, Lc36, X36, N36, hQ36, st36⟩ := own_af (QSZ0 Z dq el ke h19 n0) 3 0 86 0 3 86 (X35.interfaceBack hx (xi := Y_53) (y := Y_25) hown (mvT hZ (w 176 rfl)) (mvT hZ (w 177 rfl)) (mvT hZ (w 178 rfl)) (mvT hZ (w 179 rfl)) (mvT hZ (w 180 rfl)) (mvT hZ (w 181 rfl)) (mvT hZ (w 182 rfl)) (mvT hZ (w 183 rfl)) (by decide) (backOf (W := 2) (rmSZ0 l Z a0 hw [] dq el ke h19 n0 Z19 f25 f26 f27 f28 f29 P13) hZ (w 184 rfl) (w 57 rfl) (by decide) (by decide)) q36a q36b q36c (g := (mkF m 15 #[vR dc] [.ref dq, .ref a19, .ref ob])) rfl (by rw [hml]; rfl) (Steps.refl _) (argsL := []) (rest := [.ref a19, .ref ob]) (lenOf pd_9 rfl) rfl (lq rfl) (H 7 rfl) (fun _ _ => ⟨rfl, e35, (by decide : 3 + 0 ≤ _), (by decide : 86 + 0 ≤ _)⟩)) N2 (fun _ _ _ h => h.2.1) rfl rfl
  dsimp only at st36
  obtain ⟨rfl, N36q, r36_0⟩ := hQ36
  have ch37 : Goes p e below sZ (entryFrame m #[.ref dc] 1) T36 (mkF m 20 #[vR dc] [.int 0, .ref a19, .ref ob]) := fun t kt => ch18 t (by
    show SG X2 9 #[vR dc] [.ref ob] _
    refine st19 _ ?_
    show SG X19 11 #[vR dc] [.ref a19, .ref ob] _
    refine XS.aloadN X19.here hx rfl (H 5 rfl) rfl rfl ?_
    refine st35 _ ?_
    show SG X35 15 #[vR dc] [.ref dq, .ref a19, .ref ob] _
    refine st36.trans ?_
    show SG X36 20 #[vR dc] [.int 0, .ref a19, .ref ob] _
    exact kt)
  obtain ⟨cq38, kq38, q38a, q38b, q38c⟩ := isOf hZ r36_0 A19
  obtain ⟨_, T38, lo38, Lc38, h38, kk38, X38, e38, hS, hk, hZ, hown, N38, hQ38, hCn, st38⟩ := own_afW (QRP0 Z a19 b19 kc19 h19 n0) 3 2 86 5 5 91 (X36.virtualBackS hx (y := Y_35) (z := Y_35) hown (mvT hZ (w 192 rfl)) (mvT hZ (w 193 rfl)) (own_ns hZ (w 195 rfl)) (mvT hZ (w 195 rfl)) (mvT hZ (w 194 rfl)) (by decide) (backOfSH (W := 1) (rmRP0 l Z a0 hw [] a19 b19 kc19 h19 n0 Z19 A19 C19 B19 V19) hZ (w 196 rfl) (w 5 rfl) (by decide) (by decide) (own_EW hw) hC.1) q38a q38c (g := (mkF m 20 #[vR dc] [.int 0, .ref a19, .ref ob])) rfl (by rw [hml]; rfl) (Steps.refl _) (argsL := [.int 0]) (rest := [.ref ob]) (lenOf pd_24 rfl) rfl (lq rfl) (H 8 rfl) (fun _ _ => ⟨rfl, r36_0, (by decide : 3 + 2 ≤ _), (by decide : 86 + 5 ≤ _)⟩)) hS r36_0 hk hZ hown N36 (by rintro _ _ _ ⟨_, _, _, -, N, -⟩; exact N) rfl rfl
  dsimp only at st38
  obtain ⟨x38_0, x38_1, x38_2, rfl, N38q, r38_0, r38_1, r38_2, r38_3, r38_4⟩ := hQ38
  have hC := hC.trans hCn
  have f39 := own_sta f30 r38_0 ns0
  have f43 := ((P3.keep r2_0).ext E19).keep r38_0
  have f50 := (r2_2.ext E19).keep r38_0 nin0
  have f51 := (r2_3.ext E19).keep r38_0 nin0
  have f52 := (r2_4.ext E19).keep r38_0 nin0
  have f53 := (r2_5.ext E19).keep r38_0 nin0
  have K38 := K19.trans r38_0 all0
  have Z38 : n0 ≤ h38.size := Nat.le_trans Z19 r38_0.1
  obtain ⟨cq58, kq58, q58a, q58b, q58c⟩ := isOf hZ e38 f43
  obtain ⟨_, T58, lo58, Lc58, X58, N58, hQ58, st58⟩ := own_af (QPB Z ob x38_0 x2_0 x2_1 (bs ++ [own_c10]) x38_1 x38_2 ([] : List Int32) cs h38 n0) 5 0 91 0 5 91 (X38.virtualBack hx (y := Y_20) (z := Y_20) hown (mvT hZ (w 77 rfl)) (mvT hZ (w 78 rfl)) (own_ns hZ (w 80 rfl)) (mvT hZ (w 80 rfl)) (mvT hZ (w 79 rfl)) (by decide) (backOf (W := 0) (rmPB l Z a0 hw [] ob x38_0 x2_0 x2_1 (bs ++ [own_c10]) x38_1 x38_2 ([] : List Int32) cs h38 n0 Z38 f43 f51 f52 f50 f53 r38_1 r38_2 r38_3 r38_4 f39 hcs (own_len (us := ([] : List Int32)) (m := 0) (own_len (us := [own_c10]) (m := 0) (Nat.le_trans (Nat.add_le_add_left (by decide : 1 ≤ 40) _) hN) (bl rfl)) (bl rfl)) (bl rfl : ([] : List Int32).length + 1 ≤ 78) g_ob g_x2_0) hZ (w 81 rfl) (w 37 rfl) (by decide) (by decide)) q58a q58c (g := (mkF m 23 #[vR dc] [.ref x38_0, .ref ob])) rfl (by rw [hml]; rfl) (Steps.refl _) (argsL := [.ref x38_0]) (rest := []) (lenOf pd_7 rfl) rfl (lq rfl) (H 9 rfl) (fun _ _ => ⟨rfl, e38, (by decide : 5 + 0 ≤ _), (by decide : 91 + 0 ≤ _)⟩)) N38 (fun _ _ _ h => h.2.1) rfl rfl
  dsimp only at st58
  obtain ⟨rfl, N58q, r58_0, r58_1, r58_2, r58_3, r58_4⟩ := hQ58
  have hC := hC.trans (CHr.keep r58_0 (sfS (Safe.exa hZ.alike f43 (by decide) (by decide)) (sfS (own_safe hw hZ f53) sf0)) hC.1)
  have hk := Nat.le_trans hk r58_0.1
  have K58 := K38.trans r58_0 (allS (own_m 0 rfl) (allS (Or.inr sz_x2_0) all0))
  obtain ⟨fs, hr, hrun, hended, hW⟩ := X58.leaveW (v := none) hS hk (fun _ => rfl)
  refine ⟨_, _, ch37 _ ?_, hrun, hended, _, _, rfl, ?_, ?_, ⟨hW.1, hW.2.1, hW.2.2.1, hW.2.2.2.mono (by decide) (by decide)⟩⟩
  · show SG X36 20 #[vR dc] [.int 0, .ref a19, .ref ob] _
    refine st38.trans ?_
    show SG X38 23 #[vR dc] [.ref x38_0, .ref ob] _
    refine st58.trans ?_
    show SG X58 26 #[vR dc] [.ref ob] _
    refine XS.pop X58.here hx rfl (H 10 rfl) rfl rfl ?_
    exact X58.returnOut hx Bd.returns (H 11 rfl) hr
  · show QNW0G Z dc ob dq bb kb bs el ke cs h0 n0 _ T58.heap _
    exact ⟨x2_0, x2_1, rfl, N58, K58, sz_x2_0, r58_2, r58_3, r58_1, r58_4⟩
  · show CHr Z consts_1 s.vm s.heap T58.vm T58.heap
    rw [hh]
    exact hC.trans (CHv.at X58 hZ (own_EW hw) hC.1)

theorem pn_25 : plainName "com/example/cartolog/cartolog/xml/XmlDocument" = true := by first | (simp [plainName, overriddenIn]; done) | decide +kernel
theorem ef_ST0G (m : MethodId) (dc sg at1 : Addr) : entryFrame m #[.ref dc, .ref sg, .ref at1] 4 = mkF m 0 #[.val (.ref dc), .val (.ref sg), .val (.ref at1), .unset] [] := by simp [entryFrame, mkF, argsToLocals, Value.category]
def QST0G (Z : State) (dc sg : Addr) (at1 ob : Addr) (dq bb : Addr) (kb : ClassId) (bs : List Int32) (el : Addr) (ke : ClassId) (cs : Int32) (ub : Addr) (ku : ClassId) (nc : Int32) (ka : ClassId) (h0 : Heap) (n0 : Nat) (v : Option Value) (h : Heap) (L : List Loc) : Prop := ∃ xb : Addr, ∃ xk : ClassId, v = some (.ref ob) ∧ Fr n0 L ∧ Keep h0 h [ob] ∧ h0.size ≤ xb ∧ Fld Z h ob sA "value" "[B" (.ref xb) ∧ Fld Z h ob sA "coder" "B" (.int 0) ∧ Fld Z h ob sA "count" "I" (.int (Int32.ofNat ((((bs ++ [own_c10]) ++ ([] : List Int32)) ++ [own_c60]) ++ [nc]).length)) ∧ Arv Z h xb xk .byte (78 : Int32) (own_iv ((((bs ++ [own_c10]) ++ ([] : List Int32)) ++ [own_c60]) ++ [nc])) (.int 0)
theorem rmST0G (l : Launch) (Z : State) (a0 : Array Value) (hw : HWd a0 Z) (ws : List Jvm.Cond) (dc sg : Addr) (at1 ob : Addr) (dq bb : Addr) (kb : ClassId) (bs : List Int32) (el : Addr) (ke : ClassId) (cs : Int32) (ub : Addr) (ku : ClassId) (nc : Int32) (ka : ClassId) (h0 : Heap) (n0 : Nat) (Z0 : n0 ≤ h0.size) (P0 : Exa Z h0 dc sX) (P1 : Fld Z h0 dc sX "xml" sLB (.ref ob)) (P2 : Fld Z h0 dc sX "open" sLD (.ref dq)) (P3 : Exa Z h0 ob sB) (P4 : Fld Z h0 ob sA "value" "[B" (.ref bb)) (P5 : Fld Z h0 ob sA "coder" "B" (.int 0)) (P6 : Fld Z h0 ob sA "count" "I" (.int (Int32.ofNat bs.length))) (P7 : Arv Z h0 bb kb .byte (38 : Int32) (own_iv bs) (.int 0)) (P8 : Exa Z h0 dq sD) (P9 : Fld Z h0 dq sD "elements" sLO (.ref el)) (P10 : Fld Z h0 dq sD "head" "I" (.int 0)) (P11 : Fld Z h0 dq sD "tail" "I" (.int 0)) (P12 : Arv Z h0 el ke (.object sO) (17 : Int32) [.null, .null, .null, .null, .null, .null, .null, .null, .null, .null, .null, .null, .null, .null, .null, .null, .null] .null) (P13 : Ovr Z ke sO) (P14 : Sta Z h0 sS sC "Z" (.int cs)) (P15 : Exa Z h0 sg sS) (P16 : Fld Z h0 sg sS "value" "[B" (.ref ub)) (P17 : Fld Z h0 sg sS "coder" "B" (.int 0)) (P18 : Arv Z h0 ub ku .byte (Int32.ofNat [nc].length) (own_iv [nc]) (.int 0)) (P19 : Arv Z h0 at1 ka (.object sS) (0 : Int32) [] .null) (hcs : ¬ cs = (0 : Int32)) (hl : bs.length = 38) (g_ob : n0 ≤ ob) :
    own_MetW l Y_54 (Jvm.Cond.code Y_54 prog_33_method_10_code 4 (some (.object "java/lang/StringBuilder")) :: ws) (RM 7 5 91 100) #[.ref dc, .ref sg, .ref at1] Z h0 (QST0G Z dc sg at1 ob dq bb kb bs el ke cs ub ku nc ka h0 n0) := by
  refine own_bSW pn_25 rfl D_25 (fun m => ef_ST0G m dc sg at1) hw fun p e s m below meth c sZ Bd hx hby hml hown hnm hh hZ X0 e0 w H pre0 hC0 hC hS hk => ?_
  have N0 := Fr.nil n0
  have K0 := Keep.refl h0 [ob]
  have hN := own_len40 hl
  have ch1 : Goes p e below sZ (entryFrame m #[.ref dc, .ref sg, .ref at1] 4) sZ (mkF m 1 #[vR dc, vR sg, vR at1, vU] [.ref dc]) := fun t kt => pre0 t (by
    show SG X0 0 #[vR dc, vR sg, vR at1, vU] [] _
    refine XS.aloadN X0.here hx rfl (H 0 rfl) rfl rfl ?_
    exact kt)
  obtain ⟨cq2, q2, q2'⟩ := P0.cell
  obtain ⟨_, T2, lo2, Lc2, h2, kk2, X2, e2, hS, hk, hZ, hown, N2, hQ2, hCn, st2⟩ := own_afW (QNW0G Z dc ob dq bb kb bs el ke cs h0 n0) 0 5 0 91 5 91 (X0.privateBackS hx (y := Y_52) hown (mvT hZ (w 156 rfl)) (mvT hZ (w 157 rfl)) (own_selp (z := Y_55) (mvT hZ (w 150 rfl)) rfl (mvT hZ (w 157 rfl)) (Cond.privateMethod_at (mvP hZ (w 158 rfl) (args := #[]))) (by decide)) (Cond.privateMethod_at (mvP hZ (w 158 rfl) (args := #[]))) (mvT hZ (w 159 rfl)) (by decide) (backOfSH (W := 0) (rmNW0G l Z a0 hw [] dc ob dq bb kb bs el ke cs h0 n0 Z0 P0 P1 P2 P3 P4 P5 P6 P7 P8 P9 P10 P11 P12 P13 P14 hcs hl g_ob) hZ (w 159 rfl) (w 2 rfl) (by decide) (by decide) (own_EW hw) hC.1) (g := (mkF m 1 #[vR dc, vR sg, vR at1, vU] [.ref dc])) rfl (by rw [hml]; rfl) (Steps.refl _) (a := dc) (by rw [e0]; exact q2) q2' (argsL := []) (rest := []) (lenOf pd_4 rfl) rfl (lq rfl) (H 1 rfl) (fun _ _ => ⟨rfl, e0, (by decide : 0 + 5 ≤ _), (by decide : 0 + 91 ≤ _)⟩)) hS e0 hk hZ hown N0 (by rintro _ _ _ ⟨_, _, -, N, -⟩; exact N) rfl rfl
  dsimp only at st2
  obtain ⟨x2_0, x2_1, rfl, N2q, r2_0, r2_1, r2_2, r2_3, r2_4, r2_5⟩ := hQ2
  have hC := hC.trans hCn
  have g_x2_0 : n0 ≤ x2_0 := Nat.le_trans Z0 r2_1
  have sz_x2_0 : h0.size ≤ x2_0 := Nat.le_trans K0.1 r2_1
  have f3 := own_sta P14 r2_0 (nsS P3.nostat ns0)
  have ne5 : dc ≠ ob := Exa.ne P0 P3 (by decide)
  have f6 := P1.keep r2_0 (ninS ne5 nin0)
  have f8 := P3.keep r2_0
  have ne19 : sg ≠ ob := Exa.ne P15 P3 (by decide)
  have ne22 : ub ≠ ob := Ne.symm (Exa.neArv P3 P18 (w 36 rfl))
  have ne24 : at1 ≠ ob := Ne.symm (Exa.neArv P3 P19 (w 36 rfl))
  have K2 := K0.trans r2_0 (allS (own_m 0 rfl) all0)
  have Z2 : n0 ≤ h2.size := Nat.le_trans Z0 r2_0.1
  obtain ⟨T26, X26, e26, st26⟩ := getF X2 hx hZ hown (host := "") (Or.inl (w 53 rfl)) Via.refl e2 f6 (g := (mkF m 5 #[vR dc, vR sg, vR at1, vU] [.ref dc])) rfl rfl (H 3 rfl)
  obtain ⟨cq27, kq27, q27a, q27b, q27c⟩ := isOf hZ e26 f8
  obtain ⟨_, T27, lo27, Lc27, X27, N27, hQ27, st27⟩ := own_af (QCB Z ob (60 : Int32) x2_0 x2_1 ((bs ++ [own_c10]) ++ ([] : List Int32)) cs h2 n0) 5 0 91 0 5 91 (X26.virtualBack hx (y := Y_23) (z := Y_23) hown (mvT hZ (w 160 rfl)) (mvT hZ (w 161 rfl)) (own_ns hZ (w 163 rfl)) (mvT hZ (w 163 rfl)) (mvT hZ (w 162 rfl)) (by decide) (backOf (W := 0) (rmCB l Z a0 hw [] ob (60 : Int32) x2_0 x2_1 ((bs ++ [own_c10]) ++ ([] : List Int32)) cs h2 n0 Z2 f8 r2_2 r2_3 r2_4 r2_5 f3 hcs (by decide) (own_len (us := [own_c60]) (m := 0) (own_len (us := ([] : List Int32)) (m := 1) (own_len (us := [own_c10]) (m := 1) (Nat.le_trans (Nat.add_le_add_left (by decide : 2 ≤ 40) _) hN) (bl rfl)) (bl rfl)) (bl rfl)) g_ob g_x2_0) hZ (w 164 rfl) (w 37 rfl) (by decide) (by decide)) q27a q27c (g := (mkF m 10 #[vR dc, vR sg, vR at1, vU] [.int 60, .ref ob])) rfl (by rw [hml]; rfl) (Steps.refl _) (argsL := [.int 60]) (rest := []) (lenOf pd_21 rfl) rfl (lq rfl) (H 5 rfl) (fun _ _ => ⟨rfl, e26, (by decide : 5 + 0 ≤ _), (by decide : 91 + 0 ≤ _)⟩)) N2 (fun _ _ _ h => h.2.1) rfl rfl
  dsimp only at st27
  obtain ⟨rfl, N27q, r27_0, r27_1, r27_2, r27_3, r27_4⟩ := hQ27
  have hC := hC.trans (CHr.keep r27_0 (sfS (Safe.exa hZ.alike f8 (by decide) (by decide)) (sfS (own_safe hw hZ r2_5) sf0)) hC.1)
  have hk := Nat.le_trans hk r27_0.1
  have f28 := own_sta f3 r27_0 (nsS f8.nostat (nsS r2_5.nostat ns0))
  have ne30 : dc ≠ x2_0 := Nat.ne_of_lt (Nat.lt_of_lt_of_le P0.lt r2_1)
  have f33 := f8.keep r27_0
  have f43 := (P15.keep r2_0).keep r27_0
  have ne44 : sg ≠ x2_0 := Nat.ne_of_lt (Nat.lt_of_lt_of_le P15.lt r2_1)
  have f45 := (P16.keep r2_0 (ninS ne19 nin0)).keep r27_0 (ninS ne19 (ninS ne44 nin0))
  have f46 := (P17.keep r2_0 (ninS ne19 nin0)).keep r27_0 (ninS ne19 (ninS ne44 nin0))
  have ne47 : ub ≠ x2_0 := Nat.ne_of_lt (Nat.lt_of_lt_of_le P18.lt r2_1)
  have f48 := (P18.keep r2_0 (ninS ne22 nin0)).keep r27_0 (ninS ne22 (ninS ne47 nin0))
  have ne49 : at1 ≠ x2_0 := Nat.ne_of_lt (Nat.lt_of_lt_of_le P19.lt r2_1)
  have K27 := K2.trans r27_0 (allS (own_m 0 rfl) (allS (Or.inr sz_x2_0) all0))
  have Z27 : n0 ≤ T27.heap.size := Nat.le_trans Z2 r27_0.1
  obtain ⟨cq51, kq51, q51a, q51b, q51c⟩ := isOf hZ rfl f33
  obtain ⟨_, T51, lo51, Lc51, X51, N51, hQ51, st51⟩ := own_af (QPB Z ob sg x2_0 x2_1 (((bs ++ [own_c10]) ++ ([] : List Int32)) ++ [own_c60]) ub ku [nc] cs T27.heap n0) 5 0 91 0 5 91 (X27.virtualBack hx (y := Y_20) (z := Y_20) hown (mvT hZ (w 77 rfl)) (mvT hZ (w 78 rfl)) (own_ns hZ (w 80 rfl)) (mvT hZ (w 80 rfl)) (mvT hZ (w 79 rfl)) (by decide) (backOf (W := 0) (rmPB l Z a0 hw [] ob sg x2_0 x2_1 (((bs ++ [own_c10]) ++ ([] : List Int32)) ++ [own_c60]) ub ku [nc] cs T27.heap n0 Z27 f33 r27_2 r27_3 r27_1 r27_4 f43 f45 f46 f48 f28 hcs (own_len (us := [nc]) (m := 0) (own_len (us := [own_c60]) (m := 1) (own_len (us := ([] : List Int32)) (m := 2) (own_len (us := [own_c10]) (m := 2) (Nat.le_trans (Nat.add_le_add_left (by decide : 3 ≤ 40) _) hN) (bl rfl)) (bl rfl)) (bl rfl)) (bl rfl)) (bl rfl : [nc].length + 1 ≤ 78) g_ob g_x2_0) hZ (w 81 rfl) (w 37 rfl) (by decide) (by decide)) q51a q51c (g := (mkF m 14 #[vR dc, vR sg, vR at1, vU] [.ref sg, .ref ob])) rfl (by rw [hml]; rfl) (Steps.refl _) (argsL := [.ref sg]) (rest := []) (lenOf pd_7 rfl) rfl (lq rfl) (H 7 rfl) (fun _ _ => ⟨rfl, rfl, (by decide : 5 + 0 ≤ _), (by decide : 91 + 0 ≤ _)⟩)) N27 (fun _ _ _ h => h.2.1) rfl rfl
  dsimp only at st51
  obtain ⟨rfl, N51q, r51_0, r51_1, r51_2, r51_3, r51_4⟩ := hQ51
  have hC := hC.trans (CHr.keep r51_0 (sfS (Safe.exa hZ.alike f33 (by decide) (by decide)) (sfS (own_safe hw hZ r27_4) sf0)) hC.1)
  have hk := Nat.le_trans hk r51_0.1
  have f54 := (f6.keep r27_0 (ninS ne5 (ninS ne30 nin0))).keep r51_0 (ninS ne5 (ninS ne30 nin0))
  have f67 := ((P19.keep r2_0 (ninS ne24 nin0)).keep r27_0 (ninS ne24 (ninS ne49 nin0))).keep r51_0 (ninS ne24 (ninS ne49 nin0))
  have K51 := K27.trans r51_0 (allS (own_m 0 rfl) (allS (Or.inr sz_x2_0) all0))
  obtain ⟨T68, X68, e68, st68⟩ := getF X51 hx hZ hown (host := "") (Or.inl (w 53 rfl)) Via.refl rfl f54 (g := (mkF m 76 #[vR dc, vR sg, vR at1, vI 0] [.ref dc])) rfl rfl (H 18 rfl)
  obtain ⟨fs, hr, hrun, hended, hW⟩ := X68.leaveW (v := some (.ref ob)) hS (by rw [e68]; exact hk) (fun h => by rw [Bd.returns] at h; cases h)
  refine ⟨_, _, ch1 _ ?_, hrun, hended, _, _, rfl, ?_, ?_, ⟨hW.1, hW.2.1, hW.2.2.1, hW.2.2.2.mono (by decide) (by decide)⟩⟩
  · show SG X0 1 #[vR dc, vR sg, vR at1, vU] [.ref dc] _
    refine st2.trans ?_
    show SG X2 4 #[vR dc, vR sg, vR at1, vU] [] _
    refine XS.aloadN X2.here hx rfl (H 2 rfl) rfl rfl ?_
    refine st26 _ ?_
    show SG X26 8 #[vR dc, vR sg, vR at1, vU] [.ref ob] _
    refine XS.bipush X26.here hx rfl (H 4 rfl) ?_
    refine st27.trans ?_
    show SG X27 13 #[vR dc, vR sg, vR at1, vU] [.ref ob] _
    refine XS.aloadN X27.here hx rfl (H 6 rfl) rfl rfl ?_
    refine st51.trans ?_
    show SG X51 17 #[vR dc, vR sg, vR at1, vU] [.ref ob] _
    refine XS.pop X51.here hx rfl (H 8 rfl) rfl rfl ?_
    refine XS.iconst X51.here hx rfl (H 9 rfl) ?_
    refine XS.istoreN X51.here hx rfl (H 10 rfl) rfl (l' := #[vR dc, vR sg, vR at1, vI 0]) rfl ?_
    refine XS.iloadN X51.here hx rfl (H 11 rfl) rfl ?_
    refine XS.iconst X51.here hx rfl (H 12 rfl) ?_
    refine XS.iadd X51.here hx rfl (H 13 rfl) rfl ?_
    show SG X51 23 #[vR dc, vR sg, vR at1, vI 0] [.int 1] _
    refine XS.aloadN X51.here hx rfl (H 14 rfl) rfl rfl ?_
    refine own_alen X51 hx hZ rfl f67 (H 15 rfl) ?_
    refine XS.icmpYes X51.here hx rfl (pc0 := 25) (pc' := 75) rfl (H 16 rfl) rfl (flt (by decide : ¬ ((1 : Int32) < (0 : Int32)))).2.1 (by decide) (by decide) ?_
    refine XS.aloadN X51.here hx rfl (H 17 rfl) rfl rfl ?_
    refine st68 _ ?_
    show SG X68 79 #[vR dc, vR sg, vR at1, vI 0] [.ref ob] _
    jvm_step X68.here [X68.here.top, hx, (H 19 rfl), X68.method', Bd.returns, Value.isRef, FieldType.isReference]
    first | (intro acts; rw [hr _ acts rfl rfl rfl]) | rw [hr _ _ rfl rfl rfl]
    exact Steps.refl _
  · show QST0G Z dc sg at1 ob dq bb kb bs el ke cs ub ku nc ka h0 n0 _ T68.heap _
    rw [e68]
    exact ⟨x2_0, x2_1, rfl, N51, K51, sz_x2_0, r51_2, r51_3, r51_1, r51_4⟩
  · show CHr Z consts_1 s.vm s.heap T68.vm T68.heap
    rw [hh, e68]
    exact hC.trans (CHv.at X68 hZ (own_EW hw) hC.1)

theorem pn_24 : plainName "com/example/cartolog/cartolog/xml/XmlDocument" = true := by first | (simp [plainName, overriddenIn]; done) | decide +kernel
theorem ef_SR0G (m : MethodId) (dc sg at1 : Addr) : entryFrame m #[.ref dc, .ref sg, .ref at1] 3 = mkF m 0 #[.val (.ref dc), .val (.ref sg), .val (.ref at1)] [] := by simp [entryFrame, mkF, argsToLocals, Value.category]
theorem pd_20 : parseMethodDescriptor "(Ljava/lang/String;[Ljava/lang/String;)Ljava/lang/StringBuilder;" = some ⟨[(.object "java/lang/String"), (.array (.object "java/lang/String"))], some (.object "java/lang/StringBuilder")⟩ := by decide +kernel
def QSR0G (Z : State) (dc sg : Addr) (at1 ob : Addr) (dq bb : Addr) (kb : ClassId) (bs : List Int32) (el : Addr) (ke : ClassId) (cs : Int32) (ub : Addr) (ku : ClassId) (nc : Int32) (ka : ClassId) (h0 : Heap) (n0 : Nat) (v : Option Value) (h : Heap) (L : List Loc) : Prop := ∃ xb : Addr, ∃ xk : ClassId, v = some (.ref dc) ∧ Fr n0 L ∧ Keep h0 h [ob, dq, el] ∧ h0.size ≤ xb ∧ Fld Z h ob sA "value" "[B" (.ref xb) ∧ Fld Z h ob sA "coder" "B" (.int 0) ∧ Fld Z h ob sA "count" "I" (.int (Int32.ofNat (((((bs ++ [own_c10]) ++ ([] : List Int32)) ++ [own_c60]) ++ [nc]) ++ [own_c62]).length)) ∧ Arv Z h xb xk .byte (78 : Int32) (own_iv (((((bs ++ [own_c10]) ++ ([] : List Int32)) ++ [own_c60]) ++ [nc]) ++ [own_c62])) (.int 0) ∧ Fld Z h dq sD "elements" sLO (.ref el) ∧ Fld Z h dq sD "head" "I" (.int 16) ∧ Fld Z h dq sD "tail" "I" (.int 0) ∧ Arv Z h el ke (.object sO) (17 : Int32) [.null, .null, .null, .null, .null, .null, .null, .null, .null, .null, .null, .null, .null, .null, .null, .null, .ref sg] .null
theorem rmSR0G (l : Launch) (Z : State) (a0 : Array Value) (hw : HWd a0 Z) (ws : List Jvm.Cond) (dc sg : Addr) (at1 ob : Addr) (dq bb : Addr) (kb : ClassId) (bs : List Int32) (el : Addr) (ke : ClassId) (cs : Int32) (ub : Addr) (ku : ClassId) (nc : Int32) (ka : ClassId) (h0 : Heap) (n0 : Nat) (Z0 : n0 ≤ h0.size) (P0 : Exa Z h0 dc sX) (P1 : Fld Z h0 dc sX "xml" sLB (.ref ob)) (P2 : Fld Z h0 dc sX "open" sLD (.ref dq)) (P3 : Exa Z h0 ob sB) (P4 : Fld Z h0 ob sA "value" "[B" (.ref bb)) (P5 : Fld Z h0 ob sA "coder" "B" (.int 0)) (P6 : Fld Z h0 ob sA "count" "I" (.int (Int32.ofNat bs.length))) (P7 : Arv Z h0 bb kb .byte (38 : Int32) (own_iv bs) (.int 0)) (P8 : Exa Z h0 dq sD) (P9 : Fld Z h0 dq sD "elements" sLO (.ref el)) (P10 : Fld Z h0 dq sD "head" "I" (.int 0)) (P11 : Fld Z h0 dq sD "tail" "I" (.int 0)) (P12 : Arv Z h0 el ke (.object sO) (17 : Int32) [.null, .null, .null, .null, .null, .null, .null, .null, .null, .null, .null, .null, .null, .null, .null, .null, .null] .null) (P13 : Ovr Z ke sO) (P14 : Sta Z h0 sS sC "Z" (.int cs)) (P15 : Exa Z h0 sg sS) (P16 : Fld Z h0 sg sS "value" "[B" (.ref ub)) (P17 : Fld Z h0 sg sS "coder" "B" (.int 0)) (P18 : Arv Z h0 ub ku .byte (Int32.ofNat [nc].length) (own_iv [nc]) (.int 0)) (P19 : Arv Z h0 at1 ka (.object sS) (0 : Int32) [] .null) (hcs : ¬ cs = (0 : Int32)) (hl : bs.length = 38) (g_ob : n0 ≤ ob) (g_dq : n0 ≤ dq) (g_el : n0 ≤ el) :
    own_MetW l Y_55 (Jvm.Cond.code Y_55 prog_33_method_2_code 3 (some (.object "com/example/cartolog/cartolog/xml/XmlDocument")) :: ws) (RM 8 5 91 115) #[.ref dc, .ref sg, .ref at1] Z h0 (QSR0G Z dc sg at1 ob dq bb kb bs el ke cs ub ku nc ka h0 n0) := by
  refine own_bSW pn_24 rfl D_24 (fun m => ef_SR0G m dc sg at1) hw fun p e s m below meth c sZ Bd hx hby hml hown hnm hh hZ X0 e0 w H pre0 hC0 hC hS hk => ?_
  have N0 := Fr.nil n0
  have K0 := Keep.refl h0 [ob, dq, el]
  have hN := own_len40 hl
  have ch1 : Goes p e below sZ (entryFrame m #[.ref dc, .ref sg, .ref at1] 3) sZ (mkF m 3 #[vR dc, vR sg, vR at1] [.ref at1, .ref sg, .ref dc]) := fun t kt => pre0 t (by
    show SG X0 0 #[vR dc, vR sg, vR at1] [] _
    refine XS.aloadN X0.here hx rfl (H 0 rfl) rfl rfl ?_
    refine XS.aloadN X0.here hx rfl (H 1 rfl) rfl rfl ?_
    refine XS.aloadN X0.here hx rfl (H 2 rfl) rfl rfl ?_
    exact kt)
  obtain ⟨cq2, q2, q2'⟩ := P0.cell
  obtain ⟨_, T2, lo2, Lc2, h2, kk2, X2, e2, hS, hk, hZ, hown, N2, hQ2, hCn, st2⟩ := own_afW (QST0G Z dc sg at1 ob dq bb kb bs el ke cs ub ku nc ka h0 n0) 0 5 0 91 5 91 (X0.privateBackS hx (y := Y_54) hown (mvT hZ (w 152 rfl)) (mvT hZ (w 153 rfl)) (own_selp (z := Y_55) (mvT hZ (w 150 rfl)) rfl (mvT hZ (w 153 rfl)) (Cond.privateMethod_at (mvP hZ (w 154 rfl) (args := #[]))) (by decide)) (Cond.privateMethod_at (mvP hZ (w 154 rfl) (args := #[]))) (mvT hZ (w 155 rfl)) (by decide) (backOfSH (W := 0) (rmST0G l Z a0 hw [] dc sg at1 ob dq bb kb bs el ke cs ub ku nc ka h0 n0 Z0 P0 P1 P2 P3 P4 P5 P6 P7 P8 P9 P10 P11 P12 P13 P14 P15 P16 P17 P18 P19 hcs hl g_ob) hZ (w 155 rfl) (w 2 rfl) (by decide) (by decide) (own_EW hw) hC.1) (g := (mkF m 3 #[vR dc, vR sg, vR at1] [.ref at1, .ref sg, .ref dc])) rfl (by rw [hml]; rfl) (Steps.refl _) (a := dc) (by rw [e0]; exact q2) q2' (argsL := [.ref sg, .ref at1]) (rest := []) (lenOf pd_20 rfl) rfl (lq rfl) (H 3 rfl) (fun _ _ => ⟨rfl, e0, (by decide : 0 + 5 ≤ _), (by decide : 0 + 91 ≤ _)⟩)) hS e0 hk hZ hown N0 (by rintro _ _ _ ⟨_, _, -, N, -⟩; exact N) rfl rfl
  dsimp only at st2
  obtain ⟨x2_0, x2_1, rfl, N2q, r2_0, r2_1, r2_2, r2_3, r2_4, r2_5⟩ := hQ2
  have hC := hC.trans hCn
  have g_x2_0 : n0 ≤ x2_0 := Nat.le_trans Z0 r2_1
  have sz_x2_0 : h0.size ≤ x2_0 := Nat.le_trans K0.1 r2_1
  have f3 := own_sta P14 r2_0 (nsS P3.nostat ns0)
  have ne5 : dc ≠ ob := Exa.ne P0 P3 (by decide)
  have f8 := P3.keep r2_0
  have ne12 : dq ≠ ob := Exa.ne P8 P3 (by decide)
  have ne16 : el ≠ ob := Ne.symm (Exa.neArv P3 P12 (w 36 rfl))
  have K2 := K0.trans r2_0 (allS (own_m 0 rfl) all0)
  have Z2 : n0 ≤ h2.size := Nat.le_trans Z0 r2_0.1
  obtain ⟨cq26, kq26, q26a, q26b, q26c⟩ := isOf hZ e2 f8
  obtain ⟨_, T26, lo26, Lc26, X26, N26, hQ26, st26⟩ := own_af (QCB Z ob (62 : Int32) x2_0 x2_1 ((((bs ++ [own_c10]) ++ ([] : List Int32)) ++ [own_c60]) ++ [nc]) cs h2 n0) 5 0 91 0 5 91 (X2.virtualBack hx (y := Y_23) (z := Y_23) hown (mvT hZ (w 160 rfl)) (mvT hZ (w 161 rfl)) (own_ns hZ (w 163 rfl)) (mvT hZ (w 163 rfl)) (mvT hZ (w 162 rfl)) (by decide) (backOf (W := 0) (rmCB l Z a0 hw [] ob (62 : Int32) x2_0 x2_1 ((((bs ++ [own_c10]) ++ ([] : List Int32)) ++ [own_c60]) ++ [nc]) cs h2 n0 Z2 f8 r2_2 r2_3 r2_4 r2_5 f3 hcs (by decide) (own_len (us := [own_c62]) (m := 0) (own_len (us := [nc]) (m := 1) (own_len (us := [own_c60]) (m := 2) (own_len (us := ([] : List Int32)) (m := 3) (own_len (us := [own_c10]) (m := 3) (Nat.le_trans (Nat.add_le_add_left (by decide : 4 ≤ 40) _) hN) (bl rfl)) (bl rfl)) (bl rfl)) (bl rfl)) (bl rfl)) g_ob g_x2_0) hZ (w 164 rfl) (w 37 rfl) (by decide) (by decide)) q26a q26c (g := (mkF m 8 #[vR dc, vR sg, vR at1] [.int 62, .ref ob])) rfl (by rw [hml]; rfl) (Steps.refl _) (argsL := [.int 62]) (rest := []) (lenOf pd_21 rfl) rfl (lq rfl) (H 5 rfl) (fun _ _ => ⟨rfl, e2, (by decide : 5 + 0 ≤ _), (by decide : 91 + 0 ≤ _)⟩)) N2 (fun _ _ _ h => h.2.1) rfl rfl
  dsimp only at st26
  obtain ⟨rfl, N26q, r26_0, r26_1, r26_2, r26_3, r26_4⟩ := hQ26
  have hC := hC.trans (CHr.keep r26_0 (sfS (Safe.exa hZ.alike f8 (by decide) (by decide)) (sfS (own_safe hw hZ r2_5) sf0)) hC.1)
  have hk := Nat.le_trans hk r26_0.1
  have ne29 : dc ≠ x2_0 := Nat.ne_of_lt (Nat.lt_of_lt_of_le P0.lt r2_1)
  have f31 := (P2.keep r2_0 (ninS ne5 nin0)).keep r26_0 (ninS ne5 (ninS ne29 nin0))
  have f35 := (P8.keep r2_0).keep r26_0
  have ne36 : dq ≠ x2_0 := Nat.ne_of_lt (Nat.lt_of_lt_of_le P8.lt r2_1)
  have f37 := (P9.keep r2_0 (ninS ne12 nin0)).keep r26_0 (ninS ne12 (ninS ne36 nin0))
  have f38 := (P10.keep r2_0 (ninS ne12 nin0)).keep r26_0 (ninS ne12 (ninS ne36 nin0))
  have f39 := (P11.keep r2_0 (ninS ne12 nin0)).keep r26_0 (ninS ne12 (ninS ne36 nin0))
  have ne40 : el ≠ x2_0 := Nat.ne_of_lt (Nat.lt_of_lt_of_le P12.lt r2_1)
  have f41 := (P12.keep r2_0 (ninS ne16 nin0)).keep r26_0 (ninS ne16 (ninS ne40 nin0))
  have f42 := (P15.keep r2_0).keep r26_0
  have K26 := K2.trans r26_0 (allS (own_m 0 rfl) (allS (Or.inr sz_x2_0) all0))
  have Z26 : n0 ≤ T26.heap.size := Nat.le_trans Z2 r26_0.1
  obtain ⟨T50, X50, e50, st50⟩ := getF X26 hx hZ hown (host := "") (Or.inl (w 72 rfl)) Via.refl rfl f31 (g := (mkF m 13 #[vR dc, vR sg, vR at1] [.ref dc])) rfl rfl (H 8 rfl)
  obtain ⟨cq51, kq51, q51a, q51b, q51c⟩ := isOf hZ e50 f35
  obtain ⟨_, T51, lo51, Lc51, X51, N51, hQ51, st51⟩ := own_af (QPU0 Z dq sg el ke T26.heap n0) 5 0 91 0 5 91 (X50.interfaceBack hx (xi := Y_56) (y := Y_28) hown (mvT hZ (w 198 rfl)) (mvT hZ (w 199 rfl)) (mvT hZ (w 200 rfl)) (mvT hZ (w 201 rfl)) (mvT hZ (w 202 rfl)) (mvT hZ (w 203 rfl)) (mvT hZ (w 204 rfl)) (mvT hZ (w 183 rfl)) (by decide) (backOf (W := 0) (rmPU0 l Z a0 hw [] dq sg el ke T26.heap n0 Z26 f35 f37 f38 f39 f41 P13 f42 g_dq g_el) hZ (w 205 rfl) (w 57 rfl) (by decide) (by decide)) q51a q51b q51c (g := (mkF m 17 #[vR dc, vR sg, vR at1] [.ref sg, .ref dq])) rfl (by rw [hml]; rfl) (Steps.refl _) (argsL := [.ref sg]) (rest := []) (lenOf pd_25 rfl) rfl (lq rfl) (H 10 rfl) (fun _ _ => ⟨rfl, e50, (by decide : 5 + 0 ≤ _), (by decide : 91 + 0 ≤ _)⟩)) N26 (fun _ _ _ h => h.2.1) rfl rfl
  dsimp only at st51
  obtain ⟨rfl, N51q, r51_0, r51_1, r51_2, r51_3, r51_4⟩ := hQ51
  have hC := hC.trans (CHr.keep r51_0 (sfS (Safe.exa hZ.alike f35 (by decide) (by decide)) (sfS (Safe.arv hZ.alike f41 (by decide)) sf0)) hC.1)
  have hk := Nat.le_trans hk r51_0.1
  have f74 := r26_1.keep r51_0 (ninS (Ne.symm ne12) (ninS (Ne.symm ne16) nin0))
  have f75 := r26_2.keep r51_0 (ninS (Ne.symm ne12) (ninS (Ne.symm ne16) nin0))
  have f76 := r26_3.keep r51_0 (ninS (Ne.symm ne12) (ninS (Ne.symm ne16) nin0))
  have f77 := r26_4.keep r51_0 (ninS (Ne.symm ne36) (ninS (Ne.symm ne40) nin0))
  have K51 := K26.trans r51_0 (allS (own_m 1 rfl) (allS (own_m 2 rfl) all0))
  obtain ⟨fs, hr, hrun, hended, hW⟩ := X51.leaveW (v := some (.ref dc)) hS hk (fun h => by rw [Bd.returns] at h; cases h)
  refine ⟨_, _, ch1 _ ?_, hrun, hended, _, _, rfl, ?_, ?_, ⟨hW.1, hW.2.1, hW.2.2.1, hW.2.2.2.mono (by decide) (by decide)⟩⟩
  · show SG X0 3 #[vR dc, vR sg, vR at1] [.ref at1, .ref sg, .ref dc] _
    refine st2.trans ?_
    show SG X2 6 #[vR dc, vR sg, vR at1] [.ref ob] _
    refine XS.bipush X2.here hx rfl (H 4 rfl) ?_
    refine st26.trans ?_
    show SG X26 11 #[vR dc, vR sg, vR at1] [.ref ob] _
    refine XS.pop X26.here hx rfl (H 6 rfl) rfl rfl ?_
    refine XS.aloadN X26.here hx rfl (H 7 rfl) rfl rfl ?_
    refine st50 _ ?_
    show SG X50 16 #[vR dc, vR sg, vR at1] [.ref dq] _
    refine XS.aloadN X50.here hx rfl (H 9 rfl) rfl rfl ?_
    refine st51.trans ?_
    show SG X51 22 #[vR dc, vR sg, vR at1] [] _
    refine XS.aloadN X51.here hx rfl (H 11 rfl) rfl rfl ?_
    jvm_step X51.here [X51.here.top, hx, (H 12 rfl), X51.method', Bd.returns, Value.isRef, FieldType.isReference]
    first | (intro acts; rw [hr _ acts rfl rfl rfl]) | rw [hr _ _ rfl rfl rfl]
    exact Steps.refl _
  · show QSR0G Z dc sg at1 ob dq bb kb bs el ke cs ub ku nc ka h0 n0 _ T51.heap _
    exact ⟨x2_0, x2_1, rfl, N51, K51, sz_x2_0, f75, f76, f74, f77, r51_1, r51_2, r51_3, r51_4⟩
  · show CHr Z consts_1 s.vm s.heap T51.vm T51.heap
    rw [hh]
    exact hC.trans (CHv.at X51 hZ (own_EW hw) hC.1)

theorem ef_NW0 (m : MethodId) (dc : Addr) : entryFrame m #[.ref dc] 1 = mkF m 0 #[.val (.ref dc)] [] := by simp [entryFrame, mkF, argsToLocals, Value.category]
def QNW0 (Z : State) (dc ob : Addr) (dq bb : Addr) (kb : ClassId) (bs : List Int32) (el : Addr) (ke : ClassId) (cs : Int32) (h0 : Heap) (n0 : Nat) (v : Option Value) (h : Heap) (L : List Loc) : Prop := v = none ∧ Fr n0 L ∧ Keep h0 h [ob, bb] ∧ Fld Z h ob sA "value" "[B" (.ref bb) ∧ Fld Z h ob sA "coder" "B" (.int 0) ∧ Fld Z h ob sA "count" "I" (.int (Int32.ofNat ((bs ++ [own_c10]) ++ ([] : List Int32)).length)) ∧ Arv Z h bb kb .byte (78 : Int32) (own_iv ((bs ++ [own_c10]) ++ ([] : List Int32))) (.int 0)
theorem rmNW0 (l : Launch) (Z : State) (a0 : Array Value) (hw : HWd a0 Z) (ws : List Jvm.Cond) (dc ob : Addr) (dq bb : Addr) (kb : ClassId) (bs : List Int32) (el : Addr) (ke : ClassId) (cs : Int32) (h0 : Heap) (n0 : Nat) (Z0 : n0 ≤ h0.size) (P0 : Exa Z h0 dc sX) (P1 : Fld Z h0 dc sX "xml" sLB (.ref ob)) (P2 : Fld Z h0 dc sX "open" sLD (.ref dq)) (P3 : Exa Z h0 ob sB) (P4 : Fld Z h0 ob sA "value" "[B" (.ref bb)) (P5 : Fld Z h0 ob sA "coder" "B" (.int 0)) (P6 : Fld Z h0 ob sA "count" "I" (.int (Int32.ofNat bs.length))) (P7 : Arv Z h0 bb kb .byte (78 : Int32) (own_iv bs) (.int 0)) (P8 : Exa Z h0 dq sD) (P9 : Fld Z h0 dq sD "elements" sLO (.ref el)) (P10 : Fld Z h0 dq sD "head" "I" (.int 0)) (P11 : Fld Z h0 dq sD "tail" "I" (.int 0)) (P12 : Arv Z h0 el ke (.object sO) (17 : Int32) [.null, .null, .null, .null, .null, .null, .null, .null, .null, .null, .null, .null, .null, .null, .null, .null, .null] .null) (P13 : Ovr Z ke sO) (P14 : Sta Z h0 sS sC "Z" (.int cs)) (hcs : ¬ cs = (0 : Int32)) (hN : bs.length + 1 ≤ 78) (g_ob : n0 ≤ ob) (g_bb : n0 ≤ bb) :
    own_MetW l Y_52 (Jvm.Cond.code Y_52 prog_33_method_13_code 1 none :: ws) (RM 5 4 13 88) #[.ref dc] Z h0 (QNW0 Z dc ob dq bb kb bs el ke cs h0 n0) := by
  refine own_bSW pn_26 rfl D_26 (fun m => ef_NW0 m dc) hw fun p e s m below meth c sZ Bd hx hby hml hown hnm hh hZ X0 e0 w H pre0 hC0 hC hS hk => ?_
  have N0 := Fr.nil n0
  have K0 := Keep.refl h0 [ob, bb]
  obtain ⟨T1, X1, e1, st1⟩ := getF X0 hx hZ hown (host := "") (Or.inl (w 53 rfl)) Via.refl e0 P1 (g := (mkF m 1 #[vR dc] [.ref dc])) rfl rfl (H 1 rfl)
  obtain ⟨cq2, kq2, q2a, q2b, q2c⟩ := isOf hZ e1 P3
  obtain ⟨_, T2, lo2, Lc2, X2, N2, hQ2, st2⟩ := own_af (QCB Z ob (10 : Int32) bb kb bs cs h0 n0) 0 0 0 0 0 0 (X1.virtualBack hx (y := Y_23) (z := Y_23) hown (mvT hZ (w 160 rfl)) (mvT hZ (w 161 rfl)) (own_ns hZ (w 163 rfl)) (mvT hZ (w 163 rfl)) (mvT hZ (w 162 rfl)) (by decide) (backOf (W := 0) (rmCB l Z a0 hw [] ob (10 : Int32) bb kb bs cs h0 n0 Z0 P3 P4 P5 P6 P7 P14 hcs (by decide) (own_len (us := [own_c10]) (m := 0) hN (bl rfl)) g_ob g_bb) hZ (w 164 rfl) (w 37 rfl) (by decide) (by decide)) q2a q2c (g := (mkF m 6 #[vR dc] [.int 10, .ref ob])) rfl (by rw [hml]; rfl) (Steps.refl _) (argsL := [.int 10]) (rest := []) (lenOf pd_21 rfl) rfl (lq rfl) (H 3 rfl) (fun _ _ => ⟨rfl, e1, (by decide : 0 + 0 ≤ _), (by decide : 0 + 0 ≤ _)⟩)) N0 (fun _ _ _ h => h.2.1) rfl rfl
  dsimp only at st2
  obtain ⟨rfl, N2q, r2_0, r2_1, r2_2, r2_3, r2_4⟩ := hQ2
  have hC := hC.trans (CHr.keep r2_0 (sfS (Safe.exa hZ.alike P3 (by decide) (by decide)) (sfS (own_safe hw hZ P7) sf0)) hC.1)
  have hk := Nat.le_trans hk r2_0.1
  have ne5 : dc ≠ bb := Exa.neArv P0 P7 (w 1 rfl)
  have ne6 : dc ≠ ob := Exa.ne P0 P3 (by decide)
  have ne11 : dq ≠ bb := Exa.neArv P8 P7 (w 56 rfl)
  have ne12 : dq ≠ ob := Exa.ne P8 P3 (by decide)
  have ne16 : el ≠ bb := own_tyne P12 P7 (by decide)
  have ne17 : el ≠ ob := Ne.symm (Exa.neArv P3 P12 (w 36 rfl))
  have K2 := K0.trans r2_0 (allS (own_m 0 rfl) (allS (own_m 1 rfl) all0))
  have Z2 : n0 ≤ T2.heap.size := Nat.le_trans Z0 r2_0.1
  have ch19 : Goes p e below sZ (entryFrame m #[.ref dc] 1) T2 (mkF m 9 #[vR dc] [.ref ob]) := fun t kt => pre0 t (by
    show SG X0 0 #[vR dc] [] _
    refine XS.aloadN X0.here hx rfl (H 0 rfl) rfl rfl ?_
    refine st1 _ ?_
    show SG X1 4 #[vR dc] [.ref ob] _
    refine XS.bipush X1.here hx rfl (H 2 rfl) ?_
    refine st2.trans ?_
    show SG X2 9 #[vR dc] [.ref ob] _
    exact kt)
  obtain ⟨a20, T20, h20, kk20, b20, kc20, X20, e20, E20, hS, hk, hZ, hown, A20, B20, C20, V20, -, -, hCn, -, -, st20⟩ := ldcCH X2 hx hZ hown (w 175 rfl) (own_wS hw) rfl hS hk (own_EW hw) (List.mem_of_getElem? (i := 2) rfl) hC.1 (vs := own_iv [(9 : Int32)]) (z := Int32.ofNat [(9 : Int32)].length) own_lit2 (by decide) (by decide) (g := (mkF m 9 #[vR dc] [.ref ob])) rfl (H 4 rfl) (n := 4) (by decide) (by decide) (by decide) (by decide)
  have hC := hC.trans hCn
  have f23 := (P2.keep r2_0 (ninS ne6 (ninS ne5 nin0))).ext E20
  have f25 := (P8.keep r2_0).ext E20
  have f26 := (P9.keep r2_0 (ninS ne12 (ninS ne11 nin0))).ext E20
  have f27 := (P10.keep r2_0 (ninS ne12 (ninS ne11 nin0))).ext E20
  have f28 := (P11.keep r2_0 (ninS ne12 (ninS ne11 nin0))).ext E20
  have f29 := (P12.keep r2_0 (ninS ne17 (ninS ne16 nin0))).ext E20
  have f30 := (own_sta P14 r2_0 (nsS P3.nostat (nsS P7.nostat ns0))).ext E20
  have K20 := K2.ext E20
  have Z20 : n0 ≤ h20.size := Nat.le_trans Z2 E20.1
  obtain ⟨T35, X35, e35, st35⟩ := getF X20 hx hZ hown (host := "") (Or.inl (w 72 rfl)) Via.refl e20 f23 (g := (mkF m 12 #[vR dc] [.ref dc, .ref a20, .ref ob])) rfl rfl (H 6 rfl)
  obtain ⟨cq36, kq36, q36a, q36b, q36c⟩ := isOf hZ e35 f25
  obtain ⟨_, T36, lo36, Lc36, X36, N36, hQ36, st36⟩ := own_af (QSZ0 Z dq el ke h20 n0) 2 0 8 0 2 8 (X35.interfaceBack hx (xi := Y_53) (y := Y_25) hown (mvT hZ (w 176 rfl)) (mvT hZ (w 177 rfl)) (mvT hZ (w 178 rfl)) (mvT hZ (w 179 rfl)) (mvT hZ (w 180 rfl)) (mvT hZ (w 181 rfl)) (mvT hZ (w 182 rfl)) (mvT hZ (w 183 rfl)) (by decide) (backOf (W := 2) (rmSZ0 l Z a0 hw [] dq el ke h20 n0 Z20 f25 f26 f27 f28 f29 P13) hZ (w 184 rfl) (w 57 rfl) (by decide) (by decide)) q36a q36b q36c (g := (mkF m 15 #[vR dc] [.ref dq, .ref a20, .ref ob])) rfl (by rw [hml]; rfl) (Steps.refl _) (argsL := []) (rest := [.ref a20, .ref ob]) (lenOf pd_9 rfl) rfl (lq rfl) (H 7 rfl) (fun _ _ => ⟨rfl, e35, (by decide : 2 + 0 ≤ _), (by decide : 8 + 0 ≤ _)⟩)) N2 (fun _ _ _ h => h.2.1) rfl rfl
  dsimp only at st36
  obtain ⟨rfl, N36q, r36_0⟩ := hQ36
  have ch37 : Goes p e below sZ (entryFrame m #[.ref dc] 1) T36 (mkF m 20 #[vR dc] [.int 0, .ref a20, .ref ob]) := fun t kt => ch19 t (by
    show SG X2 9 #[vR dc] [.ref ob] _
    refine st20 _ ?_
    show SG X20 11 #[vR dc] [.ref a20, .ref ob] _
    refine XS.aloadN X20.here hx rfl (H 5 rfl) rfl rfl ?_
    refine st35 _ ?_
    show SG X35 15 #[vR dc] [.ref dq, .ref a20, .ref ob] _
    refine st36.trans ?_
    show SG X36 20 #[vR dc] [.int 0, .ref a20, .ref ob] _
    exact kt)
  obtain ⟨cq38, kq38, q38a, q38b, q38c⟩ := isOf hZ r36_0 A20
  obtain ⟨_, T38, lo38, Lc38, h38, kk38, X38, e38, hS, hk, hZ, hown, N38, hQ38, hCn, st38⟩ := own_afW (QRP0 Z a20 b20 kc20 h20 n0) 2 2 8 5 4 13 (X36.virtualBackS hx (y := Y_35) (z := Y_35) hown (mvT hZ (w 192 rfl)) (mvT hZ (w 193 rfl)) (own_ns hZ (w 195 rfl)) (mvT hZ (w 195 rfl)) (mvT hZ (w 194 rfl)) (by decide) (backOfSH (W := 1) (rmRP0 l Z a0 hw [] a20 b20 kc20 h20 n0 Z20 A20 C20 B20 V20) hZ (w 196 rfl) (w 5 rfl) (by decide) (by decide) (own_EW hw) hC.1) q38a q38c (g := (mkF m 20 #[vR dc] [.int 0, .ref a20, .ref ob])) rfl (by rw [hml]; rfl) (Steps.refl _) (argsL := [.int 0]) (rest := [.ref ob]) (lenOf pd_24 rfl) rfl (lq rfl) (H 8 rfl) (fun _ _ => ⟨rfl, r36_0, (by decide : 2 + 2 ≤ _), (by decide : 8 + 5 ≤ _)⟩)) hS r36_0 hk hZ hown N36 (by rintro _ _ _ ⟨_, _, _, -, N, -⟩; exact N) rfl rfl
  dsimp only at st38
  obtain ⟨x38_0, x38_1, x38_2, rfl, N38q, r38_0, r38_1, r38_2, r38_3, r38_4⟩ := hQ38
  have hC := hC.trans hCn
  have f39 := own_sta f30 r38_0 ns0
  have f43 := ((P3.keep r2_0).ext E20).keep r38_0
  have f49 := (r2_1.ext E20).keep r38_0 nin0
  have f50 := (r2_2.ext E20).keep r38_0 nin0
  have f51 := (r2_3.ext E20).keep r38_0 nin0
  have f52 := (r2_4.ext E20).keep r38_0 nin0
  have K38 := K20.trans r38_0 all0
  have Z38 : n0 ≤ h38.size := Nat.le_trans Z20 r38_0.1
  obtain ⟨cq57, kq57, q57a, q57b, q57c⟩ := isOf hZ e38 f43
  obtain ⟨_, T57, lo57, Lc57, X57, N57, hQ57, st57⟩ := own_af (QPB Z ob x38_0 bb kb (bs ++ [own_c10]) x38_1 x38_2 ([] : List Int32) cs h38 n0) 4 0 13 0 4 13 (X38.virtualBack hx (y := Y_20) (z := Y_20) hown (mvT hZ (w 77 rfl)) (mvT hZ (w 78 rfl)) (own_ns hZ (w 80 rfl)) (mvT hZ (w 80 rfl)) (mvT hZ (w 79 rfl)) (by decide) (backOf (W := 0) (rmPB l Z a0 hw [] ob x38_0 bb kb (bs ++ [own_c10]) x38_1 x38_2 ([] : List Int32) cs h38 n0 Z38 f43 f50 f51 f49 f52 r38_1 r38_2 r38_3 r38_4 f39 hcs (own_len (us := ([] : List Int32)) (m := 0) (own_len (us := [own_c10]) (m := 0) hN (bl rfl)) (bl rfl)) (bl rfl : ([] : List Int32).length + 1 ≤ 78) g_ob g_bb) hZ (w 81 rfl) (w 37 rfl) (by decide) (by decide)) q57a q57c (g := (mkF m 23 #[vR dc] [.ref x38_0, .ref ob])) rfl (by rw [hml]; rfl) (Steps.refl _) (argsL := [.ref x38_0]) (rest := []) (lenOf pd_7 rfl) rfl (lq rfl) (H 9 rfl) (fun _ _ => ⟨rfl, e38, (by decide : 4 + 0 ≤ _), (by decide : 13 + 0 ≤ _)⟩)) N38 (fun _ _ _ h => h.2.1) rfl rfl
  dsimp only at st57
  obtain ⟨rfl, N57q, r57_0, r57_1, r57_2, r57_3, r57_4⟩ := hQ57
  have hC := hC.trans (CHr.keep r57_0 (sfS (Safe.exa hZ.alike f43 (by decide) (by decide)) (sfS (own_safe hw hZ f52) sf0)) hC.1)
  have hk := Nat.le_trans hk r57_0.1
  have K57 := K38.trans r57_0 (allS (own_m 0 rfl) (allS (own_m 1 rfl) all0))
  obtain ⟨fs, hr, hrun, hended, hW⟩ := X57.leaveW (v := none) hS hk (fun _ => rfl)
  refine ⟨_, _, ch37 _ ?_, hrun, hended, _, _, rfl, ?_, ?_, ⟨hW.1, hW.2.1, hW.2.2.1, hW.2.2.2.mono (by decide) (by decide)⟩⟩
  · show SG X36 20 #[vR dc] [.int 0, .ref a20, .ref ob] _
    refine st38.trans ?_
    show SG X38 23 #[vR dc] [.ref x38_0, .ref ob] _
    refine st57.trans ?_
    show SG X57 26 #[vR dc] [.ref ob] _
    refine XS.pop X57.here hx rfl (H 10 rfl) rfl rfl ?_
    exact X57.returnOut hx Bd.returns (H 11 rfl) hr
  · show QNW0 Z dc ob dq bb kb bs el ke cs h0 n0 _ T57.heap _
    exact ⟨rfl, N57, K57, r57_2, r57_3, r57_1, r57_4⟩
  · show CHr Z consts_1 s.vm s.heap T57.vm T57.heap
    rw [hh]
    exact hC.trans (CHv.at X57 hZ (own_EW hw) hC.1)

theorem ef_NW1 (m : MethodId) (dc : Addr) : entryFrame m #[.ref dc] 1 = mkF m 0 #[.val (.ref dc)] [] := by simp [entryFrame, mkF, argsToLocals, Value.category]
def QNW1 (Z : State) (dc ob : Addr) (dq bb : Addr) (kb : ClassId) (bs : List Int32) (el : Addr) (ke : ClassId) (y1 : Addr) (cs : Int32) (h0 : Heap) (n0 : Nat) (v : Option Value) (h : Heap) (L : List Loc) : Prop := v = none ∧ Fr n0 L ∧ Keep h0 h [ob, bb] ∧ Fld Z h ob sA "value" "[B" (.ref bb) ∧ Fld Z h ob sA "coder" "B" (.int 0) ∧ Fld Z h ob sA "count" "I" (.int (Int32.ofNat ((bs ++ [own_c10]) ++ [(9 : Int32)]).length)) ∧ Arv Z h bb kb .byte (78 : Int32) (own_iv ((bs ++ [own_c10]) ++ [(9 : Int32)])) (.int 0)
theorem rmNW1 (l : Launch) (Z : State) (a0 : Array Value) (hw : HWd a0 Z) (ws : List Jvm.Cond) (dc ob : Addr) (dq bb : Addr) (kb : ClassId) (bs : List Int32) (el : Addr) (ke : ClassId) (y1 : Addr) (cs : Int32) (h0 : Heap) (n0 : Nat) (Z0 : n0 ≤ h0.size) (P0 : Exa Z h0 dc sX) (P1 : Fld Z h0 dc sX "xml" sLB (.ref ob)) (P2 : Fld Z h0 dc sX "open" sLD (.ref dq)) (P3 : Exa Z h0 ob sB) (P4 : Fld Z h0 ob sA "value" "[B" (.ref bb)) (P5 : Fld Z h0 ob sA "coder" "B" (.int 0)) (P6 : Fld Z h0 ob sA "count" "I" (.int (Int32.ofNat bs.length))) (P7 : Arv Z h0 bb kb .byte (78 : Int32) (own_iv bs) (.int 0)) (P8 : Exa Z h0 dq sD) (P9 : Fld Z h0 dq sD "elements" sLO (.ref el)) (P10 : Fld Z h0 dq sD "head" "I" (.int 16)) (P11 : Fld Z h0 dq sD "tail" "I" (.int 0)) (P12 : Arv Z h0 el ke (.object sO) (17 : Int32) [.null, .null, .null, .null, .null, .null, .null, .null, .null, .null, .null, .null, .null, .null, .null, .null, .ref y1] .null) (P13 : Ovr Z ke sO) (P14 : Sta Z h0 sS sC "Z" (.int cs)) (hcs : ¬ cs = (0 : Int32)) (hN : bs.length + 2 ≤ 78) (g_ob : n0 ≤ ob) (g_bb : n0 ≤ bb) :
    own_MetW l Y_52 (Jvm.Cond.code Y_52 prog_33_method_13_code 1 none :: ws) (RM 5 2 8 88) #[.ref dc] Z h0 (QNW1 Z dc ob dq bb kb bs el ke y1 cs h0 n0) := by
  refine own_bSW pn_26 rfl D_26 (fun m => ef_NW1 m dc) hw fun p e s m below meth c sZ Bd hx hby hml hown hnm hh hZ X0 e0 w H pre0 hC0 hC hS hk => ?_
  have N0 := Fr.nil n0
  have K0 := Keep.refl h0 [ob, bb]
  obtain ⟨T1, X1, e1, st1⟩ := getF X0 hx hZ hown (host := "") (Or.inl (w 53 rfl)) Via.refl e0 P1 (g := (mkF m 1 #[vR dc] [.ref dc])) rfl rfl (H 1 rfl)
  obtain ⟨cq2, kq2, q2a, q2b, q2c⟩ := isOf hZ e1 P3
  obtain ⟨_, T2, lo2, Lc2, X2, N2, hQ2, st2⟩ := own_af (QCB Z ob (10 : Int32) bb kb bs cs h0 n0) 0 0 0 0 0 0 (X1.virtualBack hx (y := Y_23) (z := Y_23) hown (mvT hZ (w 160 rfl)) (mvT hZ (w 161 rfl)) (own_ns hZ (w 163 rfl)) (mvT hZ (w 163 rfl)) (mvT hZ (w 162 rfl)) (by decide) (backOf (W := 0) (rmCB l Z a0 hw [] ob (10 : Int32) bb kb bs cs h0 n0 Z0 P3 P4 P5 P6 P7 P14 hcs (by decide) (own_len (us := [own_c10]) (m := 0) (Nat.le_trans (Nat.add_le_add_left (by decide : 1 ≤ 2) _) hN) (bl rfl)) g_ob g_bb) hZ (w 164 rfl) (w 37 rfl) (by decide) (by decide)) q2a q2c (g := (mkF m 6 #[vR dc] [.int 10, .ref ob])) rfl (by rw [hml]; rfl) (Steps.refl _) (argsL := [.int 10]) (rest := []) (lenOf pd_21 rfl) rfl (lq rfl) (H 3 rfl) (fun _ _ => ⟨rfl, e1, (by decide : 0 + 0 ≤ _), (by decide : 0 + 0 ≤ _)⟩)) N0 (fun _ _ _ h => h.2.1) rfl rfl
  dsimp only at st2
  obtain ⟨rfl, N2q, r2_0, r2_1, r2_2, r2_3, r2_4⟩ := hQ2
  have hC := hC.trans (CHr.keep r2_0 (sfS (Safe.exa hZ.alike P3 (by decide) (by decide)) (sfS (own_safe hw hZ P7) sf0)) hC.1)
  have hk := Nat.le_trans hk r2_0.1
  have ne5 : dc ≠ bb := Exa.neArv P0 P7 (w 1 rfl)
  have ne6 : dc ≠ ob := Exa.ne P0 P3 (by decide)
  have ne11 : dq ≠ bb := Exa.neArv P8 P7 (w 56 rfl)
  have ne12 : dq ≠ ob := Exa.ne P8 P3 (by decide)
  have ne16 : el ≠ bb := own_tyne P12 P7 (by decide)
  have ne17 : el ≠ ob := Ne.symm (Exa.neArv P3 P12 (w 36 rfl))
  have K2 := K0.trans r2_0 (allS (own_m 0 rfl) (allS (own_m 1 rfl) all0))
  have Z2 : n0 ≤ T2.heap.size := Nat.le_trans Z0 r2_0.1
  have ch19 : Goes p e below sZ (entryFrame m #[.ref dc] 1) T2 (mkF m 9 #[vR dc] [.ref ob]) := fun t kt => pre0 t (by
    show SG X0 0 #[vR dc] [] _
    refine XS.aloadN X0.here hx rfl (H 0 rfl) rfl rfl ?_
    refine st1 _ ?_
    show SG X1 4 #[vR dc] [.ref ob] _
    refine XS.bipush X1.here hx rfl (H 2 rfl) ?_
    refine st2.trans ?_
    show SG X2 9 #[vR dc] [.ref ob] _
    exact kt)
  obtain ⟨a20, T20, h20, kk20, b20, kc20, X20, e20, E20, hS, hk, hZ, hown, A20, B20, C20, V20, -, -, hCn, -, -, st20⟩ := ldcCH X2 hx hZ hown (w 175 rfl) (own_wS hw) rfl hS hk (own_EW hw) (List.mem_of_getElem? (i := 2) rfl) hC.1 (vs := own_iv [(9 : Int32)]) (z := Int32.ofNat [(9 : Int32)].length) own_lit2 (by decide) (by decide) (g := (mkF m 9 #[vR dc] [.ref ob])) rfl (H 4 rfl) (n := 4) (by decide) (by decide) (by decide) (by decide)
  have hC := hC.trans hCn
  have f23 := (P2.keep r2_0 (ninS ne6 (ninS ne5 nin0))).ext E20
  have f24 := (P3.keep r2_0).ext E20
  have f25 := (P8.keep r2_0).ext E20
  have f26 := (P9.keep r2_0 (ninS ne12 (ninS ne11 nin0))).ext E20
  have f27 := (P10.keep r2_0 (ninS ne12 (ninS ne11 nin0))).ext E20
  have f28 := (P11.keep r2_0 (ninS ne12 (ninS ne11 nin0))).ext E20
  have f29 := (P12.keep r2_0 (ninS ne17 (ninS ne16 nin0))).ext E20
  have f30 := (own_sta P14 r2_0 (nsS P3.nostat (nsS P7.nostat ns0))).ext E20
  have f31 := r2_1.ext E20
  have f32 := r2_2.ext E20
  have f33 := r2_3.ext E20
  have f34 := r2_4.ext E20
  have K20 := K2.ext E20
  have Z20 : n0 ≤ h20.size := Nat.le_trans Z2 E20.1
  obtain ⟨T35, X35, e35, st35⟩ := getF X20 hx hZ hown (host := "") (Or.inl (w 72 rfl)) Via.refl e20 f23 (g := (mkF m 12 #[vR dc] [.ref dc, .ref a20, .ref ob])) rfl rfl (H 6 rfl)
  obtain ⟨cq36, kq36, q36a, q36b, q36c⟩ := isOf hZ e35 f25
  obtain ⟨_, T36, lo36, Lc36, X36, N36, hQ36, st36⟩ := own_af (QSZ1 Z dq el ke y1 h20 n0) 2 0 8 0 2 8 (X35.interfaceBack hx (xi := Y_53) (y := Y_25) hown (mvT hZ (w 176 rfl)) (mvT hZ (w 177 rfl)) (mvT hZ (w 178 rfl)) (mvT hZ (w 179 rfl)) (mvT hZ (w 180 rfl)) (mvT hZ (w 181 rfl)) (mvT hZ (w 182 rfl)) (mvT hZ (w 183 rfl)) (by decide) (backOf (W := 2) (rmSZ1 l Z a0 hw [] dq el ke y1 h20 n0 Z20 f25 f26 f27 f28 f29 P13) hZ (w 184 rfl) (w 57 rfl) (by decide) (by decide)) q36a q36b q36c (g := (mkF m 15 #[vR dc] [.ref dq, .ref a20, .ref ob])) rfl (by rw [hml]; rfl) (Steps.refl _) (argsL := []) (rest := [.ref a20, .ref ob]) (lenOf pd_9 rfl) rfl (lq rfl) (H 7 rfl) (fun _ _ => ⟨rfl, e35, (by decide : 2 + 0 ≤ _), (by decide : 8 + 0 ≤ _)⟩)) N2 (fun _ _ _ h => h.2.1) rfl rfl
  dsimp only at st36
  obtain ⟨rfl, N36q, r36_0⟩ := hQ36
  obtain ⟨cq37, kq37, q37a, q37b, q37c⟩ := isOf hZ r36_0 A20
  obtain ⟨_, T37, lo37, Lc37, X37, N37, hQ37, st37⟩ := own_af (QRP1 Z a20 h20 n0) 2 0 8 0 2 8 (X36.virtualBack hx (y := Y_35) (z := Y_35) hown (mvT hZ (w 192 rfl)) (mvT hZ (w 193 rfl)) (own_ns hZ (w 195 rfl)) (mvT hZ (w 195 rfl)) (mvT hZ (w 194 rfl)) (by decide) (backOf (W := 1) (rmRP1 l Z a0 hw [] a20 h20 n0 Z20) hZ (w 196 rfl) (w 5 rfl) (by decide) (by decide)) q37a q37c (g := (mkF m 20 #[vR dc] [.int 1, .ref a20, .ref ob])) rfl (by rw [hml]; rfl) (Steps.refl _) (argsL := [.int 1]) (rest := [.ref ob]) (lenOf pd_24 rfl) rfl (lq rfl) (H 8 rfl) (fun _ _ => ⟨rfl, r36_0, (by decide : 2 + 0 ≤ _), (by decide : 8 + 0 ≤ _)⟩)) N36 (fun _ _ _ h => h.2.1) rfl rfl
  dsimp only at st37
  obtain ⟨rfl, N37q, r37_0⟩ := hQ37
  obtain ⟨cq38, kq38, q38a, q38b, q38c⟩ := isOf hZ r37_0 f24
  obtain ⟨_, T38, lo38, Lc38, X38, N38, hQ38, st38⟩ := own_af (QPB Z ob a20 bb kb (bs ++ [own_c10]) b20 kc20 [(9 : Int32)] cs h20 n0) 2 0 8 0 2 8 (X37.virtualBack hx (y := Y_20) (z := Y_20) hown (mvT hZ (w 77 rfl)) (mvT hZ (w 78 rfl)) (own_ns hZ (w 80 rfl)) (mvT hZ (w 80 rfl)) (mvT hZ (w 79 rfl)) (by decide) (backOf (W := 0) (rmPB l Z a0 hw [] ob a20 bb kb (bs ++ [own_c10]) b20 kc20 [(9 : Int32)] cs h20 n0 Z20 f24 f32 f33 f31 f34 A20 C20 B20 V20 f30 hcs (own_len (us := [(9 : Int32)]) (m := 0) (own_len (us := [own_c10]) (m := 1) hN (bl rfl)) (bl rfl)) (bl rfl : [(9 : Int32)].length + 1 ≤ 78) g_ob g_bb) hZ (w 81 rfl) (w 37 rfl) (by decide) (by decide)) q38a q38c (g := (mkF m 23 #[vR dc] [.ref a20, .ref ob])) rfl (by rw [hml]; rfl) (Steps.refl _) (argsL := [.ref a20]) (rest := []) (lenOf pd_7 rfl) rfl (lq rfl) (H 9 rfl) (fun _ _ => ⟨rfl, r37_0, (by decide : 2 + 0 ≤ _), (by decide : 8 + 0 ≤ _)⟩)) N37 (fun _ _ _ h => h.2.1) rfl rfl
  dsimp only at st38
  obtain ⟨rfl, N38q, r38_0, r38_1, r38_2, r38_3, r38_4⟩ := hQ38
  have hC := hC.trans (CHr.keep r38_0 (sfS (Safe.exa hZ.alike f24 (by decide) (by decide)) (sfS (own_safe hw hZ f34) sf0)) hC.1)
  have hk := Nat.le_trans hk r38_0.1
  have K38 := K20.trans r38_0 (allS (own_m 0 rfl) (allS (own_m 1 rfl) all0))
  obtain ⟨fs, hr, hrun, hended, hW⟩ := X38.leaveW (v := none) hS hk (fun _ => rfl)
  refine ⟨_, _, ch19 _ ?_, hrun, hended, _, _, rfl, ?_, ?_, ⟨hW.1, hW.2.1, hW.2.2.1, hW.2.2.2.mono (by decide) (by decide)⟩⟩
  · show SG X2 9 #[vR dc] [.ref ob] _
    refine st20 _ ?_
    show SG X20 11 #[vR dc] [.ref a20, .ref ob] _
    refine XS.aloadN X20.here hx rfl (H 5 rfl) rfl rfl ?_
    refine st35 _ ?_
    show SG X35 15 #[vR dc] [.ref dq, .ref a20, .ref ob] _
    refine st36.trans ?_
    show SG X36 20 #[vR dc] [.int 1, .ref a20, .ref ob] _
    refine st37.trans ?_
    show SG X37 23 #[vR dc] [.ref a20, .ref ob] _
    refine st38.trans ?_
    show SG X38 26 #[vR dc] [.ref ob] _
    refine XS.pop X38.here hx rfl (H 10 rfl) rfl rfl ?_
    exact X38.returnOut hx Bd.returns (H 11 rfl) hr
  · show QNW1 Z dc ob dq bb kb bs el ke y1 cs h0 n0 _ T38.heap _
    exact ⟨rfl, N38, K38, r38_2, r38_3, r38_1, r38_4⟩
  · show CHr Z consts_1 s.vm s.heap T38.vm T38.heap
    rw [hh]
    exact hC.trans (CHv.at X38 hZ (own_EW hw) hC.1)

theorem ef_ST1 (m : MethodId) (dc sg at1 : Addr) : entryFrame m #[.ref dc, .ref sg, .ref at1] 4 = mkF m 0 #[.val (.ref dc), .val (.ref sg), .val (.ref at1), .unset] [] := by simp [entryFrame, mkF, argsToLocals, Value.category]
def QST1 (Z : State) (dc sg : Addr) (at1 ob : Addr) (dq bb : Addr) (kb : ClassId) (bs : List Int32) (el : Addr) (ke : ClassId) (y1 : Addr) (cs : Int32) (ub : Addr) (ku : ClassId) (nc : Int32) (ka : ClassId) (h0 : Heap) (n0 : Nat) (v : Option Value) (h : Heap) (L : List Loc) : Prop := v = some (.ref ob) ∧ Fr n0 L ∧ Keep h0 h [ob, bb] ∧ Fld Z h ob sA "value" "[B" (.ref bb) ∧ Fld Z h ob sA "coder" "B" (.int 0) ∧ Fld Z h ob sA "count" "I" (.int (Int32.ofNat ((((bs ++ [own_c10]) ++ [(9 : Int32)]) ++ [own_c60]) ++ [nc]).length)) ∧ Arv Z h bb kb .byte (78 : Int32) (own_iv ((((bs ++ [own_c10]) ++ [(9 : Int32)]) ++ [own_c60]) ++ [nc])) (.int 0)
theorem rmST1 (l : Launch) (Z : State) (a0 : Array Value) (hw : HWd a0 Z) (ws : List Jvm.Cond) (dc sg : Addr) (at1 ob : Addr) (dq bb : Addr) (kb : ClassId) (bs : List Int32) (el : Addr) (ke : ClassId) (y1 : Addr) (cs : Int32) (ub : Addr) (ku : ClassId) (nc : Int32) (ka : ClassId) (h0 : Heap) (n0 : Nat) (Z0 : n0 ≤ h0.size) (P0 : Exa Z h0 dc sX) (P1 : Fld Z h0 dc sX "xml" sLB (.ref ob)) (P2 : Fld Z h0 dc sX "open" sLD (.ref dq)) (P3 : Exa Z h0 ob sB) (P4 : Fld Z h0 ob sA "value" "[B" (.ref bb)) (P5 : Fld Z h0 ob sA "coder" "B" (.int 0)) (P6 : Fld Z h0 ob sA "count" "I" (.int (Int32.ofNat bs.length))) (P7 : Arv Z h0 bb kb .byte (78 : Int32) (own_iv bs) (.int 0)) (P8 : Exa Z h0 dq sD) (P9 : Fld Z h0 dq sD "elements" sLO (.ref el)) (P10 : Fld Z h0 dq sD "head" "I" (.int 16)) (P11 : Fld Z h0 dq sD "tail" "I" (.int 0)) (P12 : Arv Z h0 el ke (.object sO) (17 : Int32) [.null, .null, .null, .null, .null, .null, .null, .null, .null, .null, .null, .null, .null, .null, .null, .null, .ref y1] .null) (P13 : Ovr Z ke sO) (P14 : Sta Z h0 sS sC "Z" (.int cs)) (P15 : Exa Z h0 sg sS) (P16 : Fld Z h0 sg sS "value" "[B" (.ref ub)) (P17 : Fld Z h0 sg sS "coder" "B" (.int 0)) (P18 : Arv Z h0 ub ku .byte (Int32.ofNat [nc].length) (own_iv [nc]) (.int 0)) (P19 : Arv Z h0 at1 ka (.object sS) (0 : Int32) [] .null) (hcs : ¬ cs = (0 : Int32)) (hN : bs.length + 4 ≤ 78) (g_ob : n0 ≤ ob) (g_bb : n0 ≤ bb) :
    own_MetW l Y_54 (Jvm.Cond.code Y_54 prog_33_method_10_code 4 (some (.object "java/lang/StringBuilder")) :: ws) (RM 6 2 8 100) #[.ref dc, .ref sg, .ref at1] Z h0 (QST1 Z dc sg at1 ob dq bb kb bs el ke y1 cs ub ku nc ka h0 n0) := by
  refine own_bSW pn_25 rfl D_25 (fun m => ef_ST1 m dc sg at1) hw fun p e s m below meth c sZ Bd hx hby hml hown hnm hh hZ X0 e0 w H pre0 hC0 hC hS hk => ?_
  have N0 := Fr.nil n0
  have K0 := Keep.refl h0 [ob, bb]
  have ch1 : Goes p e below sZ (entryFrame m #[.ref dc, .ref sg, .ref at1] 4) sZ (mkF m 1 #[vR dc, vR sg, vR at1, vU] [.ref dc]) := fun t kt => pre0 t (by
    show SG X0 0 #[vR dc, vR sg, vR at1, vU] [] _
    refine XS.aloadN X0.here hx rfl (H 0 rfl) rfl rfl ?_
    exact kt)
  obtain ⟨cq2, q2, q2'⟩ := P0.cell
  obtain ⟨_, T2, lo2, Lc2, h2, kk2, X2, e2, hS, hk, hZ, hown, N2, hQ2, hCn, st2⟩ := own_afW (QNW1 Z dc ob dq bb kb bs el ke y1 cs h0 n0) 0 2 0 8 2 8 (X0.privateBackS hx (y := Y_52) hown (mvT hZ (w 156 rfl)) (mvT hZ (w 157 rfl)) (own_selp (z := Y_55) (mvT hZ (w 150 rfl)) rfl (mvT hZ (w 157 rfl)) (Cond.privateMethod_at (mvP hZ (w 158 rfl) (args := #[]))) (by decide)) (Cond.privateMethod_at (mvP hZ (w 158 rfl) (args := #[]))) (mvT hZ (w 159 rfl)) (by decide) (backOfSH (W := 0) (rmNW1 l Z a0 hw [] dc ob dq bb kb bs el ke y1 cs h0 n0 Z0 P0 P1 P2 P3 P4 P5 P6 P7 P8 P9 P10 P11 P12 P13 P14 hcs (Nat.le_trans (Nat.add_le_add_left (by decide : 2 ≤ 4) _) hN) g_ob g_bb) hZ (w 159 rfl) (w 2 rfl) (by decide) (by decide) (own_EW hw) hC.1) (g := (mkF m 1 #[vR dc, vR sg, vR at1, vU] [.ref dc])) rfl (by rw [hml]; rfl) (Steps.refl _) (a := dc) (by rw [e0]; exact q2) q2' (argsL := []) (rest := []) (lenOf pd_4 rfl) rfl (lq rfl) (H 1 rfl) (fun _ _ => ⟨rfl, e0, (by decide : 0 + 2 ≤ _), (by decide : 0 + 8 ≤ _)⟩)) hS e0 hk hZ hown N0 (fun _ _ _ h => h.2.1) rfl rfl
  dsimp only at st2
  obtain ⟨rfl, N2q, r2_0, r2_1, r2_2, r2_3, r2_4⟩ := hQ2
  have hC := hC.trans hCn
  have f3 := own_sta P14 r2_0 (nsS P3.nostat (nsS P7.nostat ns0))
  have ne5 : dc ≠ bb := Exa.neArv P0 P7 (w 1 rfl)
  have ne6 : dc ≠ ob := Exa.ne P0 P3 (by decide)
  have f7 := P1.keep r2_0 (ninS ne6 (ninS ne5 nin0))
  have f9 := P3.keep r2_0
  have ne20 : sg ≠ bb := Exa.neArv P15 P7 (w 13 rfl)
  have ne21 : sg ≠ ob := Exa.ne P15 P3 (by decide)
  have ne24 : ub ≠ bb := arv_ne P18 P7 (Or.inl (own_lne (bl rfl : [nc].length + 1 ≤ 78)))
  have ne25 : ub ≠ ob := Ne.symm (Exa.neArv P3 P18 (w 36 rfl))
  have ne27 : at1 ≠ bb := own_tyne P19 P7 (by decide)
  have ne28 : at1 ≠ ob := Ne.symm (Exa.neArv P3 P19 (w 36 rfl))
  have K2 := K0.trans r2_0 (allS (own_m 0 rfl) (allS (own_m 1 rfl) all0))
  have Z2 : n0 ≤ h2.size := Nat.le_trans Z0 r2_0.1
  obtain ⟨T30, X30, e30, st30⟩ := getF X2 hx hZ hown (host := "") (Or.inl (w 53 rfl)) Via.refl e2 f7 (g := (mkF m 5 #[vR dc, vR sg, vR at1, vU] [.ref dc])) rfl rfl (H 3 rfl)
  obtain ⟨cq31, kq31, q31a, q31b, q31c⟩ := isOf hZ e30 f9
  obtain ⟨_, T31, lo31, Lc31, X31, N31, hQ31, st31⟩ := own_af (QCB Z ob (60 : Int32) bb kb ((bs ++ [own_c10]) ++ [(9 : Int32)]) cs h2 n0) 2 0 8 0 2 8 (X30.virtualBack hx (y := Y_23) (z := Y_23) hown (mvT hZ (w 160 rfl)) (mvT hZ (w 161 rfl)) (own_ns hZ (w 163 rfl)) (mvT hZ (w 163 rfl)) (mvT hZ (w 162 rfl)) (by decide) (backOf (W := 0) (rmCB l Z a0 hw [] ob (60 : Int32) bb kb ((bs ++ [own_c10]) ++ [(9 : Int32)]) cs h2 n0 Z2 f9 r2_1 r2_2 r2_3 r2_4 f3 hcs (by decide) (own_len (us := [own_c60]) (m := 0) (own_len (us := [(9 : Int32)]) (m := 1) (own_len (us := [own_c10]) (m := 2) (Nat.le_trans (Nat.add_le_add_left (by decide : 3 ≤ 4) _) hN) (bl rfl)) (bl rfl)) (bl rfl)) g_ob g_bb) hZ (w 164 rfl) (w 37 rfl) (by decide) (by decide)) q31a q31c (g := (mkF m 10 #[vR dc, vR sg, vR at1, vU] [.int 60, .ref ob])) rfl (by rw [hml]; rfl) (Steps.refl _) (argsL := [.int 60]) (rest := []) (lenOf pd_21 rfl) rfl (lq rfl) (H 5 rfl) (fun _ _ => ⟨rfl, e30, (by decide : 2 + 0 ≤ _), (by decide : 8 + 0 ≤ _)⟩)) N2 (fun _ _ _ h => h.2.1) rfl rfl
  dsimp only at st31
  obtain ⟨rfl, N31q, r31_0, r31_1, r31_2, r31_3, r31_4⟩ := hQ31
  have hC := hC.trans (CHr.keep r31_0 (sfS (Safe.exa hZ.alike f9 (by decide) (by decide)) (sfS (own_safe hw hZ r2_4) sf0)) hC.1)
  have hk := Nat.le_trans hk r31_0.1
  have f32 := own_sta f3 r31_0 (nsS f9.nostat (nsS r2_4.nostat ns0))
  have f36 := f9.keep r31_0
  have f42 := (P15.keep r2_0).keep r31_0
  have f43 := (P16.keep r2_0 (ninS ne21 (ninS ne20 nin0))).keep r31_0 (ninS ne21 (ninS ne20 nin0))
  have f44 := (P17.keep r2_0 (ninS ne21 (ninS ne20 nin0))).keep r31_0 (ninS ne21 (ninS ne20 nin0))
  have f45 := (P18.keep r2_0 (ninS ne25 (ninS ne24 nin0))).keep r31_0 (ninS ne25 (ninS ne24 nin0))
  have K31 := K2.trans r31_0 (allS (own_m 0 rfl) (allS (own_m 1 rfl) all0))
  have Z31 : n0 ≤ T31.heap.size := Nat.le_trans Z2 r31_0.1
  obtain ⟨cq47, kq47, q47a, q47b, q47c⟩ := isOf hZ rfl f36
  obtain ⟨_, T47, lo47, Lc47, X47, N47, hQ47, st47⟩ := own_af (QPB Z ob sg bb kb (((bs ++ [own_c10]) ++ [(9 : Int32)]) ++ [own_c60]) ub ku [nc] cs T31.heap n0) 2 0 8 0 2 8 (X31.virtualBack hx (y := Y_20) (z := Y_20) hown (mvT hZ (w 77 rfl)) (mvT hZ (w 78 rfl)) (own_ns hZ (w 80 rfl)) (mvT hZ (w 80 rfl)) (mvT hZ (w 79 rfl)) (by decide) (backOf (W := 0) (rmPB l Z a0 hw [] ob sg bb kb (((bs ++ [own_c10]) ++ [(9 : Int32)]) ++ [own_c60]) ub ku [nc] cs T31.heap n0 Z31 f36 r31_2 r31_3 r31_1 r31_4 f42 f43 f44 f45 f32 hcs (own_len (us := [nc]) (m := 0) (own_len (us := [own_c60]) (m := 1) (own_len (us := [(9 : Int32)]) (m := 2) (own_len (us := [own_c10]) (m := 3) hN (bl rfl)) (bl rfl)) (bl rfl)) (bl rfl)) (bl rfl : [nc].length + 1 ≤ 78) g_ob g_bb) hZ (w 81 rfl) (w 37 rfl) (by decide) (by decide)) q47a q47c (g := (mkF m 14 #[vR dc, vR sg, vR at1, vU] [.ref sg, .ref ob])) rfl (by rw [hml]; rfl) (Steps.refl _) (argsL := [.ref sg]) (rest := []) (lenOf pd_7 rfl) rfl (lq rfl) (H 7 rfl) (fun _ _ => ⟨rfl, rfl, (by decide : 2 + 0 ≤ _), (by decide : 8 + 0 ≤ _)⟩)) N31 (fun _ _ _ h => h.2.1) rfl rfl
  dsimp only at st47
  obtain ⟨rfl, N47q, r47_0, r47_1, r47_2, r47_3, r47_4⟩ := hQ47
  have hC := hC.trans (CHr.keep r47_0 (sfS (Safe.exa hZ.alike f36 (by decide) (by decide)) (sfS (own_safe hw hZ r31_4) sf0)) hC.1)
  have hk := Nat.le_trans hk r47_0.1
  have f50 := (f7.keep r31_0 (ninS ne6 (ninS ne5 nin0))).keep r47_0 (ninS ne6 (ninS ne5 nin0))
  have f62 := ((P19.keep r2_0 (ninS ne28 (ninS ne27 nin0))).keep r31_0 (ninS ne28 (ninS ne27 nin0))).keep r47_0 (ninS ne28 (ninS ne27 nin0))
  have K47 := K31.trans r47_0 (allS (own_m 0 rfl) (allS (own_m 1 rfl) all0))
  obtain ⟨T63, X63, e63, st63⟩ := getF X47 hx hZ hown (host := "") (Or.inl (w 53 rfl)) Via.refl rfl f50 (g := (mkF m 76 #[vR dc, vR sg, vR at1, vI 0] [.ref dc])) rfl rfl (H 18 rfl)
  obtain ⟨fs, hr, hrun, hended, hW⟩ := X63.leaveW (v := some (.ref ob)) hS (by rw [e63]; exact hk) (fun h => by rw [Bd.returns] at h; cases h)
  refine ⟨_, _, ch1 _ ?_, hrun, hended, _, _, rfl, ?_, ?_, ⟨hW.1, hW.2.1, hW.2.2.1, hW.2.2.2.mono (by decide) (by decide)⟩⟩
  · show SG X0 1 #[vR dc, vR sg, vR at1, vU] [.ref dc] _
    refine st2.trans ?_
    show SG X2 4 #[vR dc, vR sg, vR at1, vU] [] _
    refine XS.aloadN X2.here hx rfl (H 2 rfl) rfl rfl ?_
    refine st30 _ ?_
    show SG X30 8 #[vR dc, vR sg, vR at1, vU] [.ref ob] _
    refine XS.bipush X30.here hx rfl (H 4 rfl) ?_
    refine st31.trans ?_
    show SG X31 13 #[vR dc, vR sg, vR at1, vU] [.ref ob] _
    refine XS.aloadN X31.here hx rfl (H 6 rfl) rfl rfl ?_
    refine st47.trans ?_
    show SG X47 17 #[vR dc, vR sg, vR at1, vU] [.ref ob] _
    refine XS.pop X47.here hx rfl (H 8 rfl) rfl rfl ?_
    refine XS.iconst X47.here hx rfl (H 9 rfl) ?_
    refine XS.istoreN X47.here hx rfl (H 10 rfl) rfl (l' := #[vR dc, vR sg, vR at1, vI 0]) rfl ?_
    refine XS.iloadN X47.here hx rfl (H 11 rfl) rfl ?_
    refine XS.iconst X47.here hx rfl (H 12 rfl) ?_
    refine XS.iadd X47.here hx rfl (H 13 rfl) rfl ?_
    show SG X47 23 #[vR dc, vR sg, vR at1, vI 0] [.int 1] _
    refine XS.aloadN X47.here hx rfl (H 14 rfl) rfl rfl ?_
    refine own_alen X47 hx hZ rfl f62 (H 15 rfl) ?_
    refine XS.icmpYes X47.here hx rfl (pc0 := 25) (pc' := 75) rfl (H 16 rfl) rfl (flt (by decide : ¬ ((1 : Int32) < (0 : Int32)))).2.1 (by decide) (by decide) ?_
    refine XS.aloadN X47.here hx rfl (H 17 rfl) rfl rfl ?_
    refine st63 _ ?_
    show SG X63 79 #[vR dc, vR sg, vR at1, vI 0] [.ref ob] _
    jvm_step X63.here [X63.here.top, hx, (H 19 rfl), X63.method', Bd.returns, Value.isRef, FieldType.isReference]
    first | (intro acts; rw [hr _ acts rfl rfl rfl]) | rw [hr _ _ rfl rfl rfl]
    exact Steps.refl _
  · show QST1 Z dc sg at1 ob dq bb kb bs el ke y1 cs ub ku nc ka h0 n0 _ T63.heap _
    rw [e63]
    exact ⟨rfl, N47, K47, r47_2, r47_3, r47_1, r47_4⟩
  · show CHr Z consts_1 s.vm s.heap T63.vm T63.heap
    rw [hh, e63]
    exact hC.trans (CHv.at X63 hZ (own_EW hw) hC.1)

theorem ef_SR1 (m : MethodId) (dc sg at1 : Addr) : entryFrame m #[.ref dc, .ref sg, .ref at1] 3 = mkF m 0 #[.val (.ref dc), .val (.ref sg), .val (.ref at1)] [] := by simp [entryFrame, mkF, argsToLocals, Value.category]
def QSR1 (Z : State) (dc sg : Addr) (at1 ob : Addr) (dq bb : Addr) (kb : ClassId) (bs : List Int32) (el : Addr) (ke : ClassId) (y1 : Addr) (cs : Int32) (ub : Addr) (ku : ClassId) (nc : Int32) (ka : ClassId) (h0 : Heap) (n0 : Nat) (v : Option Value) (h : Heap) (L : List Loc) : Prop := v = some (.ref dc) ∧ Fr n0 L ∧ Keep h0 h [ob, bb, dq, el] ∧ Fld Z h ob sA "value" "[B" (.ref bb) ∧ Fld Z h ob sA "coder" "B" (.int 0) ∧ Fld Z h ob sA "count" "I" (.int (Int32.ofNat (((((bs ++ [own_c10]) ++ [(9 : Int32)]) ++ [own_c60]) ++ [nc]) ++ [own_c62]).length)) ∧ Arv Z h bb kb .byte (78 : Int32) (own_iv (((((bs ++ [own_c10]) ++ [(9 : Int32)]) ++ [own_c60]) ++ [nc]) ++ [own_c62])) (.int 0) ∧ Fld Z h dq sD "elements" sLO (.ref el) ∧ Fld Z h dq sD "head" "I" (.int 15) ∧ Fld Z h dq sD "tail" "I" (.int 0) ∧ Arv Z h el ke (.object sO) (17 : Int32) [.null, .null, .null, .null, .null, .null, .null, .null, .null, .null, .null, .null, .null, .null, .null, .ref sg, .ref y1] .null
theorem rmSR1 (l : Launch) (Z : State) (a0 : Array Value) (hw : HWd a0 Z) (ws : List Jvm.Cond) (dc sg : Addr) (at1 ob : Addr) (dq bb : Addr) (kb : ClassId) (bs : List Int32) (el : Addr) (ke : ClassId) (y1 : Addr) (cs : Int32) (ub : Addr) (ku : ClassId) (nc : Int32) (ka : ClassId) (h0 : Heap) (n0 : Nat) (Z0 : n0 ≤ h0.size) (P0 : Exa Z h0 dc sX) (P1 : Fld Z h0 dc sX "xml" sLB (.ref ob)) (P2 : Fld Z h0 dc sX "open" sLD (.ref dq)) (P3 : Exa Z h0 ob sB) (P4 : Fld Z h0 ob sA "value" "[B" (.ref bb)) (P5 : Fld Z h0 ob sA "coder" "B" (.int 0)) (P6 : Fld Z h0 ob sA "count" "I" (.int (Int32.ofNat bs.length))) (P7 : Arv Z h0 bb kb .byte (78 : Int32) (own_iv bs) (.int 0)) (P8 : Exa Z h0 dq sD) (P9 : Fld Z h0 dq sD "elements" sLO (.ref el)) (P10 : Fld Z h0 dq sD "head" "I" (.int 16)) (P11 : Fld Z h0 dq sD "tail" "I" (.int 0)) (P12 : Arv Z h0 el ke (.object sO) (17 : Int32) [.null, .null, .null, .null, .null, .null, .null, .null, .null, .null, .null, .null, .null, .null, .null, .null, .ref y1] .null) (P13 : Ovr Z ke sO) (P14 : Sta Z h0 sS sC "Z" (.int cs)) (P15 : Exa Z h0 sg sS) (P16 : Fld Z h0 sg sS "value" "[B" (.ref ub)) (P17 : Fld Z h0 sg sS "coder" "B" (.int 0)) (P18 : Arv Z h0 ub ku .byte (Int32.ofNat [nc].length) (own_iv [nc]) (.int 0)) (P19 : Arv Z h0 at1 ka (.object sS) (0 : Int32) [] .null) (hcs : ¬ cs = (0 : Int32)) (hN : bs.length + 5 ≤ 78) (g_ob : n0 ≤ ob) (g_bb : n0 ≤ bb) (g_dq : n0 ≤ dq) (g_el : n0 ≤ el) :
    own_MetW l Y_55 (Jvm.Cond.code Y_55 prog_33_method_2_code 3 (some (.object "com/example/cartolog/cartolog/xml/XmlDocument")) :: ws) (RM 7 2 8 115) #[.ref dc, .ref sg, .ref at1] Z h0 (QSR1 Z dc sg at1 ob dq bb kb bs el ke y1 cs ub ku nc ka h0 n0) := by
  refine own_bSW pn_24 rfl D_24 (fun m => ef_SR1 m dc sg at1) hw fun p e s m below meth c sZ Bd hx hby hml hown hnm hh hZ X0 e0 w H pre0 hC0 hC hS hk => ?_
  have N0 := Fr.nil n0
  have K0 := Keep.refl h0 [ob, bb, dq, el]
  have ch1 : Goes p e below sZ (entryFrame m #[.ref dc, .ref sg, .ref at1] 3) sZ (mkF m 3 #[vR dc, vR sg, vR at1] [.ref at1, .ref sg, .ref dc]) := fun t kt => pre0 t (by
    show SG X0 0 #[vR dc, vR sg, vR at1] [] _
    refine XS.aloadN X0.here hx rfl (H 0 rfl) rfl rfl ?_
    refine XS.aloadN X0.here hx rfl (H 1 rfl) rfl rfl ?_
    refine XS.aloadN X0.here hx rfl (H 2 rfl) rfl rfl ?_
    exact kt)
  obtain ⟨cq2, q2, q2'⟩ := P0.cell
  obtain ⟨_, T2, lo2, Lc2, h2, kk2, X2, e2, hS, hk, hZ, hown, N2, hQ2, hCn, st2⟩ := own_afW (QST1 Z dc sg at1 ob dq bb kb bs el ke y1 cs ub ku nc ka h0 n0) 0 2 0 8 2 8 (X0.privateBackS hx (y := Y_54) hown (mvT hZ (w 152 rfl)) (mvT hZ (w 153 rfl)) (own_selp (z := Y_55) (mvT hZ (w 150 rfl)) rfl (mvT hZ (w 153 rfl)) (Cond.privateMethod_at (mvP hZ (w 154 rfl) (args := #[]))) (by decide)) (Cond.privateMethod_at (mvP hZ (w 154 rfl) (args := #[]))) (mvT hZ (w 155 rfl)) (by decide) (backOfSH (W := 0) (rmST1 l Z a0 hw [] dc sg at1 ob dq bb kb bs el ke y1 cs ub ku nc ka h0 n0 Z0 P0 P1 P2 P3 P4 P5 P6 P7 P8 P9 P10 P11 P12 P13 P14 P15 P16 P17 P18 P19 hcs (Nat.le_trans (Nat.add_le_add_left (by decide : 4 ≤ 5) _) hN) g_ob g_bb) hZ (w 155 rfl) (w 2 rfl) (by decide) (by decide) (own_EW hw) hC.1) (g := (mkF m 3 #[vR dc, vR sg, vR at1] [.ref at1, .ref sg, .ref dc])) rfl (by rw [hml]; rfl) (Steps.refl _) (a := dc) (by rw [e0]; exact q2) q2' (argsL := [.ref sg, .ref at1]) (rest := []) (lenOf pd_20 rfl) rfl (lq rfl) (H 3 rfl) (fun _ _ => ⟨rfl, e0, (by decide : 0 + 2 ≤ _), (by decide : 0 + 8 ≤ _)⟩)) hS e0 hk hZ hown N0 (fun _ _ _ h => h.2.1) rfl rfl
  dsimp only at st2
  obtain ⟨rfl, N2q, r2_0, r2_1, r2_2, r2_3, r2_4⟩ := hQ2
  have hC := hC.trans hCn
  have f3 := own_sta P14 r2_0 (nsS P3.nostat (nsS P7.nostat ns0))
  have ne5 : dc ≠ bb := Exa.neArv P0 P7 (w 1 rfl)
  have ne6 : dc ≠ ob := Exa.ne P0 P3 (by decide)
  have f9 := P3.keep r2_0
  have ne11 : dq ≠ bb := Exa.neArv P8 P7 (w 56 rfl)
  have ne12 : dq ≠ ob := Exa.ne P8 P3 (by decide)
  have ne16 : el ≠ bb := own_tyne P12 P7 (by decide)
  have ne17 : el ≠ ob := Ne.symm (Exa.neArv P3 P12 (w 36 rfl))
  have K2 := K0.trans r2_0 (allS (own_m 0 rfl) (allS (own_m 1 rfl) all0))
  have Z2 : n0 ≤ h2.size := Nat.le_trans Z0 r2_0.1
  obtain ⟨cq30, kq30, q30a, q30b, q30c⟩ := isOf hZ e2 f9
  obtain ⟨_, T30, lo30, Lc30, X30, N30, hQ30, st30⟩ := own_af (QCB Z ob (62 : Int32) bb kb ((((bs ++ [own_c10]) ++ [(9 : Int32)]) ++ [own_c60]) ++ [nc]) cs h2 n0) 2 0 8 0 2 8 (X2.virtualBack hx (y := Y_23) (z := Y_23) hown (mvT hZ (w 160 rfl)) (mvT hZ (w 161 rfl)) (own_ns hZ (w 163 rfl)) (mvT hZ (w 163 rfl)) (mvT hZ (w 162 rfl)) (by decide) (backOf (W := 0) (rmCB l Z a0 hw [] ob (62 : Int32) bb kb ((((bs ++ [own_c10]) ++ [(9 : Int32)]) ++ [own_c60]) ++ [nc]) cs h2 n0 Z2 f9 r2_1 r2_2 r2_3 r2_4 f3 hcs (by decide) (own_len (us := [own_c62]) (m := 0) (own_len (us := [nc]) (m := 1) (own_len (us := [own_c60]) (m := 2) (own_len (us := [(9 : Int32)]) (m := 3) (own_len (us := [own_c10]) (m := 4) hN (bl rfl)) (bl rfl)) (bl rfl)) (bl rfl)) (bl rfl)) g_ob g_bb) hZ (w 164 rfl) (w 37 rfl) (by decide) (by decide)) q30a q30c (g := (mkF m 8 #[vR dc, vR sg, vR at1] [.int 62, .ref ob])) rfl (by rw [hml]; rfl) (Steps.refl _) (argsL := [.int 62]) (rest := []) (lenOf pd_21 rfl) rfl (lq rfl) (H 5 rfl) (fun _ _ => ⟨rfl, e2, (by decide : 2 + 0 ≤ _), (by decide : 8 + 0 ≤ _)⟩)) N2 (fun _ _ _ h => h.2.1) rfl rfl
  dsimp only at st30
  obtain ⟨rfl, N30q, r30_0, r30_1, r30_2, r30_3, r30_4⟩ := hQ30
  have hC := hC.trans (CHr.keep r30_0 (sfS (Safe.exa hZ.alike f9 (by decide) (by decide)) (sfS (own_safe hw hZ r2_4) sf0)) hC.1)
  have hk := Nat.le_trans hk r30_0.1
  have f34 := (P2.keep r2_0 (ninS ne6 (ninS ne5 nin0))).keep r30_0 (ninS ne6 (ninS ne5 nin0))
  have f36 := (P8.keep r2_0).keep r30_0
  have f37 := (P9.keep r2_0 (ninS ne12 (ninS ne11 nin0))).keep r30_0 (ninS ne12 (ninS ne11 nin0))
  have f38 := (P10.keep r2_0 (ninS ne12 (ninS ne11 nin0))).keep r30_0 (ninS ne12 (ninS ne11 nin0))
  have f39 := (P11.keep r2_0 (ninS ne12 (ninS ne11 nin0))).keep r30_0 (ninS ne12 (ninS ne11 nin0))
  have f40 := (P12.keep r2_0 (ninS ne17 (ninS ne16 nin0))).keep r30_0 (ninS ne17 (ninS ne16 nin0))
  have f41 := (P15.keep r2_0).keep r30_0
  have K30 := K2.trans r30_0 (allS (own_m 0 rfl) (allS (own_m 1 rfl) all0))
  have Z30 : n0 ≤ T30.heap.size := Nat.le_trans Z2 r30_0.1
  obtain ⟨T46, X46, e46, st46⟩ := getF X30 hx hZ hown (host := "") (Or.inl (w 72 rfl)) Via.refl rfl f34 (g := (mkF m 13 #[vR dc, vR sg, vR at1] [.ref dc])) rfl rfl (H 8 rfl)
  obtain ⟨cq47, kq47, q47a, q47b, q47c⟩ := isOf hZ e46 f36
  obtain ⟨_, T47, lo47, Lc47, X47, N47, hQ47, st47⟩ := own_af (QPU1 Z dq sg el ke y1 T30.heap n0) 2 0 8 0 2 8 (X46.interfaceBack hx (xi := Y_56) (y := Y_28) hown (mvT hZ (w 198 rfl)) (mvT hZ (w 199 rfl)) (mvT hZ (w 200 rfl)) (mvT hZ (w 201 rfl)) (mvT hZ (w 202 rfl)) (mvT hZ (w 203 rfl)) (mvT hZ (w 204 rfl)) (mvT hZ (w 183 rfl)) (by decide) (backOf (W := 0) (rmPU1 l Z a0 hw [] dq sg el ke y1 T30.heap n0 Z30 f36 f37 f38 f39 f40 P13 f41 g_dq g_el) hZ (w 205 rfl) (w 57 rfl) (by decide) (by decide)) q47a q47b q47c (g := (mkF m 17 #[vR dc, vR sg, vR at1] [.ref sg, .ref dq])) rfl (by rw [hml]; rfl) (Steps.refl _) (argsL := [.ref sg]) (rest := []) (lenOf pd_25 rfl) rfl (lq rfl) (H 10 rfl) (fun _ _ => ⟨rfl, e46, (by decide : 2 + 0 ≤ _), (by decide : 8 + 0 ≤ _)⟩)) N30 (fun _ _ _ h => h.2.1) rfl rfl
  dsimp only at st47
  obtain ⟨rfl, N47q, r47_0, r47_1, r47_2, r47_3, r47_4⟩ := hQ47
  have hC := hC.trans (CHr.keep r47_0 (sfS (Safe.exa hZ.alike f36 (by decide) (by decide)) (sfS (Safe.arv hZ.alike f40 (by decide)) sf0)) hC.1)
  have hk := Nat.le_trans hk r47_0.1
  have f67 := r30_1.keep r47_0 (ninS (Ne.symm ne12) (ninS (Ne.symm ne17) nin0))
  have f68 := r30_2.keep r47_0 (ninS (Ne.symm ne12) (ninS (Ne.symm ne17) nin0))
  have f69 := r30_3.keep r47_0 (ninS (Ne.symm ne12) (ninS (Ne.symm ne17) nin0))
  have f70 := r30_4.keep r47_0 (ninS (Ne.symm ne11) (ninS (Ne.symm ne16) nin0))
  have K47 := K30.trans r47_0 (allS (own_m 2 rfl) (allS (own_m 3 rfl) all0))
  obtain ⟨fs, hr, hrun, hended, hW⟩ := X47.leaveW (v := some (.ref dc)) hS hk (fun h => by rw [Bd.returns] at h; cases h)
  refine ⟨_, _, ch1 _ ?_, hrun, hended, _, _, rfl, ?_, ?_, ⟨hW.1, hW.2.1, hW.2.2.1, hW.2.2.2.mono (by decide) (by decide)⟩⟩
  · show SG X0 3 #[vR dc, vR sg, vR at1] [.ref at1, .ref sg, .ref dc] _
    refine st2.trans ?_
    show SG X2 6 #[vR dc, vR sg, vR at1] [.ref ob] _
    refine XS.bipush X2.here hx rfl (H 4 rfl) ?_
    refine st30.trans ?_
    show SG X30 11 #[vR dc, vR sg, vR at1] [.ref ob] _
    refine XS.pop X30.here hx rfl (H 6 rfl) rfl rfl ?_
    refine XS.aloadN X30.here hx rfl (H 7 rfl) rfl rfl ?_
    refine st46 _ ?_
    show SG X46 16 #[vR dc, vR sg, vR at1] [.ref dq] _
    refine XS.aloadN X46.here hx rfl (H 9 rfl) rfl rfl ?_
    refine st47.trans ?_
    show SG X47 22 #[vR dc, vR sg, vR at1] [] _
    refine XS.aloadN X47.here hx rfl (H 11 rfl) rfl rfl ?_
    jvm_step X47.here [X47.here.top, hx, (H 12 rfl), X47.method', Bd.returns, Value.isRef, FieldType.isReference]
    first | (intro acts; rw [hr _ acts rfl rfl rfl]) | rw [hr _ _ rfl rfl rfl]
    exact Steps.refl _
  · show QSR1 Z dc sg at1 ob dq bb kb bs el ke y1 cs ub ku nc ka h0 n0 _ T47.heap _
    exact ⟨rfl, N47, K47, f68, f69, f67, f70, r47_1, r47_2, r47_3, r47_4⟩
  · show CHr Z consts_1 s.vm s.heap T47.vm T47.heap
    rw [hh]
    exact hC.trans (CHv.at X47 hZ (own_EW hw) hC.1)

theorem ef_NW2 (m : MethodId) (dc : Addr) : entryFrame m #[.ref dc] 1 = mkF m 0 #[.val (.ref dc)] [] := by simp [entryFrame, mkF, argsToLocals, Value.category]
def QNW2 (Z : State) (dc ob : Addr) (dq bb : Addr) (kb : ClassId) (bs : List Int32) (el : Addr) (ke : ClassId) (y1 y2 : Addr) (cs : Int32) (h0 : Heap) (n0 : Nat) (v : Option Value) (h : Heap) (L : List Loc) : Prop := v = none ∧ Fr n0 L ∧ Keep h0 h [ob, bb] ∧ Fld Z h ob sA "value" "[B" (.ref bb) ∧ Fld Z h ob sA "coder" "B" (.int 0) ∧ Fld Z h ob sA "count" "I" (.int (Int32.ofNat ((bs ++ [own_c10]) ++ [(9 : Int32), (9 : Int32)]).length)) ∧ Arv Z h bb kb .byte (78 : Int32) (own_iv ((bs ++ [own_c10]) ++ [(9 : Int32), (9 : Int32)])) (.int 0)
theorem rmNW2 (l : Launch) (Z : State) (a0 : Array Value) (hw : HWd a0 Z) (ws : List Jvm.Cond) (dc ob : Addr) (dq bb : Addr) (kb : ClassId) (bs : List Int32) (el : Addr) (ke : ClassId) (y1 y2 : Addr) (cs : Int32) (h0 : Heap) (n0 : Nat) (Z0 : n0 ≤ h0.size) (P0 : Exa Z h0 dc sX) (P1 : Fld Z h0 dc sX "xml" sLB (.ref ob)) (P2 : Fld Z h0 dc sX "open" sLD (.ref dq)) (P3 : Exa Z h0 ob sB) (P4 : Fld Z h0 ob sA "value" "[B" (.ref bb)) (P5 : Fld Z h0 ob sA "coder" "B" (.int 0)) (P6 : Fld Z h0 ob sA "count" "I" (.int (Int32.ofNat bs.length))) (P7 : Arv Z h0 bb kb .byte (78 : Int32) (own_iv bs) (.int 0)) (P8 : Exa Z h0 dq sD) (P9 : Fld Z h0 dq sD "elements" sLO (.ref el)) (P10 : Fld Z h0 dq sD "head" "I" (.int 15)) (P11 : Fld Z h0 dq sD "tail" "I" (.int 0)) (P12 : Arv Z h0 el ke (.object sO) (17 : Int32) [.null, .null, .null, .null, .null, .null, .null, .null, .null, .null, .null, .null, .null, .null, .null, .ref y2, .ref y1] .null) (P13 : Ovr Z ke sO) (P14 : Sta Z h0 sS sC "Z" (.int cs)) (hcs : ¬ cs = (0 : Int32)) (hN : bs.length + 3 ≤ 78) (g_ob : n0 ≤ ob) (g_bb : n0 ≤ bb) :
    own_MetW l Y_52 (Jvm.Cond.code Y_52 prog_33_method_13_code 1 none :: ws) (RM 5 4 14 88) #[.ref dc] Z h0 (QNW2 Z dc ob dq bb kb bs el ke y1 y2 cs h0 n0) := by
  refine own_bSW pn_26 rfl D_26 (fun m => ef_NW2 m dc) hw fun p e s m below meth c sZ Bd hx hby hml hown hnm hh hZ X0 e0 w H pre0 hC0 hC hS hk => ?_
  have N0 := Fr.nil n0
  have K0 := Keep.refl h0 [ob, bb]
  obtain ⟨T1, X1, e1, st1⟩ := getF X0 hx hZ hown (host := "") (Or.inl (w 53 rfl)) Via.refl e0 P1 (g := (mkF m 1 #[vR dc] [.ref dc])) rfl rfl (H 1 rfl)
  obtain ⟨cq2, kq2, q2a, q2b, q2c⟩ := isOf hZ e1 P3
  obtain ⟨_, T2, lo2, Lc2, X2, N2, hQ2, st2⟩ := own_af (QCB Z ob (10 : Int32) bb kb bs cs h0 n0) 0 0 0 0 0 0 (X1.virtualBack hx (y := Y_23) (z := Y_23) hown (mvT hZ (w 160 rfl)) (mvT hZ (w 161 rfl)) (own_ns hZ (w 163 rfl)) (mvT hZ (w 163 rfl)) (mvT hZ (w 162 rfl)) (by decide) (backOf (W := 0) (rmCB l Z a0 hw [] ob (10 : Int32) bb kb bs cs h0 n0 Z0 P3 P4 P5 P6 P7 P14 hcs (by decide) (own_len (us := [own_c10]) (m := 0) (Nat.le_trans (Nat.add_le_add_left (by decide : 1 ≤ 3) _) hN) (bl rfl)) g_ob g_bb) hZ (w 164 rfl) (w 37 rfl) (by decide) (by decide)) q2a q2c (g := (mkF m 6 #[vR dc] [.int 10, .ref ob])) rfl (by rw [hml]; rfl) (Steps.refl _) (argsL := [.int 10]) (rest := []) (lenOf pd_21 rfl) rfl (lq rfl) (H 3 rfl) (fun _ _ => ⟨rfl, e1, (by decide : 0 + 0 ≤ _), (by decide : 0 + 0 ≤ _)⟩)) N0 (fun _ _ _ h => h.2.1) rfl rfl
  dsimp only at st2
  obtain ⟨rfl, N2q, r2_0, r2_1, r2_2, r2_3, r2_4⟩ := hQ2
  have hC := hC.trans (CHr.keep r2_0 (sfS (Safe.exa hZ.alike P3 (by decide) (by decide)) (sfS (own_safe hw hZ P7) sf0)) hC.1)
  have hk := Nat.le_trans hk r2_0.1
  have ne5 : dc ≠ bb := Exa.neArv P0 P7 (w 1 rfl)
  have ne6 : dc ≠ ob := Exa.ne P0 P3 (by decide)
  have ne11 : dq ≠ bb := Exa.neArv P8 P7 (w 56 rfl)
  have ne12 : dq ≠ ob := Exa.ne P8 P3 (by decide)
  have ne16 : el ≠ bb := own_tyne P12 P7 (by decide)
  have ne17 : el ≠ ob := Ne.symm (Exa.neArv P3 P12 (w 36 rfl))
  have K2 := K0.trans r2_0 (allS (own_m 0 rfl) (allS (own_m 1 rfl) all0))
  have Z2 : n0 ≤ T2.heap.size := Nat.le_trans Z0 r2_0.1
  have ch19 : Goes p e below sZ (entryFrame m #[.ref dc] 1) T2 (mkF m 9 #[vR dc] [.ref ob]) := fun t kt => pre0 t (by
    show SG X0 0 #[vR dc] [] _
    refine XS.aloadN X0.here hx rfl (H 0 rfl) rfl rfl ?_
    refine st1 _ ?_
    show SG X1 4 #[vR dc] [.ref ob] _
    refine XS.bipush X1.here hx rfl (H 2 rfl) ?_
    refine st2.trans ?_
    show SG X2 9 #[vR dc] [.ref ob] _
    exact kt)
  obtain ⟨a20, T20, h20, kk20, b20, kc20, X20, e20, E20, hS, hk, hZ, hown, A20, B20, C20, V20, -, -, hCn, -, -, st20⟩ := ldcCH X2 hx hZ hown (w 175 rfl) (own_wS hw) rfl hS hk (own_EW hw) (List.mem_of_getElem? (i := 2) rfl) hC.1 (vs := own_iv [(9 : Int32)]) (z := Int32.ofNat [(9 : Int32)].length) own_lit2 (by decide) (by decide) (g := (mkF m 9 #[vR dc] [.ref ob])) rfl (H 4 rfl) (n := 4) (by decide) (by decide) (by decide) (by decide)
  have hC := hC.trans hCn
  have f23 := (P2.keep r2_0 (ninS ne6 (ninS ne5 nin0))).ext E20
  have f25 := (P8.keep r2_0).ext E20
  have f26 := (P9.keep r2_0 (ninS ne12 (ninS ne11 nin0))).ext E20
  have f27 := (P10.keep r2_0 (ninS ne12 (ninS ne11 nin0))).ext E20
  have f28 := (P11.keep r2_0 (ninS ne12 (ninS ne11 nin0))).ext E20
  have f29 := (P12.keep r2_0 (ninS ne17 (ninS ne16 nin0))).ext E20
  have f30 := (own_sta P14 r2_0 (nsS P3.nostat (nsS P7.nostat ns0))).ext E20
  have K20 := K2.ext E20
  have Z20 : n0 ≤ h20.size := Nat.le_trans Z2 E20.1
  obtain ⟨T35, X35, e35, st35⟩ := getF X20 hx hZ hown (host := "") (Or.inl (w 72 rfl)) Via.refl e20 f23 (g := (mkF m 12 #[vR dc] [.ref dc, .ref a20, .ref ob])) rfl rfl (H 6 rfl)
  obtain ⟨cq36, kq36, q36a, q36b, q36c⟩ := isOf hZ e35 f25
  obtain ⟨_, T36, lo36, Lc36, X36, N36, hQ36, st36⟩ := own_af (QSZ2 Z dq el ke y1 y2 h20 n0) 2 0 8 0 2 8 (X35.interfaceBack hx (xi := Y_53) (y := Y_25) hown (mvT hZ (w 176 rfl)) (mvT hZ (w 177 rfl)) (mvT hZ (w 178 rfl)) (mvT hZ (w 179 rfl)) (mvT hZ (w 180 rfl)) (mvT hZ (w 181 rfl)) (mvT hZ (w 182 rfl)) (mvT hZ (w 183 rfl)) (by decide) (backOf (W := 2) (rmSZ2 l Z a0 hw [] dq el ke y1 y2 h20 n0 Z20 f25 f26 f27 f28 f29 P13) hZ (w 184 rfl) (w 57 rfl) (by decide) (by decide)) q36a q36b q36c (g := (mkF m 15 #[vR dc] [.ref dq, .ref a20, .ref ob])) rfl (by rw [hml]; rfl) (Steps.refl _) (argsL := []) (rest := [.ref a20, .ref ob]) (lenOf pd_9 rfl) rfl (lq rfl) (H 7 rfl) (fun _ _ => ⟨rfl, e35, (by decide : 2 + 0 ≤ _), (by decide : 8 + 0 ≤ _)⟩)) N2 (fun _ _ _ h => h.2.1) rfl rfl
  dsimp only at st36
  obtain ⟨rfl, N36q, r36_0⟩ := hQ36
  obtain ⟨cq37, kq37, q37a, q37b, q37c⟩ := isOf hZ r36_0 A20
  obtain ⟨_, T37, lo37, Lc37, X37, N37, hQ37, st37⟩ := own_af (QRP2 Z a20 b20 kc20 h20 n0) 2 2 8 6 4 14 (X36.virtualBack hx (y := Y_35) (z := Y_35) hown (mvT hZ (w 192 rfl)) (mvT hZ (w 193 rfl)) (own_ns hZ (w 195 rfl)) (mvT hZ (w 195 rfl)) (mvT hZ (w 194 rfl)) (by decide) (backOf (W := 1) (rmRP2 l Z a0 hw [] a20 b20 kc20 h20 n0 Z20 A20 C20 B20 V20) hZ (w 196 rfl) (w 5 rfl) (by decide) (by decide)) q37a q37c (g := (mkF m 20 #[vR dc] [.int 2, .ref a20, .ref ob])) rfl (by rw [hml]; rfl) (Steps.refl _) (argsL := [.int 2]) (rest := [.ref ob]) (lenOf pd_24 rfl) rfl (lq rfl) (H 8 rfl) (fun _ _ => ⟨rfl, r36_0, (by decide : 2 + 2 ≤ _), (by decide : 8 + 6 ≤ _)⟩)) N36 (by rintro _ _ _ ⟨_, _, _, -, N, -⟩; exact N) rfl rfl
  dsimp only at st37
  obtain ⟨x37_0, x37_1, x37_2, rfl, N37q, r37_0, r37_1, r37_2, r37_3, r37_4, r37_5, r37_6⟩ := hQ37
  have hC := hC.trans (CHr.keep r37_0 sf0 hC.1)
  have hk := Nat.le_trans hk r37_0.1
  have f38 := own_sta f30 r37_0 ns0
  have f42 := ((P3.keep r2_0).ext E20).keep r37_0
  have f48 := (r2_1.ext E20).keep r37_0 nin0
  have f49 := (r2_2.ext E20).keep r37_0 nin0
  have f50 := (r2_3.ext E20).keep r37_0 nin0
  have f51 := (r2_4.ext E20).keep r37_0 nin0
  have K37 := K20.trans r37_0 all0
  have Z37 : n0 ≤ T37.heap.size := Nat.le_trans Z20 r37_0.1
  obtain ⟨cq56, kq56, q56a, q56b, q56c⟩ := isOf hZ rfl f42
  obtain ⟨_, T56, lo56, Lc56, X56, N56, hQ56, st56⟩ := own_af (QPB Z ob x37_0 bb kb (bs ++ [own_c10]) x37_1 x37_2 [(9 : Int32), (9 : Int32)] cs T37.heap n0) 4 0 14 0 4 14 (X37.virtualBack hx (y := Y_20) (z := Y_20) hown (mvT hZ (w 77 rfl)) (mvT hZ (w 78 rfl)) (own_ns hZ (w 80 rfl)) (mvT hZ (w 80 rfl)) (mvT hZ (w 79 rfl)) (by decide) (backOf (W := 0) (rmPB l Z a0 hw [] ob x37_0 bb kb (bs ++ [own_c10]) x37_1 x37_2 [(9 : Int32), (9 : Int32)] cs T37.heap n0 Z37 f42 f49 f50 f48 f51 r37_3 r37_4 r37_5 r37_6 f38 hcs (own_len (us := [(9 : Int32), (9 : Int32)]) (m := 0) (own_len (us := [own_c10]) (m := 2) hN (bl rfl)) (bl rfl)) (bl rfl : [(9 : Int32), (9 : Int32)].length + 1 ≤ 78) g_ob g_bb) hZ (w 81 rfl) (w 37 rfl) (by decide) (by decide)) q56a q56c (g := (mkF m 23 #[vR dc] [.ref x37_0, .ref ob])) rfl (by rw [hml]; rfl) (Steps.refl _) (argsL := [.ref x37_0]) (rest := []) (lenOf pd_7 rfl) rfl (lq rfl) (H 9 rfl) (fun _ _ => ⟨rfl, rfl, (by decide : 4 + 0 ≤ _), (by decide : 14 + 0 ≤ _)⟩)) N37 (fun _ _ _ h => h.2.1) rfl rfl
  dsimp only at st56
  obtain ⟨rfl, N56q, r56_0, r56_1, r56_2, r56_3, r56_4⟩ := hQ56
  have hC := hC.trans (CHr.keep r56_0 (sfS (Safe.exa hZ.alike f42 (by decide) (by decide)) (sfS (own_safe hw hZ f51) sf0)) hC.1)
  have hk := Nat.le_trans hk r56_0.1
  have K56 := K37.trans r56_0 (allS (own_m 0 rfl) (allS (own_m 1 rfl) all0))
  obtain ⟨fs, hr, hrun, hended, hW⟩ := X56.leaveW (v := none) hS hk (fun _ => rfl)
  refine ⟨_, _, ch19 _ ?_, hrun, hended, _, _, rfl, ?_, ?_, ⟨hW.1, hW.2.1, hW.2.2.1, hW.2.2.2.mono (by decide) (by decide)⟩⟩
  · show SG X2 9 #[vR dc] [.ref ob] _
    refine st20 _ ?_
    show SG X20 11 #[vR dc] [.ref a20, .ref ob] _
    refine XS.aloadN X20.here hx rfl (H 5 rfl) rfl rfl ?_
    refine st35 _ ?_
    show SG X35 15 #[vR dc] [.ref dq, .ref a20, .ref ob] _
    refine st36.trans ?_
    show SG X36 20 #[vR dc] [.int 2, .ref a20, .ref ob] _
    refine st37.trans ?_
    show SG X37 23 #[vR dc] [.ref x37_0, .ref ob] _
    refine st56.trans ?_
    show SG X56 26 #[vR dc] [.ref ob] _
    refine XS.pop X56.here hx rfl (H 10 rfl) rfl rfl ?_
    exact X56.returnOut hx Bd.returns (H 11 rfl) hr
  · show QNW2 Z dc ob dq bb kb bs el ke y1 y2 cs h0 n0 _ T56.heap _
    exact ⟨rfl, N56, K56, r56_2, r56_3, r56_1, r56_4⟩
  · show CHr Z consts_1 s.vm s.heap T56.vm T56.heap
    rw [hh]
    exact hC.trans (CHv.at X56 hZ (own_EW hw) hC.1)

theorem ef_ST2 (m : MethodId) (dc sg at1 : Addr) : entryFrame m #[.ref dc, .ref sg, .ref at1] 4 = mkF m 0 #[.val (.ref dc), .val (.ref sg), .val (.ref at1), .unset] [] := by simp [entryFrame, mkF, argsToLocals, Value.category]
def QST2 (Z : State) (dc sg : Addr) (at1 ob : Addr) (dq bb : Addr) (kb : ClassId) (bs : List Int32) (el : Addr) (ke : ClassId) (y1 y2 : Addr) (cs : Int32) (ub : Addr) (ku : ClassId) (nc : Int32) (ka : ClassId) (h0 : Heap) (n0 : Nat) (v : Option Value) (h : Heap) (L : List Loc) : Prop := v = some (.ref ob) ∧ Fr n0 L ∧ Keep h0 h [ob, bb] ∧ Fld Z h ob sA "value" "[B" (.ref bb) ∧ Fld Z h ob sA "coder" "B" (.int 0) ∧ Fld Z h ob sA "count" "I" (.int (Int32.ofNat ((((bs ++ [own_c10]) ++ [(9 : Int32), (9 : Int32)]) ++ [own_c60]) ++ [nc]).length)) ∧ Arv Z h bb kb .byte (78 : Int32) (own_iv ((((bs ++ [own_c10]) ++ [(9 : Int32), (9 : Int32)]) ++ [own_c60]) ++ [nc])) (.int 0)
theorem rmST2 (l : Launch) (Z : State) (a0 : Array Value) (hw : HWd a0 Z) (ws : List Jvm.Cond) (dc sg : Addr) (at1 ob : Addr) (dq bb : Addr) (kb : ClassId) (bs : List Int32) (el : Addr) (ke : ClassId) (y1 y2 : Addr) (cs : Int32) (ub : Addr) (ku : ClassId) (nc : Int32) (ka : ClassId) (h0 : Heap) (n0 : Nat) (Z0 : n0 ≤ h0.size) (P0 : Exa Z h0 dc sX) (P1 : Fld Z h0 dc sX "xml" sLB (.ref ob)) (P2 : Fld Z h0 dc sX "open" sLD (.ref dq)) (P3 : Exa Z h0 ob sB) (P4 : Fld Z h0 ob sA "value" "[B" (.ref bb)) (P5 : Fld Z h0 ob sA "coder" "B" (.int 0)) (P6 : Fld Z h0 ob sA "count" "I" (.int (Int32.ofNat bs.length))) (P7 : Arv Z h0 bb kb .byte (78 : Int32) (own_iv bs) (.int 0)) (P8 : Exa Z h0 dq sD) (P9 : Fld Z h0 dq sD "elements" sLO (.ref el)) (P10 : Fld Z h0 dq sD "head" "I" (.int 15)) (P11 : Fld Z h0 dq sD "tail" "I" (.int 0)) (P12 : Arv Z h0 el ke (.object sO) (17 : Int32) [.null, .null, .null, .null, .null, .null, .null, .null, .null, .null, .null, .null, .null, .null, .null, .ref y2, .ref y1] .null) (P13 : Ovr Z ke sO) (P14 : Sta Z h0 sS sC "Z" (.int cs)) (P15 : Exa Z h0 sg sS) (P16 : Fld Z h0 sg sS "value" "[B" (.ref ub)) (P17 : Fld Z h0 sg sS "coder" "B" (.int 0)) (P18 : Arv Z h0 ub ku .byte (Int32.ofNat [nc].length) (own_iv [nc]) (.int 0)) (P19 : Arv Z h0 at1 ka (.object sS) (0 : Int32) [] .null) (hcs : ¬ cs = (0 : Int32)) (hN : bs.length + 5 ≤ 78) (g_ob : n0 ≤ ob) (g_bb : n0 ≤ bb) :
    own_MetW l Y_54 (Jvm.Cond.code Y_54 prog_33_method_10_code 4 (some (.object "java/lang/StringBuilder")) :: ws) (RM 6 4 14 100) #[.ref dc, .ref sg, .ref at1] Z h0 (QST2 Z dc sg at1 ob dq bb kb bs el ke y1 y2 cs ub ku nc ka h0 n0) := by
  refine own_bSW pn_25 rfl D_25 (fun m => ef_ST2 m dc sg at1) hw fun p e s m below meth c sZ Bd hx hby hml hown hnm hh hZ X0 e0 w H pre0 hC0 hC hS hk => ?_
  have N0 := Fr.nil n0
  have K0 := Keep.refl h0 [ob, bb]
  have ch1 : Goes p e below sZ (entryFrame m #[.ref dc, .ref sg, .ref at1] 4) sZ (mkF m 1 #[vR dc, vR sg, vR at1, vU] [.ref dc]) := fun t kt => pre0 t (by
    show SG X0 0 #[vR dc, vR sg, vR at1, vU] [] _
    refine XS.aloadN X0.here hx rfl (H 0 rfl) rfl rfl ?_
    exact kt)
  obtain ⟨cq2, q2, q2'⟩ := P0.cell
  obtain ⟨_, T2, lo2, Lc2, h2, kk2, X2, e2, hS, hk, hZ, hown, N2, hQ2, hCn, st2⟩ := own_afW (QNW2 Z dc ob dq bb kb bs el ke y1 y2 cs h0 n0) 0 4 0 14 4 14 (X0.privateBackS hx (y := Y_52) hown (mvT hZ (w 156 rfl)) (mvT hZ (w 157 rfl)) (own_selp (z := Y_55) (mvT hZ (w 150 rfl)) rfl (mvT hZ (w 157 rfl)) (Cond.privateMethod_at (mvP hZ (w 158 rfl) (args := #[]))) (by decide)) (Cond.privateMethod_at (mvP hZ (w 158 rfl) (args := #[]))) (mvT hZ (w 159 rfl)) (by decide) (backOfSH (W := 0) (rmNW2 l Z a0 hw [] dc ob dq bb kb bs el ke y1 y2 cs h0 n0 Z0 P0 P1 P2 P3 P4 P5 P6 P7 P8 P9 P10 P11 P12 P13 P14 hcs (Nat.le_trans (Nat.add_le_add_left (by decide : 3 ≤ 5) _) hN) g_ob g_bb) hZ (w 159 rfl) (w 2 rfl) (by decide) (by decide) (own_EW hw) hC.1) (g := (mkF m 1 #[vR dc, vR sg, vR at1, vU] [.ref dc])) rfl (by rw [hml]; rfl) (Steps.refl _) (a := dc) (by rw [e0]; exact q2) q2' (argsL := []) (rest := []) (lenOf pd_4 rfl) rfl (lq rfl) (H 1 rfl) (fun _ _ => ⟨rfl, e0, (by decide : 0 + 4 ≤ _), (by decide : 0 + 14 ≤ _)⟩)) hS e0 hk hZ hown N0 (fun _ _ _ h => h.2.1) rfl rfl
  dsimp only at st2
  obtain ⟨rfl, N2q, r2_0, r2_1, r2_2, r2_3, r2_4⟩ := hQ2
  have hC := hC.trans hCn
  have f3 := own_sta P14 r2_0 (nsS P3.nostat (nsS P7.nostat ns0))
  have ne5 : dc ≠ bb := Exa.neArv P0 P7 (w 1 rfl)
  have ne6 : dc ≠ ob := Exa.ne P0 P3 (by decide)
  have f7 := P1.keep r2_0 (ninS ne6 (ninS ne5 nin0))
  have f9 := P3.keep r2_0
  have ne20 : sg ≠ bb := Exa.neArv P15 P7 (w 13 rfl)
  have ne21 : sg ≠ ob := Exa.ne P15 P3 (by decide)
  have ne24 : ub ≠ bb := arv_ne P18 P7 (Or.inl (own_lne (bl rfl : [nc].length + 1 ≤ 78)))
  have ne25 : ub ≠ ob := Ne.symm (Exa.neArv P3 P18 (w 36 rfl))
  have ne27 : at1 ≠ bb := own_tyne P19 P7 (by decide)
  have ne28 : at1 ≠ ob := Ne.symm (Exa.neArv P3 P19 (w 36 rfl))
  have K2 := K0.trans r2_0 (allS (own_m 0 rfl) (allS (own_m 1 rfl) all0))
  have Z2 : n0 ≤ h2.size := Nat.le_trans Z0 r2_0.1
  obtain ⟨T30, X30, e30, st30⟩ := getF X2 hx hZ hown (host := "") (Or.inl (w 53 rfl)) Via.refl e2 f7 (g := (mkF m 5 #[vR dc, vR sg, vR at1, vU] [.ref dc])) rfl rfl (H 3 rfl)
  obtain ⟨cq31, kq31, q31a, q31b, q31c⟩ := isOf hZ e30 f9
  obtain ⟨_, T31, lo31, Lc31, X31, N31, hQ31, st31⟩ := own_af (QCB Z ob (60 : Int32) bb kb ((bs ++ [own_c10]) ++ [(9 : Int32), (9 : Int32)]) cs h2 n0) 4 0 14 0 4 14 (X30.virtualBack hx (y := Y_23) (z := Y_23) hown (mvT hZ (w 160 rfl)) (mvT hZ (w 161 rfl)) (own_ns hZ (w 163 rfl)) (mvT hZ (w 163 rfl)) (mvT hZ (w 162 rfl)) (by decide) (backOf (W := 0) (rmCB l Z a0 hw [] ob (60 : Int32) bb kb ((bs ++ [own_c10]) ++ [(9 : Int32), (9 : Int32)]) cs h2 n0 Z2 f9 r2_1 r2_2 r2_3 r2_4 f3 hcs (by decide) (own_len (us := [own_c60]) (m := 0) (own_len (us := [(9 : Int32), (9 : Int32)]) (m := 1) (own_len (us := [own_c10]) (m := 3) (Nat.le_trans (Nat.add_le_add_left (by decide : 4 ≤ 5) _) hN) (bl rfl)) (bl rfl)) (bl rfl)) g_ob g_bb) hZ (w 164 rfl) (w 37 rfl) (by decide) (by decide)) q31a q31c (g := (mkF m 10 #[vR dc, vR sg, vR at1, vU] [.int 60, .ref ob])) rfl (by rw [hml]; rfl) (Steps.refl _) (argsL := [.int 60]) (rest := []) (lenOf pd_21 rfl) rfl (lq rfl) (H 5 rfl) (fun _ _ => ⟨rfl, e30, (by decide : 4 + 0 ≤ _), (by decide : 14 + 0 ≤ _)⟩)) N2 (fun _ _ _ h => h.2.1) rfl rfl
  dsimp only at st31
  obtain ⟨rfl, N31q, r31_0, r31_1, r31_2, r31_3, r31_4⟩ := hQ31
  have hC := hC.trans (CHr.keep r31_0 (sfS (Safe.exa hZ.alike f9 (by decide) (by decide)) (sfS (own_safe hw hZ r2_4) sf0)) hC.1)
  have hk := Nat.le_trans hk r31_0.1
  have f32 := own_sta f3 r31_0 (nsS f9.nostat (nsS r2_4.nostat ns0))
  have f36 := f9.keep r31_0
  have f42 := (P15.keep r2_0).keep r31_0
  have f43 := (P16.keep r2_0 (ninS ne21 (ninS ne20 nin0))).keep r31_0 (ninS ne21 (ninS ne20 nin0))
  have f44 := (P17.keep r2_0 (ninS ne21 (ninS ne20 nin0))).keep r31_0 (ninS ne21 (ninS ne20 nin0))
  have f45 := (P18.keep r2_0 (ninS ne25 (ninS ne24 nin0))).keep r31_0 (ninS ne25 (ninS ne24 nin0))
  have K31 := K2.trans r31_0 (allS (own_m 0 rfl) (allS (own_m 1 rfl) all0))
  have Z31 : n0 ≤ T31.heap.size := Nat.le_trans Z2 r31_0.1
  obtain ⟨cq47, kq47, q47a, q47b, q47c⟩ := isOf hZ rfl f36
  obtain ⟨_, T47, lo47, Lc47, X47, N47, hQ47, st47⟩ := own_af (QPB Z ob sg bb kb (((bs ++ [own_c10]) ++ [(9 : Int32), (9 : Int32)]) ++ [own_c60]) ub ku [nc] cs T31.heap n0) 4 0 14 0 4 14 (X31.virtualBack hx (y := Y_20) (z := Y_20) hown (mvT hZ (w 77 rfl)) (mvT hZ (w 78 rfl)) (own_ns hZ (w 80 rfl)) (mvT hZ (w 80 rfl)) (mvT hZ (w 79 rfl)) (by decide) (backOf (W := 0) (rmPB l Z a0 hw [] ob sg bb kb (((bs ++ [own_c10]) ++ [(9 : Int32), (9 : Int32)]) ++ [own_c60]) ub ku [nc] cs T31.heap n0 Z31 f36 r31_2 r31_3 r31_1 r31_4 f42 f43 f44 f45 f32 hcs (own_len (us := [nc]) (m := 0) (own_len (us := [own_c60]) (m := 1) (own_len (us := [(9 : Int32), (9 : Int32)]) (m := 2) (own_len (us := [own_c10]) (m := 4) hN (bl rfl)) (bl rfl)) (bl rfl)) (bl rfl)) (bl rfl : [nc].length + 1 ≤ 78) g_ob g_bb) hZ (w 81 rfl) (w 37 rfl) (by decide) (by decide)) q47a q47c (g := (mkF m 14 #[vR dc, vR sg, vR at1, vU] [.ref sg, .ref ob])) rfl (by rw [hml]; rfl) (Steps.refl _) (argsL := [.ref sg]) (rest := []) (lenOf pd_7 rfl) rfl (lq rfl) (H 7 rfl) (fun _ _ => ⟨rfl, rfl, (by decide : 4 + 0 ≤ _), (by decide : 14 + 0 ≤ _)⟩)) N31 (fun _ _ _ h => h.2.1) rfl rfl
  dsimp only at st47
  obtain ⟨rfl, N47q, r47_0, r47_1, r47_2, r47_3, r47_4⟩ := hQ47
  have hC := hC.trans (CHr.keep r47_0 (sfS (Safe.exa hZ.alike f36 (by decide) (by decide)) (sfS (own_safe hw hZ r31_4) sf0)) hC.1)
  have hk := Nat.le_trans hk r47_0.1
  have f50 := (f7.keep r31_0 (ninS ne6 (ninS ne5 nin0))).keep r47_0 (ninS ne6 (ninS ne5 nin0))
  have f62 := ((P19.keep r2_0 (ninS ne28 (ninS ne27 nin0))).keep r31_0 (ninS ne28 (ninS ne27 nin0))).keep r47_0 (ninS ne28 (ninS ne27 nin0))
  have K47 := K31.trans r47_0 (allS (own_m 0 rfl) (allS (own_m 1 rfl) all0))
  obtain ⟨T63, X63, e63, st63⟩ := getF X47 hx hZ hown (host := "") (Or.inl (w 53 rfl)) Via.refl rfl f50 (g := (mkF m 76 #[vR dc, vR sg, vR at1, vI 0] [.ref dc])) rfl rfl (H 18 rfl)
  obtain ⟨fs, hr, hrun, hended, hW⟩ := X63.leaveW (v := some (.ref ob)) hS (by rw [e63]; exact hk) (fun h => by rw [Bd.returns] at h; cases h)
  refine ⟨_, _, ch1 _ ?_, hrun, hended, _, _, rfl, ?_, ?_, ⟨hW.1, hW.2.1, hW.2.2.1, hW.2.2.2.mono (by decide) (by decide)⟩⟩
  · show SG X0 1 #[vR dc, vR sg, vR at1, vU] [.ref dc] _
    refine st2.trans ?_
    show SG X2 4 #[vR dc, vR sg, vR at1, vU] [] _
    refine XS.aloadN X2.here hx rfl (H 2 rfl) rfl rfl ?_
    refine st30 _ ?_
    show SG X30 8 #[vR dc, vR sg, vR at1, vU] [.ref ob] _
    refine XS.bipush X30.here hx rfl (H 4 rfl) ?_
    refine st31.trans ?_
    show SG X31 13 #[vR dc, vR sg, vR at1, vU] [.ref ob] _
    refine XS.aloadN X31.here hx rfl (H 6 rfl) rfl rfl ?_
    refine st47.trans ?_
    show SG X47 17 #[vR dc, vR sg, vR at1, vU] [.ref ob] _
    refine XS.pop X47.here hx rfl (H 8 rfl) rfl rfl ?_
    refine XS.iconst X47.here hx rfl (H 9 rfl) ?_
    refine XS.istoreN X47.here hx rfl (H 10 rfl) rfl (l' := #[vR dc, vR sg, vR at1, vI 0]) rfl ?_
    refine XS.iloadN X47.here hx rfl (H 11 rfl) rfl ?_
    refine XS.iconst X47.here hx rfl (H 12 rfl) ?_
    refine XS.iadd X47.here hx rfl (H 13 rfl) rfl ?_
    show SG X47 23 #[vR dc, vR sg, vR at1, vI 0] [.int 1] _
    refine XS.aloadN X47.here hx rfl (H 14 rfl) rfl rfl ?_
    refine own_alen X47 hx hZ rfl f62 (H 15 rfl) ?_
    refine XS.icmpYes X47.here hx rfl (pc0 := 25) (pc' := 75) rfl (H 16 rfl) rfl (flt (by decide : ¬ ((1 : Int32) < (0 : Int32)))).2.1 (by decide) (by decide) ?_
    refine XS.aloadN X47.here hx rfl (H 17 rfl) rfl rfl ?_
    refine st63 _ ?_
    show SG X63 79 #[vR dc, vR sg, vR at1, vI 0] [.ref ob] _
    jvm_step X63.here [X63.here.top, hx, (H 19 rfl), X63.method', Bd.returns, Value.isRef, FieldType.isReference]
    first | (intro acts; rw [hr _ acts rfl rfl rfl]) | rw [hr _ _ rfl rfl rfl]
    exact Steps.refl _
  · show QST2 Z dc sg at1 ob dq bb kb bs el ke y1 y2 cs ub ku nc ka h0 n0 _ T63.heap _
    rw [e63]
    exact ⟨rfl, N47, K47, r47_2, r47_3, r47_1, r47_4⟩
  · show CHr Z consts_1 s.vm s.heap T63.vm T63.heap
    rw [hh, e63]
    exact hC.trans (CHv.at X63 hZ (own_EW hw) hC.1)

theorem ef_SR2 (m : MethodId) (dc sg at1 : Addr) : entryFrame m #[.ref dc, .ref sg, .ref at1] 3 = mkF m 0 #[.val (.ref dc), .val (.ref sg), .val (.ref at1)] [] := by simp [entryFrame, mkF, argsToLocals, Value.category]
def QSR2 (Z : State) (dc sg : Addr) (at1 ob : Addr) (dq bb : Addr) (kb : ClassId) (bs : List Int32) (el : Addr) (ke : ClassId) (y1 y2 : Addr) (cs : Int32) (ub : Addr) (ku : ClassId) (nc : Int32) (ka : ClassId) (h0 : Heap) (n0 : Nat) (v : Option Value) (h : Heap) (L : List Loc) : Prop := v = some (.ref dc) ∧ Fr n0 L ∧ Keep h0 h [ob, bb, dq, el] ∧ Fld Z h ob sA "value" "[B" (.ref bb) ∧ Fld Z h ob sA "coder" "B" (.int 0) ∧ Fld Z h ob sA "count" "I" (.int (Int32.ofNat (((((bs ++ [own_c10]) ++ [(9 : Int32), (9 : Int32)]) ++ [own_c60]) ++ [nc]) ++ [own_c62]).length)) ∧ Arv Z h bb kb .byte (78 : Int32) (own_iv (((((bs ++ [own_c10]) ++ [(9 : Int32), (9 : Int32)]) ++ [own_c60]) ++ [nc]) ++ [own_c62])) (.int 0) ∧ Fld Z h dq sD "elements" sLO (.ref el) ∧ Fld Z h dq sD "head" "I" (.int 14) ∧ Fld Z h dq sD "tail" "I" (.int 0) ∧ Arv Z h el ke (.object sO) (17 : Int32) [.null, .null, .null, .null, .null, .null, .null, .null, .null, .null, .null, .null, .null, .null, .ref sg, .ref y2, .ref y1] .null
theorem rmSR2 (l : Launch) (Z : State) (a0 : Array Value) (hw : HWd a0 Z) (ws : List Jvm.Cond) (dc sg : Addr) (at1 ob : Addr) (dq bb : Addr) (kb : ClassId) (bs : List Int32) (el : Addr) (ke : ClassId) (y1 y2 : Addr) (cs : Int32) (ub : Addr) (ku : ClassId) (nc : Int32) (ka : ClassId) (h0 : Heap) (n0 : Nat) (Z0 : n0 ≤ h0.size) (P0 : Exa Z h0 dc sX) (P1 : Fld Z h0 dc sX "xml" sLB (.ref ob)) (P2 : Fld Z h0 dc sX "open" sLD (.ref dq)) (P3 : Exa Z h0 ob sB) (P4 : Fld Z h0 ob sA "value" "[B" (.ref bb)) (P5 : Fld Z h0 ob sA "coder" "B" (.int 0)) (P6 : Fld Z h0 ob sA "count" "I" (.int (Int32.ofNat bs.length))) (P7 : Arv Z h0 bb kb .byte (78 : Int32) (own_iv bs) (.int 0)) (P8 : Exa Z h0 dq sD) (P9 : Fld Z h0 dq sD "elements" sLO (.ref el)) (P10 : Fld Z h0 dq sD "head" "I" (.int 15)) (P11 : Fld Z h0 dq sD "tail" "I" (.int 0)) (P12 : Arv Z h0 el ke (.object sO) (17 : Int32) [.null, .null, .null, .null, .null, .null, .null, .null, .null, .null, .null, .null, .null, .null, .null, .ref y2, .ref y1] .null) (P13 : Ovr Z ke sO) (P14 : Sta Z h0 sS sC "Z" (.int cs)) (P15 : Exa Z h0 sg sS) (P16 : Fld Z h0 sg sS "value" "[B" (.ref ub)) (P17 : Fld Z h0 sg sS "coder" "B" (.int 0)) (P18 : Arv Z h0 ub ku .byte (Int32.ofNat [nc].length) (own_iv [nc]) (.int 0)) (P19 : Arv Z h0 at1 ka (.object sS) (0 : Int32) [] .null) (hcs : ¬ cs = (0 : Int32)) (hN : bs.length + 6 ≤ 78) (g_ob : n0 ≤ ob) (g_bb : n0 ≤ bb) (g_dq : n0 ≤ dq) (g_el : n0 ≤ el) :
    own_MetW l Y_55 (Jvm.Cond.code Y_55 prog_33_method_2_code 3 (some (.object "com/example/cartolog/cartolog/xml/XmlDocument")) :: ws) (RM 7 4 14 115) #[.ref dc, .ref sg, .ref at1] Z h0 (QSR2 Z dc sg at1 ob dq bb kb bs el ke y1 y2 cs ub ku nc ka h0 n0) := by
  refine own_bSW pn_24 rfl D_24 (fun m => ef_SR2 m dc sg at1) hw fun p e s m below meth c sZ Bd hx hby hml hown hnm hh hZ X0 e0 w H pre0 hC0 hC hS hk => ?_
  have N0 := Fr.nil n0
  have K0 := Keep.refl h0 [ob, bb, dq, el]
  have ch1 : Goes p e below sZ (entryFrame m #[.ref dc, .ref sg, .ref at1] 3) sZ (mkF m 3 #[vR dc, vR sg, vR at1] [.ref at1, .ref sg, .ref dc]) := fun t kt => pre0 t (by
    show SG X0 0 #[vR dc, vR sg, vR at1] [] _
    refine XS.aloadN X0.here hx rfl (H 0 rfl) rfl rfl ?_
    refine XS.aloadN X0.here hx rfl (H 1 rfl) rfl rfl ?_
    refine XS.aloadN X0.here hx rfl (H 2 rfl) rfl rfl ?_
    exact kt)
  obtain ⟨cq2, q2, q2'⟩ := P0.cell
  obtain ⟨_, T2, lo2, Lc2, h2, kk2, X2, e2, hS, hk, hZ, hown, N2, hQ2, hCn, st2⟩ := own_afW (QST2 Z dc sg at1 ob dq bb kb bs el ke y1 y2 cs ub ku nc ka h0 n0) 0 4 0 14 4 14 (X0.privateBackS hx (y := Y_54) hown (mvT hZ (w 152 rfl)) (mvT hZ (w 153 rfl)) (own_selp (z := Y_55) (mvT hZ (w 150 rfl)) rfl (mvT hZ (w 153 rfl)) (Cond.privateMethod_at (mvP hZ (w 154 rfl) (args := #[]))) (by decide)) (Cond.privateMethod_at (mvP hZ (w 154 rfl) (args := #[]))) (mvT hZ (w 155 rfl)) (by decide) (backOfSH (W := 0) (rmST2 l Z a0 hw [] dc sg at1 ob dq bb kb bs el ke y1 y2 cs ub ku nc ka h0 n0 Z0 P0 P1 P2 P3 P4 P5 P6 P7 P8 P9 P10 P11 P12 P13 P14 P15 P16 P17 P18 P19 hcs (Nat.le_trans (Nat.add_le_add_left (by decide : 5 ≤ 6) _) hN) g_ob g_bb) hZ (w 155 rfl) (w 2 rfl) (by decide) (by decide) (own_EW hw) hC.1) (g := (mkF m 3 #[vR dc, vR sg, vR at1] [.ref at1, .ref sg, .ref dc])) rfl (by rw [hml]; rfl) (Steps.refl _) (a := dc) (by rw [e0]; exact q2) q2' (argsL := [.ref sg, .ref at1]) (rest := []) (lenOf pd_20 rfl) rfl (lq rfl) (H 3 rfl) (fun _ _ => ⟨rfl, e0, (by decide : 0 + 4 ≤ _), (by decide : 0 + 14 ≤ _)⟩)) hS e0 hk hZ hown N0 (fun _ _ _ h => h.2.1) rfl rfl
  dsimp only at st2
  obtain ⟨rfl, N2q, r2_0, r2_1, r2_2, r2_3, r2_4⟩ := hQ2
  have hC := hC.trans hCn
  have f3 := own_sta P14 r2_0 (nsS P3.nostat (nsS P7.nostat ns0))
  have ne5 : dc ≠ bb := Exa.neArv P0 P7 (w 1 rfl)
  have ne6 : dc ≠ ob := Exa.ne P0 P3 (by decide)
  have f9 := P3.keep r2_0
  have ne11 : dq ≠ bb := Exa.neArv P8 P7 (w 56 rfl)
  have ne12 : dq ≠ ob := Exa.ne P8 P3 (by decide)
  have ne16 : el ≠ bb := own_tyne P12 P7 (by decide)
  have ne17 : el ≠ ob := Ne.symm (Exa.neArv P3 P12 (w 36 rfl))
  have K2 := K0.trans r2_0 (allS (own_m 0 rfl) (allS (own_m 1 rfl) all0))
  have Z2 : n0 ≤ h2.size := Nat.le_trans Z0 r2_0.1
  obtain ⟨cq30, kq30, q30a, q30b, q30c⟩ := isOf hZ e2 f9
  obtain ⟨_, T30, lo30, Lc30, X30, N30, hQ30, st30⟩ := own_af (QCB Z ob (62 : Int32) bb kb ((((bs ++ [own_c10]) ++ [(9 : Int32), (9 : Int32)]) ++ [own_c60]) ++ [nc]) cs h2 n0) 4 0 14 0 4 14 (X2.virtualBack hx (y := Y_23) (z := Y_23) hown (mvT hZ (w 160 rfl)) (mvT hZ (w 161 rfl)) (own_ns hZ (w 163 rfl)) (mvT hZ (w 163 rfl)) (mvT hZ (w 162 rfl)) (by decide) (backOf (W := 0) (rmCB l Z a0 hw [] ob (62 : Int32) bb kb ((((bs ++ [own_c10]) ++ [(9 : Int32), (9 : Int32)]) ++ [own_c60]) ++ [nc]) cs h2 n0 Z2 f9 r2_1 r2_2 r2_3 r2_4 f3 hcs (by decide) (own_len (us := [own_c62]) (m := 0) (own_len (us := [nc]) (m := 1) (own_len (us := [own_c60]) (m := 2) (own_len (us := [(9 : Int32), (9 : Int32)]) (m := 3) (own_len (us := [own_c10]) (m := 5) hN (bl rfl)) (bl rfl)) (bl rfl)) (bl rfl)) (bl rfl)) g_ob g_bb) hZ (w 164 rfl) (w 37 rfl) (by decide) (by decide)) q30a q30c (g := (mkF m 8 #[vR dc, vR sg, vR at1] [.int 62, .ref ob])) rfl (by rw [hml]; rfl) (Steps.refl _) (argsL := [.int 62]) (rest := []) (lenOf pd_21 rfl) rfl (lq rfl) (H 5 rfl) (fun _ _ => ⟨rfl, e2, (by decide : 4 + 0 ≤ _), (by decide : 14 + 0 ≤ _)⟩)) N2 (fun _ _ _ h => h.2.1) rfl rfl
  dsimp only at st30
  obtain ⟨rfl, N30q, r30_0, r30_1, r30_2, r30_3, r30_4⟩ := hQ30
  have hC := hC.trans (CHr.keep r30_0 (sfS (Safe.exa hZ.alike f9 (by decide) (by decide)) (sfS (own_safe hw hZ r2_4) sf0)) hC.1)
  have hk := Nat.le_trans hk r30_0.1
  have f34 := (P2.keep r2_0 (ninS ne6 (ninS ne5 nin0))).keep r30_0 (ninS ne6 (ninS ne5 nin0))
  have f36 := (P8.keep r2_0).keep r30_0
  have f37 := (P9.keep r2_0 (ninS ne12 (ninS ne11 nin0))).keep r30_0 (ninS ne12 (ninS ne11 nin0))
  have f38 := (P10.keep r2_0 (ninS ne12 (ninS ne11 nin0))).keep r30_0 (ninS ne12 (ninS ne11 nin0))
  have f39 := (P11.keep r2_0 (ninS ne12 (ninS ne11 nin0))).keep r30_0 (ninS ne12 (ninS ne11 nin0))
  have f40 := (P12.keep r2_0 (ninS ne17 (ninS ne16 nin0))).keep r30_0 (ninS ne17 (ninS ne16 nin0))
  have f41 := (P15.keep r2_0).keep r30_0
  have K30 := K2.trans r30_0 (allS (own_m 0 rfl) (allS (own_m 1 rfl) all0))
  have Z30 : n0 ≤ T30.heap.size := Nat.le_trans Z2 r30_0.1
  obtain ⟨T46, X46, e46, st46⟩ := getF X30 hx hZ hown (host := "") (Or.inl (w 72 rfl)) Via.refl rfl f34 (g := (mkF m 13 #[vR dc, vR sg, vR at1] [.ref dc])) rfl rfl (H 8 rfl)
  obtain ⟨cq47, kq47, q47a, q47b, q47c⟩ := isOf hZ e46 f36
  obtain ⟨_, T47, lo47, Lc47, X47, N47, hQ47, st47⟩ := own_af (QPU2 Z dq sg el ke y1 y2 T30.heap n0) 4 0 14 0 4 14 (X46.interfaceBack hx (xi := Y_56) (y := Y_28) hown (mvT hZ (w 198 rfl)) (mvT hZ (w 199 rfl)) (mvT hZ (w 200 rfl)) (mvT hZ (w 201 rfl)) (mvT hZ (w 202 rfl)) (mvT hZ (w 203 rfl)) (mvT hZ (w 204 rfl)) (mvT hZ (w 183 rfl)) (by decide) (backOf (W := 0) (rmPU2 l Z a0 hw [] dq sg el ke y1 y2 T30.heap n0 Z30 f36 f37 f38 f39 f40 P13 f41 g_dq g_el) hZ (w 205 rfl) (w 57 rfl) (by decide) (by decide)) q47a q47b q47c (g := (mkF m 17 #[vR dc, vR sg, vR at1] [.ref sg, .ref dq])) rfl (by rw [hml]; rfl) (Steps.refl _) (argsL := [.ref sg]) (rest := []) (lenOf pd_25 rfl) rfl (lq rfl) (H 10 rfl) (fun _ _ => ⟨rfl, e46, (by decide : 4 + 0 ≤ _), (by decide : 14 + 0 ≤ _)⟩)) N30 (fun _ _ _ h => h.2.1) rfl rfl
  dsimp only at st47
  obtain ⟨rfl, N47q, r47_0, r47_1, r47_2, r47_3, r47_4⟩ := hQ47
  have hC := hC.trans (CHr.keep r47_0 (sfS (Safe.exa hZ.alike f36 (by decide) (by decide)) (sfS (Safe.arv hZ.alike f40 (by decide)) sf0)) hC.1)
  have hk := Nat.le_trans hk r47_0.1
  have f67 := r30_1.keep r47_0 (ninS (Ne.symm ne12) (ninS (Ne.symm ne17) nin0))
  have f68 := r30_2.keep r47_0 (ninS (Ne.symm ne12) (ninS (Ne.symm ne17) nin0))
  have f69 := r30_3.keep r47_0 (ninS (Ne.symm ne12) (ninS (Ne.symm ne17) nin0))
  have f70 := r30_4.keep r47_0 (ninS (Ne.symm ne11) (ninS (Ne.symm ne16) nin0))
  have K47 := K30.trans r47_0 (allS (own_m 2 rfl) (allS (own_m 3 rfl) all0))
  obtain ⟨fs, hr, hrun, hended, hW⟩ := X47.leaveW (v := some (.ref dc)) hS hk (fun h => by rw [Bd.returns] at h; cases h)
  refine ⟨_, _, ch1 _ ?_, hrun, hended, _, _, rfl, ?_, ?_, ⟨hW.1, hW.2.1, hW.2.2.1, hW.2.2.2.mono (by decide) (by decide)⟩⟩
  · show SG X0 3 #[vR dc, vR sg, vR at1] [.ref at1, .ref sg, .ref dc] _
    refine st2.trans ?_
    show SG X2 6 #[vR dc, vR sg, vR at1] [.ref ob] _
    refine XS.bipush X2.here hx rfl (H 4 rfl) ?_
    refine st30.trans ?_
    show SG X30 11 #[vR dc, vR sg, vR at1] [.ref ob] _
    refine XS.pop X30.here hx rfl (H 6 rfl) rfl rfl ?_
    refine XS.aloadN X30.here hx rfl (H 7 rfl) rfl rfl ?_
    refine st46 _ ?_
    show SG X46 16 #[vR dc, vR sg, vR at1] [.ref dq] _
    refine XS.aloadN X46.here hx rfl (H 9 rfl) rfl rfl ?_
    refine st47.trans ?_
    show SG X47 22 #[vR dc, vR sg, vR at1] [] _
    refine XS.aloadN X47.here hx rfl (H 11 rfl) rfl rfl ?_
    jvm_step X47.here [X47.here.top, hx, (H 12 rfl), X47.method', Bd.returns, Value.isRef, FieldType.isReference]
    first | (intro acts; rw [hr _ acts rfl rfl rfl]) | rw [hr _ _ rfl rfl rfl]
    exact Steps.refl _
  · show QSR2 Z dc sg at1 ob dq bb kb bs el ke y1 y2 cs ub ku nc ka h0 n0 _ T47.heap _
    exact ⟨rfl, N47, K47, f68, f69, f67, f70, r47_1, r47_2, r47_3, r47_4⟩
  · show CHr Z consts_1 s.vm s.heap T47.vm T47.heap
    rw [hh]
    exact hC.trans (CHv.at X47 hZ (own_EW hw) hC.1)

theorem pn_6 : plainName "com/example/cartolog/cartolog/xml/XmlDocument" = true := by first | (simp [plainName, overriddenIn]; done) | decide +kernel
theorem ef_XI (m : MethodId) (dc sg at1 : Addr) : entryFrame m #[.ref dc, .ref sg, .null, .ref at1] 4 = mkF m 0 #[.val (.ref dc), .val (.ref sg), .val .null, .val (.ref at1)] [] := by simp [entryFrame, mkF, argsToLocals, Value.category]
theorem pd_19 : parseMethodDescriptor "(Ljava/lang/String;[Ljava/lang/String;)Lcom/example/cartolog/cartolog/xml/XmlDocument;" = some ⟨[(.object "java/lang/String"), (.array (.object "java/lang/String"))], some (.object "com/example/cartolog/cartolog/xml/XmlDocument")⟩ := by decide +kernel
def QXI (Z : State) (dc sg at1 : Addr) (cs : Int32) (ub : Addr) (ku : ClassId) (nc : Int32) (ka : ClassId) (h0 : Heap) (n0 : Nat) (v : Option Value) (h : Heap) (L : List Loc) : Prop := ∃ xo : Addr, ∃ xb : Addr, ∃ xk : ClassId, ∃ xq : Addr, ∃ xe : Addr, ∃ xn : ClassId, v = none ∧ Fr n0 L ∧ Keep h0 h [dc] ∧ Fld Z h dc sX "xml" sLB (.ref xo) ∧ Fld Z h dc sX "open" sLD (.ref xq) ∧ Exa Z h xo sB ∧ Fld Z h xo sA "value" "[B" (.ref xb) ∧ Fld Z h xo sA "coder" "B" (.int 0) ∧ Fld Z h xo sA "count" "I" (.int (Int32.ofNat (((((own_hdr ++ [own_c10]) ++ ([] : List Int32)) ++ [own_c60]) ++ [nc]) ++ [own_c62]).length)) ∧ Arv Z h xb xk .byte (78 : Int32) (own_iv (((((own_hdr ++ [own_c10]) ++ ([] : List Int32)) ++ [own_c60]) ++ [nc]) ++ [own_c62])) (.int 0) ∧ Exa Z h xq sD ∧ Fld Z h xq sD "elements" sLO (.ref xe) ∧ Fld Z h xq sD "head" "I" (.int 16) ∧ Fld Z h xq sD "tail" "I" (.int 0) ∧ Arv Z h xe xn (.object sO) (17 : Int32) [.null, .null, .null, .null, .null, .null, .null, .null, .null, .null, .null, .null, .null, .null, .null, .null, .ref sg] .null ∧ Ovr Z xn sO ∧ h0.size ≤ xo ∧ h0.size ≤ xb ∧ h0.size ≤ xq ∧ h0.size ≤ xe
theorem rmXI (l : Launch) (Z : State) (a0 : Array Value) (hw : HWd a0 Z) (ws : List Jvm.Cond) (dc sg at1 : Addr) (cs : Int32) (ub : Addr) (ku : ClassId) (nc : Int32) (ka : ClassId) (h0 : Heap) (n0 : Nat) (Z0 : n0 ≤ h0.size) (P0 : Exa Z h0 dc sX) (P1 : Fld Z h0 dc sX "xml" sLB .null) (P2 : Fld Z h0 dc sX "open" sLD .null) (P3 : Exa Z h0 sg sS) (P4 : Fld Z h0 sg sS "value" "[B" (.ref ub)) (P5 : Fld Z h0 sg sS "coder" "B" (.int 0)) (P6 : Arv Z h0 ub ku .byte (Int32.ofNat [nc].length) (own_iv [nc]) (.int 0)) (P7 : Arv Z h0 at1 ka (.object sS) (0 : Int32) [] .null) (P8 : Sta Z h0 sS sC "Z" (.int cs)) (hcs : ¬ cs = (0 : Int32)) (g_dc : n0 ≤ dc) :
    own_MetW l Y_57 (Jvm.Cond.code Y_57 prog_33_method_1_code 4 none :: ws) (RM 9 12 325 129) #[.ref dc, .ref sg, .null, .ref at1] Z h0 (QXI Z dc sg at1 cs ub ku nc ka h0 n0) := by
  refine own_bSW pn_6 rfl D_6 (fun m => ef_XI m dc sg at1) hw fun p e s m below meth c sZ Bd hx hby hml hown hnm hh hZ X0 e0 w H pre0 hC0 hC hS hk => ?_
  have N0 := Fr.nil n0
  have K0 := Keep.refl h0 [dc]
  obtain ⟨T1, X1, e1, st1⟩ := initO X0 hx hZ hown (w 34 rfl) (w 23 rfl) (w 24 rfl) e0 (g := (mkF m 1 #[vR dc, vR sg, .val .null, vR at1] [.ref dc])) rfl (by rw [hml]; rfl) rfl (H 1 rfl) (by decide) (W := 0) (lq rfl) (by decide)
  obtain ⟨T2, h2, X2, e2, E2, A2, D2, -, st2⟩ := newO X1 hx hZ hown (w 35 rfl) (w 36 rfl) (w 37 rfl) e1 (g := (mkF m 5 #[vR dc, vR sg, .val .null, vR at1] [.ref dc])) rfl (H 3 rfl) (by decide) (by decide)
  obtain ⟨b2, g2⟩ : ∃ z, z = h0.size := ⟨_, rfl⟩
  rw [← g2] at A2 D2 st2
  have hC := hC.trans (CHr.ext E2 hC.1)
  have hk := Nat.le_trans hk E2.1
  have g_b2 : n0 ≤ b2 := Nat.le_trans Z0 (Nat.le_of_eq g2.symm)
  have sz_b2 : h0.size ≤ b2 := Nat.le_trans K0.1 (Nat.le_of_eq g2.symm)
  have ne3 : dc ≠ b2 := Nat.ne_of_lt (Nat.lt_of_lt_of_le P0.lt (Nat.le_of_eq g2.symm))
  have ne4 : sg ≠ b2 := Nat.ne_of_lt (Nat.lt_of_lt_of_le P3.lt (Nat.le_of_eq g2.symm))
  have ne5 : ub ≠ b2 := Nat.ne_of_lt (Nat.lt_of_lt_of_le P6.lt (Nat.le_of_eq g2.symm))
  have ne6 : at1 ≠ b2 := Nat.ne_of_lt (Nat.lt_of_lt_of_le P7.lt (Nat.le_of_eq g2.symm))
  have f7 := P0.ext E2
  have f15 := P8.ext E2
  have K2 := K0.ext E2
  have Z2 : n0 ≤ h2.size := Nat.le_trans Z0 E2.1
  have f16 : Fld Z h2 b2 "java/lang/AbstractStringBuilder" "value" "[B" .null := D2 (Or.inl (w 50 rfl)) (ty := (.array .byte)) (by decide)
  have f17 : Fld Z h2 b2 "java/lang/AbstractStringBuilder" "coder" "B" (.int 0) := D2 (Or.inl (w 52 rfl)) (ty := .byte) (by decide)
  have f18 : Fld Z h2 b2 "java/lang/AbstractStringBuilder" "count" "I" (.int 0) := D2 (Or.inl (w 98 rfl)) (ty := .int) (by decide)
  obtain ⟨_, T19, lo19, Lc19, X19, N19, hQ19, st19⟩ := own_af (QBI Z b2 cs h2 n0) 1 1 4 16 2 20 (X2.specialBack hx (y := Y_5) rfl hown (mvT hZ (w 38 rfl)) (mvT hZ (w 39 rfl)) (mvT hZ (w 40 rfl)) (by decide) (backOf (W := 2) (rmBI l Z a0 hw [] b2 cs h2 n0 Z2 A2 f16 f17 f18 f15 hcs g_b2) hZ (w 40 rfl) (w 37 rfl) (by decide) (by decide)) (g := (mkF m 9 #[vR dc, vR sg, .val .null, vR at1] [.ref b2, .ref b2, .ref dc])) rfl (by rw [hml]; rfl) (Steps.refl _) (a := b2) (argsL := []) (rest := [.ref b2, .ref dc]) (lenOf pd_4 rfl) rfl (lq rfl) (H 5 rfl) (fun _ _ => ⟨rfl, e2, (by decide : 1 + 1 ≤ _), (by decide : 4 + 16 ≤ _)⟩)) N0 (by rintro _ _ _ ⟨_, _, -, N, -⟩; exact N) rfl rfl
  dsimp only at st19
  obtain ⟨x19_0, x19_1, rfl, N19q, r19_0, r19_1, r19_2, r19_3, r19_4, r19_5⟩ := hQ19
  have hC := hC.trans (CHr.keep r19_0 (sfS (Safe.exa hZ.alike A2 (by decide) (by decide)) sf0) hC.1)
  have hk := Nat.le_trans hk r19_0.1
  have f21 := f7.keep r19_0
  have f22 := (P1.ext E2).keep r19_0 (ninS ne3 nin0)
  have f24 := (P3.ext E2).keep r19_0
  have f27 := (P6.ext E2).keep r19_0 (ninS ne5 nin0)
  have f28 := (P7.ext E2).keep r19_0 (ninS ne6 nin0)
  have K19 := K2.trans r19_0 (allS (Or.inr sz_b2) all0)
  have Z19 : n0 ≤ T19.heap.size := Nat.le_trans Z2 r19_0.1
  obtain ⟨T30, h30, X30, e30, W30, st30⟩ := putF X19 hx hZ hown (host := "") (Or.inl (w 53 rfl)) Via.refl rfl f22 f21 (Or.inr ⟨(w 54 rfl), rfl, hnm⟩) (w 1 rfl) (ty := (.object "java/lang/StringBuilder")) (by decide) rfl rfl (g := (mkF m 12 #[vR dc, vR sg, .val .null, vR at1] [.ref b2, .ref dc])) rfl rfl (H 6 rfl)
  have hC := hC.trans (CHr.wr W30 (Safe.exa hZ.alike f21 (by decide) (by decide)) hC.1)
  have hk := Nat.le_trans hk (Keep.of_wr W30).1
  have f32 := f21.wr W30
  have f34 := f24.wr W30
  have ne35 : sg ≠ dc := Exa.ne f24 f21 (by decide)
  have ne38 : ub ≠ dc := Ne.symm (Exa.neArv f21 f27 (w 1 rfl))
  have f39 := f27.other W30 ne38
  have ne40 : at1 ≠ dc := Ne.symm (Exa.neArv f21 f28 (w 1 rfl))
  have f41 := f28.other W30 ne40
  have f42 := (A2.keep r19_0).wr W30
  have ne47 : dc ≠ x19_0 := Nat.ne_of_lt (Nat.lt_of_lt_of_le f7.lt r19_1)
  have f48 := r19_5.other W30 (Ne.symm ne47)
  have K30 := K19.wr W30 (own_m 0 rfl)
  have N30 := Fr.snoc X30 N19 g_dc
  have Z30 : n0 ≤ h30.size := Nat.le_trans Z19 (Keep.of_wr W30).1
  obtain ⟨T49, h49, X49, e49, E49, A49, D49, -, st49⟩ := newO X30 hx hZ hown (w 55 rfl) (w 56 rfl) (w 57 rfl) e30 (g := (mkF m 16 #[vR dc, vR sg, .val .null, vR at1] [.ref dc])) rfl (H 8 rfl) (by decide) (by decide)
  obtain ⟨b49, g49⟩ : ∃ z, z = h30.size := ⟨_, rfl⟩
  rw [← g49] at A49 D49 st49
  have hC := hC.trans (CHr.ext E49 hC.1)
  have hk := Nat.le_trans hk E49.1
  have g_b49 : n0 ≤ b49 := Nat.le_trans Z30 (Nat.le_of_eq g49.symm)
  have sz_b49 : h0.size ≤ b49 := Nat.le_trans K30.1 (Nat.le_of_eq g49.symm)
  have ne50 : dc ≠ b49 := Nat.ne_of_lt (Nat.lt_of_lt_of_le f32.lt (Nat.le_of_eq g49.symm))
  have ne51 : sg ≠ b49 := Nat.ne_of_lt (Nat.lt_of_lt_of_le f34.lt (Nat.le_of_eq g49.symm))
  have ne52 : ub ≠ b49 := Nat.ne_of_lt (Nat.lt_of_lt_of_le f39.lt (Nat.le_of_eq g49.symm))
  have ne53 : at1 ≠ b49 := Nat.ne_of_lt (Nat.lt_of_lt_of_le f41.lt (Nat.le_of_eq g49.symm))
  have ne54 : b2 ≠ b49 := Nat.ne_of_lt (Nat.lt_of_lt_of_le f42.lt (Nat.le_of_eq g49.symm))
  have ne55 : x19_0 ≠ b49 := Nat.ne_of_lt (Nat.lt_of_lt_of_le f48.lt (Nat.le_of_eq g49.symm))
  have f56 := f32.ext E49
  have f64 := f42.ext E49
  have f65 := ((own_sta f15 r19_0 (nsS A2.nostat ns0)).wr W30).ext E49
  have K49 := K30.ext E49
  have Z49 : n0 ≤ h49.size := Nat.le_trans Z30 E49.1
  have f70 : Fld Z h49 b49 "java/util/ArrayDeque" "elements" "[Ljava/lang/Object;" .null := D49 (Or.inl (w 71 rfl)) (ty := (.array (.object "java/lang/Object"))) (by decide)
  have f71 : Fld Z h49 b49 "java/util/ArrayDeque" "tail" "I" (.int 0) := D49 (Or.inl (w 186 rfl)) (ty := .int) (by decide)
  have f72 : Fld Z h49 b49 "java/util/ArrayDeque" "head" "I" (.int 0) := D49 (Or.inl (w 188 rfl)) (ty := .int) (by decide)
  obtain ⟨_, T73, lo73, Lc73, X73, N73, hQ73, st73⟩ := own_af (QDI Z b49 h49 n0) 3 1 23 17 4 40 (X49.specialBack hx (y := Y_7) rfl hown (mvT hZ (w 58 rfl)) (mvT hZ (w 59 rfl)) (mvT hZ (w 60 rfl)) (by decide) (backOf (W := 2) (rmDI l Z a0 hw [] b49 h49 n0 Z49 A49 f70 f72 f71 g_b49) hZ (w 60 rfl) (w 57 rfl) (by decide) (by decide)) (g := (mkF m 20 #[vR dc, vR sg, .val .null, vR at1] [.ref b49, .ref b49, .ref dc])) rfl (by rw [hml]; rfl) (Steps.refl _) (a := b49) (argsL := []) (rest := [.ref b49, .ref dc]) (lenOf pd_4 rfl) rfl (lq rfl) (H 10 rfl) (fun _ _ => ⟨rfl, e49, (by decide : 3 + 1 ≤ _), (by decide : 23 + 17 ≤ _)⟩)) N30 (by rintro _ _ _ ⟨_, _, -, N, -⟩; exact N) rfl rfl
  dsimp only at st73
  obtain ⟨x73_0, x73_1, rfl, N73q, r73_0, r73_1, r73_2, r73_3, r73_4, r73_5, r73_6⟩ := hQ73
  have hC := hC.trans (CHr.keep r73_0 (sfS (Safe.exa hZ.alike A49 (by decide) (by decide)) sf0) hC.1)
  have hk := Nat.le_trans hk r73_0.1
  have g_x73_0 : n0 ≤ x73_0 := Nat.le_trans Z49 r73_1
  have sz_x73_0 : h0.size ≤ x73_0 := Nat.le_trans K49.1 r73_1
  have f75 := f56.keep r73_0
  have f77 := ((((P2.ext E2).keep r19_0 (ninS ne3 nin0)).other W30 (Or.inr (slot_ne (Or.inr (w 73 rfl)) (Or.inr (w 54 rfl)) (by decide) (t := (.object "java/util/Deque")) (t' := (.object "java/lang/StringBuilder")) (by decide) (by decide)))).ext E49).keep r73_0 (ninS ne50 nin0)
  have K73 := K49.trans r73_0 (allS (Or.inr sz_b49) all0)
  have Z73 : n0 ≤ T73.heap.size := Nat.le_trans Z49 r73_0.1
  obtain ⟨T89, h89, X89, e89, W89, st89⟩ := putF X73 hx hZ hown (host := "") (Or.inl (w 72 rfl)) Via.refl rfl f77 f75 (Or.inr ⟨(w 73 rfl), rfl, hnm⟩) (w 1 rfl) (ty := (.object "java/util/Deque")) (by decide) rfl rfl (g := (mkF m 23 #[vR dc, vR sg, .val .null, vR at1] [.ref b49, .ref dc])) rfl rfl (H 11 rfl)
  have hC := hC.trans (CHr.wr W89 (Safe.exa hZ.alike f75 (by decide) (by decide)) hC.1)
  have hk := Nat.le_trans hk (Keep.of_wr W89).1
  have f92 := (((f22.same W30).ext E49).keep r73_0 (ninS ne50 nin0)).other W89 (Or.inr (slot_ne (Or.inr (w 54 rfl)) (Or.inr (w 73 rfl)) (by decide) (t := (.object "java/lang/StringBuilder")) (t' := (.object "java/util/Deque")) (by decide) (by decide)))
  have ne108 : dc ≠ x73_0 := Nat.ne_of_lt (Nat.lt_of_lt_of_le f56.lt r73_1)
  have K89 := K73.wr W89 (own_m 0 rfl)
  have N89 := Fr.snoc X89 N73 g_dc
  have Z89 : n0 ≤ h89.size := Nat.le_trans Z73 (Keep.of_wr W89).1
  obtain ⟨T110, X110, e110, st110⟩ := getF X89 hx hZ hown (host := "") (Or.inl (w 53 rfl)) Via.refl e89 f92 (g := (mkF m 27 #[vR dc, vR sg, .val .null, vR at1] [.ref dc])) rfl rfl (H 13 rfl)
  have ch111 : Goes p e below sZ (entryFrame m #[.ref dc, .ref sg, .null, .ref at1] 4) T110 (mkF m 30 #[vR dc, vR sg, .val .null, vR at1] [.ref b2]) := fun t kt => pre0 t (by
    show SG X0 0 #[vR dc, vR sg, .val .null, vR at1] [] _
    refine XS.aloadN X0.here hx rfl (H 0 rfl) rfl rfl ?_
    refine st1 _ ?_
    show SG X1 4 #[vR dc, vR sg, .val .null, vR at1] [] _
    refine XS.aloadN X1.here hx rfl (H 2 rfl) rfl rfl ?_
    refine st2 _ ?_
    show SG X2 8 #[vR dc, vR sg, .val .null, vR at1] [.ref b2, .ref dc] _
    refine XS.dup X2.here hx rfl (H 4 rfl) rfl rfl ?_
    refine st19.trans ?_
    show SG X19 12 #[vR dc, vR sg, .val .null, vR at1] [.ref b2, .ref dc] _
    refine st30 _ ?_
    show SG X30 15 #[vR dc, vR sg, .val .null, vR at1] [] _
    refine XS.aloadN X30.here hx rfl (H 7 rfl) rfl rfl ?_
    refine st49 _ ?_
    show SG X49 19 #[vR dc, vR sg, .val .null, vR at1] [.ref b49, .ref dc] _
    refine XS.dup X49.here hx rfl (H 9 rfl) rfl rfl ?_
    refine st73.trans ?_
    show SG X73 23 #[vR dc, vR sg, .val .null, vR at1] [.ref b49, .ref dc] _
    refine st89 _ ?_
    show SG X89 26 #[vR dc, vR sg, .val .null, vR at1] [] _
    refine XS.aloadN X89.here hx rfl (H 12 rfl) rfl rfl ?_
    refine st110 _ ?_
    show SG X110 30 #[vR dc, vR sg, .val .null, vR at1] [.ref b2] _
    exact kt)
  obtain ⟨a112, T112, h112, kk112, b112, kc112, X112, e112, E112, hS, hk, hZ, hown, A112, B112, C112, V112, -, -, hCn, -, -, st112⟩ := ldcCH X110 hx hZ hown (w 74 rfl) (own_wS hw) e110 hS hk (own_EW hw) (List.mem_of_getElem? (i := 0) rfl) hC.1 (vs := own_iv own_hdr) (z := Int32.ofNat own_hdr.length) own_lit0 (by decide) (by decide) (g := (mkF m 30 #[vR dc, vR sg, .val .null, vR at1] [.ref b2])) rfl (H 14 rfl) (n := 152) (by decide) (by decide) (by decide) (by decide)
  have hC := hC.trans hCn
  have f121 := ((f64.keep r73_0).wr W89).ext E112
  have f122 := ((((r19_2.other W30 (Or.inl (Ne.symm ne3))).ext E49).keep r73_0 (ninS ne54 nin0)).other W89 (Or.inl (Ne.symm ne3))).ext E112
  have f123 := ((((r19_3.other W30 (Or.inl (Ne.symm ne3))).ext E49).keep r73_0 (ninS ne54 nin0)).other W89 (Or.inl (Ne.symm ne3))).ext E112
  have f124 := ((((r19_4.other W30 (Or.inl (Ne.symm ne3))).ext E49).keep r73_0 (ninS ne54 nin0)).other W89 (Or.inl (Ne.symm ne3))).ext E112
  have f125 := (((f48.ext E49).keep r73_0 (ninS ne55 nin0)).other W89 (Ne.symm ne47)).ext E112
  have f127 := ((own_sta f65 r73_0 (nsS A49.nostat ns0)).wr W89).ext E112
  have K112 := K89.ext E112
  have Z112 : n0 ≤ h112.size := Nat.le_trans Z89 E112.1
  obtain ⟨cq132, kq132, q132a, q132b, q132c⟩ := isOf hZ e112 f121
  obtain ⟨_, T132, lo132, Lc132, X132, N132, hQ132, st132⟩ := own_af (QPB1 Z b2 a112 x19_0 x19_1 b112 kc112 cs h112 n0) 6 1 196 38 7 234 (X112.virtualBack hx (y := Y_20) (z := Y_20) hown (mvT hZ (w 77 rfl)) (mvT hZ (w 78 rfl)) (own_ns hZ (w 80 rfl)) (mvT hZ (w 80 rfl)) (mvT hZ (w 79 rfl)) (by decide) (backOf (W := 0) (rmPB1 l Z a0 hw [] b2 a112 x19_0 x19_1 b112 kc112 cs h112 n0 Z112 f121 f122 f123 f124 f125 A112 C112 B112 V112 f127 hcs g_b2) hZ (w 81 rfl) (w 37 rfl) (by decide) (by decide)) q132a q132c (g := (mkF m 32 #[vR dc, vR sg, .val .null, vR at1] [.ref a112, .ref b2])) rfl (by rw [hml]; rfl) (Steps.refl _) (argsL := [.ref a112]) (rest := []) (lenOf pd_7 rfl) rfl (lq rfl) (H 15 rfl) (fun _ _ => ⟨rfl, e112, (by decide : 6 + 1 ≤ _), (by decide : 196 + 38 ≤ _)⟩)) N89 (by rintro _ _ _ ⟨_, _, -, N, -⟩; exact N) rfl rfl
  dsimp only at st132
  obtain ⟨x132_0, x132_1, rfl, N132q, r132_0, r132_1, r132_2, r132_3, r132_4, r132_5⟩ := hQ132
  have hC := hC.trans (CHr.keep r132_0 (sfS (Safe.exa hZ.alike f121 (by decide) (by decide)) sf0) hC.1)
  have hk := Nat.le_trans hk r132_0.1
  have f133 := own_sta f127 r132_0 (nsS f121.nostat ns0)
  have f134 := ((f75.wr W89).ext E112).keep r132_0
  have f135 := (f92.ext E112).keep r132_0 (ninS ne3 nin0)
  have f136 := ((f77.same W89).ext E112).keep r132_0 (ninS ne3 nin0)
  have f137 := ((((f34.ext E49).keep r73_0).wr W89).ext E112).keep r132_0
  have f138 := (((((((P4.ext E2).keep r19_0 (ninS ne4 nin0)).other W30 (Or.inl ne35)).ext E49).keep r73_0 (ninS ne51 nin0)).other W89 (Or.inl ne35)).ext E112).keep r132_0 (ninS ne4 nin0)
  have f139 := (((((((P5.ext E2).keep r19_0 (ninS ne4 nin0)).other W30 (Or.inl ne35)).ext E49).keep r73_0 (ninS ne51 nin0)).other W89 (Or.inl ne35)).ext E112).keep r132_0 (ninS ne4 nin0)
  have f140 := ((((f39.ext E49).keep r73_0 (ninS ne52 nin0)).other W89 ne38).ext E112).keep r132_0 (ninS ne5 nin0)
  have f141 := ((((f41.ext E49).keep r73_0 (ninS ne53 nin0)).other W89 ne40).ext E112).keep r132_0 (ninS ne6 nin0)
  have f142 := f121.keep r132_0
  have f145 := (((A49.keep r73_0).wr W89).ext E112).keep r132_0
  have f146 := ((r73_2.other W89 (Or.inl (Ne.symm ne50))).ext E112).keep r132_0 (ninS (Ne.symm ne54) nin0)
  have f147 := ((r73_3.other W89 (Or.inl (Ne.symm ne50))).ext E112).keep r132_0 (ninS (Ne.symm ne54) nin0)
  have f148 := ((r73_4.other W89 (Or.inl (Ne.symm ne50))).ext E112).keep r132_0 (ninS (Ne.symm ne54) nin0)
  have ne149 : b2 ≠ x73_0 := Nat.ne_of_lt (Nat.lt_of_lt_of_le f64.lt r73_1)
  have f150 := ((r73_5.other W89 (Ne.symm ne108)).ext E112).keep r132_0 (ninS (Ne.symm ne149) nin0)
  have K132 := K112.trans r132_0 (allS (Or.inr sz_b2) all0)
  have Z132 : n0 ≤ T132.heap.size := Nat.le_trans Z112 r132_0.1
  have ch157 : Goes p e below sZ (entryFrame m #[.ref dc, .ref sg, .null, .ref at1] 4) T132 (mkF m 71 #[vR dc, vR sg, .val .null, vR at1] [.ref at1, .ref sg, .ref dc]) := fun t kt => ch111 t (by
    show SG X110 30 #[vR dc, vR sg, .val .null, vR at1] [.ref b2] _
    refine st112 _ ?_
    show SG X112 32 #[vR dc, vR sg, .val .null, vR at1] [.ref a112, .ref b2] _
    refine st132.trans ?_
    show SG X132 35 #[vR dc, vR sg, .val .null, vR at1] [.ref b2] _
    refine XS.pop X132.here hx rfl (H 16 rfl) rfl rfl ?_
    refine XS.aloadN X132.here hx rfl (H 17 rfl) rfl rfl ?_
    refine XS.ifnullYes X132.here hx rfl (pc0 := 37) (pc' := 68) rfl (H 18 rfl) rfl (by decide) (by decide) ?_
    refine XS.aloadN X132.here hx rfl (H 19 rfl) rfl rfl ?_
    refine XS.aloadN X132.here hx rfl (H 20 rfl) rfl rfl ?_
    refine XS.aloadN X132.here hx rfl (H 21 rfl) rfl rfl ?_
    exact kt)
  obtain ⟨cq158, kq158, q158a, q158b, q158c⟩ := isOf hZ rfl f134
  obtain ⟨_, T158, lo158, Lc158, h158, kk158, X158, e158, hS, hk, hZ, hown, N158, hQ158, hCn, st158⟩ := own_afW (QSR0G Z dc sg at1 b2 b49 x132_0 x132_1 own_hdr x73_0 x73_1 cs ub ku nc ka T132.heap n0) 7 5 234 91 12 325 (X132.virtualBackS hx (y := Y_55) (z := Y_55) hown (mvT hZ (w 147 rfl)) (mvT hZ (w 148 rfl)) (own_ns hZ (w 150 rfl)) (mvT hZ (w 150 rfl)) (mvT hZ (w 149 rfl)) (by decide) (backOfSH (W := 0) (rmSR0G l Z a0 hw [] dc sg at1 b2 b49 x132_0 x132_1 own_hdr x73_0 x73_1 cs ub ku nc ka T132.heap n0 Z132 f134 f135 f136 f142 r132_3 r132_4 r132_2 r132_5 f145 f146 f147 f148 f150 r73_6 f133 f137 f138 f139 f140 f141 hcs rfl g_b2 g_b49 g_x73_0) hZ (w 151 rfl) (w 2 rfl) (by decide) (by decide) (own_EW hw) hC.1) q158a q158c (g := (mkF m 71 #[vR dc, vR sg, .val .null, vR at1] [.ref at1, .ref sg, .ref dc])) rfl (by rw [hml]; rfl) (Steps.refl _) (argsL := [.ref sg, .ref at1]) (rest := []) (lenOf pd_19 rfl) rfl (lq rfl) (H 22 rfl) (fun _ _ => ⟨rfl, rfl, (by decide : 7 + 5 ≤ _), (by decide : 234 + 91 ≤ _)⟩)) hS rfl hk hZ hown N132 (by rintro _ _ _ ⟨_, _, -, N, -⟩; exact N) rfl rfl
  dsimp only at st158
  obtain ⟨x158_0, x158_1, rfl, N158q, r158_0, r158_1, r158_2, r158_3, r158_4, r158_5, r158_6, r158_7, r158_8, r158_9⟩ := hQ158
  have hC := hC.trans hCn
  have sz_x158_0 : h0.size ≤ x158_0 := Nat.le_trans K132.1 r158_1
  have f161 := f135.keep r158_0 (ninS ne3 (ninS ne50 (ninS ne108 nin0)))
  have f162 := f136.keep r158_0 (ninS ne3 (ninS ne50 (ninS ne108 nin0)))
  have f171 := f142.keep r158_0
  have f174 := f145.keep r158_0
  have K158 := K132.trans r158_0 (allS (Or.inr sz_b2) (allS (Or.inr sz_b49) (allS (Or.inr sz_x73_0) all0)))
  obtain ⟨fs, hr, hrun, hended, hW⟩ := X158.leaveW (v := none) hS (by rw [e158]; exact hk) (fun _ => rfl)
  refine ⟨_, _, ch157 _ ?_, hrun, hended, _, _, rfl, ?_, ?_, ⟨hW.1, hW.2.1, hW.2.2.1, hW.2.2.2.mono (by decide) (by decide)⟩⟩
  · show SG X132 71 #[vR dc, vR sg, .val .null, vR at1] [.ref at1, .ref sg, .ref dc] _
    refine st158.trans ?_
    show SG X158 74 #[vR dc, vR sg, .val .null, vR at1] [.ref dc] _
    refine XS.pop X158.here hx rfl (H 23 rfl) rfl rfl ?_
    exact X158.returnOut hx Bd.returns (H 24 rfl) hr
  · show QXI Z dc sg at1 cs ub ku nc ka h0 n0 _ T158.heap _
    rw [e158]
    exact ⟨b2, x158_0, x158_1, b49, x73_0, x73_1, rfl, N158, K158, f161, f162, f171, r158_2, r158_3, r158_4, r158_5, f174, r158_6, r158_7, r158_8, r158_9, r73_6, sz_b2, sz_x158_0, sz_b49, sz_x73_0⟩
  · show CHr Z consts_1 s.vm s.heap T158.vm T158.heap
    rw [hh, e158]
    exact hC.trans (CHv.at X158 hZ (own_EW hw) hC.1)

theorem pn_37 : plainName "com/example/cartolog/cartolog/xml/XmlDocument" = true := by first | (simp [plainName, overriddenIn]; done) | decide +kernel
theorem ef_EN3 (m : MethodId) (dc : Addr) : entryFrame m #[.ref dc] 2 = mkF m 0 #[.val (.ref dc), .unset] [] := by simp [entryFrame, mkF, argsToLocals, Value.category]
def QEN3 (Z : State) (dc ob : Addr) (dq bb : Addr) (kb : ClassId) (bs : List Int32) (el : Addr) (ke : ClassId) (y1 y2 y3 : Addr) (cs : Int32) (ub : Addr) (ku : ClassId) (nc : Int32) (h0 : Heap) (n0 : Nat) (v : Option Value) (h : Heap) (L : List Loc) : Prop := v = some (.ref dc) ∧ Fr n0 L ∧ Keep h0 h [ob, bb, dq, el] ∧ Fld Z h ob sA "value" "[B" (.ref bb) ∧ Fld Z h ob sA "coder" "B" (.int 0) ∧ Fld Z h ob sA "count" "I" (.int (Int32.ofNat (((((bs ++ [own_c10]) ++ [(9 : Int32), (9 : Int32)]) ++ [(60 : Int32), (47 : Int32)]) ++ [nc]) ++ [own_c62]).length)) ∧ Arv Z h bb kb .byte (78 : Int32) (own_iv (((((bs ++ [own_c10]) ++ [(9 : Int32), (9 : Int32)]) ++ [(60 : Int32), (47 : Int32)]) ++ [nc]) ++ [own_c62])) (.int 0) ∧ Fld Z h dq sD "elements" sLO (.ref el) ∧ Fld Z h dq sD "head" "I" (.int 15) ∧ Fld Z h dq sD "tail" "I" (.int 0) ∧ Arv Z h el ke (.object sO) (17 : Int32) [.null, .null, .null, .null, .null, .null, .null, .null, .null, .null, .null, .null, .null, .null, .null, .ref y2, .ref y1] .null
theorem rmEN3 (l : Launch) (Z : State) (a0 : Array Value) (hw : HWd a0 Z) (ws : List Jvm.Cond) (dc ob : Addr) (dq bb : Addr) (kb : ClassId) (bs : List Int32) (el : Addr) (ke : ClassId) (y1 y2 y3 : Addr) (cs : Int32) (ub : Addr) (ku : ClassId) (nc : Int32) (h0 : Heap) (n0 : Nat) (Z0 : n0 ≤ h0.size) (P0 : Exa Z h0 dc sX) (P1 : Fld Z h0 dc sX "xml" sLB (.ref ob)) (P2 : Fld Z h0 dc sX "open" sLD (.ref dq)) (P3 : Exa Z h0 ob sB) (P4 : Fld Z h0 ob sA "value" "[B" (.ref bb)) (P5 : Fld Z h0 ob sA "coder" "B" (.int 0)) (P6 : Fld Z h0 ob sA "count" "I" (.int (Int32.ofNat bs.length))) (P7 : Arv Z h0 bb kb .byte (78 : Int32) (own_iv bs) (.int 0)) (P8 : Exa Z h0 dq sD) (P9 : Fld Z h0 dq sD "elements" sLO (.ref el)) (P10 : Fld Z h0 dq sD "head" "I" (.int 14)) (P11 : Fld Z h0 dq sD "tail" "I" (.int 0)) (P12 : Arv Z h0 el ke (.object sO) (17 : Int32) [.null, .null, .null, .null, .null, .null, .null, .null, .null, .null, .null, .null, .null, .null, .ref y3, .ref y2, .ref y1] .null) (P13 : Ovr Z ke sO) (P14 : Sta Z h0 sS sC "Z" (.int cs)) (P15 : Exa Z h0 y3 sS) (P16 : Fld Z h0 y3 sS "value" "[B" (.ref ub)) (P17 : Fld Z h0 y3 sS "coder" "B" (.int 0)) (P18 : Arv Z h0 ub ku .byte (Int32.ofNat [nc].length) (own_iv [nc]) (.int 0)) (hcs : ¬ cs = (0 : Int32)) (hN : bs.length + 7 ≤ 78) (g_ob : n0 ≤ ob) (g_bb : n0 ≤ bb) (g_dq : n0 ≤ dq) (g_el : n0 ≤ el) :
    own_MetW l Y_58 (Jvm.Cond.code Y_58 prog_33_method_3_code 2 (some (.object "com/example/cartolog/cartolog/xml/XmlDocument")) :: ws) (RM 6 6 26 100) #[.ref dc] Z h0 (QEN3 Z dc ob dq bb kb bs el ke y1 y2 y3 cs ub ku nc h0 n0) := by
  refine own_bSW pn_37 rfl D_37 (fun m => ef_EN3 m dc) hw fun p e s m below meth c sZ Bd hx hby hml hown hnm hh hZ X0 e0 w H pre0 hC0 hC hS hk => ?_
  have N0 := Fr.nil n0
  have K0 := Keep.refl h0 [ob, bb, dq, el]
  obtain ⟨T1, X1, e1, st1⟩ := getF X0 hx hZ hown (host := "") (Or.inl (w 72 rfl)) Via.refl e0 P2 (g := (mkF m 1 #[vR dc, vU] [.ref dc])) rfl rfl (H 1 rfl)
  obtain ⟨cq2, kq2, q2a, q2b, q2c⟩ := isOf hZ e1 P8
  obtain ⟨_, T2, lo2, Lc2, X2, N2, hQ2, st2⟩ := own_af (QPO3 Z dq el ke y1 y2 y3 h0 n0) 0 0 0 0 0 0 (X1.interfaceBack hx (xi := Y_59) (y := Y_33) hown (mvT hZ (w 225 rfl)) (mvT hZ (w 226 rfl)) (mvT hZ (w 227 rfl)) (mvT hZ (w 228 rfl)) (mvT hZ (w 229 rfl)) (mvT hZ (w 230 rfl)) (mvT hZ (w 231 rfl)) (mvT hZ (w 183 rfl)) (by decide) (backOf (W := 0) (rmPO3 l Z a0 hw [] dq el ke y1 y2 y3 h0 n0 Z0 P8 P9 P10 P11 P12 P13 g_dq g_el) hZ (w 232 rfl) (w 57 rfl) (by decide) (by decide)) q2a q2b q2c (g := (mkF m 4 #[vR dc, vU] [.ref dq])) rfl (by rw [hml]; rfl) (Steps.refl _) (argsL := []) (rest := []) (lenOf pd_28 rfl) rfl (lq rfl) (H 2 rfl) (fun _ _ => ⟨rfl, e1, (by decide : 0 + 0 ≤ _), (by decide : 0 + 0 ≤ _)⟩)) N0 (fun _ _ _ h => h.2.1) rfl rfl
  dsimp only at st2
  obtain ⟨rfl, N2q, r2_0, r2_1, r2_2, r2_3, r2_4⟩ := hQ2
  have hC := hC.trans (CHr.keep r2_0 (sfS (Safe.exa hZ.alike P8 (by decide) (by decide)) (sfS (Safe.arv hZ.alike P12 (by decide)) sf0)) hC.1)
  have hk := Nat.le_trans hk r2_0.1
  have f3 := own_sta P14 r2_0 (nsS P8.nostat (nsS P12.nostat ns0))
  have f4 := P0.keep r2_0
  have ne5 : dc ≠ el := Exa.neArv P0 P12 (w 1 rfl)
  have ne6 : dc ≠ dq := Exa.ne P0 P8 (by decide)
  have f7 := P1.keep r2_0 (ninS ne6 (ninS ne5 nin0))
  have f8 := P2.keep r2_0 (ninS ne6 (ninS ne5 nin0))
  have f9 := P3.keep r2_0
  have ne10 : ob ≠ el := Exa.neArv P3 P12 (w 36 rfl)
  have ne11 : ob ≠ dq := Exa.ne P3 P8 (by decide)
  have f12 := P4.keep r2_0 (ninS ne11 (ninS ne10 nin0))
  have f13 := P5.keep r2_0 (ninS ne11 (ninS ne10 nin0))
  have f14 := P6.keep r2_0 (ninS ne11 (ninS ne10 nin0))
  have ne15 : bb ≠ el := own_tyne P7 P12 (by decide)
  have ne16 : bb ≠ dq := Ne.symm (Exa.neArv P8 P7 (w 56 rfl))
  have f17 := P7.keep r2_0 (ninS ne16 (ninS ne15 nin0))
  have f18 := P8.keep r2_0
  have f19 := P15.keep r2_0
  have ne20 : y3 ≠ el := Exa.neArv P15 P12 (w 13 rfl)
  have ne21 : y3 ≠ dq := Exa.ne P15 P8 (by decide)
  have ne24 : ub ≠ el := own_tyne P18 P12 (by decide)
  have ne25 : ub ≠ dq := Ne.symm (Exa.neArv P8 P18 (w 56 rfl))
  have f26 := P18.keep r2_0 (ninS ne25 (ninS ne24 nin0))
  have K2 := K0.trans r2_0 (allS (own_m 2 rfl) (allS (own_m 3 rfl) all0))
  have Z2 : n0 ≤ T2.heap.size := Nat.le_trans Z0 r2_0.1
  obtain ⟨T27, X27, e27, st27⟩ := castY X2 hx hZ hown (w 249 rfl) rfl (Ins.self f19) (g := (mkF m 9 #[vR dc, vU] [.ref y3])) rfl rfl (H 3 rfl)
  have ch28 : Goes p e below sZ (entryFrame m #[.ref dc] 2) T27 (mkF m 14 #[vR dc, vR y3] [.ref dc]) := fun t kt => pre0 t (by
    show SG X0 0 #[vR dc, vU] [] _
    refine XS.aloadN X0.here hx rfl (H 0 rfl) rfl rfl ?_
    refine st1 _ ?_
    show SG X1 4 #[vR dc, vU] [.ref dq] _
    refine st2.trans ?_
    show SG X2 9 #[vR dc, vU] [.ref y3] _
    refine st27 _ ?_
    show SG X27 12 #[vR dc, vU] [.ref y3] _
    refine XS.astoreN X27.here hx rfl (H 4 rfl) rfl rfl (l' := #[vR dc, vR y3]) rfl ?_
    refine XS.aloadN X27.here hx rfl (H 5 rfl) rfl rfl ?_
    exact kt)
  obtain ⟨cq29, q29, q29'⟩ := f4.cell
  obtain ⟨_, T29, lo29, Lc29, h29, kk29, X29, e29, hS, hk, hZ, hown, N29, hQ29, hCn, st29⟩ := own_afW (QNW2 Z dc ob dq bb kb bs el ke y1 y2 cs T2.heap n0) 0 4 0 14 4 14 (X27.privateBackS hx (y := Y_52) hown (mvT hZ (w 156 rfl)) (mvT hZ (w 157 rfl)) (own_selp (z := Y_55) (mvT hZ (w 150 rfl)) rfl (mvT hZ (w 157 rfl)) (Cond.privateMethod_at (mvP hZ (w 158 rfl) (args := #[]))) (by decide)) (Cond.privateMethod_at (mvP hZ (w 158 rfl) (args := #[]))) (mvT hZ (w 159 rfl)) (by decide) (backOfSH (W := 0) (rmNW2 l Z a0 hw [] dc ob dq bb kb bs el ke y1 y2 cs T2.heap n0 Z2 f4 f7 f8 f9 f12 f13 f14 f17 f18 r2_1 r2_2 r2_3 r2_4 P13 f3 hcs (Nat.le_trans (Nat.add_le_add_left (by decide : 3 ≤ 7) _) hN) g_ob g_bb) hZ (w 159 rfl) (w 2 rfl) (by decide) (by decide) (own_EW hw) hC.1) (g := (mkF m 14 #[vR dc, vR y3] [.ref dc])) rfl (by rw [hml]; rfl) (Steps.refl _) (a := dc) (by rw [e27]; exact q29) q29' (argsL := []) (rest := []) (lenOf pd_4 rfl) rfl (lq rfl) (H 6 rfl) (fun _ _ => ⟨rfl, e27, (by decide : 0 + 4 ≤ _), (by decide : 0 + 14 ≤ _)⟩)) hS e27 hk hZ hown N2 (fun _ _ _ h => h.2.1) rfl rfl
  dsimp only at st29
  obtain ⟨rfl, N29q, r29_0, r29_1, r29_2, r29_3, r29_4⟩ := hQ29
  have hC := hC.trans hCn
  have ne32 : dc ≠ bb := Exa.neArv f4 f17 (w 1 rfl)
  have ne33 : dc ≠ ob := Exa.ne f4 f9 (by decide)
  have f34 := f7.keep r29_0 (ninS ne33 (ninS ne32 nin0))
  have ne39 : y3 ≠ bb := Exa.neArv f19 f17 (w 13 rfl)
  have ne40 : y3 ≠ ob := Exa.ne f19 f9 (by decide)
  have ne43 : ub ≠ bb := arv_ne f26 f17 (Or.inl (own_lne (bl rfl : [nc].length + 1 ≤ 78)))
  have ne44 : ub ≠ ob := Ne.symm (Exa.neArv f9 f26 (w 36 rfl))
  have K29 := K2.trans r29_0 (allS (own_m 0 rfl) (allS (own_m 1 rfl) all0))
  have Z29 : n0 ≤ h29.size := Nat.le_trans Z2 r29_0.1
  obtain ⟨T50, X50, e50, st50⟩ := getF X29 hx hZ hown (host := "") (Or.inl (w 53 rfl)) Via.refl e29 f34 (g := (mkF m 18 #[vR dc, vR y3] [.ref dc])) rfl rfl (H 8 rfl)
  have ch51 : Goes p e below sZ (entryFrame m #[.ref dc] 2) T50 (mkF m 21 #[vR dc, vR y3] [.ref ob]) := fun t kt => ch28 t (by
    show SG X27 14 #[vR dc, vR y3] [.ref dc] _
    refine st29.trans ?_
    show SG X29 17 #[vR dc, vR y3] [] _
    refine XS.aloadN X29.here hx rfl (H 7 rfl) rfl rfl ?_
    refine st50 _ ?_
    show SG X50 21 #[vR dc, vR y3] [.ref ob] _
    exact kt)
  obtain ⟨a52, T52, h52, kk52, b52, kc52, X52, e52, E52, hS, hk, hZ, hown, A52, B52, C52, V52, -, -, hCn, -, -, st52⟩ := ldcCH X50 hx hZ hown (w 250 rfl) (own_wS hw) e50 hS hk (own_EW hw) (List.mem_of_getElem? (i := 1) rfl) hC.1 (vs := own_iv [(60 : Int32), (47 : Int32)]) (z := Int32.ofNat [(60 : Int32), (47 : Int32)].length) own_lit1 (by decide) (by decide) (g := (mkF m 21 #[vR dc, vR y3] [.ref ob])) rfl (H 9 rfl) (n := 8) (by decide) (by decide) (by decide) (by decide)
  have hC := hC.trans hCn
  have f56 := (f9.keep r29_0).ext E52
  have f66 := (own_sta f3 r29_0 (nsS f9.nostat (nsS f17.nostat ns0))).ext E52
  have f67 := r29_1.ext E52
  have f68 := r29_2.ext E52
  have f69 := r29_3.ext E52
  have f70 := r29_4.ext E52
  have K52 := K29.ext E52
  have Z52 : n0 ≤ h52.size := Nat.le_trans Z29 E52.1
  obtain ⟨cq71, kq71, q71a, q71b, q71c⟩ := isOf hZ e52 f56
  obtain ⟨_, T71, lo71, Lc71, X71, N71, hQ71, st71⟩ := own_af (QPB Z ob a52 bb kb ((bs ++ [own_c10]) ++ [(9 : Int32), (9 : Int32)]) b52 kc52 [(60 : Int32), (47 : Int32)] cs h52 n0) 6 0 26 0 6 26 (X52.virtualBack hx (y := Y_20) (z := Y_20) hown (mvT hZ (w 77 rfl)) (mvT hZ (w 78 rfl)) (own_ns hZ (w 80 rfl)) (mvT hZ (w 80 rfl)) (mvT hZ (w 79 rfl)) (by decide) (backOf (W := 0) (rmPB l Z a0 hw [] ob a52 bb kb ((bs ++ [own_c10]) ++ [(9 : Int32), (9 : Int32)]) b52 kc52 [(60 : Int32), (47 : Int32)] cs h52 n0 Z52 f56 f67 f68 f69 f70 A52 C52 B52 V52 f66 hcs (own_len (us := [(60 : Int32), (47 : Int32)]) (m := 0) (own_len (us := [(9 : Int32), (9 : Int32)]) (m := 2) (own_len (us := [own_c10]) (m := 4) (Nat.le_trans (Nat.add_le_add_left (by decide : 5 ≤ 7) _) hN) (bl rfl)) (bl rfl)) (bl rfl)) (bl rfl : [(60 : Int32), (47 : Int32)].length + 1 ≤ 78) g_ob g_bb) hZ (w 81 rfl) (w 37 rfl) (by decide) (by decide)) q71a q71c (g := (mkF m 23 #[vR dc, vR y3] [.ref a52, .ref ob])) rfl (by rw [hml]; rfl) (Steps.refl _) (argsL := [.ref a52]) (rest := []) (lenOf pd_7 rfl) rfl (lq rfl) (H 10 rfl) (fun _ _ => ⟨rfl, e52, (by decide : 6 + 0 ≤ _), (by decide : 26 + 0 ≤ _)⟩)) N29 (fun _ _ _ h => h.2.1) rfl rfl
  dsimp only at st71
  obtain ⟨rfl, N71q, r71_0, r71_1, r71_2, r71_3, r71_4⟩ := hQ71
  have hC := hC.trans (CHr.keep r71_0 (sfS (Safe.exa hZ.alike f56 (by decide) (by decide)) (sfS (own_safe hw hZ f70) sf0)) hC.1)
  have hk := Nat.le_trans hk r71_0.1
  have f72 := own_sta f66 r71_0 (nsS f56.nostat (nsS f70.nostat ns0))
  have f76 := f56.keep r71_0
  have f78 := ((f19.keep r29_0).ext E52).keep r71_0
  have f79 := (((P16.keep r2_0 (ninS ne21 (ninS ne20 nin0))).keep r29_0 (ninS ne40 (ninS ne39 nin0))).ext E52).keep r71_0 (ninS ne40 (ninS ne39 nin0))
  have f80 := (((P17.keep r2_0 (ninS ne21 (ninS ne20 nin0))).keep r29_0 (ninS ne40 (ninS ne39 nin0))).ext E52).keep r71_0 (ninS ne40 (ninS ne39 nin0))
  have f81 := ((f26.keep r29_0 (ninS ne44 (ninS ne43 nin0))).ext E52).keep r71_0 (ninS ne44 (ninS ne43 nin0))
  have K71 := K52.trans r71_0 (allS (own_m 0 rfl) (allS (own_m 1 rfl) all0))
  have Z71 : n0 ≤ T71.heap.size := Nat.le_trans Z52 r71_0.1
  obtain ⟨cq94, kq94, q94a, q94b, q94c⟩ := isOf hZ rfl f76
  obtain ⟨_, T94, lo94, Lc94, X94, N94, hQ94, st94⟩ := own_af (QPB Z ob y3 bb kb (((bs ++ [own_c10]) ++ [(9 : Int32), (9 : Int32)]) ++ [(60 : Int32), (47 : Int32)]) ub ku [nc] cs T71.heap n0) 6 0 26 0 6 26 (X71.virtualBack hx (y := Y_20) (z := Y_20) hown (mvT hZ (w 77 rfl)) (mvT hZ (w 78 rfl)) (own_ns hZ (w 80 rfl)) (mvT hZ (w 80 rfl)) (mvT hZ (w 79 rfl)) (by decide) (backOf (W := 0) (rmPB l Z a0 hw [] ob y3 bb kb (((bs ++ [own_c10]) ++ [(9 : Int32), (9 : Int32)]) ++ [(60 : Int32), (47 : Int32)]) ub ku [nc] cs T71.heap n0 Z71 f76 r71_2 r71_3 r71_1 r71_4 f78 f79 f80 f81 f72 hcs (own_len (us := [nc]) (m := 0) (own_len (us := [(60 : Int32), (47 : Int32)]) (m := 1) (own_len (us := [(9 : Int32), (9 : Int32)]) (m := 3) (own_len (us := [own_c10]) (m := 5) (Nat.le_trans (Nat.add_le_add_left (by decide : 6 ≤ 7) _) hN) (bl rfl)) (bl rfl)) (bl rfl)) (bl rfl)) (bl rfl : [nc].length + 1 ≤ 78) g_ob g_bb) hZ (w 81 rfl) (w 37 rfl) (by decide) (by decide)) q94a q94c (g := (mkF m 27 #[vR dc, vR y3] [.ref y3, .ref ob])) rfl (by rw [hml]; rfl) (Steps.refl _) (argsL := [.ref y3]) (rest := []) (lenOf pd_7 rfl) rfl (lq rfl) (H 12 rfl) (fun _ _ => ⟨rfl, rfl, (by decide : 6 + 0 ≤ _), (by decide : 26 + 0 ≤ _)⟩)) N71 (fun _ _ _ h => h.2.1) rfl rfl
  dsimp only at st94
  obtain ⟨rfl, N94q, r94_0, r94_1, r94_2, r94_3, r94_4⟩ := hQ94
  have hC := hC.trans (CHr.keep r94_0 (sfS (Safe.exa hZ.alike f76 (by decide) (by decide)) (sfS (own_safe hw hZ r71_4) sf0)) hC.1)
  have hk := Nat.le_trans hk r94_0.1
  have f95 := own_sta f72 r94_0 (nsS f76.nostat (nsS r71_4.nostat ns0))
  have f99 := f76.keep r94_0
  have K94 := K71.trans r94_0 (allS (own_m 0 rfl) (allS (own_m 1 rfl) all0))
  have Z94 : n0 ≤ T94.heap.size := Nat.le_trans Z71 r94_0.1
  obtain ⟨cq113, kq113, q113a, q113b, q113c⟩ := isOf hZ rfl f99
  obtain ⟨_, T113, lo113, Lc113, X113, N113, hQ113, st113⟩ := own_af (QCB Z ob (62 : Int32) bb kb ((((bs ++ [own_c10]) ++ [(9 : Int32), (9 : Int32)]) ++ [(60 : Int32), (47 : Int32)]) ++ [nc]) cs T94.heap n0) 6 0 26 0 6 26 (X94.virtualBack hx (y := Y_23) (z := Y_23) hown (mvT hZ (w 160 rfl)) (mvT hZ (w 161 rfl)) (own_ns hZ (w 163 rfl)) (mvT hZ (w 163 rfl)) (mvT hZ (w 162 rfl)) (by decide) (backOf (W := 0) (rmCB l Z a0 hw [] ob (62 : Int32) bb kb ((((bs ++ [own_c10]) ++ [(9 : Int32), (9 : Int32)]) ++ [(60 : Int32), (47 : Int32)]) ++ [nc]) cs T94.heap n0 Z94 f99 r94_2 r94_3 r94_1 r94_4 f95 hcs (by decide) (own_len (us := [own_c62]) (m := 0) (own_len (us := [nc]) (m := 1) (own_len (us := [(60 : Int32), (47 : Int32)]) (m := 2) (own_len (us := [(9 : Int32), (9 : Int32)]) (m := 4) (own_len (us := [own_c10]) (m := 6) hN (bl rfl)) (bl rfl)) (bl rfl)) (bl rfl)) (bl rfl)) g_ob g_bb) hZ (w 164 rfl) (w 37 rfl) (by decide) (by decide)) q113a q113c (g := (mkF m 32 #[vR dc, vR y3] [.int 62, .ref ob])) rfl (by rw [hml]; rfl) (Steps.refl _) (argsL := [.int 62]) (rest := []) (lenOf pd_21 rfl) rfl (lq rfl) (H 14 rfl) (fun _ _ => ⟨rfl, rfl, (by decide : 6 + 0 ≤ _), (by decide : 26 + 0 ≤ _)⟩)) N94 (fun _ _ _ h => h.2.1) rfl rfl
  dsimp only at st113
  obtain ⟨rfl, N113q, r113_0, r113_1, r113_2, r113_3, r113_4⟩ := hQ113
  have hC := hC.trans (CHr.keep r113_0 (sfS (Safe.exa hZ.alike f99 (by decide) (by decide)) (sfS (own_safe hw hZ r94_4) sf0)) hC.1)
  have hk := Nat.le_trans hk r113_0.1
  have f124 := ((((r2_1.keep r29_0 (ninS (Ne.symm ne11) (ninS (Ne.symm ne16) nin0))).ext E52).keep r71_0 (ninS (Ne.symm ne11) (ninS (Ne.symm ne16) nin0))).keep r94_0 (ninS (Ne.symm ne11) (ninS (Ne.symm ne16) nin0))).keep r113_0 (ninS (Ne.symm ne11) (ninS (Ne.symm ne16) nin0))
  have f125 := ((((r2_2.keep r29_0 (ninS (Ne.symm ne11) (ninS (Ne.symm ne16) nin0))).ext E52).keep r71_0 (ninS (Ne.symm ne11) (ninS (Ne.symm ne16) nin0))).keep r94_0 (ninS (Ne.symm ne11) (ninS (Ne.symm ne16) nin0))).keep r113_0 (ninS (Ne.symm ne11) (ninS (Ne.symm ne16) nin0))
  have f126 := ((((r2_3.keep r29_0 (ninS (Ne.symm ne11) (ninS (Ne.symm ne16) nin0))).ext E52).keep r71_0 (ninS (Ne.symm ne11) (ninS (Ne.symm ne16) nin0))).keep r94_0 (ninS (Ne.symm ne11) (ninS (Ne.symm ne16) nin0))).keep r113_0 (ninS (Ne.symm ne11) (ninS (Ne.symm ne16) nin0))
  have f127 := ((((r2_4.keep r29_0 (ninS (Ne.symm ne10) (ninS (Ne.symm ne15) nin0))).ext E52).keep r71_0 (ninS (Ne.symm ne10) (ninS (Ne.symm ne15) nin0))).keep r94_0 (ninS (Ne.symm ne10) (ninS (Ne.symm ne15) nin0))).keep r113_0 (ninS (Ne.symm ne10) (ninS (Ne.symm ne15) nin0))
  have K113 := K94.trans r113_0 (allS (own_m 0 rfl) (allS (own_m 1 rfl) all0))
  obtain ⟨fs, hr, hrun, hended, hW⟩ := X113.leaveW (v := some (.ref dc)) hS hk (fun h => by rw [Bd.returns] at h; cases h)
  refine ⟨_, _, ch51 _ ?_, hrun, hended, _, _, rfl, ?_, ?_, ⟨hW.1, hW.2.1, hW.2.2.1, hW.2.2.2.mono (by decide) (by decide)⟩⟩
  · show SG X50 21 #[vR dc, vR y3] [.ref ob] _
    refine st52 _ ?_
    show SG X52 23 #[vR dc, vR y3] [.ref a52, .ref ob] _
    refine st71.trans ?_
    show SG X71 26 #[vR dc, vR y3] [.ref ob] _
    refine XS.aloadN X71.here hx rfl (H 11 rfl) rfl rfl ?_
    refine st94.trans ?_
    show SG X94 30 #[vR dc, vR y3] [.ref ob] _
    refine XS.bipush X94.here hx rfl (H 13 rfl) ?_
    refine st113.trans ?_
    show SG X113 35 #[vR dc, vR y3] [.ref ob] _
    refine XS.pop X113.here hx rfl (H 15 rfl) rfl rfl ?_
    refine XS.aloadN X113.here hx rfl (H 16 rfl) rfl rfl ?_
    jvm_step X113.here [X113.here.top, hx, (H 17 rfl), X113.method', Bd.returns, Value.isRef, FieldType.isReference]
    first | (intro acts; rw [hr _ acts rfl rfl rfl]) | rw [hr _ _ rfl rfl rfl]
    exact Steps.refl _
  · show QEN3 Z dc ob dq bb kb bs el ke y1 y2 y3 cs ub ku nc h0 n0 _ T113.heap _
    exact ⟨rfl, N113, K113, r113_2, r113_3, r113_1, r113_4, f124, f125, f126, f127⟩
  · show CHr Z consts_1 s.vm s.heap T113.vm T113.heap
    rw [hh]
    exact hC.trans (CHv.at X113 hZ (own_EW hw) hC.1)

theorem ef_EN2 (m : MethodId) (dc : Addr) : entryFrame m #[.ref dc] 2 = mkF m 0 #[.val (.ref dc), .unset] [] := by simp [entryFrame, mkF, argsToLocals, Value.category]
def QEN2 (Z : State) (dc ob : Addr) (dq bb : Addr) (kb : ClassId) (bs : List Int32) (el : Addr) (ke : ClassId) (y1 y2 : Addr) (cs : Int32) (ub : Addr) (ku : ClassId) (nc : Int32) (h0 : Heap) (n0 : Nat) (v : Option Value) (h : Heap) (L : List Loc) : Prop := v = some (.ref dc) ∧ Fr n0 L ∧ Keep h0 h [ob, bb, dq, el] ∧ Fld Z h ob sA "value" "[B" (.ref bb) ∧ Fld Z h ob sA "coder" "B" (.int 0) ∧ Fld Z h ob sA "count" "I" (.int (Int32.ofNat (((((bs ++ [own_c10]) ++ [(9 : Int32)]) ++ [(60 : Int32), (47 : Int32)]) ++ [nc]) ++ [own_c62]).length)) ∧ Arv Z h bb kb .byte (78 : Int32) (own_iv (((((bs ++ [own_c10]) ++ [(9 : Int32)]) ++ [(60 : Int32), (47 : Int32)]) ++ [nc]) ++ [own_c62])) (.int 0) ∧ Fld Z h dq sD "elements" sLO (.ref el) ∧ Fld Z h dq sD "head" "I" (.int 16) ∧ Fld Z h dq sD "tail" "I" (.int 0) ∧ Arv Z h el ke (.object sO) (17 : Int32) [.null, .null, .null, .null, .null, .null, .null, .null, .null, .null, .null, .null, .null, .null, .null, .null, .ref y1] .null
theorem rmEN2 (l : Launch) (Z : State) (a0 : Array Value) (hw : HWd a0 Z) (ws : List Jvm.Cond) (dc ob : Addr) (dq bb : Addr) (kb : ClassId) (bs : List Int32) (el : Addr) (ke : ClassId) (y1 y2 : Addr) (cs : Int32) (ub : Addr) (ku : ClassId) (nc : Int32) (h0 : Heap) (n0 : Nat) (Z0 : n0 ≤ h0.size) (P0 : Exa Z h0 dc sX) (P1 : Fld Z h0 dc sX "xml" sLB (.ref ob)) (P2 : Fld Z h0 dc sX "open" sLD (.ref dq)) (P3 : Exa Z h0 ob sB) (P4 : Fld Z h0 ob sA "value" "[B" (.ref bb)) (P5 : Fld Z h0 ob sA "coder" "B" (.int 0)) (P6 : Fld Z h0 ob sA "count" "I" (.int (Int32.ofNat bs.length))) (P7 : Arv Z h0 bb kb .byte (78 : Int32) (own_iv bs) (.int 0)) (P8 : Exa Z h0 dq sD) (P9 : Fld Z h0 dq sD "elements" sLO (.ref el)) (P10 : Fld Z h0 dq sD "head" "I" (.int 15)) (P11 : Fld Z h0 dq sD "tail" "I" (.int 0)) (P12 : Arv Z h0 el ke (.object sO) (17 : Int32) [.null, .null, .null, .null, .null, .null, .null, .null, .null, .null, .null, .null, .null, .null, .null, .ref y2, .ref y1] .null) (P13 : Ovr Z ke sO) (P14 : Sta Z h0 sS sC "Z" (.int cs)) (P15 : Exa Z h0 y2 sS) (P16 : Fld Z h0 y2 sS "value" "[B" (.ref ub)) (P17 : Fld Z h0 y2 sS "coder" "B" (.int 0)) (P18 : Arv Z h0 ub ku .byte (Int32.ofNat [nc].length) (own_iv [nc]) (.int 0)) (hcs : ¬ cs = (0 : Int32)) (hN : bs.length + 6 ≤ 78) (g_ob : n0 ≤ ob) (g_bb : n0 ≤ bb) (g_dq : n0 ≤ dq) (g_el : n0 ≤ el) :
    own_MetW l Y_58 (Jvm.Cond.code Y_58 prog_33_method_3_code 2 (some (.object "com/example/cartolog/cartolog/xml/XmlDocument")) :: ws) (RM 6 4 20 100) #[.ref dc] Z h0 (QEN2 Z dc ob dq bb kb bs el ke y1 y2 cs ub ku nc h0 n0) := by
  refine own_bSW pn_37 rfl D_37 (fun m => ef_EN2 m dc) hw fun p e s m below meth c sZ Bd hx hby hml hown hnm hh hZ X0 e0 w H pre0 hC0 hC hS hk => ?_
  have N0 := Fr.nil n0
  have K0 := Keep.refl h0 [ob, bb, dq, el]
  obtain ⟨T1, X1, e1, st1⟩ := getF X0 hx hZ hown (host := "") (Or.inl (w 72 rfl)) Via.refl e0 P2 (g := (mkF m 1 #[vR dc, vU] [.ref dc])) rfl rfl (H 1 rfl)
  obtain ⟨cq2, kq2, q2a, q2b, q2c⟩ := isOf hZ e1 P8
  obtain ⟨_, T2, lo2, Lc2, X2, N2, hQ2, st2⟩ := own_af (QPO2 Z dq el ke y1 y2 h0 n0) 0 0 0 0 0 0 (X1.interfaceBack hx (xi := Y_59) (y := Y_33) hown (mvT hZ (w 225 rfl)) (mvT hZ (w 226 rfl)) (mvT hZ (w 227 rfl)) (mvT hZ (w 228 rfl)) (mvT hZ (w 229 rfl)) (mvT hZ (w 230 rfl)) (mvT hZ (w 231 rfl)) (mvT hZ (w 183 rfl)) (by decide) (backOf (W := 0) (rmPO2 l Z a0 hw [] dq el ke y1 y2 h0 n0 Z0 P8 P9 P10 P11 P12 P13 g_dq g_el) hZ (w 232 rfl) (w 57 rfl) (by decide) (by decide)) q2a q2b q2c (g := (mkF m 4 #[vR dc, vU] [.ref dq])) rfl (by rw [hml]; rfl) (Steps.refl _) (argsL := []) (rest := []) (lenOf pd_28 rfl) rfl (lq rfl) (H 2 rfl) (fun _ _ => ⟨rfl, e1, (by decide : 0 + 0 ≤ _), (by decide : 0 + 0 ≤ _)⟩)) N0 (fun _ _ _ h => h.2.1) rfl rfl
  dsimp only at st2
  obtain ⟨rfl, N2q, r2_0, r2_1, r2_2, r2_3, r2_4⟩ := hQ2
  have hC := hC.trans (CHr.keep r2_0 (sfS (Safe.exa hZ.alike P8 (by decide) (by decide)) (sfS (Safe.arv hZ.alike P12 (by decide)) sf0)) hC.1)
  have hk := Nat.le_trans hk r2_0.1
  have f3 := own_sta P14 r2_0 (nsS P8.nostat (nsS P12.nostat ns0))
  have f4 := P0.keep r2_0
  have ne5 : dc ≠ el := Exa.neArv P0 P12 (w 1 rfl)
  have ne6 : dc ≠ dq := Exa.ne P0 P8 (by decide)
  have f7 := P1.keep r2_0 (ninS ne6 (ninS ne5 nin0))
  have f8 := P2.keep r2_0 (ninS ne6 (ninS ne5 nin0))
  have f9 := P3.keep r2_0
  have ne10 : ob ≠ el := Exa.neArv P3 P12 (w 36 rfl)
  have ne11 : ob ≠ dq := Exa.ne P3 P8 (by decide)
  have f12 := P4.keep r2_0 (ninS ne11 (ninS ne10 nin0))
  have f13 := P5.keep r2_0 (ninS ne11 (ninS ne10 nin0))
  have f14 := P6.keep r2_0 (ninS ne11 (ninS ne10 nin0))
  have ne15 : bb ≠ el := own_tyne P7 P12 (by decide)
  have ne16 : bb ≠ dq := Ne.symm (Exa.neArv P8 P7 (w 56 rfl))
  have f17 := P7.keep r2_0 (ninS ne16 (ninS ne15 nin0))
  have f18 := P8.keep r2_0
  have f19 := P15.keep r2_0
  have ne20 : y2 ≠ el := Exa.neArv P15 P12 (w 13 rfl)
  have ne21 : y2 ≠ dq := Exa.ne P15 P8 (by decide)
  have ne24 : ub ≠ el := own_tyne P18 P12 (by decide)
  have ne25 : ub ≠ dq := Ne.symm (Exa.neArv P8 P18 (w 56 rfl))
  have f26 := P18.keep r2_0 (ninS ne25 (ninS ne24 nin0))
  have K2 := K0.trans r2_0 (allS (own_m 2 rfl) (allS (own_m 3 rfl) all0))
  have Z2 : n0 ≤ T2.heap.size := Nat.le_trans Z0 r2_0.1
  obtain ⟨T27, X27, e27, st27⟩ := castY X2 hx hZ hown (w 249 rfl) rfl (Ins.self f19) (g := (mkF m 9 #[vR dc, vU] [.ref y2])) rfl rfl (H 3 rfl)
  have ch28 : Goes p e below sZ (entryFrame m #[.ref dc] 2) T27 (mkF m 14 #[vR dc, vR y2] [.ref dc]) := fun t kt => pre0 t (by
    show SG X0 0 #[vR dc, vU] [] _
    refine XS.aloadN X0.here hx rfl (H 0 rfl) rfl rfl ?_
    refine st1 _ ?_
    show SG X1 4 #[vR dc, vU] [.ref dq] _
    refine st2.trans ?_
    show SG X2 9 #[vR dc, vU] [.ref y2] _
    refine st27 _ ?_
    show SG X27 12 #[vR dc, vU] [.ref y2] _
    refine XS.astoreN X27.here hx rfl (H 4 rfl) rfl rfl (l' := #[vR dc, vR y2]) rfl ?_
    refine XS.aloadN X27.here hx rfl (H 5 rfl) rfl rfl ?_
    exact kt)
  obtain ⟨cq29, q29, q29'⟩ := f4.cell
  obtain ⟨_, T29, lo29, Lc29, h29, kk29, X29, e29, hS, hk, hZ, hown, N29, hQ29, hCn, st29⟩ := own_afW (QNW1 Z dc ob dq bb kb bs el ke y1 cs T2.heap n0) 0 2 0 8 2 8 (X27.privateBackS hx (y := Y_52) hown (mvT hZ (w 156 rfl)) (mvT hZ (w 157 rfl)) (own_selp (z := Y_55) (mvT hZ (w 150 rfl)) rfl (mvT hZ (w 157 rfl)) (Cond.privateMethod_at (mvP hZ (w 158 rfl) (args := #[]))) (by decide)) (Cond.privateMethod_at (mvP hZ (w 158 rfl) (args := #[]))) (mvT hZ (w 159 rfl)) (by decide) (backOfSH (W := 0) (rmNW1 l Z a0 hw [] dc ob dq bb kb bs el ke y1 cs T2.heap n0 Z2 f4 f7 f8 f9 f12 f13 f14 f17 f18 r2_1 r2_2 r2_3 r2_4 P13 f3 hcs (Nat.le_trans (Nat.add_le_add_left (by decide : 2 ≤ 6) _) hN) g_ob g_bb) hZ (w 159 rfl) (w 2 rfl) (by decide) (by decide) (own_EW hw) hC.1) (g := (mkF m 14 #[vR dc, vR y2] [.ref dc])) rfl (by rw [hml]; rfl) (Steps.refl _) (a := dc) (by rw [e27]; exact q29) q29' (argsL := []) (rest := []) (lenOf pd_4 rfl) rfl (lq rfl) (H 6 rfl) (fun _ _ => ⟨rfl, e27, (by decide : 0 + 2 ≤ _), (by decide : 0 + 8 ≤ _)⟩)) hS e27 hk hZ hown N2 (fun _ _ _ h => h.2.1) rfl rfl
  dsimp only at st29
  obtain ⟨rfl, N29q, r29_0, r29_1, r29_2, r29_3, r29_4⟩ := hQ29
  have hC := hC.trans hCn
  have ne32 : dc ≠ bb := Exa.neArv f4 f17 (w 1 rfl)
  have ne33 : dc ≠ ob := Exa.ne f4 f9 (by decide)
  have f34 := f7.keep r29_0 (ninS ne33 (ninS ne32 nin0))
  have ne39 : y2 ≠ bb := Exa.neArv f19 f17 (w 13 rfl)
  have ne40 : y2 ≠ ob := Exa.ne f19 f9 (by decide)
  have ne43 : ub ≠ bb := arv_ne f26 f17 (Or.inl (own_lne (bl rfl : [nc].length + 1 ≤ 78)))
  have ne44 : ub ≠ ob := Ne.symm (Exa.neArv f9 f26 (w 36 rfl))
  have K29 := K2.trans r29_0 (allS (own_m 0 rfl) (allS (own_m 1 rfl) all0))
  have Z29 : n0 ≤ h29.size := Nat.le_trans Z2 r29_0.1
  obtain ⟨T50, X50, e50, st50⟩ := getF X29 hx hZ hown (host := "") (Or.inl (w 53 rfl)) Via.refl e29 f34 (g := (mkF m 18 #[vR dc, vR y2] [.ref dc])) rfl rfl (H 8 rfl)
  have ch51 : Goes p e below sZ (entryFrame m #[.ref dc] 2) T50 (mkF m 21 #[vR dc, vR y2] [.ref ob]) := fun t kt => ch28 t (by
    show SG X27 14 #[vR dc, vR y2] [.ref dc] _
    refine st29.trans ?_
    show SG X29 17 #[vR dc, vR y2] [] _
    refine XS.aloadN X29.here hx rfl (H 7 rfl) rfl rfl ?_
    refine st50 _ ?_
    show SG X50 21 #[vR dc, vR y2] [.ref ob] _
    exact kt)
  obtain ⟨a52, T52, h52, kk52, b52, kc52, X52, e52, E52, hS, hk, hZ, hown, A52, B52, C52, V52, -, -, hCn, -, -, st52⟩ := ldcCH X50 hx hZ hown (w 250 rfl) (own_wS hw) e50 hS hk (own_EW hw) (List.mem_of_getElem? (i := 1) rfl) hC.1 (vs := own_iv [(60 : Int32), (47 : Int32)]) (z := Int32.ofNat [(60 : Int32), (47 : Int32)].length) own_lit1 (by decide) (by decide) (g := (mkF m 21 #[vR dc, vR y2] [.ref ob])) rfl (H 9 rfl) (n := 8) (by decide) (by decide) (by decide) (by decide)
  have hC := hC.trans hCn
  have f56 := (f9.keep r29_0).ext E52
  have f66 := (own_sta f3 r29_0 (nsS f9.nostat (nsS f17.nostat ns0))).ext E52
  have f67 := r29_1.ext E52
  have f68 := r29_2.ext E52
  have f69 := r29_3.ext E52
  have f70 := r29_4.ext E52
  have K52 := K29.ext E52
  have Z52 : n0 ≤ h52.size := Nat.le_trans Z29 E52.1
  obtain ⟨cq71, kq71, q71a, q71b, q71c⟩ := isOf hZ e52 f56
  obtain ⟨_, T71, lo71, Lc71, X71, N71, hQ71, st71⟩ := own_af (QPB Z ob a52 bb kb ((bs ++ [own_c10]) ++ [(9 : Int32)]) b52 kc52 [(60 : Int32), (47 : Int32)] cs h52 n0) 4 0 20 0 4 20 (X52.virtualBack hx (y := Y_20) (z := Y_20) hown (mvT hZ (w 77 rfl)) (mvT hZ (w 78 rfl)) (own_ns hZ (w 80 rfl)) (mvT hZ (w 80 rfl)) (mvT hZ (w 79 rfl)) (by decide) (backOf (W := 0) (rmPB l Z a0 hw [] ob a52 bb kb ((bs ++ [own_c10]) ++ [(9 : Int32)]) b52 kc52 [(60 : Int32), (47 : Int32)] cs h52 n0 Z52 f56 f67 f68 f69 f70 A52 C52 B52 V52 f66 hcs (own_len (us := [(60 : Int32), (47 : Int32)]) (m := 0) (own_len (us := [(9 : Int32)]) (m := 2) (own_len (us := [own_c10]) (m := 3) (Nat.le_trans (Nat.add_le_add_left (by decide : 4 ≤ 6) _) hN) (bl rfl)) (bl rfl)) (bl rfl)) (bl rfl : [(60 : Int32), (47 : Int32)].length + 1 ≤ 78) g_ob g_bb) hZ (w 81 rfl) (w 37 rfl) (by decide) (by decide)) q71a q71c (g := (mkF m 23 #[vR dc, vR y2] [.ref a52, .ref ob])) rfl (by rw [hml]; rfl) (Steps.refl _) (argsL := [.ref a52]) (rest := []) (lenOf pd_7 rfl) rfl (lq rfl) (H 10 rfl) (fun _ _ => ⟨rfl, e52, (by decide : 4 + 0 ≤ _), (by decide : 20 + 0 ≤ _)⟩)) N29 (fun _ _ _ h => h.2.1) rfl rfl
  dsimp only at st71
  obtain ⟨rfl, N71q, r71_0, r71_1, r71_2, r71_3, r71_4⟩ := hQ71
  have hC := hC.trans (CHr.keep r71_0 (sfS (Safe.exa hZ.alike f56 (by decide) (by decide)) (sfS (own_safe hw hZ f70) sf0)) hC.1)
  have hk := Nat.le_trans hk r71_0.1
  have f72 := own_sta f66 r71_0 (nsS f56.nostat (nsS f70.nostat ns0))
  have f76 := f56.keep r71_0
  have f78 := ((f19.keep r29_0).ext E52).keep r71_0
  have f79 := (((P16.keep r2_0 (ninS ne21 (ninS ne20 nin0))).keep r29_0 (ninS ne40 (ninS ne39 nin0))).ext E52).keep r71_0 (ninS ne40 (ninS ne39 nin0))
  have f80 := (((P17.keep r2_0 (ninS ne21 (ninS ne20 nin0))).keep r29_0 (ninS ne40 (ninS ne39 nin0))).ext E52).keep r71_0 (ninS ne40 (ninS ne39 nin0))
  have f81 := ((f26.keep r29_0 (ninS ne44 (ninS ne43 nin0))).ext E52).keep r71_0 (ninS ne44 (ninS ne43 nin0))
  have K71 := K52.trans r71_0 (allS (own_m 0 rfl) (allS (own_m 1 rfl) all0))
  have Z71 : n0 ≤ T71.heap.size := Nat.le_trans Z52 r71_0.1
  obtain ⟨cq94, kq94, q94a, q94b, q94c⟩ := isOf hZ rfl f76
  obtain ⟨_, T94, lo94, Lc94, X94, N94, hQ94, st94⟩ := own_af (QPB Z ob y2 bb kb (((bs ++ [own_c10]) ++ [(9 : Int32)]) ++ [(60 : Int32), (47 : Int32)]) ub ku [nc] cs T71.heap n0) 4 0 20 0 4 20 (X71.virtualBack hx (y := Y_20) (z := Y_20) hown (mvT hZ (w 77 rfl)) (mvT hZ (w 78 rfl)) (own_ns hZ (w 80 rfl)) (mvT hZ (w 80 rfl)) (mvT hZ (w 79 rfl)) (by decide) (backOf (W := 0) (rmPB l Z a0 hw [] ob y2 bb kb (((bs ++ [own_c10]) ++ [(9 : Int32)]) ++ [(60 : Int32), (47 : Int32)]) ub ku [nc] cs T71.heap n0 Z71 f76 r71_2 r71_3 r71_1 r71_4 f78 f79 f80 f81 f72 hcs (own_len (us := [nc]) (m := 0) (own_len (us := [(60 : Int32), (47 : Int32)]) (m := 1) (own_len (us := [(9 : Int32)]) (m := 3) (own_len (us := [own_c10]) (m := 4) (Nat.le_trans (Nat.add_le_add_left (by decide : 5 ≤ 6) _) hN) (bl rfl)) (bl rfl)) (bl rfl)) (bl rfl)) (bl rfl : [nc].length + 1 ≤ 78) g_ob g_bb) hZ (w 81 rfl) (w 37 rfl) (by decide) (by decide)) q94a q94c (g := (mkF m 27 #[vR dc, vR y2] [.ref y2, .ref ob])) rfl (by rw [hml]; rfl) (Steps.refl _) (argsL := [.ref y2]) (rest := []) (lenOf pd_7 rfl) rfl (lq rfl) (H 12 rfl) (fun _ _ => ⟨rfl, rfl, (by decide : 4 + 0 ≤ _), (by decide : 20 + 0 ≤ _)⟩)) N71 (fun _ _ _ h => h.2.1) rfl rfl
  dsimp only at st94
  obtain ⟨rfl, N94q, r94_0, r94_1, r94_2, r94_3, r94_4⟩ := hQ94
  have hC := hC.trans (CHr.keep r94_0 (sfS (Safe.exa hZ.alike f76 (by decide) (by decide)) (sfS (own_safe hw hZ r71_4) sf0)) hC.1)
  have hk := Nat.le_trans hk r94_0.1
  have f95 := own_sta f72 r94_0 (nsS f76.nostat (nsS r71_4.nostat ns0))
  have f99 := f76.keep r94_0
  have K94 := K71.trans r94_0 (allS (own_m 0 rfl) (allS (own_m 1 rfl) all0))
  have Z94 : n0 ≤ T94.heap.size := Nat.le_trans Z71 r94_0.1
  obtain ⟨cq113, kq113, q113a, q113b, q113c⟩ := isOf hZ rfl f99
  obtain ⟨_, T113, lo113, Lc113, X113, N113, hQ113, st113⟩ := own_af (QCB Z ob (62 : Int32) bb kb ((((bs ++ [own_c10]) ++ [(9 : Int32)]) ++ [(60 : Int32), (47 : Int32)]) ++ [nc]) cs T94.heap n0) 4 0 20 0 4 20 (X94.virtualBack hx (y := Y_23) (z := Y_23) hown (mvT hZ (w 160 rfl)) (mvT hZ (w 161 rfl)) (own_ns hZ (w 163 rfl)) (mvT hZ (w 163 rfl)) (mvT hZ (w 162 rfl)) (by decide) (backOf (W := 0) (rmCB l Z a0 hw [] ob (62 : Int32) bb kb ((((bs ++ [own_c10]) ++ [(9 : Int32)]) ++ [(60 : Int32), (47 : Int32)]) ++ [nc]) cs T94.heap n0 Z94 f99 r94_2 r94_3 r94_1 r94_4 f95 hcs (by decide) (own_len (us := [own_c62]) (m := 0) (own_len (us := [nc]) (m := 1) (own_len (us := [(60 : Int32), (47 : Int32)]) (m := 2) (own_len (us := [(9 : Int32)]) (m := 4) (own_len (us := [own_c10]) (m := 5) hN (bl rfl)) (bl rfl)) (bl rfl)) (bl rfl)) (bl rfl)) g_ob g_bb) hZ (w 164 rfl) (w 37 rfl) (by decide) (by decide)) q113a q113c (g := (mkF m 32 #[vR dc, vR y2] [.int 62, .ref ob])) rfl (by rw [hml]; rfl) (Steps.refl _) (argsL := [.int 62]) (rest := []) (lenOf pd_21 rfl) rfl (lq rfl) (H 14 rfl) (fun _ _ => ⟨rfl, rfl, (by decide : 4 + 0 ≤ _), (by decide : 20 + 0 ≤ _)⟩)) N94 (fun _ _ _ h => h.2.1) rfl rfl
  dsimp only at st113
  obtain ⟨rfl, N113q, r113_0, r113_1, r113_2, r113_3, r113_4⟩ := hQ113
  have hC := hC.trans (CHr.keep r113_0 (sfS (Safe.exa hZ.alike f99 (by decide) (by decide)) (sfS (own_safe hw hZ r94_4) sf0)) hC.1)
  have hk := Nat.le_trans hk r113_0.1
  have f124 := ((((r2_1.keep r29_0 (ninS (Ne.symm ne11) (ninS (Ne.symm ne16) nin0))).ext E52).keep r71_0 (ninS (Ne.symm ne11) (ninS (Ne.symm ne16) nin0))).keep r94_0 (ninS (Ne.symm ne11) (ninS (Ne.symm ne16) nin0))).keep r113_0 (ninS (Ne.symm ne11) (ninS (Ne.symm ne16) nin0))
  have f125 := ((((r2_2.keep r29_0 (ninS (Ne.symm ne11) (ninS (Ne.symm ne16) nin0))).ext E52).keep r71_0 (ninS (Ne.symm ne11) (ninS (Ne.symm ne16) nin0))).keep r94_0 (ninS (Ne.symm ne11) (ninS (Ne.symm ne16) nin0))).keep r113_0 (ninS (Ne.symm ne11) (ninS (Ne.symm ne16) nin0))
  have f126 := ((((r2_3.keep r29_0 (ninS (Ne.symm ne11) (ninS (Ne.symm ne16) nin0))).ext E52).keep r71_0 (ninS (Ne.symm ne11) (ninS (Ne.symm ne16) nin0))).keep r94_0 (ninS (Ne.symm ne11) (ninS (Ne.symm ne16) nin0))).keep r113_0 (ninS (Ne.symm ne11) (ninS (Ne.symm ne16) nin0))
  have f127 := ((((r2_4.keep r29_0 (ninS (Ne.symm ne10) (ninS (Ne.symm ne15) nin0))).ext E52).keep r71_0 (ninS (Ne.symm ne10) (ninS (Ne.symm ne15) nin0))).keep r94_0 (ninS (Ne.symm ne10) (ninS (Ne.symm ne15) nin0))).keep r113_0 (ninS (Ne.symm ne10) (ninS (Ne.symm ne15) nin0))
  have K113 := K94.trans r113_0 (allS (own_m 0 rfl) (allS (own_m 1 rfl) all0))
  obtain ⟨fs, hr, hrun, hended, hW⟩ := X113.leaveW (v := some (.ref dc)) hS hk (fun h => by rw [Bd.returns] at h; cases h)
  refine ⟨_, _, ch51 _ ?_, hrun, hended, _, _, rfl, ?_, ?_, ⟨hW.1, hW.2.1, hW.2.2.1, hW.2.2.2.mono (by decide) (by decide)⟩⟩
  · show SG X50 21 #[vR dc, vR y2] [.ref ob] _
    refine st52 _ ?_
    show SG X52 23 #[vR dc, vR y2] [.ref a52, .ref ob] _
    refine st71.trans ?_
    show SG X71 26 #[vR dc, vR y2] [.ref ob] _
    refine XS.aloadN X71.here hx rfl (H 11 rfl) rfl rfl ?_
    refine st94.trans ?_
    show SG X94 30 #[vR dc, vR y2] [.ref ob] _
    refine XS.bipush X94.here hx rfl (H 13 rfl) ?_
    refine st113.trans ?_
    show SG X113 35 #[vR dc, vR y2] [.ref ob] _
    refine XS.pop X113.here hx rfl (H 15 rfl) rfl rfl ?_
    refine XS.aloadN X113.here hx rfl (H 16 rfl) rfl rfl ?_
    jvm_step X113.here [X113.here.top, hx, (H 17 rfl), X113.method', Bd.returns, Value.isRef, FieldType.isReference]
    first | (intro acts; rw [hr _ acts rfl rfl rfl]) | rw [hr _ _ rfl rfl rfl]
    exact Steps.refl _
  · show QEN2 Z dc ob dq bb kb bs el ke y1 y2 cs ub ku nc h0 n0 _ T113.heap _
    exact ⟨rfl, N113, K113, r113_2, r113_3, r113_1, r113_4, f124, f125, f126, f127⟩
  · show CHr Z consts_1 s.vm s.heap T113.vm T113.heap
    rw [hh]
    exact hC.trans (CHv.at X113 hZ (own_EW hw) hC.1)

theorem ef_EN1 (m : MethodId) (dc : Addr) : entryFrame m #[.ref dc] 2 = mkF m 0 #[.val (.ref dc), .unset] [] := by simp [entryFrame, mkF, argsToLocals, Value.category]
def QEN1 (Z : State) (dc ob : Addr) (dq bb : Addr) (kb : ClassId) (bs : List Int32) (el : Addr) (ke : ClassId) (y1 : Addr) (cs : Int32) (ub : Addr) (ku : ClassId) (nc : Int32) (h0 : Heap) (n0 : Nat) (v : Option Value) (h : Heap) (L : List Loc) : Prop := v = some (.ref dc) ∧ Fr n0 L ∧ Keep h0 h [ob, bb, dq, el] ∧ Fld Z h ob sA "value" "[B" (.ref bb) ∧ Fld Z h ob sA "coder" "B" (.int 0) ∧ Fld Z h ob sA "count" "I" (.int (Int32.ofNat (((((bs ++ [own_c10]) ++ ([] : List Int32)) ++ [(60 : Int32), (47 : Int32)]) ++ [nc]) ++ [own_c62]).length)) ∧ Arv Z h bb kb .byte (78 : Int32) (own_iv (((((bs ++ [own_c10]) ++ ([] : List Int32)) ++ [(60 : Int32), (47 : Int32)]) ++ [nc]) ++ [own_c62])) (.int 0) ∧ Fld Z h dq sD "elements" sLO (.ref el) ∧ Fld Z h dq sD "head" "I" (.int 0) ∧ Fld Z h dq sD "tail" "I" (.int 0) ∧ Arv Z h el ke (.object sO) (17 : Int32) [.null, .null, .null, .null, .null, .null, .null, .null, .null, .null, .null, .null, .null, .null, .null, .null, .null] .null
theorem rmEN1 (l : Launch) (Z : State) (a0 : Array Value) (hw : HWd a0 Z) (ws : List Jvm.Cond) (dc ob : Addr) (dq bb : Addr) (kb : ClassId) (bs : List Int32) (el : Addr) (ke : ClassId) (y1 : Addr) (cs : Int32) (ub : Addr) (ku : ClassId) (nc : Int32) (h0 : Heap) (n0 : Nat) (Z0 : n0 ≤ h0.size) (P0 : Exa Z h0 dc sX) (P1 : Fld Z h0 dc sX "xml" sLB (.ref ob)) (P2 : Fld Z h0 dc sX "open" sLD (.ref dq)) (P3 : Exa Z h0 ob sB) (P4 : Fld Z h0 ob sA "value" "[B" (.ref bb)) (P5 : Fld Z h0 ob sA "coder" "B" (.int 0)) (P6 : Fld Z h0 ob sA "count" "I" (.int (Int32.ofNat bs.length))) (P7 : Arv Z h0 bb kb .byte (78 : Int32) (own_iv bs) (.int 0)) (P8 : Exa Z h0 dq sD) (P9 : Fld Z h0 dq sD "elements" sLO (.ref el)) (P10 : Fld Z h0 dq sD "head" "I" (.int 16)) (P11 : Fld Z h0 dq sD "tail" "I" (.int 0)) (P12 : Arv Z h0 el ke (.object sO) (17 : Int32) [.null, .null, .null, .null, .null, .null, .null, .null, .null, .null, .null, .null, .null, .null, .null, .null, .ref y1] .null) (P13 : Ovr Z ke sO) (P14 : Sta Z h0 sS sC "Z" (.int cs)) (P15 : Exa Z h0 y1 sS) (P16 : Fld Z h0 y1 sS "value" "[B" (.ref ub)) (P17 : Fld Z h0 y1 sS "coder" "B" (.int 0)) (P18 : Arv Z h0 ub ku .byte (Int32.ofNat [nc].length) (own_iv [nc]) (.int 0)) (hcs : ¬ cs = (0 : Int32)) (hN : bs.length + 5 ≤ 78) (g_ob : n0 ≤ ob) (g_bb : n0 ≤ bb) (g_dq : n0 ≤ dq) (g_el : n0 ≤ el) :
    own_MetW l Y_58 (Jvm.Cond.code Y_58 prog_33_method_3_code 2 (some (.object "com/example/cartolog/cartolog/xml/XmlDocument")) :: ws) (RM 6 6 25 100) #[.ref dc] Z h0 (QEN1 Z dc ob dq bb kb bs el ke y1 cs ub ku nc h0 n0) := by
  refine own_bSW pn_37 rfl D_37 (fun m => ef_EN1 m dc) hw fun p e s m below meth c sZ Bd hx hby hml hown hnm hh hZ X0 e0 w H pre0 hC0 hC hS hk => ?_
  have N0 := Fr.nil n0
  have K0 := Keep.refl h0 [ob, bb, dq, el]
  obtain ⟨T1, X1, e1, st1⟩ := getF X0 hx hZ hown (host := "") (Or.inl (w 72 rfl)) Via.refl e0 P2 (g := (mkF m 1 #[vR dc, vU] [.ref dc])) rfl rfl (H 1 rfl)
  obtain ⟨cq2, kq2, q2a, q2b, q2c⟩ := isOf hZ e1 P8
  obtain ⟨_, T2, lo2, Lc2, X2, N2, hQ2, st2⟩ := own_af (QPO1 Z dq el ke y1 h0 n0) 0 0 0 0 0 0 (X1.interfaceBack hx (xi := Y_59) (y := Y_33) hown (mvT hZ (w 225 rfl)) (mvT hZ (w 226 rfl)) (mvT hZ (w 227 rfl)) (mvT hZ (w 228 rfl)) (mvT hZ (w 229 rfl)) (mvT hZ (w 230 rfl)) (mvT hZ (w 231 rfl)) (mvT hZ (w 183 rfl)) (by decide) (backOf (W := 0) (rmPO1 l Z a0 hw [] dq el ke y1 h0 n0 Z0 P8 P9 P10 P11 P12 P13 g_dq g_el) hZ (w 232 rfl) (w 57 rfl) (by decide) (by decide)) q2a q2b q2c (g := (mkF m 4 #[vR dc, vU] [.ref dq])) rfl (by rw [hml]; rfl) (Steps.refl _) (argsL := []) (rest := []) (lenOf pd_28 rfl) rfl (lq rfl) (H 2 rfl) (fun _ _ => ⟨rfl, e1, (by decide : 0 + 0 ≤ _), (by decide : 0 + 0 ≤ _)⟩)) N0 (fun _ _ _ h => h.2.1) rfl rfl
  dsimp only at st2
  obtain ⟨rfl, N2q, r2_0, r2_1, r2_2, r2_3, r2_4⟩ := hQ2
  have hC := hC.trans (CHr.keep r2_0 (sfS (Safe.exa hZ.alike P8 (by decide) (by decide)) (sfS (Safe.arv hZ.alike P12 (by decide)) sf0)) hC.1)
  have hk := Nat.le_trans hk r2_0.1
  have f3 := own_sta P14 r2_0 (nsS P8.nostat (nsS P12.nostat ns0))
  have f4 := P0.keep r2_0
  have ne5 : dc ≠ el := Exa.neArv P0 P12 (w 1 rfl)
  have ne6 : dc ≠ dq := Exa.ne P0 P8 (by decide)
  have f7 := P1.keep r2_0 (ninS ne6 (ninS ne5 nin0))
  have f8 := P2.keep r2_0 (ninS ne6 (ninS ne5 nin0))
  have f9 := P3.keep r2_0
  have ne10 : ob ≠ el := Exa.neArv P3 P12 (w 36 rfl)
  have ne11 : ob ≠ dq := Exa.ne P3 P8 (by decide)
  have f12 := P4.keep r2_0 (ninS ne11 (ninS ne10 nin0))
  have f13 := P5.keep r2_0 (ninS ne11 (ninS ne10 nin0))
  have f14 := P6.keep r2_0 (ninS ne11 (ninS ne10 nin0))
  have ne15 : bb ≠ el := own_tyne P7 P12 (by decide)
  have ne16 : bb ≠ dq := Ne.symm (Exa.neArv P8 P7 (w 56 rfl))
  have f17 := P7.keep r2_0 (ninS ne16 (ninS ne15 nin0))
  have f18 := P8.keep r2_0
  have f19 := P15.keep r2_0
  have ne20 : y1 ≠ el := Exa.neArv P15 P12 (w 13 rfl)
  have ne21 : y1 ≠ dq := Exa.ne P15 P8 (by decide)
  have ne24 : ub ≠ el := own_tyne P18 P12 (by decide)
  have ne25 : ub ≠ dq := Ne.symm (Exa.neArv P8 P18 (w 56 rfl))
  have f26 := P18.keep r2_0 (ninS ne25 (ninS ne24 nin0))
  have K2 := K0.trans r2_0 (allS (own_m 2 rfl) (allS (own_m 3 rfl) all0))
  have Z2 : n0 ≤ T2.heap.size := Nat.le_trans Z0 r2_0.1
  obtain ⟨T27, X27, e27, st27⟩ := castY X2 hx hZ hown (w 249 rfl) rfl (Ins.self f19) (g := (mkF m 9 #[vR dc, vU] [.ref y1])) rfl rfl (H 3 rfl)
  have ch28 : Goes p e below sZ (entryFrame m #[.ref dc] 2) T27 (mkF m 14 #[vR dc, vR y1] [.ref dc]) := fun t kt => pre0 t (by
    show SG X0 0 #[vR dc, vU] [] _
    refine XS.aloadN X0.here hx rfl (H 0 rfl) rfl rfl ?_
    refine st1 _ ?_
    show SG X1 4 #[vR dc, vU] [.ref dq] _
    refine st2.trans ?_
    show SG X2 9 #[vR dc, vU] [.ref y1] _
    refine st27 _ ?_
    show SG X27 12 #[vR dc, vU] [.ref y1] _
    refine XS.astoreN X27.here hx rfl (H 4 rfl) rfl rfl (l' := #[vR dc, vR y1]) rfl ?_
    refine XS.aloadN X27.here hx rfl (H 5 rfl) rfl rfl ?_
    exact kt)
  obtain ⟨cq29, q29, q29'⟩ := f4.cell
  obtain ⟨_, T29, lo29, Lc29, h29, kk29, X29, e29, hS, hk, hZ, hown, N29, hQ29, hCn, st29⟩ := own_afW (QNW0 Z dc ob dq bb kb bs el ke cs T2.heap n0) 0 4 0 13 4 13 (X27.privateBackS hx (y := Y_52) hown (mvT hZ (w 156 rfl)) (mvT hZ (w 157 rfl)) (own_selp (z := Y_55) (mvT hZ (w 150 rfl)) rfl (mvT hZ (w 157 rfl)) (Cond.privateMethod_at (mvP hZ (w 158 rfl) (args := #[]))) (by decide)) (Cond.privateMethod_at (mvP hZ (w 158 rfl) (args := #[]))) (mvT hZ (w 159 rfl)) (by decide) (backOfSH (W := 0) (rmNW0 l Z a0 hw [] dc ob dq bb kb bs el ke cs T2.heap n0 Z2 f4 f7 f8 f9 f12 f13 f14 f17 f18 r2_1 r2_2 r2_3 r2_4 P13 f3 hcs (Nat.le_trans (Nat.add_le_add_left (by decide : 1 ≤ 5) _) hN) g_ob g_bb) hZ (w 159 rfl) (w 2 rfl) (by decide) (by decide) (own_EW hw) hC.1) (g := (mkF m 14 #[vR dc, vR y1] [.ref dc])) rfl (by rw [hml]; rfl) (Steps.refl _) (a := dc) (by rw [e27]; exact q29) q29' (argsL := []) (rest := []) (lenOf pd_4 rfl) rfl (lq rfl) (H 6 rfl) (fun _ _ => ⟨rfl, e27, (by decide : 0 + 4 ≤ _), (by decide : 0 + 13 ≤ _)⟩)) hS e27 hk hZ hown N2 (fun _ _ _ h => h.2.1) rfl rfl
  dsimp only at st29
  obtain ⟨rfl, N29q, r29_0, r29_1, r29_2, r29_3, r29_4⟩ := hQ29
  have hC := hC.trans hCn
  have ne32 : dc ≠ bb := Exa.neArv f4 f17 (w 1 rfl)
  have ne33 : dc ≠ ob := Exa.ne f4 f9 (by decide)
  have f34 := f7.keep r29_0 (ninS ne33 (ninS ne32 nin0))
  have ne39 : y1 ≠ bb := Exa.neArv f19 f17 (w 13 rfl)
  have ne40 : y1 ≠ ob := Exa.ne f19 f9 (by decide)
  have ne43 : ub ≠ bb := arv_ne f26 f17 (Or.inl (own_lne (bl rfl : [nc].length + 1 ≤ 78)))
  have ne44 : ub ≠ ob := Ne.symm (Exa.neArv f9 f26 (w 36 rfl))
  have K29 := K2.trans r29_0 (allS (own_m 0 rfl) (allS (own_m 1 rfl) all0))
  have Z29 : n0 ≤ h29.size := Nat.le_trans Z2 r29_0.1
  obtain ⟨T50, X50, e50, st50⟩ := getF X29 hx hZ hown (host := "") (Or.inl (w 53 rfl)) Via.refl e29 f34 (g := (mkF m 18 #[vR dc, vR y1] [.ref dc])) rfl rfl (H 8 rfl)
  have ch51 : Goes p e below sZ (entryFrame m #[.ref dc] 2) T50 (mkF m 21 #[vR dc, vR y1] [.ref ob]) := fun t kt => ch28 t (by
    show SG X27 14 #[vR dc, vR y1] [.ref dc] _
    refine st29.trans ?_
    show SG X29 17 #[vR dc, vR y1] [] _
    refine XS.aloadN X29.here hx rfl (H 7 rfl) rfl rfl ?_
    refine st50 _ ?_
    show SG X50 21 #[vR dc, vR y1] [.ref ob] _
    exact kt)
  obtain ⟨a52, T52, h52, kk52, b52, kc52, X52, e52, E52, hS, hk, hZ, hown, A52, B52, C52, V52, -, -, hCn, -, -, st52⟩ := ldcCH X50 hx hZ hown (w 250 rfl) (own_wS hw) e50 hS hk (own_EW hw) (List.mem_of_getElem? (i := 1) rfl) hC.1 (vs := own_iv [(60 : Int32), (47 : Int32)]) (z := Int32.ofNat [(60 : Int32), (47 : Int32)].length) own_lit1 (by decide) (by decide) (g := (mkF m 21 #[vR dc, vR y1] [.ref ob])) rfl (H 9 rfl) (n := 8) (by decide) (by decide) (by decide) (by decide)
  have hC := hC.trans hCn
  have f56 := (f9.keep r29_0).ext E52
  have f66 := (own_sta f3 r29_0 (nsS f9.nostat (nsS f17.nostat ns0))).ext E52
  have f67 := r29_1.ext E52
  have f68 := r29_2.ext E52
  have f69 := r29_3.ext E52
  have f70 := r29_4.ext E52
  have K52 := K29.ext E52
  have Z52 : n0 ≤ h52.size := Nat.le_trans Z29 E52.1
  obtain ⟨cq71, kq71, q71a, q71b, q71c⟩ := isOf hZ e52 f56
  obtain ⟨_, T71, lo71, Lc71, X71, N71, hQ71, st71⟩ := own_af (QPB Z ob a52 bb kb ((bs ++ [own_c10]) ++ ([] : List Int32)) b52 kc52 [(60 : Int32), (47 : Int32)] cs h52 n0) 6 0 25 0 6 25 (X52.virtualBack hx (y := Y_20) (z := Y_20) hown (mvT hZ (w 77 rfl)) (mvT hZ (w 78 rfl)) (own_ns hZ (w 80 rfl)) (mvT hZ (w 80 rfl)) (mvT hZ (w 79 rfl)) (by decide) (backOf (W := 0) (rmPB l Z a0 hw [] ob a52 bb kb ((bs ++ [own_c10]) ++ ([] : List Int32)) b52 kc52 [(60 : Int32), (47 : Int32)] cs h52 n0 Z52 f56 f67 f68 f69 f70 A52 C52 B52 V52 f66 hcs (own_len (us := [(60 : Int32), (47 : Int32)]) (m := 0) (own_len (us := ([] : List Int32)) (m := 2) (own_len (us := [own_c10]) (m := 2) (Nat.le_trans (Nat.add_le_add_left (by decide : 3 ≤ 5) _) hN) (bl rfl)) (bl rfl)) (bl rfl)) (bl rfl : [(60 : Int32), (47 : Int32)].length + 1 ≤ 78) g_ob g_bb) hZ (w 81 rfl) (w 37 rfl) (by decide) (by decide)) q71a q71c (g := (mkF m 23 #[vR dc, vR y1] [.ref a52, .ref ob])) rfl (by rw [hml]; rfl) (Steps.refl _) (argsL := [.ref a52]) (rest := []) (lenOf pd_7 rfl) rfl (lq rfl) (H 10 rfl) (fun _ _ => ⟨rfl, e52, (by decide : 6 + 0 ≤ _), (by decide : 25 + 0 ≤ _)⟩)) N29 (fun _ _ _ h => h.2.1) rfl rfl
  dsimp only at st71
  obtain ⟨rfl, N71q, r71_0, r71_1, r71_2, r71_3, r71_4⟩ := hQ71
  have hC := hC.trans (CHr.keep r71_0 (sfS (Safe.exa hZ.alike f56 (by decide) (by decide)) (sfS (own_safe hw hZ f70) sf0)) hC.1)
  have hk := Nat.le_trans hk r71_0.1
  have f72 := own_sta f66 r71_0 (nsS f56.nostat (nsS f70.nostat ns0))
  have f76 := f56.keep r71_0
  have f78 := ((f19.keep r29_0).ext E52).keep r71_0
  have f79 := (((P16.keep r2_0 (ninS ne21 (ninS ne20 nin0))).keep r29_0 (ninS ne40 (ninS ne39 nin0))).ext E52).keep r71_0 (ninS ne40 (ninS ne39 nin0))
  have f80 := (((P17.keep r2_0 (ninS ne21 (ninS ne20 nin0))).keep r29_0 (ninS ne40 (ninS ne39 nin0))).ext E52).keep r71_0 (ninS ne40 (ninS ne39 nin0))
  have f81 := ((f26.keep r29_0 (ninS ne44 (ninS ne43 nin0))).ext E52).keep r71_0 (ninS ne44 (ninS ne43 nin0))
  have K71 := K52.trans r71_0 (allS (own_m 0 rfl) (allS (own_m 1 rfl) all0))
  have Z71 : n0 ≤ T71.heap.size := Nat.le_trans Z52 r71_0.1
  obtain ⟨cq94, kq94, q94a, q94b, q94c⟩ := isOf hZ rfl f76
  obtain ⟨_, T94, lo94, Lc94, X94, N94, hQ94, st94⟩ := own_af (QPB Z ob y1 bb kb (((bs ++ [own_c10]) ++ ([] : List Int32)) ++ [(60 : Int32), (47 : Int32)]) ub ku [nc] cs T71.heap n0) 6 0 25 0 6 25 (X71.virtualBack hx (y := Y_20) (z := Y_20) hown (mvT hZ (w 77 rfl)) (mvT hZ (w 78 rfl)) (own_ns hZ (w 80 rfl)) (mvT hZ (w 80 rfl)) (mvT hZ (w 79 rfl)) (by decide) (backOf (W := 0) (rmPB l Z a0 hw [] ob y1 bb kb (((bs ++ [own_c10]) ++ ([] : List Int32)) ++ [(60 : Int32), (47 : Int32)]) ub ku [nc] cs T71.heap n0 Z71 f76 r71_2 r71_3 r71_1 r71_4 f78 f79 f80 f81 f72 hcs (own_len (us := [nc]) (m := 0) (own_len (us := [(60 : Int32), (47 : Int32)]) (m := 1) (own_len (us := ([] : List Int32)) (m := 3) (own_len (us := [own_c10]) (m := 3) (Nat.le_trans (Nat.add_le_add_left (by decide : 4 ≤ 5) _) hN) (bl rfl)) (bl rfl)) (bl rfl)) (bl rfl)) (bl rfl : [nc].length + 1 ≤ 78) g_ob g_bb) hZ (w 81 rfl) (w 37 rfl) (by decide) (by decide)) q94a q94c (g := (mkF m 27 #[vR dc, vR y1] [.ref y1, .ref ob])) rfl (by rw [hml]; rfl) (Steps.refl _) (argsL := [.ref y1]) (rest := []) (lenOf pd_7 rfl) rfl (lq rfl) (H 12 rfl) (fun _ _ => ⟨rfl, rfl, (by decide : 6 + 0 ≤ _), (by decide : 25 + 0 ≤ _)⟩)) N71 (fun _ _ _ h => h.2.1) rfl rfl
  dsimp only at st94
  obtain ⟨rfl, N94q, r94_0, r94_1, r94_2, r94_3, r94_4⟩ := hQ94
  have hC := hC.trans (CHr.keep r94_0 (sfS (Safe.exa hZ.alike f76 (by decide) (by decide)) (sfS (own_safe hw hZ r71_4) sf0)) hC.1)
  have hk := Nat.le_trans hk r94_0.1
  have f95 := own_sta f72 r94_0 (nsS f76.nostat (nsS r71_4.nostat ns0))
  have f99 := f76.keep r94_0
  have K94 := K71.trans r94_0 (allS (own_m 0 rfl) (allS (own_m 1 rfl) all0))
  have Z94 : n0 ≤ T94.heap.size := Nat.le_trans Z71 r94_0.1
  obtain ⟨cq113, kq113, q113a, q113b, q113c⟩ := isOf hZ rfl f99
  obtain ⟨_, T113, lo113, Lc113, X113, N113, hQ113, st113⟩ := own_af (QCB Z ob (62 : Int32) bb kb ((((bs ++ [own_c10]) ++ ([] : List Int32)) ++ [(60 : Int32), (47 : Int32)]) ++ [nc]) cs T94.heap n0) 6 0 25 0 6 25 (X94.virtualBack hx (y := Y_23) (z := Y_23) hown (mvT hZ (w 160 rfl)) (mvT hZ (w 161 rfl)) (own_ns hZ (w 163 rfl)) (mvT hZ (w 163 rfl)) (mvT hZ (w 162 rfl)) (by decide) (backOf (W := 0) (rmCB l Z a0 hw [] ob (62 : Int32) bb kb ((((bs ++ [own_c10]) ++ ([] : List Int32)) ++ [(60 : Int32), (47 : Int32)]) ++ [nc]) cs T94.heap n0 Z94 f99 r94_2 r94_3 r94_1 r94_4 f95 hcs (by decide) (own_len (us := [own_c62]) (m := 0) (own_len (us := [nc]) (m := 1) (own_len (us := [(60 : Int32), (47 : Int32)]) (m := 2) (own_len (us := ([] : List Int32)) (m := 4) (own_len (us := [own_c10]) (m := 4) hN (bl rfl)) (bl rfl)) (bl rfl)) (bl rfl)) (bl rfl)) g_ob g_bb) hZ (w 164 rfl) (w 37 rfl) (by decide) (by decide)) q113a q113c (g := (mkF m 32 #[vR dc, vR y1] [.int 62, .ref ob])) rfl (by rw [hml]; rfl) (Steps.refl _) (argsL := [.int 62]) (rest := []) (lenOf pd_21 rfl) rfl (lq rfl) (H 14 rfl) (fun _ _ => ⟨rfl, rfl, (by decide : 6 + 0 ≤ _), (by decide : 25 + 0 ≤ _)⟩)) N94 (fun _ _ _ h => h.2.1) rfl rfl
  dsimp only at st113
  obtain ⟨rfl, N113q, r113_0, r113_1, r113_2, r113_3, r113_4⟩ := hQ113
  have hC := hC.trans (CHr.keep r113_0 (sfS (Safe.exa hZ.alike f99 (by decide) (by decide)) (sfS (own_safe hw hZ r94_4) sf0)) hC.1)
  have hk := Nat.le_trans hk r113_0.1
  have f124 := ((((r2_1.keep r29_0 (ninS (Ne.symm ne11) (ninS (Ne.symm ne16) nin0))).ext E52).keep r71_0 (ninS (Ne.symm ne11) (ninS (Ne.symm ne16) nin0))).keep r94_0 (ninS (Ne.symm ne11) (ninS (Ne.symm ne16) nin0))).keep r113_0 (ninS (Ne.symm ne11) (ninS (Ne.symm ne16) nin0))
  have f125 := ((((r2_2.keep r29_0 (ninS (Ne.symm ne11) (ninS (Ne.symm ne16) nin0))).ext E52).keep r71_0 (ninS (Ne.symm ne11) (ninS (Ne.symm ne16) nin0))).keep r94_0 (ninS (Ne.symm ne11) (ninS (Ne.symm ne16) nin0))).keep r113_0 (ninS (Ne.symm ne11) (ninS (Ne.symm ne16) nin0))
  have f126 := ((((r2_3.keep r29_0 (ninS (Ne.symm ne11) (ninS (Ne.symm ne16) nin0))).ext E52).keep r71_0 (ninS (Ne.symm ne11) (ninS (Ne.symm ne16) nin0))).keep r94_0 (ninS (Ne.symm ne11) (ninS (Ne.symm ne16) nin0))).keep r113_0 (ninS (Ne.symm ne11) (ninS (Ne.symm ne16) nin0))
  have f127 := ((((r2_4.keep r29_0 (ninS (Ne.symm ne10) (ninS (Ne.symm ne15) nin0))).ext E52).keep r71_0 (ninS (Ne.symm ne10) (ninS (Ne.symm ne15) nin0))).keep r94_0 (ninS (Ne.symm ne10) (ninS (Ne.symm ne15) nin0))).keep r113_0 (ninS (Ne.symm ne10) (ninS (Ne.symm ne15) nin0))
  have K113 := K94.trans r113_0 (allS (own_m 0 rfl) (allS (own_m 1 rfl) all0))
  obtain ⟨fs, hr, hrun, hended, hW⟩ := X113.leaveW (v := some (.ref dc)) hS hk (fun h => by rw [Bd.returns] at h; cases h)
  refine ⟨_, _, ch51 _ ?_, hrun, hended, _, _, rfl, ?_, ?_, ⟨hW.1, hW.2.1, hW.2.2.1, hW.2.2.2.mono (by decide) (by decide)⟩⟩
  · show SG X50 21 #[vR dc, vR y1] [.ref ob] _
    refine st52 _ ?_
    show SG X52 23 #[vR dc, vR y1] [.ref a52, .ref ob] _
    refine st71.trans ?_
    show SG X71 26 #[vR dc, vR y1] [.ref ob] _
    refine XS.aloadN X71.here hx rfl (H 11 rfl) rfl rfl ?_
    refine st94.trans ?_
    show SG X94 30 #[vR dc, vR y1] [.ref ob] _
    refine XS.bipush X94.here hx rfl (H 13 rfl) ?_
    refine st113.trans ?_
    show SG X113 35 #[vR dc, vR y1] [.ref ob] _
    refine XS.pop X113.here hx rfl (H 15 rfl) rfl rfl ?_
    refine XS.aloadN X113.here hx rfl (H 16 rfl) rfl rfl ?_
    jvm_step X113.here [X113.here.top, hx, (H 17 rfl), X113.method', Bd.returns, Value.isRef, FieldType.isReference]
    first | (intro acts; rw [hr _ acts rfl rfl rfl]) | rw [hr _ _ rfl rfl rfl]
    exact Steps.refl _
  · show QEN1 Z dc ob dq bb kb bs el ke y1 cs ub ku nc h0 n0 _ T113.heap _
    exact ⟨rfl, N113, K113, r113_2, r113_3, r113_1, r113_4, f124, f125, f126, f127⟩
  · show CHr Z consts_1 s.vm s.heap T113.vm T113.heap
    rw [hh]
    exact hC.trans (CHv.at X113 hZ (own_EW hw) hC.1)

theorem pn_36 : plainName "com/example/cartolog/cartolog/xml/XmlDocument" = true := by first | (simp [plainName, overriddenIn]; done) | decide +kernel
theorem ef_FN (m : MethodId) (dc : Addr) : entryFrame m #[.ref dc] 1 = mkF m 0 #[.val (.ref dc)] [] := by simp [entryFrame, mkF, argsToLocals, Value.category]
theorem pd_27 : parseMethodDescriptor "()Lcom/example/cartolog/cartolog/xml/XmlDocument;" = some ⟨[], some (.object "com/example/cartolog/cartolog/xml/XmlDocument")⟩ := by decide +kernel
theorem pd_30 : parseMethodDescriptor "()Ljava/lang/String;" = some ⟨[], some (.object "java/lang/String")⟩ := by decide +kernel
theorem pd_35 : parseMethodDescriptor "(Ljava/nio/charset/Charset;)[B" = some ⟨[(.object "java/nio/charset/Charset")], some (.array .byte)⟩ := by decide +kernel
def QFN (Z : State) (dc ob : Addr) (dq bb : Addr) (kb : ClassId) (bs : List Int32) (el : Addr) (ke : ClassId) (y1 : Addr) (cs : Int32) (ub : Addr) (ku : ClassId) (nc : Int32) (uc : Addr) (h0 : Heap) (n0 : Nat) (v : Option Value) (h : Heap) (L : List Loc) : Prop := ∃ xb : Addr, ∃ xk : ClassId, v = some (.ref xb) ∧ Fr n0 L ∧ Keep h0 h [ob, bb, dq, el] ∧ h0.size ≤ xb ∧ Arv Z h xb xk .byte (Int32.ofNat ((((((bs ++ [own_c10]) ++ ([] : List Int32)) ++ [(60 : Int32), (47 : Int32)]) ++ [nc]) ++ [own_c62]) ++ [own_c10]).length) (own_iv ((((((bs ++ [own_c10]) ++ ([] : List Int32)) ++ [(60 : Int32), (47 : Int32)]) ++ [nc]) ++ [own_c62]) ++ [own_c10])) (.int 0)
theorem rmFN (l : Launch) (Z : State) (a0 : Array Value) (hw : HWd a0 Z) (ws : List Jvm.Cond) (dc ob : Addr) (dq bb : Addr) (kb : ClassId) (bs : List Int32) (el : Addr) (ke : ClassId) (y1 : Addr) (cs : Int32) (ub : Addr) (ku : ClassId) (nc : Int32) (uc : Addr) (h0 : Heap) (n0 : Nat) (Z0 : n0 ≤ h0.size) (P0 : Exa Z h0 dc sX) (P1 : Fld Z h0 dc sX "xml" sLB (.ref ob)) (P2 : Fld Z h0 dc sX "open" sLD (.ref dq)) (P3 : Exa Z h0 ob sB) (P4 : Fld Z h0 ob sA "value" "[B" (.ref bb)) (P5 : Fld Z h0 ob sA "coder" "B" (.int 0)) (P6 : Fld Z h0 ob sA "count" "I" (.int (Int32.ofNat bs.length))) (P7 : Arv Z h0 bb kb .byte (78 : Int32) (own_iv bs) (.int 0)) (P8 : Exa Z h0 dq sD) (P9 : Fld Z h0 dq sD "elements" sLO (.ref el)) (P10 : Fld Z h0 dq sD "head" "I" (.int 16)) (P11 : Fld Z h0 dq sD "tail" "I" (.int 0)) (P12 : Arv Z h0 el ke (.object sO) (17 : Int32) [.null, .null, .null, .null, .null, .null, .null, .null, .null, .null, .null, .null, .null, .null, .null, .null, .ref y1] .null) (P13 : Ovr Z ke sO) (P14 : Sta Z h0 sS sC "Z" (.int cs)) (P15 : Exa Z h0 y1 sS) (P16 : Fld Z h0 y1 sS "value" "[B" (.ref ub)) (P17 : Fld Z h0 y1 sS "coder" "B" (.int 0)) (P18 : Arv Z h0 ub ku .byte (Int32.ofNat [nc].length) (own_iv [nc]) (.int 0)) (P19 : Sta Z h0 "java/nio/charset/StandardCharsets" "UTF_8" "Ljava/nio/charset/Charset;" (.ref uc)) (P20 : Sta Z h0 "sun/nio/cs/UTF_8" "INSTANCE" "Lsun/nio/cs/UTF_8;" (.ref uc)) (hcs : ¬ cs = (0 : Int32)) (hN : bs.length + 7 ≤ 78) (hpos : ∀ x ∈ bs, ¬ x < (0 : Int32)) (hnc : ¬ nc < (0 : Int32)) (g_ob : n0 ≤ ob) (g_bb : n0 ≤ bb) (g_dq : n0 ≤ dq) (g_el : n0 ≤ el) :
    own_MetW l Y_60 (Jvm.Cond.code Y_60 prog_33_method_8_code 1 (some (.array .byte)) :: ws) (RM 7 9 185 113) #[.ref dc] Z h0 (QFN Z dc ob dq bb kb bs el ke y1 cs ub ku nc uc h0 n0) := by
  refine own_bSW pn_36 rfl D_36 (fun m => ef_FN m dc) hw fun p e s m below meth c sZ Bd hx hby hml hown hnm hh hZ X0 e0 w H pre0 hC0 hC hS hk => ?_
  have N0 := Fr.nil n0
  have K0 := Keep.refl h0 [ob, bb, dq, el]
  have ch1 : Goes p e below sZ (entryFrame m #[.ref dc] 1) sZ (mkF m 1 #[vR dc] [.ref dc]) := fun t kt => pre0 t (by
    show SG X0 0 #[vR dc] [] _
    refine XS.aloadN X0.here hx rfl (H 0 rfl) rfl rfl ?_
    exact kt)
  obtain ⟨cq2, kq2, q2a, q2b, q2c⟩ := isOf hZ e0 P0
  obtain ⟨_, T2, lo2, Lc2, h2, kk2, X2, e2, hS, hk, hZ, hown, N2, hQ2, hCn, st2⟩ := own_afW (QEN1 Z dc ob dq bb kb bs el ke y1 cs ub ku nc h0 n0) 0 6 0 25 6 25 (X0.virtualBackS hx (y := Y_58) (z := Y_58) hown (mvT hZ (w 220 rfl)) (mvT hZ (w 221 rfl)) (own_ns hZ (w 223 rfl)) (mvT hZ (w 223 rfl)) (mvT hZ (w 222 rfl)) (by decide) (backOfSH (W := 0) (rmEN1 l Z a0 hw [] dc ob dq bb kb bs el ke y1 cs ub ku nc h0 n0 Z0 P0 P1 P2 P3 P4 P5 P6 P7 P8 P9 P10 P11 P12 P13 P14 P15 P16 P17 P18 hcs (Nat.le_trans (Nat.add_le_add_left (by decide : 5 ≤ 7) _) hN) g_ob g_bb g_dq g_el) hZ (w 224 rfl) (w 2 rfl) (by decide) (by decide) (own_EW hw) hC.1) q2a q2c (g := (mkF m 1 #[vR dc] [.ref dc])) rfl (by rw [hml]; rfl) (Steps.refl _) (argsL := []) (rest := []) (lenOf pd_27 rfl) rfl (lq rfl) (H 1 rfl) (fun _ _ => ⟨rfl, e0, (by decide : 0 + 6 ≤ _), (by decide : 0 + 25 ≤ _)⟩)) hS e0 hk hZ hown N0 (fun _ _ _ h => h.2.1) rfl rfl
  dsimp only at st2
  obtain ⟨rfl, N2q, r2_0, r2_1, r2_2, r2_3, r2_4, r2_5, r2_6, r2_7, r2_8⟩ := hQ2
  have hC := hC.trans hCn
  have f3 := own_sta P14 r2_0 (nsS P3.nostat (nsS P7.nostat (nsS P8.nostat (nsS P12.nostat ns0))))
  have f4 := own_sta P19 r2_0 (nsS P3.nostat (nsS P7.nostat (nsS P8.nostat (nsS P12.nostat ns0))))
  have f5 := own_sta P20 r2_0 (nsS P3.nostat (nsS P7.nostat (nsS P8.nostat (nsS P12.nostat ns0))))
  have ne7 : dc ≠ el := Exa.neArv P0 P12 (w 1 rfl)
  have ne8 : dc ≠ dq := Exa.ne P0 P8 (by decide)
  have ne9 : dc ≠ bb := Exa.neArv P0 P7 (w 1 rfl)
  have ne10 : dc ≠ ob := Exa.ne P0 P3 (by decide)
  have f11 := P1.keep r2_0 (ninS ne10 (ninS ne9 (ninS ne8 (ninS ne7 nin0))))
  have f12 := P2.keep r2_0 (ninS ne10 (ninS ne9 (ninS ne8 (ninS ne7 nin0))))
  have f13 := P3.keep r2_0
  have f14 := P8.keep r2_0
  have K2 := K0.trans r2_0 (allS (own_m 0 rfl) (allS (own_m 1 rfl) (allS (own_m 2 rfl) (allS (own_m 3 rfl) all0))))
  have Z2 : n0 ≤ h2.size := Nat.le_trans Z0 r2_0.1
  obtain ⟨T27, X27, e27, st27⟩ := getF X2 hx hZ hown (host := "") (Or.inl (w 72 rfl)) Via.refl e2 f12 (g := (mkF m 6 #[vR dc] [.ref dc])) rfl rfl (H 4 rfl)
  obtain ⟨cq28, kq28, q28a, q28b, q28c⟩ := isOf hZ e27 f14
  obtain ⟨_, T28, lo28, Lc28, X28, N28, hQ28, st28⟩ := own_af (QIE Z dq el ke h2 n0) 6 0 25 0 6 25 (own_face X27 hx (xi := Y_61) (y := Y_34) (J := "java/util/Collection") hown (mvT hZ (w 251 rfl)) (mvT hZ (w 252 rfl)) (own_mvI hZ (w 253 rfl)) (by decide) (mvT hZ (w 254 rfl)) (mvT hZ (w 255 rfl)) (mvT hZ (w 256 rfl)) (mvT hZ (w 257 rfl)) (mvT hZ (w 183 rfl)) (by decide) (by decide) (backOf (W := 0) (rmIE l Z a0 hw [] dq el ke h2 n0 Z2 f14 r2_5 r2_6 r2_7 r2_8 P13) hZ (w 258 rfl) (w 57 rfl) (by decide) (by decide)) q28a q28b q28c (g := (mkF m 9 #[vR dc] [.ref dq])) rfl (by rw [hml]; rfl) (Steps.refl _) (argsL := []) (rest := []) (lenOf pd_23 rfl) rfl (lq rfl) (H 5 rfl) (fun _ _ => ⟨rfl, e27, (by decide : 6 + 0 ≤ _), (by decide : 25 + 0 ≤ _)⟩)) N2 (fun _ _ _ h => h.2.1) rfl rfl
  dsimp only at st28
  obtain ⟨rfl, N28q, r28_0⟩ := hQ28
  obtain ⟨T29, X29, e29, st29⟩ := getF X28 hx hZ hown (host := "") (Or.inl (w 53 rfl)) Via.refl r28_0 f11 (g := (mkF m 43 #[vR dc] [.ref dc])) rfl rfl (H 8 rfl)
  obtain ⟨cq30, kq30, q30a, q30b, q30c⟩ := isOf hZ e29 f13
  obtain ⟨_, T30, lo30, Lc30, X30, N30, hQ30, st30⟩ := own_af (QCB Z ob (10 : Int32) bb kb (((((bs ++ [own_c10]) ++ ([] : List Int32)) ++ [(60 : Int32), (47 : Int32)]) ++ [nc]) ++ [own_c62]) cs h2 n0) 6 0 25 0 6 25 (X29.virtualBack hx (y := Y_23) (z := Y_23) hown (mvT hZ (w 160 rfl)) (mvT hZ (w 161 rfl)) (own_ns hZ (w 163 rfl)) (mvT hZ (w 163 rfl)) (mvT hZ (w 162 rfl)) (by decide) (backOf (W := 0) (rmCB l Z a0 hw [] ob (10 : Int32) bb kb (((((bs ++ [own_c10]) ++ ([] : List Int32)) ++ [(60 : Int32), (47 : Int32)]) ++ [nc]) ++ [own_c62]) cs h2 n0 Z2 f13 r2_1 r2_2 r2_3 r2_4 f3 hcs (by decide) (own_len (us := [own_c10]) (m := 0) (own_len (us := [own_c62]) (m := 1) (own_len (us := [nc]) (m := 2) (own_len (us := [(60 : Int32), (47 : Int32)]) (m := 3) (own_len (us := ([] : List Int32)) (m := 5) (own_len (us := [own_c10]) (m := 5) (Nat.le_trans (Nat.add_le_add_left (by decide : 6 ≤ 7) _) hN) (bl rfl)) (bl rfl)) (bl rfl)) (bl rfl)) (bl rfl)) (bl rfl)) g_ob g_bb) hZ (w 164 rfl) (w 37 rfl) (by decide) (by decide)) q30a q30c (g := (mkF m 48 #[vR dc] [.int 10, .ref ob])) rfl (by rw [hml]; rfl) (Steps.refl _) (argsL := [.int 10]) (rest := []) (lenOf pd_21 rfl) rfl (lq rfl) (H 10 rfl) (fun _ _ => ⟨rfl, e29, (by decide : 6 + 0 ≤ _), (by decide : 25 + 0 ≤ _)⟩)) N28 (fun _ _ _ h => h.2.1) rfl rfl
  dsimp only at st30
  obtain ⟨rfl, N30q, r30_0, r30_1, r30_2, r30_3, r30_4⟩ := hQ30
  have hC := hC.trans (CHr.keep r30_0 (sfS (Safe.exa hZ.alike f13 (by decide) (by decide)) (sfS (own_safe hw hZ r2_4) sf0)) hC.1)
  have hk := Nat.le_trans hk r30_0.1
  have f31 := own_sta f3 r30_0 (nsS f13.nostat (nsS r2_4.nostat ns0))
  have f32 := own_sta f4 r30_0 (nsS f13.nostat (nsS r2_4.nostat ns0))
  have f33 := own_sta f5 r30_0 (nsS f13.nostat (nsS r2_4.nostat ns0))
  have f35 := f11.keep r30_0 (ninS ne10 (ninS ne9 nin0))
  have f37 := f13.keep r30_0
  have K30 := K2.trans r30_0 (allS (own_m 0 rfl) (allS (own_m 1 rfl) all0))
  have Z30 : n0 ≤ T30.heap.size := Nat.le_trans Z2 r30_0.1
  obtain ⟨T51, X51, e51, st51⟩ := getF X30 hx hZ hown (host := "") (Or.inl (w 53 rfl)) Via.refl rfl f35 (g := (mkF m 53 #[vR dc] [.ref dc])) rfl rfl (H 13 rfl)
  obtain ⟨cq52, kq52, q52a, q52b, q52c⟩ := isOf hZ e51 f37
  obtain ⟨_, T52, lo52, Lc52, X52, N52, hQ52, st52⟩ := own_af (QTS Z ob bb kb ((((((bs ++ [own_c10]) ++ ([] : List Int32)) ++ [(60 : Int32), (47 : Int32)]) ++ [nc]) ++ [own_c62]) ++ [own_c10]) cs T30.heap n0) 6 2 25 82 8 107 (X51.virtualBack hx (y := Y_45) (z := Y_45) hown (mvT hZ (w 259 rfl)) (mvT hZ (w 260 rfl)) (own_ns hZ (w 262 rfl)) (mvT hZ (w 262 rfl)) (mvT hZ (w 261 rfl)) (by decide) (backOf (W := 0) (rmTS l Z a0 hw [] ob bb kb ((((((bs ++ [own_c10]) ++ ([] : List Int32)) ++ [(60 : Int32), (47 : Int32)]) ++ [nc]) ++ [own_c62]) ++ [own_c10]) cs T30.heap n0 Z30 f37 r30_2 r30_3 r30_1 r30_4 f31 hcs (own_len (us := [own_c10]) (m := 1) (own_len (us := [own_c62]) (m := 2) (own_len (us := [nc]) (m := 3) (own_len (us := [(60 : Int32), (47 : Int32)]) (m := 4) (own_len (us := ([] : List Int32)) (m := 6) (own_len (us := [own_c10]) (m := 6) hN (bl rfl)) (bl rfl)) (bl rfl)) (bl rfl)) (bl rfl)) (bl rfl))) hZ (w 263 rfl) (w 37 rfl) (by decide) (by decide)) q52a q52c (g := (mkF m 56 #[vR dc] [.ref ob])) rfl (by rw [hml]; rfl) (Steps.refl _) (argsL := []) (rest := []) (lenOf pd_30 rfl) rfl (lq rfl) (H 14 rfl) (fun _ _ => ⟨rfl, e51, (by decide : 6 + 2 ≤ _), (by decide : 25 + 82 ≤ _)⟩)) N30 (by rintro _ _ _ ⟨_, _, _, -, N, -⟩; exact N) rfl rfl
  dsimp only at st52
  obtain ⟨x52_0, x52_1, x52_2, rfl, N52q, r52_0, r52_1, r52_2, r52_3, r52_4, r52_5, r52_6, r52_7⟩ := hQ52
  have hC := hC.trans (CHr.keep r52_0 sf0 hC.1)
  have hk := Nat.le_trans hk r52_0.1
  have f53 := own_sta f31 r52_0 ns0
  have f54 := own_sta f32 r52_0 ns0
  have f55 := own_sta f33 r52_0 ns0
  have K52 := K30.trans r52_0 all0
  have Z52 : n0 ≤ T52.heap.size := Nat.le_trans Z30 r52_0.1
  obtain ⟨T73, X73, e73, st73⟩ := getS2 X52 hx hZ hown (host := "") (Or.inl (w 294 rfl)) Via.refl rfl f54 (g := (mkF m 59 #[vR dc] [.ref x52_0])) rfl (H 15 rfl)
  obtain ⟨cq74, kq74, q74a, q74b, q74c⟩ := isOf hZ e73 r52_3
  obtain ⟨_, T74, lo74, Lc74, X74, N74, hQ74, st74⟩ := own_af (QGY Z x52_0 uc x52_1 x52_2 ((((((bs ++ [own_c10]) ++ ([] : List Int32)) ++ [(60 : Int32), (47 : Int32)]) ++ [nc]) ++ [own_c62]) ++ [own_c10]) cs T52.heap n0) 8 1 107 78 9 185 (X73.virtualBack hx (y := Y_50) (z := Y_50) hown (mvT hZ (w 296 rfl)) (mvT hZ (w 297 rfl)) (own_ns hZ (w 299 rfl)) (mvT hZ (w 299 rfl)) (mvT hZ (w 298 rfl)) (by decide) (backOf (W := 0) (rmGY l Z a0 hw [] x52_0 uc x52_1 x52_2 ((((((bs ++ [own_c10]) ++ ([] : List Int32)) ++ [(60 : Int32), (47 : Int32)]) ++ [nc]) ++ [own_c62]) ++ [own_c10]) cs T52.heap n0 Z52 r52_3 r52_4 r52_5 r52_6 r52_7 f55 f53 hcs (own_len (us := [own_c10]) (m := 1) (own_len (us := [own_c62]) (m := 2) (own_len (us := [nc]) (m := 3) (own_len (us := [(60 : Int32), (47 : Int32)]) (m := 4) (own_len (us := ([] : List Int32)) (m := 6) (own_len (us := [own_c10]) (m := 6) hN (bl rfl)) (bl rfl)) (bl rfl)) (bl rfl)) (bl rfl)) (bl rfl)) (own_posA (own_posA (own_posA (own_posA (own_posA (own_posA hpos (own_pos1 (by decide))) own_pos0) (by decide)) (own_pos1 hnc)) (own_pos1 (by decide))) (own_pos1 (by decide)))) hZ (w 300 rfl) (w 5 rfl) (by decide) (by decide)) q74a q74c (g := (mkF m 62 #[vR dc] [.ref uc, .ref x52_0])) rfl (by rw [hml]; rfl) (Steps.refl _) (argsL := [.ref uc]) (rest := []) (lenOf pd_35 rfl) rfl (lq rfl) (H 16 rfl) (fun _ _ => ⟨rfl, e73, (by decide : 8 + 1 ≤ _), (by decide : 107 + 78 ≤ _)⟩)) N52 (by rintro _ _ _ ⟨_, _, -, N, -⟩; exact N) rfl rfl
  dsimp only at st74
  obtain ⟨x74_0, x74_1, rfl, N74q, r74_0, r74_1, r74_2⟩ := hQ74
  have hC := hC.trans (CHr.keep r74_0 sf0 hC.1)
  have hk := Nat.le_trans hk r74_0.1
  have sz_x74_0 : h0.size ≤ x74_0 := Nat.le_trans K52.1 r74_1
  have K74 := K52.trans r74_0 all0
  obtain ⟨fs, hr, hrun, hended, hW⟩ := X74.leaveW (v := some (.ref x74_0)) hS hk (fun h => by rw [Bd.returns] at h; cases h)
  refine ⟨_, _, ch1 _ ?_, hrun, hended, _, _, rfl, ?_, ?_, ⟨hW.1, hW.2.1, hW.2.2.1, hW.2.2.2.mono (by decide) (by decide)⟩⟩
  · show SG X0 1 #[vR dc] [.ref dc] _
    refine st2.trans ?_
    show SG X2 4 #[vR dc] [.ref dc] _
    refine XS.pop X2.here hx rfl (H 2 rfl) rfl rfl ?_
    refine XS.aloadN X2.here hx rfl (H 3 rfl) rfl rfl ?_
    refine st27 _ ?_
    show SG X27 9 #[vR dc] [.ref dq] _
    refine st28.trans ?_
    show SG X28 14 #[vR dc] [.int 1] _
    refine XS.ifYes X28.here hx rfl (pc0 := 14) (pc' := 42) rfl (H 6 rfl) rfl ((if0 _ _).trans (feq (by decide : ¬ ((1 : Int32) = (0 : Int32)))).2) (by decide) (by decide) ?_
    refine XS.aloadN X28.here hx rfl (H 7 rfl) rfl rfl ?_
    refine st29 _ ?_
    show SG X29 46 #[vR dc] [.ref ob] _
    refine XS.bipush X29.here hx rfl (H 9 rfl) ?_
    refine st30.trans ?_
    show SG X30 51 #[vR dc] [.ref ob] _
    refine XS.pop X30.here hx rfl (H 11 rfl) rfl rfl ?_
    refine XS.aloadN X30.here hx rfl (H 12 rfl) rfl rfl ?_
    refine st51 _ ?_
    show SG X51 56 #[vR dc] [.ref ob] _
    refine st52.trans ?_
    show SG X52 59 #[vR dc] [.ref x52_0] _
    refine st73 _ ?_
    show SG X73 62 #[vR dc] [.ref uc, .ref x52_0] _
    refine st74.trans ?_
    show SG X74 65 #[vR dc] [.ref x74_0] _
    jvm_step X74.here [X74.here.top, hx, (H 17 rfl), X74.method', Bd.returns, Value.isRef, FieldType.isReference]
    first | (intro acts; rw [hr _ acts rfl rfl rfl]) | rw [hr _ _ rfl rfl rfl]
    exact Steps.refl _
  · show QFN Z dc ob dq bb kb bs el ke y1 cs ub ku nc uc h0 n0 _ T74.heap _
    exact ⟨x74_0, x74_1, rfl, N74, K74, sz_x74_0, r74_2⟩
  · show CHr Z consts_1 s.vm s.heap T74.vm T74.heap
    rw [hh]
    exact hC.trans (CHv.at X74 hZ (own_EW hw) hC.1)

theorem pn_0 : plainName "com/example/cartolog/cartolog/xml/XmlDocumentEndPinLaw" = true := by first | (simp [plainName, overriddenIn]; done) | decide +kernel
theorem ef_0 (m : MethodId) (p1 p2 : Int32) (p3 p4 : Int32) : entryFrame m #[.int p1, .int p2, .int p3, .int p4] maxLocals = mkF m 0 #[.val (.int p1), .val (.int p2), .val (.int p3), .val (.int p4), .unset, .unset, .unset, .unset, .unset, .unset, .unset, .unset] [] := by simp [entryFrame, mkF, argsToLocals, Value.category, maxLocals]
theorem pd_0 : parseMethodDescriptor "(C)Ljava/lang/String;" = some ⟨[.char], some (.object "java/lang/String")⟩ := by decide +kernel
theorem pd_5 : parseMethodDescriptor "(Ljava/lang/String;Ljava/lang/String;[Ljava/lang/String;)V" = some ⟨[(.object "java/lang/String"), (.object "java/lang/String"), (.array (.object "java/lang/String"))], none⟩ := by decide +kernel
theorem pd_40 : parseMethodDescriptor "([BIIZC)I" = some ⟨[(.array .byte), .int, .int, .boolean, .char], some .int⟩ := by decide +kernel
def Q0 (Z : State) (p1 p2 : Int32) (p3 p4 cs : Int32) (uc : Addr) (h0 : Heap) (n0 : Nat) (v : Option Value) (h : Heap) (L : List Loc) : Prop := v = some (.int 1) ∧ Fr n0 L ∧ Keep h0 h []
theorem rm0 (l : Launch) (Z : State) (a0 : Array Value) (hw : HWd a0 Z) (ws : List Jvm.Cond) (p1 p2 : Int32) (p3 p4 cs : Int32) (uc : Addr) (h0 : Heap) (n0 : Nat) (Z0 : n0 ≤ h0.size) (P0 : Sta Z h0 sS sC "Z" (.int cs)) (P1 : Sta Z h0 "java/nio/charset/StandardCharsets" "UTF_8" "Ljava/nio/charset/Charset;" (.ref uc)) (P2 : Sta Z h0 "sun/nio/cs/UTF_8" "INSTANCE" "Lsun/nio/cs/UTF_8;" (.ref uc)) (hcs : ¬ cs = (0 : Int32)) :
    own_MetW l x (Jvm.Cond.code x code maxLocals ret :: ws) room_1 #[.int p1, .int p2, .int p3, .int p4] Z h0 (Q0 Z p1 p2 p3 p4 cs uc h0 n0) := by
  refine MetFree.of_bodySF (plainFor_of_name pn_0) hisR ?_
  intro p e s m args below meth c sZ Bd hml0 hP hK
  obtain ⟨rfl, hZ, hh, hC0⟩ := hP
  have hx := Bd.exec
  have w := @own_w Z a0 hw
  have hby := Bd.bytes
  have hml : c.maxLocals = 12 := hml0
  have hown : (s.setVm s.vm).vm.findClass "com/example/cartolog/cartolog/xml/XmlDocumentEndPinLaw" = some m.cls := findClass_of_methodNamed Bd.named
  have hnm := (name_of_methodNamed Bd.named Bd.method).1
  have hZ : Z.Warmed39 (s.setVm s.vm).vm := hZ
  have hC : CHr Z consts_1 s.vm h0 s.vm h0 := CHr.refl hC0
  have hS : s.Since s.vm 0 := (State.WarmedH.refl s).since 0
  have hk : 0 ≤ h0.size := Nat.zero_le _
  have X0 : Stand p l e room_1 (s.setVm s.vm) m #[.int p1, .int p2, .int p3, .int p4] below meth c sZ [] 0 0 := Stand.of_body Bd
  have e0 : sZ.heap = h0 := by rw [← hh, Bd.state]; rfl
  have N0 := Fr.nil n0
  have pre0 : Goes p e below sZ (entryFrame m #[.int p1, .int p2, .int p3, .int p4] maxLocals) sZ (mkF m 0 #[vI p1, vI p2, vI p3, vI p4, vU, vU, vU, vU, vU, vU, vU, vU] []) := fun t k => castTop (ef_0 m p1 p2 p3 p4) k
  have K0 := Keep.refl h0 []
  have ch1 : Goes p e below sZ (entryFrame m #[.int p1, .int p2, .int p3, .int p4] maxLocals) sZ (mkF m 12 #[vI p1, vI p2, vI p3, vI p4, .val (.int ((p1 &&& (3 : Int32)) % (3 : Int32))), vU, vU, vU, vU, vU, vU, vU] [.int ((p2 &&& (127 : Int32)).toUInt32.toUInt16.toUInt32.toInt32)]) := fun t kt => pre0 t (by
    show SG X0 0 #[vI p1, vI p2, vI p3, vI p4, vU, vU, vU, vU, vU, vU, vU, vU] [] _
    refine XS.iloadN X0.here hx rfl (hb hby at_0) rfl ?_
    refine XS.iconst X0.here hx rfl (hb hby at_1) ?_
    refine XS.iand X0.here hx rfl (hb hby at_2) rfl ?_
    refine XS.iconst X0.here hx rfl (hb hby at_3) ?_
    refine iremM X0 hx rfl (hb hby at_4) rfl (by decide) ?_
    show SG X0 5 #[vI p1, vI p2, vI p3, vI p4, vU, vU, vU, vU, vU, vU, vU, vU] [.int ((p1 &&& (3 : Int32)) % (3 : Int32))] _
    refine XS.istore X0.here hx rfl (hb hby at_5) rfl (l' := #[vI p1, vI p2, vI p3, vI p4, .val (.int ((p1 &&& (3 : Int32)) % (3 : Int32))), vU, vU, vU, vU, vU, vU, vU]) rfl ?_
    refine XS.iloadN X0.here hx rfl (hb hby at_7) rfl ?_
    refine XS.bipush X0.here hx rfl (hb hby at_8) ?_
    refine XS.iand X0.here hx rfl (hb hby at_10) rfl ?_
    refine XS.i2c X0.here hx rfl (hb hby at_11) rfl ?_
    exact kt)
  obtain ⟨rc, hrc⟩ : ∃ r : Int32, r = ((p2 &&& (127 : Int32)).toUInt32.toUInt16.toUInt32.toInt32) := ⟨_, rfl⟩
  have hrcx : ¬ (255 : Int32) < rc ∧ ¬ rc.toInt8.toInt32 < (0 : Int32) := by rw [hrc]; exact own_rc p2
  have ch2 : Goes p e below sZ (entryFrame m #[.int p1, .int p2, .int p3, .int p4] maxLocals) sZ (mkF m 19 #[vI p1, vI p2, vI p3, vI p4, .val (.int ((p1 &&& (3 : Int32)) % (3 : Int32))), vI rc, vU, vU, vU, vU, vU, vU] [.int ((p3 &&& (127 : Int32)).toUInt32.toUInt16.toUInt32.toInt32)]) := fun t kt => ch1 t (by
    show SG X0 12 #[vI p1, vI p2, vI p3, vI p4, .val (.int ((p1 &&& (3 : Int32)) % (3 : Int32))), vU, vU, vU, vU, vU, vU, vU] [.int ((p2 &&& (127 : Int32)).toUInt32.toUInt16.toUInt32.toInt32)] _
    rw [← hrc]
    show SG X0 12 #[vI p1, vI p2, vI p3, vI p4, .val (.int ((p1 &&& (3 : Int32)) % (3 : Int32))), vU, vU, vU, vU, vU, vU, vU] [.int rc] _
    refine XS.istore X0.here hx rfl (hb hby at_12) rfl (l' := #[vI p1, vI p2, vI p3, vI p4, .val (.int ((p1 &&& (3 : Int32)) % (3 : Int32))), vI rc, vU, vU, vU, vU, vU, vU]) rfl ?_
    refine XS.iloadN X0.here hx rfl (hb hby at_14) rfl ?_
    refine XS.bipush X0.here hx rfl (hb hby at_15) ?_
    refine XS.iand X0.here hx rfl (hb hby at_17) rfl ?_
    refine XS.i2c X0.here hx rfl (hb hby at_18) rfl ?_
    exact kt)
  obtain ⟨ac, hac⟩ : ∃ r : Int32, r = ((p3 &&& (127 : Int32)).toUInt32.toUInt16.toUInt32.toInt32) := ⟨_, rfl⟩
  have hacx : ¬ (255 : Int32) < ac ∧ ¬ ac.toInt8.toInt32 < (0 : Int32) := by rw [hac]; exact own_rc p3
  have ch3 : Goes p e below sZ (entryFrame m #[.int p1, .int p2, .int p3, .int p4] maxLocals) sZ (mkF m 26 #[vI p1, vI p2, vI p3, vI p4, .val (.int ((p1 &&& (3 : Int32)) % (3 : Int32))), vI rc, vI ac, vU, vU, vU, vU, vU] [.int ((p4 &&& (127 : Int32)).toUInt32.toUInt16.toUInt32.toInt32)]) := fun t kt => ch2 t (by
    show SG X0 19 #[vI p1, vI p2, vI p3, vI p4, .val (.int ((p1 &&& (3 : Int32)) % (3 : Int32))), vI rc, vU, vU, vU, vU, vU, vU] [.int ((p3 &&& (127 : Int32)).toUInt32.toUInt16.toUInt32.toInt32)] _
    rw [← hac]
    show SG X0 19 #[vI p1, vI p2, vI p3, vI p4, .val (.int ((p1 &&& (3 : Int32)) % (3 : Int32))), vI rc, vU, vU, vU, vU, vU, vU] [.int ac] _
    refine XS.istore X0.here hx rfl (hb hby at_19) rfl (l' := #[vI p1, vI p2, vI p3, vI p4, .val (.int ((p1 &&& (3 : Int32)) % (3 : Int32))), vI rc, vI ac, vU, vU, vU, vU, vU]) rfl ?_
    refine XS.iloadN X0.here hx rfl (hb hby at_21) rfl ?_
    refine XS.bipush X0.here hx rfl (hb hby at_22) ?_
    refine XS.iand X0.here hx rfl (hb hby at_24) rfl ?_
    refine XS.i2c X0.here hx rfl (hb hby at_25) rfl ?_
    exact kt)
  obtain ⟨bc, hbc⟩ : ∃ r : Int32, r = ((p4 &&& (127 : Int32)).toUInt32.toUInt16.toUInt32.toInt32) := ⟨_, rfl⟩
  have hbcx : ¬ (255 : Int32) < bc ∧ ¬ bc.toInt8.toInt32 < (0 : Int32) := by rw [hbc]; exact own_rc p4
  obtain ⟨T4, h4, X4, e4, E4, A4, D4, -, st4⟩ := newO X0 hx hZ hown (w 0 rfl) (w 1 rfl) (w 2 rfl) e0 (g := (mkF m 28 #[vI p1, vI p2, vI p3, vI p4, .val (.int ((p1 &&& (3 : Int32)) % (3 : Int32))), vI rc, vI ac, vI bc, vU, vU, vU, vU] [])) rfl (hb hby at_28) (by decide) (by decide)
  obtain ⟨b4, g4⟩ : ∃ z, z = h0.size := ⟨_, rfl⟩
  rw [← g4] at A4 D4 st4
  have hC := hC.trans (CHr.ext E4 hC.1)
  have hk := Nat.le_trans hk E4.1
  have g_b4 : n0 ≤ b4 := Nat.le_trans Z0 (Nat.le_of_eq g4.symm)
  have sz_b4 : h0.size ≤ b4 := Nat.le_trans K0.1 (Nat.le_of_eq g4.symm)
  have f5 := P0.ext E4
  have f6 := P1.ext E4
  have f7 := P2.ext E4
  have K4 := K0.ext E4
  have Z4 : n0 ≤ h4.size := Nat.le_trans Z0 E4.1
  have f8 : Fld Z h4 b4 "com/example/cartolog/cartolog/xml/XmlDocument" "xml" "Ljava/lang/StringBuilder;" .null := D4 (Or.inr (w 54 rfl)) (ty := (.object "java/lang/StringBuilder")) (by decide)
  have f9 : Fld Z h4 b4 "com/example/cartolog/cartolog/xml/XmlDocument" "open" "Ljava/util/Deque;" .null := D4 (Or.inr (w 73 rfl)) (ty := (.object "java/util/Deque")) (by decide)
  obtain ⟨_, T10, lo10, Lc10, X10, N10, hQ10, st10⟩ := own_af (QVO Z rc cs h4 n0) 1 2 2 5 3 7 (Jvm.LawKit.callS X4 hx (y := Y_3) hown (mvT hZ (w 3 rfl)) (mvT hZ (w 4 rfl)) (mvT hZ (w 5 rfl)) (mvT hZ (w 6 rfl)) (by decide) (backOf (W := 2) (rmVO l Z a0 hw [] rc cs h4 n0 Z4 f5 hcs hrcx.1) hZ (w 6 rfl) (w 5 rfl) (by decide) (by decide)) (g := (mkF m 34 #[vI p1, vI p2, vI p3, vI p4, .val (.int ((p1 &&& (3 : Int32)) % (3 : Int32))), vI rc, vI ac, vI bc, vU, vU, vU, vU] [.int rc, .ref b4, .ref b4])) rfl (by rw [hml]; rfl) (argsL := [.int rc]) (rest := [.ref b4, .ref b4]) (lenOf pd_0 rfl) rfl (lq rfl) (hb hby at_34) (fun _ _ => ⟨rfl, e4, (by decide : 1 + 2 ≤ _), (by decide : 2 + 5 ≤ _)⟩)) N0 (by rintro _ _ _ ⟨_, _, _, -, N, -⟩; exact N) rfl rfl
  dsimp only at st10
  obtain ⟨x10_0, x10_1, x10_2, rfl, N10q, r10_0, r10_1, r10_2, r10_3, r10_4, r10_5, r10_6⟩ := hQ10
  have hC := hC.trans (CHr.keep r10_0 sf0 hC.1)
  have hk := Nat.le_trans hk r10_0.1
  have K10 := K4.trans r10_0 all0
  have Z10 : n0 ≤ T10.heap.size := Nat.le_trans Z4 r10_0.1
  obtain ⟨T17, h17, k17, X17, e17, E17, A17, O17, st17⟩ := newR X10 hx hZ hown (w 29 rfl) (w 30 rfl) rfl (g := (mkF m 39 #[vI p1, vI p2, vI p3, vI p4, .val (.int ((p1 &&& (3 : Int32)) % (3 : Int32))), vI rc, vI ac, vI bc, vU, vU, vU, vU] [.int 0, .null, .ref x10_0, .ref b4, .ref b4])) rfl (hb hby at_39) rfl (by decide) (cap := 0) (by decide) (by decide) (by decide) (by decide)
  obtain ⟨b17, g17⟩ : ∃ z, z = T10.heap.size := ⟨_, rfl⟩
  rw [← g17] at A17 st17
  have hC := hC.trans (CHr.ext E17 hC.1)
  have hk := Nat.le_trans hk E17.1
  have f21 := (A4.keep r10_0).ext E17
  have f22 := (f8.keep r10_0 nin0).ext E17
  have f23 := (f9.keep r10_0 nin0).ext E17
  have f24 := (own_sta f5 r10_0 ns0).ext E17
  have f25 := (own_sta f6 r10_0 ns0).ext E17
  have f26 := (own_sta f7 r10_0 ns0).ext E17
  have f27 := r10_3.ext E17
  have f28 := r10_4.ext E17
  have f29 := r10_5.ext E17
  have f30 := r10_6.ext E17
  have K17 := K10.ext E17
  have Z17 : n0 ≤ h17.size := Nat.le_trans Z10 E17.1
  have V17 : Arv Z h17 b17 k17 (.object "java/lang/String") (0 : Int32) [] .null := (Arv.new A17 (by decide)).pad (pad_rep [] .null 0)
  have ch31 : Goes p e below sZ (entryFrame m #[.int p1, .int p2, .int p3, .int p4] maxLocals) T17 (mkF m 42 #[vI p1, vI p2, vI p3, vI p4, .val (.int ((p1 &&& (3 : Int32)) % (3 : Int32))), vI rc, vI ac, vI bc, vU, vU, vU, vU] [.ref b17, .null, .ref x10_0, .ref b4, .ref b4]) := fun t kt => ch3 t (by
    show SG X0 26 #[vI p1, vI p2, vI p3, vI p4, .val (.int ((p1 &&& (3 : Int32)) % (3 : Int32))), vI rc, vI ac, vU, vU, vU, vU, vU] [.int ((p4 &&& (127 : Int32)).toUInt32.toUInt16.toUInt32.toInt32)] _
    rw [← hbc]
    show SG X0 26 #[vI p1, vI p2, vI p3, vI p4, .val (.int ((p1 &&& (3 : Int32)) % (3 : Int32))), vI rc, vI ac, vU, vU, vU, vU, vU] [.int bc] _
    refine XS.istore X0.here hx rfl (hb hby at_26) rfl (l' := #[vI p1, vI p2, vI p3, vI p4, .val (.int ((p1 &&& (3 : Int32)) % (3 : Int32))), vI rc, vI ac, vI bc, vU, vU, vU, vU]) rfl ?_
    refine st4 _ ?_
    show SG X4 31 #[vI p1, vI p2, vI p3, vI p4, .val (.int ((p1 &&& (3 : Int32)) % (3 : Int32))), vI rc, vI ac, vI bc, vU, vU, vU, vU] [.ref b4] _
    refine XS.dup X4.here hx rfl (hb hby at_31) rfl rfl ?_
    refine XS.iload X4.here hx rfl (hb hby at_32) rfl ?_
    refine st10 _ ?_
    show SG X10 37 #[vI p1, vI p2, vI p3, vI p4, .val (.int ((p1 &&& (3 : Int32)) % (3 : Int32))), vI rc, vI ac, vI bc, vU, vU, vU, vU] [.ref x10_0, .ref b4, .ref b4] _
    refine XS.aconstNull X10.here hx rfl (hb hby at_37) ?_
    refine XS.iconst X10.here hx rfl (hb hby at_38) ?_
    refine st17 _ ?_
    show SG X17 42 #[vI p1, vI p2, vI p3, vI p4, .val (.int ((p1 &&& (3 : Int32)) % (3 : Int32))), vI rc, vI ac, vI bc, vU, vU, vU, vU] [.ref b17, .null, .ref x10_0, .ref b4, .ref b4] _
    exact kt)
  obtain ⟨_, T32, lo32, Lc32, h32, kk32, X32, e32, hS, hk, hZ, hown, N32, hQ32, hCn, st32⟩ := own_afW (QXI Z b4 x10_0 b17 cs x10_1 x10_2 (rc.toInt8.toInt32) k17 h17 n0) 4 12 7 325 16 332 (X17.specialBackS hx (y := Y_57) rfl hown (mvT hZ (w 31 rfl)) (mvT hZ (w 32 rfl)) (mvT hZ (w 33 rfl)) (by decide) (backOfSH (W := 1) (rmXI l Z a0 hw [] b4 x10_0 b17 cs x10_1 x10_2 (rc.toInt8.toInt32) k17 h17 n0 Z17 f21 f22 f23 f27 f28 f29 f30 V17 f24 hcs g_b4) hZ (w 33 rfl) (w 2 rfl) (by decide) (by decide) (own_EW hw) hC.1) (g := (mkF m 42 #[vI p1, vI p2, vI p3, vI p4, .val (.int ((p1 &&& (3 : Int32)) % (3 : Int32))), vI rc, vI ac, vI bc, vU, vU, vU, vU] [.ref b17, .null, .ref x10_0, .ref b4, .ref b4])) rfl (by rw [hml]; rfl) (Steps.refl _) (a := b4) (argsL := [.ref x10_0, .null, .ref b17]) (rest := [.ref b4]) (lenOf pd_5 rfl) rfl (lq rfl) (hb hby at_42) (fun _ _ => ⟨rfl, e17, (by decide : 4 + 12 ≤ _), (by decide : 7 + 325 ≤ _)⟩)) hS e17 hk hZ hown N10 (by rintro _ _ _ ⟨_, _, _, _, _, _, -, N, -⟩; exact N) rfl rfl
  dsimp only at st32
  obtain ⟨x32_0, x32_1, x32_2, x32_3, x32_4, x32_5, rfl, N32q, r32_0, r32_1, r32_2, r32_3, r32_4, r32_5, r32_6, r32_7, r32_8, r32_9, r32_10, r32_11, r32_12, r32_13, r32_14, r32_15, r32_16, r32_17⟩ := hQ32
  have hC := hC.trans hCn
  have g_x32_0 : n0 ≤ x32_0 := Nat.le_trans Z17 r32_14
  have sz_x32_0 : h0.size ≤ x32_0 := Nat.le_trans K17.1 r32_14
  have g_x32_1 : n0 ≤ x32_1 := Nat.le_trans Z17 r32_15
  have sz_x32_1 : h0.size ≤ x32_1 := Nat.le_trans K17.1 r32_15
  have g_x32_3 : n0 ≤ x32_3 := Nat.le_trans Z17 r32_16
  have sz_x32_3 : h0.size ≤ x32_3 := Nat.le_trans K17.1 r32_16
  have g_x32_4 : n0 ≤ x32_4 := Nat.le_trans Z17 r32_17
  have sz_x32_4 : h0.size ≤ x32_4 := Nat.le_trans K17.1 r32_17
  have f33 := own_sta f24 r32_0 (nsS f21.nostat ns0)
  have f34 := own_sta f25 r32_0 (nsS f21.nostat ns0)
  have f35 := own_sta f26 r32_0 (nsS f21.nostat ns0)
  have f36 := f21.keep r32_0
  have f37 := f27.keep r32_0
  have ne38 : b4 ≠ x10_0 := Nat.ne_of_lt (Nat.lt_of_lt_of_le A4.lt r10_1)
  have f39 := f28.keep r32_0 (ninS (Ne.symm ne38) nin0)
  have f40 := f29.keep r32_0 (ninS (Ne.symm ne38) nin0)
  have ne41 : b4 ≠ x10_1 := Nat.ne_of_lt (Nat.lt_of_lt_of_le A4.lt r10_2)
  have f42 := f30.keep r32_0 (ninS (Ne.symm ne41) nin0)
  have K32 := K17.trans r32_0 (allS (Or.inr sz_b4) all0)
  have Z32 : n0 ≤ h32.size := Nat.le_trans Z17 r32_0.1
  have ch45 : Goes p e below sZ (entryFrame m #[.int p1, .int p2, .int p3, .int p4] maxLocals) T32 (mkF m 50 #[vI p1, vI p2, vI p3, vI p4, .val (.int ((p1 &&& (3 : Int32)) % (3 : Int32))), vI rc, vI ac, vI bc, vR b4, vI 1, vU, vU] []) := fun t kt => ch31 t (by
    show SG X17 42 #[vI p1, vI p2, vI p3, vI p4, .val (.int ((p1 &&& (3 : Int32)) % (3 : Int32))), vI rc, vI ac, vI bc, vU, vU, vU, vU] [.ref b17, .null, .ref x10_0, .ref b4, .ref b4] _
    refine st32.trans ?_
    show SG X32 45 #[vI p1, vI p2, vI p3, vI p4, .val (.int ((p1 &&& (3 : Int32)) % (3 : Int32))), vI rc, vI ac, vI bc, vU, vU, vU, vU] [.ref b4] _
    refine XS.astore X32.here hx rfl (hb hby at_45) rfl rfl (l' := #[vI p1, vI p2, vI p3, vI p4, .val (.int ((p1 &&& (3 : Int32)) % (3 : Int32))), vI rc, vI ac, vI bc, vR b4, vU, vU, vU]) rfl ?_
    refine XS.iconst X32.here hx rfl (hb hby at_47) ?_
    refine XS.istore X32.here hx rfl (hb hby at_48) rfl (l' := #[vI p1, vI p2, vI p3, vI p4, .val (.int ((p1 &&& (3 : Int32)) % (3 : Int32))), vI rc, vI ac, vI bc, vR b4, vI 1, vU, vU]) rfl ?_
    exact kt)
  obtain ⟨B44, hB44⟩ : ∃ B : List Int32, B = (((((own_hdr ++ [own_c10]) ++ ([] : List Int32)) ++ [own_c60]) ++ [(rc.toInt8.toInt32)]) ++ [own_c62]) := ⟨_, rfl⟩
  have lB44 : B44.length + 36 ≤ 78 := by rw [hB44]; exact (own_len (us := [own_c62]) (m := 36) (own_len (us := [(rc.toInt8.toInt32)]) (m := 37) (own_len (us := [own_c60]) (m := 38) (own_len (us := ([] : List Int32)) (m := 39) (own_len (us := [own_c10]) (m := 39) own_h40 (bl rfl)) (bl rfl)) (bl rfl)) (bl rfl)) (bl rfl))
  have pB44 : ∀ x ∈ B44, ¬ x < (0 : Int32) := by rw [hB44]; exact (own_posA (own_posA (own_posA (own_posA (own_posA own_hpos (own_pos1 (by decide))) own_pos0) (own_pos1 (by decide))) (own_pos1 hrcx.2)) (own_pos1 (by decide)))
  have f46 : Fld Z h32 x32_0 sA "count" "I" (.int (Int32.ofNat B44.length)) := by rw [hB44]; exact r32_6
  have f47 : Arv Z h32 x32_1 x32_2 .byte (78 : Int32) (own_iv B44) (.int 0) := by rw [hB44]; exact r32_7
  rcases own_d p1 with hd | hd | hd
  · have ch48 : Goes p e below sZ (entryFrame m #[.int p1, .int p2, .int p3, .int p4] maxLocals) T32 (mkF m 144 #[vI p1, vI p2, vI p3, vI p4, vI 0, vI rc, vI ac, vI bc, vR b4, vI 1, vU, vU] [.ref b4]) := fun t kt => ch45 t (by
      show SG X32 50 #[vI p1, vI p2, vI p3, vI p4, .val (.int ((p1 &&& (3 : Int32)) % (3 : Int32))), vI rc, vI ac, vI bc, vR b4, vI 1, vU, vU] [] _
      rw [hd]
      show SG X32 50 #[vI p1, vI p2, vI p3, vI p4, vI 0, vI rc, vI ac, vI bc, vR b4, vI 1, vU, vU] [] _
      refine XS.iload X32.here hx rfl (hb hby at_50) rfl ?_
      refine XS.iconst X32.here hx rfl (hb hby at_52) ?_
      refine XS.icmpYes X32.here hx rfl (pc0 := 53) (pc' := 71) rfl (hb hby at_53) rfl (tlt (by decide : ((0 : Int32) < (1 : Int32)))).1 (by decide) (by decide) ?_
      refine XS.iload X32.here hx rfl (hb hby at_71) rfl ?_
      refine XS.iconst X32.here hx rfl (hb hby at_73) ?_
      refine XS.icmpYes X32.here hx rfl (pc0 := 74) (pc' := 114) rfl (hb hby at_74) rfl (tlt (by decide : ((0 : Int32) < (2 : Int32)))).1 (by decide) (by decide) ?_
      refine XS.iload X32.here hx rfl (hb hby at_114) rfl ?_
      refine XS.iconst X32.here hx rfl (hb hby at_116) ?_
      refine XS.icmpYes X32.here hx rfl (pc0 := 117) (pc' := 142) rfl (hb hby at_117) rfl (tlt (by decide : ((0 : Int32) < (1 : Int32)))).1 (by decide) (by decide) ?_
      refine XS.aload X32.here hx rfl (hb hby at_142) rfl rfl ?_
      exact kt)
    obtain ⟨cq49, kq49, q49a, q49b, q49c⟩ := isOf hZ e32 f36
    obtain ⟨_, T49, lo49, Lc49, h49, kk49, X49, e49, hS, hk, hZ, hown, N49, hQ49, hCn, st49⟩ := own_afW (QFN Z b4 x32_0 x32_3 x32_1 x32_2 B44 x32_4 x32_5 x10_0 cs x10_1 x10_2 (rc.toInt8.toInt32) uc h32 n0) 16 9 332 185 25 517 (X32.virtualBackS hx (y := Y_60) (z := Y_60) hown (mvT hZ (w 215 rfl)) (mvT hZ (w 216 rfl)) (own_ns hZ (w 218 rfl)) (mvT hZ (w 218 rfl)) (mvT hZ (w 217 rfl)) (by decide) (backOfSH (W := 0) (rmFN l Z a0 hw [] b4 x32_0 x32_3 x32_1 x32_2 B44 x32_4 x32_5 x10_0 cs x10_1 x10_2 (rc.toInt8.toInt32) uc h32 n0 Z32 f36 r32_1 r32_2 r32_3 r32_4 r32_5 f46 f47 r32_8 r32_9 r32_10 r32_11 r32_12 r32_13 f33 f37 f39 f40 f42 f34 f35 hcs (Nat.le_trans (Nat.add_le_add_left (by decide : 7 ≤ 36) _) lB44) pB44 hrcx.2 g_x32_0 g_x32_1 g_x32_3 g_x32_4) hZ (w 219 rfl) (w 2 rfl) (by decide) (by decide) (own_EW hw) hC.1) q49a q49c (g := (mkF m 144 #[vI p1, vI p2, vI p3, vI p4, vI 0, vI rc, vI ac, vI bc, vR b4, vI 1, vU, vU] [.ref b4])) rfl (by rw [hml]; rfl) (Steps.refl _) (argsL := []) (rest := []) (lenOf pd_26 rfl) rfl (lq rfl) (hb hby at_144) (fun _ _ => ⟨rfl, e32, (by decide : 16 + 9 ≤ _), (by decide : 332 + 185 ≤ _)⟩)) hS e32 hk hZ hown N32 (by rintro _ _ _ ⟨_, _, -, N, -⟩; exact N) rfl rfl
    dsimp only at st49
    obtain ⟨x49_0, x49_1, rfl, N49q, r49_0, r49_1, r49_2⟩ := hQ49
    have hC := hC.trans hCn
    have K49 := K32.trans r49_0 (allS (Or.inr sz_x32_0) (allS (Or.inr sz_x32_1) (allS (Or.inr sz_x32_3) (allS (Or.inr sz_x32_4) all0))))
    have Z49 : n0 ≤ h49.size := Nat.le_trans Z32 r49_0.1
    obtain ⟨vo, hvo⟩ : ∃ v : List Value, v = own_iv [(60), (63), (120), (109), (108), (32), (118), (101), (114), (115), (105), (111), (110), (61), (34), (49), (46), (48), (34), (32), (101), (110), (99), (111), (100), (105), (110), (103), (61), (34), (85), (84), (70), (45), (56), (34), (63), (62), own_c10, own_c60, (rc.toInt8.toInt32), own_c62, own_c10, (60), (47), (rc.toInt8.toInt32), own_c62, own_c10] := ⟨_, rfl⟩
    have f79 : Arv Z h49 x49_0 x49_1 .byte (48 : Int32) vo (.int 0) := own_arv r49_2 (own_li (n := 48) (by rw [hB44]; simp [own_hdr]) rfl) (by rw [hvo, hB44]; simp only [own_hdr, List.cons_append, List.nil_append, List.append_nil] <;> rfl)
    obtain ⟨_, T80, lo80, Lc80, X80, N80, hQ80, st80⟩ := own_af (QTG38_0_0 Z x49_0 rc x49_1 (48 : Int32) vo h49 n0) 25 0 517 0 25 517 (Jvm.LawKit.callS X49 hx (y := Y_51) hown (mvT hZ (w 325 rfl)) (mvT hZ (w 326 rfl)) (mvT hZ (w 327 rfl)) (mvT hZ (w 328 rfl)) (by decide) (backOf (W := 0) (rmTG38_0_0 l Z a0 hw [] x49_0 rc x49_1 (48 : Int32) vo h49 n0 Z49 f79 (by decide) (by rw [hvo]; exact congrArg Value.int own_e10) (by rw [hvo]; exact congrArg Value.int own_e60) (by rw [hvo]; rfl) (by rw [hvo]; exact congrArg Value.int own_e62)) hZ (w 328 rfl) (w 327 rfl) (by decide) (by decide)) (g := (mkF m 157 #[vI p1, vI p2, vI p3, vI p4, vI 0, vI rc, vI ac, vI bc, vR b4, vI 1, vR x49_0, vU] [.int rc, .int 0, .int 0, .int 38, .ref x49_0])) rfl (by rw [hml]; rfl) (argsL := [.ref x49_0, .int 38, .int 0, .int 0, .int rc]) (rest := []) (lenOf pd_40 rfl) rfl (lq rfl) (hb hby at_157) (fun _ _ => ⟨rfl, e49, (by decide : 25 + 0 ≤ _), (by decide : 517 + 0 ≤ _)⟩)) N49 (fun _ _ _ h => h.2.1) rfl rfl
    dsimp only at st80
    obtain ⟨rfl, N80q, r80_0⟩ := hQ80
    obtain ⟨_, T81, lo81, Lc81, X81, N81, hQ81, st81⟩ := own_af (QTG42_0_1 Z x49_0 rc x49_1 (48 : Int32) vo h49 n0) 25 0 517 0 25 517 (Jvm.LawKit.callS X80 hx (y := Y_51) hown (mvT hZ (w 325 rfl)) (mvT hZ (w 326 rfl)) (mvT hZ (w 327 rfl)) (mvT hZ (w 328 rfl)) (by decide) (backOf (W := 0) (rmTG42_0_1 l Z a0 hw [] x49_0 rc x49_1 (48 : Int32) vo h49 n0 Z49 f79 (by decide) (by rw [hvo]; exact congrArg Value.int own_e10) (by rw [hvo]; rfl) (by rw [hvo]; rfl) (by rw [hvo]; exact congrArg Value.int own_e62) (by rw [hvo]; rfl)) hZ (w 328 rfl) (w 327 rfl) (by decide) (by decide)) (g := (mkF m 240 #[vI p1, vI p2, vI p3, vI p4, vI 0, vI rc, vI ac, vI bc, vR b4, vI 1, vR x49_0, vI 42] [.int rc, .int 1, .int 0, .int 42, .ref x49_0])) rfl (by rw [hml]; rfl) (argsL := [.ref x49_0, .int 42, .int 0, .int 1, .int rc]) (rest := []) (lenOf pd_40 rfl) rfl (lq rfl) (hb hby at_240) (fun _ _ => ⟨rfl, r80_0, (by decide : 25 + 0 ≤ _), (by decide : 517 + 0 ≤ _)⟩)) N80 (fun _ _ _ h => h.2.1) rfl rfl
    dsimp only at st81
    obtain ⟨rfl, N81q, r81_0⟩ := hQ81
    obtain ⟨fs, hr, hrun, hended, hW⟩ := X81.leaveW (v := some (.int 1)) hS (by rw [r81_0]; exact hk) (fun h => by rw [Bd.returns] at h; cases h)
    refine ⟨_, _, ch48 _ ?_, hrun, hended, _, _, rfl, ?_, ?_, ⟨hW.1, hW.2.1, hW.2.2.1, hW.2.2.2.mono (by decide) (by decide)⟩⟩
    · show SG X32 144 #[vI p1, vI p2, vI p3, vI p4, vI 0, vI rc, vI ac, vI bc, vR b4, vI 1, vU, vU] [.ref b4] _
      refine st49.trans ?_
      show SG X49 147 #[vI p1, vI p2, vI p3, vI p4, vI 0, vI rc, vI ac, vI bc, vR b4, vI 1, vU, vU] [.ref x49_0] _
      refine XS.astore X49.here hx rfl (hb hby at_147) rfl rfl (l' := #[vI p1, vI p2, vI p3, vI p4, vI 0, vI rc, vI ac, vI bc, vR b4, vI 1, vR x49_0, vU]) rfl ?_
      refine XS.aload X49.here hx rfl (hb hby at_149) rfl rfl ?_
      refine XS.bipush X49.here hx rfl (hb hby at_151) ?_
      refine XS.iconst X49.here hx rfl (hb hby at_153) ?_
      refine XS.iconst X49.here hx rfl (hb hby at_154) ?_
      refine XS.iload X49.here hx rfl (hb hby at_155) rfl ?_
      refine st80 _ ?_
      show SG X80 160 #[vI p1, vI p2, vI p3, vI p4, vI 0, vI rc, vI ac, vI bc, vR b4, vI 1, vR x49_0, vU] [.int 42] _
      refine XS.istore X80.here hx rfl (hb hby at_160) rfl (l' := #[vI p1, vI p2, vI p3, vI p4, vI 0, vI rc, vI ac, vI bc, vR b4, vI 1, vR x49_0, vI 42]) rfl ?_
      refine XS.iload X80.here hx rfl (hb hby at_162) rfl ?_
      refine XS.iconst X80.here hx rfl (hb hby at_164) ?_
      refine XS.icmpYes X80.here hx rfl (pc0 := 165) (pc' := 181) rfl (hb hby at_165) rfl (tlt (by decide : ((0 : Int32) < (1 : Int32)))).1 (by decide) (by decide) ?_
      refine XS.iload X80.here hx rfl (hb hby at_181) rfl ?_
      refine XS.iconst X80.here hx rfl (hb hby at_183) ?_
      refine XS.icmpYes X80.here hx rfl (pc0 := 184) (pc' := 213) rfl (hb hby at_184) rfl (tlt (by decide : ((0 : Int32) < (2 : Int32)))).1 (by decide) (by decide) ?_
      refine XS.iload X80.here hx rfl (hb hby at_213) rfl ?_
      refine XS.iconst X80.here hx rfl (hb hby at_215) ?_
      refine XS.icmpYes X80.here hx rfl (pc0 := 216) (pc' := 232) rfl (hb hby at_216) rfl (tlt (by decide : ((0 : Int32) < (1 : Int32)))).1 (by decide) (by decide) ?_
      refine XS.aload X80.here hx rfl (hb hby at_232) rfl rfl ?_
      refine XS.iload X80.here hx rfl (hb hby at_234) rfl ?_
      refine XS.iconst X80.here hx rfl (hb hby at_236) ?_
      refine XS.iconst X80.here hx rfl (hb hby at_237) ?_
      refine XS.iload X80.here hx rfl (hb hby at_238) rfl ?_
      refine st81 _ ?_
      show SG X81 243 #[vI p1, vI p2, vI p3, vI p4, vI 0, vI rc, vI ac, vI bc, vR b4, vI 1, vR x49_0, vI 42] [.int 47] _
      refine XS.istore X81.here hx rfl (hb hby at_243) rfl (l' := #[vI p1, vI p2, vI p3, vI p4, vI 0, vI rc, vI ac, vI bc, vR b4, vI 1, vR x49_0, vI 47]) rfl ?_
      refine XS.iload X81.here hx rfl (hb hby at_245) rfl ?_
      refine XS.ifNo X81.here hx rfl (hb hby at_247) rfl ((if0 _ _).trans (feq (by decide : ¬ ((1 : Int32) = (0 : Int32)))).1) ?_
      refine XS.iload X81.here hx rfl (hb hby at_250) rfl ?_
      refine XS.ifNo X81.here hx rfl (hb hby at_252) rfl ((if0 _ _).trans (flt (by decide : ¬ ((47 : Int32) < (0 : Int32)))).1) ?_
      refine XS.iload X81.here hx rfl (hb hby at_255) rfl ?_
      refine XS.iconst X81.here hx rfl (hb hby at_257) ?_
      refine XS.iadd X81.here hx rfl (hb hby at_258) rfl ?_
      show SG X81 259 #[vI p1, vI p2, vI p3, vI p4, vI 0, vI rc, vI ac, vI bc, vR b4, vI 1, vR x49_0, vI 47] [.int 48] _
      refine XS.aload X81.here hx rfl (hb hby at_259) rfl rfl ?_
      refine own_alen X81 hx hZ r81_0 f79 (hb hby at_261) ?_
      refine XS.icmpNo X81.here hx rfl (hb hby at_262) rfl (teq (by decide : ((48 : Int32) = (48 : Int32)))).2 ?_
      refine XS.aload X81.here hx rfl (hb hby at_265) rfl rfl ?_
      refine XS.iload X81.here hx rfl (hb hby at_267) rfl ?_
      refine own_bal X81 hx hZ r81_0 f79 (x := (10 : Int32)) ⟨by decide, by decide⟩ (by rw [hvo]; exact congrArg Value.int own_e10) (hb hby at_269) ?_
      refine XS.bipush X81.here hx rfl (hb hby at_270) ?_
      refine XS.icmpNo X81.here hx rfl (hb hby at_272) rfl (teq (by decide : ((10 : Int32) = (10 : Int32)))).2 ?_
      refine XS.iconst X81.here hx rfl (hb hby at_275) ?_
      refine XS.goto X81.here hx rfl (pc0 := 276) (pc' := 280) rfl (hb hby at_276) (by decide) (by decide) ?_
      exact retN X81 hx (t := .boolean) Bd.returns (by simp) (hb hby at_280) hr
    · show Q0 Z p1 p2 p3 p4 cs uc h0 n0 _ T81.heap _
      rw [r81_0]
      exact ⟨rfl, N81, K49⟩
    · show CHr Z consts_1 s.vm s.heap T81.vm T81.heap
      rw [hh, r81_0]
      exact hC.trans (CHv.at X81 hZ (own_EW hw) hC.1)
  · obtain ⟨_, T82, lo82, Lc82, X82, N82, hQ82, st82⟩ := own_af (QVO Z ac cs h32 n0) 16 2 332 5 18 337 (Jvm.LawKit.callS X32 hx (y := Y_3) hown (mvT hZ (w 3 rfl)) (mvT hZ (w 4 rfl)) (mvT hZ (w 5 rfl)) (mvT hZ (w 6 rfl)) (by decide) (backOf (W := 1) (rmVO l Z a0 hw [] ac cs h32 n0 Z32 f33 hcs hacx.1) hZ (w 6 rfl) (w 5 rfl) (by decide) (by decide)) (g := (mkF m 60 #[vI p1, vI p2, vI p3, vI p4, vI 1, vI rc, vI ac, vI bc, vR b4, vI 1, vU, vU] [.int ac, .ref b4])) rfl (by rw [hml]; rfl) (argsL := [.int ac]) (rest := [.ref b4]) (lenOf pd_0 rfl) rfl (lq rfl) (hb hby at_60) (fun _ _ => ⟨rfl, e32, (by decide : 16 + 2 ≤ _), (by decide : 332 + 5 ≤ _)⟩)) N32 (by rintro _ _ _ ⟨_, _, _, -, N, -⟩; exact N) rfl rfl
    dsimp only at st82
    obtain ⟨x82_0, x82_1, x82_2, rfl, N82q, r82_0, r82_1, r82_2, r82_3, r82_4, r82_5, r82_6⟩ := hQ82
    have hC := hC.trans (CHr.keep r82_0 sf0 hC.1)
    have hk := Nat.le_trans hk r82_0.1
    have K82 := K32.trans r82_0 all0
    have Z82 : n0 ≤ T82.heap.size := Nat.le_trans Z32 r82_0.1
    obtain ⟨T104, h104, k104, X104, e104, E104, A104, O104, st104⟩ := newR X82 hx hZ hown (w 29 rfl) (w 30 rfl) rfl (g := (mkF m 64 #[vI p1, vI p2, vI p3, vI p4, vI 1, vI rc, vI ac, vI bc, vR b4, vI 1, vU, vU] [.int 0, .ref x82_0, .ref b4])) rfl (hb hby at_64) rfl (by decide) (cap := 0) (by decide) (by decide) (by decide) (by decide)
    obtain ⟨b104, g104⟩ : ∃ z, z = T82.heap.size := ⟨_, rfl⟩
    rw [← g104] at A104 st104
    have hC := hC.trans (CHr.ext E104 hC.1)
    have hk := Nat.le_trans hk E104.1
    have f115 := (f36.keep r82_0).ext E104
    have f121 := (r32_1.keep r82_0 nin0).ext E104
    have f122 := (r32_2.keep r82_0 nin0).ext E104
    have f123 := (r32_3.keep r82_0).ext E104
    have f124 := (r32_4.keep r82_0 nin0).ext E104
    have f125 := (r32_5.keep r82_0 nin0).ext E104
    have f126 := (f46.keep r82_0 nin0).ext E104
    have f127 := (f47.keep r82_0 nin0).ext E104
    have f128 := (r32_8.keep r82_0).ext E104
    have f129 := (r32_9.keep r82_0 nin0).ext E104
    have f130 := (r32_10.keep r82_0 nin0).ext E104
    have f131 := (r32_11.keep r82_0 nin0).ext E104
    have f132 := (r32_12.keep r82_0 nin0).ext E104
    have f133 := (own_sta f33 r82_0 ns0).ext E104
    have f134 := (own_sta f34 r82_0 ns0).ext E104
    have f135 := (own_sta f35 r82_0 ns0).ext E104
    have f136 := r82_3.ext E104
    have f137 := r82_4.ext E104
    have f138 := r82_5.ext E104
    have f139 := r82_6.ext E104
    have K104 := K82.ext E104
    have Z104 : n0 ≤ h104.size := Nat.le_trans Z82 E104.1
    have V104 : Arv Z h104 b104 k104 (.object "java/lang/String") (0 : Int32) [] .null := (Arv.new A104 (by decide)).pad (pad_rep [] .null 0)
    have ch140 : Goes p e below sZ (entryFrame m #[.int p1, .int p2, .int p3, .int p4] maxLocals) T104 (mkF m 67 #[vI p1, vI p2, vI p3, vI p4, vI 1, vI rc, vI ac, vI bc, vR b4, vI 1, vU, vU] [.ref b104, .ref x82_0, .ref b4]) := fun t kt => ch45 t (by
      show SG X32 50 #[vI p1, vI p2, vI p3, vI p4, .val (.int ((p1 &&& (3 : Int32)) % (3 : Int32))), vI rc, vI ac, vI bc, vR b4, vI 1, vU, vU] [] _
      rw [hd]
      show SG X32 50 #[vI p1, vI p2, vI p3, vI p4, vI 1, vI rc, vI ac, vI bc, vR b4, vI 1, vU, vU] [] _
      refine XS.iload X32.here hx rfl (hb hby at_50) rfl ?_
      refine XS.iconst X32.here hx rfl (hb hby at_52) ?_
      refine XS.icmpNo X32.here hx rfl (hb hby at_53) rfl (flt (by decide : ¬ ((1 : Int32) < (1 : Int32)))).1 ?_
      refine XS.aload X32.here hx rfl (hb hby at_56) rfl rfl ?_
      refine XS.iload X32.here hx rfl (hb hby at_58) rfl ?_
      refine st82 _ ?_
      show SG X82 63 #[vI p1, vI p2, vI p3, vI p4, vI 1, vI rc, vI ac, vI bc, vR b4, vI 1, vU, vU] [.ref x82_0, .ref b4] _
      refine XS.iconst X82.here hx rfl (hb hby at_63) ?_
      refine st104 _ ?_
      show SG X104 67 #[vI p1, vI p2, vI p3, vI p4, vI 1, vI rc, vI ac, vI bc, vR b4, vI 1, vU, vU] [.ref b104, .ref x82_0, .ref b4] _
      exact kt)
    obtain ⟨cq141, kq141, q141a, q141b, q141c⟩ := isOf hZ e104 f115
    obtain ⟨_, T141, lo141, Lc141, h141, kk141, X141, e141, hS, hk, hZ, hown, N141, hQ141, hCn, st141⟩ := own_afW (QSR1 Z b4 x82_0 b104 x32_0 x32_3 x32_1 x32_2 B44 x32_4 x32_5 x10_0 cs x82_1 x82_2 (ac.toInt8.toInt32) k104 h104 n0) 19 2 337 8 21 345 (X104.virtualBackS hx (y := Y_55) (z := Y_55) hown (mvT hZ (w 329 rfl)) (mvT hZ (w 148 rfl)) (own_ns hZ (w 150 rfl)) (mvT hZ (w 150 rfl)) (mvT hZ (w 149 rfl)) (by decide) (backOfSH (W := 0) (rmSR1 l Z a0 hw [] b4 x82_0 b104 x32_0 x32_3 x32_1 x32_2 B44 x32_4 x32_5 x10_0 cs x82_1 x82_2 (ac.toInt8.toInt32) k104 h104 n0 Z104 f115 f121 f122 f123 f124 f125 f126 f127 f128 f129 f130 f131 f132 r32_13 f133 f136 f137 f138 f139 V104 hcs (Nat.le_trans (Nat.add_le_add_left (by decide : 5 ≤ 36) _) lB44) g_x32_0 g_x32_1 g_x32_3 g_x32_4) hZ (w 151 rfl) (w 2 rfl) (by decide) (by decide) (own_EW hw) hC.1) q141a q141c (g := (mkF m 67 #[vI p1, vI p2, vI p3, vI p4, vI 1, vI rc, vI ac, vI bc, vR b4, vI 1, vU, vU] [.ref b104, .ref x82_0, .ref b4])) rfl (by rw [hml]; rfl) (Steps.refl _) (argsL := [.ref x82_0, .ref b104]) (rest := []) (lenOf pd_19 rfl) rfl (lq rfl) (hb hby at_67) (fun _ _ => ⟨rfl, e104, (by decide : 19 + 2 ≤ _), (by decide : 337 + 8 ≤ _)⟩)) hS e104 hk hZ hown N82 (fun _ _ _ h => h.2.1) rfl rfl
    dsimp only at st141
    obtain ⟨rfl, N141q, r141_0, r141_1, r141_2, r141_3, r141_4, r141_5, r141_6, r141_7, r141_8⟩ := hQ141
    have hC := hC.trans hCn
    have f142 := own_sta f133 r141_0 (nsS f123.nostat (nsS f127.nostat (nsS f128.nostat (nsS f132.nostat ns0))))
    have f143 := own_sta f134 r141_0 (nsS f123.nostat (nsS f127.nostat (nsS f128.nostat (nsS f132.nostat ns0))))
    have f144 := own_sta f135 r141_0 (nsS f123.nostat (nsS f127.nostat (nsS f128.nostat (nsS f132.nostat ns0))))
    have f145 := f115.keep r141_0
    have ne147 : x10_0 ≠ x32_4 := Nat.ne_of_lt (Nat.lt_of_lt_of_le f27.lt r32_17)
    have ne148 : x10_0 ≠ x32_3 := Nat.ne_of_lt (Nat.lt_of_lt_of_le f27.lt r32_16)
    have ne149 : x10_0 ≠ x32_1 := Nat.ne_of_lt (Nat.lt_of_lt_of_le f27.lt r32_15)
    have ne150 : x10_0 ≠ x32_0 := Nat.ne_of_lt (Nat.lt_of_lt_of_le f27.lt r32_14)
    have ne153 : x10_1 ≠ x32_4 := Nat.ne_of_lt (Nat.lt_of_lt_of_le f30.lt r32_17)
    have ne154 : x10_1 ≠ x32_3 := Nat.ne_of_lt (Nat.lt_of_lt_of_le f30.lt r32_16)
    have ne155 : x10_1 ≠ x32_1 := Nat.ne_of_lt (Nat.lt_of_lt_of_le f30.lt r32_15)
    have ne156 : x10_1 ≠ x32_0 := Nat.ne_of_lt (Nat.lt_of_lt_of_le f30.lt r32_14)
    have ne163 : b4 ≠ x32_4 := Nat.ne_of_lt (Nat.lt_of_lt_of_le f21.lt r32_17)
    have ne164 : b4 ≠ x32_3 := Nat.ne_of_lt (Nat.lt_of_lt_of_le f21.lt r32_16)
    have ne165 : b4 ≠ x32_1 := Nat.ne_of_lt (Nat.lt_of_lt_of_le f21.lt r32_15)
    have ne166 : b4 ≠ x32_0 := Nat.ne_of_lt (Nat.lt_of_lt_of_le f21.lt r32_14)
    have f167 := f121.keep r141_0 (ninS ne166 (ninS ne165 (ninS ne164 (ninS ne163 nin0))))
    have f168 := f122.keep r141_0 (ninS ne166 (ninS ne165 (ninS ne164 (ninS ne163 nin0))))
    have f169 := f123.keep r141_0
    have f170 := f128.keep r141_0
    have f171 := f136.keep r141_0
    have ne172 : x32_4 ≠ x82_0 := Nat.ne_of_lt (Nat.lt_of_lt_of_le r32_12.lt r82_1)
    have ne173 : x32_3 ≠ x82_0 := Nat.ne_of_lt (Nat.lt_of_lt_of_le r32_8.lt r82_1)
    have ne174 : x32_1 ≠ x82_0 := Nat.ne_of_lt (Nat.lt_of_lt_of_le f47.lt r82_1)
    have ne175 : x32_0 ≠ x82_0 := Nat.ne_of_lt (Nat.lt_of_lt_of_le r32_3.lt r82_1)
    have f176 := f137.keep r141_0 (ninS (Ne.symm ne175) (ninS (Ne.symm ne174) (ninS (Ne.symm ne173) (ninS (Ne.symm ne172) nin0))))
    have f177 := f138.keep r141_0 (ninS (Ne.symm ne175) (ninS (Ne.symm ne174) (ninS (Ne.symm ne173) (ninS (Ne.symm ne172) nin0))))
    have ne178 : x32_4 ≠ x82_1 := Nat.ne_of_lt (Nat.lt_of_lt_of_le r32_12.lt r82_2)
    have ne179 : x32_3 ≠ x82_1 := Nat.ne_of_lt (Nat.lt_of_lt_of_le r32_8.lt r82_2)
    have ne180 : x32_1 ≠ x82_1 := Nat.ne_of_lt (Nat.lt_of_lt_of_le f47.lt r82_2)
    have ne181 : x32_0 ≠ x82_1 := Nat.ne_of_lt (Nat.lt_of_lt_of_le r32_3.lt r82_2)
    have f182 := f139.keep r141_0 (ninS (Ne.symm ne181) (ninS (Ne.symm ne180) (ninS (Ne.symm ne179) (ninS (Ne.symm ne178) nin0))))
    have K141 := K104.trans r141_0 (allS (Or.inr sz_x32_0) (allS (Or.inr sz_x32_1) (allS (Or.inr sz_x32_3) (allS (Or.inr sz_x32_4) all0))))
    have Z141 : n0 ≤ h141.size := Nat.le_trans Z104 r141_0.1
    have ch185 : Goes p e below sZ (entryFrame m #[.int p1, .int p2, .int p3, .int p4] maxLocals) T141 (mkF m 71 #[vI p1, vI p2, vI p3, vI p4, vI 1, vI rc, vI ac, vI bc, vR b4, vI 1, vU, vU] []) := fun t kt => ch140 t (by
      show SG X104 67 #[vI p1, vI p2, vI p3, vI p4, vI 1, vI rc, vI ac, vI bc, vR b4, vI 1, vU, vU] [.ref b104, .ref x82_0, .ref b4] _
      refine st141.trans ?_
      show SG X141 70 #[vI p1, vI p2, vI p3, vI p4, vI 1, vI rc, vI ac, vI bc, vR b4, vI 1, vU, vU] [.ref b4] _
      refine XS.pop X141.here hx rfl (hb hby at_70) rfl rfl ?_
      exact kt)
    obtain ⟨B184, hB184⟩ : ∃ B : List Int32, B = (((((B44 ++ [own_c10]) ++ [(9 : Int32)]) ++ [own_c60]) ++ [(ac.toInt8.toInt32)]) ++ [own_c62]) := ⟨_, rfl⟩
    have lB184 : B184.length + 31 ≤ 78 := by rw [hB184]; exact (own_len (us := [own_c62]) (m := 31) (own_len (us := [(ac.toInt8.toInt32)]) (m := 32) (own_len (us := [own_c60]) (m := 33) (own_len (us := [(9 : Int32)]) (m := 34) (own_len (us := [own_c10]) (m := 35) lB44 (bl rfl)) (bl rfl)) (bl rfl)) (bl rfl)) (bl rfl))
    have pB184 : ∀ x ∈ B184, ¬ x < (0 : Int32) := by rw [hB184]; exact (own_posA (own_posA (own_posA (own_posA (own_posA pB44 (own_pos1 (by decide))) (own_pos1 (by decide))) (own_pos1 (by decide))) (own_pos1 hacx.2)) (own_pos1 (by decide)))
    have f186 : Fld Z h141 x32_0 sA "count" "I" (.int (Int32.ofNat B184.length)) := by rw [hB184]; exact r141_3
    have f187 : Arv Z h141 x32_1 x32_2 .byte (78 : Int32) (own_iv B184) (.int 0) := by rw [hB184]; exact r141_4
    have ch188 : Goes p e below sZ (entryFrame m #[.int p1, .int p2, .int p3, .int p4] maxLocals) T141 (mkF m 127 #[vI p1, vI p2, vI p3, vI p4, vI 1, vI rc, vI ac, vI bc, vR b4, vI 1, vU, vU] [.ref b4]) := fun t kt => ch185 t (by
      show SG X141 71 #[vI p1, vI p2, vI p3, vI p4, vI 1, vI rc, vI ac, vI bc, vR b4, vI 1, vU, vU] [] _
      refine XS.iload X141.here hx rfl (hb hby at_71) rfl ?_
      refine XS.iconst X141.here hx rfl (hb hby at_73) ?_
      refine XS.icmpYes X141.here hx rfl (pc0 := 74) (pc' := 114) rfl (hb hby at_74) rfl (tlt (by decide : ((1 : Int32) < (2 : Int32)))).1 (by decide) (by decide) ?_
      refine XS.iload X141.here hx rfl (hb hby at_114) rfl ?_
      refine XS.iconst X141.here hx rfl (hb hby at_116) ?_
      refine XS.icmpNo X141.here hx rfl (hb hby at_117) rfl (flt (by decide : ¬ ((1 : Int32) < (1 : Int32)))).1 ?_
      refine XS.iload X141.here hx rfl (hb hby at_120) rfl ?_
      refine XS.ifNo X141.here hx rfl (hb hby at_122) rfl ((if0 _ _).trans (feq (by decide : ¬ ((1 : Int32) = (0 : Int32)))).1) ?_
      refine XS.aload X141.here hx rfl (hb hby at_125) rfl rfl ?_
      exact kt)
    obtain ⟨cq189, kq189, q189a, q189b, q189c⟩ := isOf hZ e141 f145
    obtain ⟨_, T189, lo189, Lc189, h189, kk189, X189, e189, hS, hk, hZ, hown, N189, hQ189, hCn, st189⟩ := own_afW (QEN2 Z b4 x32_0 x32_3 x32_1 x32_2 B184 x32_4 x32_5 x10_0 x82_0 cs x82_1 x82_2 (ac.toInt8.toInt32) h141 n0) 21 4 345 20 25 365 (X141.virtualBackS hx (y := Y_58) (z := Y_58) hown (mvT hZ (w 334 rfl)) (mvT hZ (w 221 rfl)) (own_ns hZ (w 223 rfl)) (mvT hZ (w 223 rfl)) (mvT hZ (w 222 rfl)) (by decide) (backOfSH (W := 0) (rmEN2 l Z a0 hw [] b4 x32_0 x32_3 x32_1 x32_2 B184 x32_4 x32_5 x10_0 x82_0 cs x82_1 x82_2 (ac.toInt8.toInt32) h141 n0 Z141 f145 f167 f168 f169 r141_1 r141_2 f186 f187 f170 r141_5 r141_6 r141_7 r141_8 r32_13 f142 f171 f176 f177 f182 hcs (Nat.le_trans (Nat.add_le_add_left (by decide : 6 ≤ 31) _) lB184) g_x32_0 g_x32_1 g_x32_3 g_x32_4) hZ (w 224 rfl) (w 2 rfl) (by decide) (by decide) (own_EW hw) hC.1) q189a q189c (g := (mkF m 127 #[vI p1, vI p2, vI p3, vI p4, vI 1, vI rc, vI ac, vI bc, vR b4, vI 1, vU, vU] [.ref b4])) rfl (by rw [hml]; rfl) (Steps.refl _) (argsL := []) (rest := []) (lenOf pd_27 rfl) rfl (lq rfl) (hb hby at_127) (fun _ _ => ⟨rfl, e141, (by decide : 21 + 4 ≤ _), (by decide : 345 + 20 ≤ _)⟩)) hS e141 hk hZ hown N141 (fun _ _ _ h => h.2.1) rfl rfl
    dsimp only at st189
    obtain ⟨rfl, N189q, r189_0, r189_1, r189_2, r189_3, r189_4, r189_5, r189_6, r189_7, r189_8⟩ := hQ189
    have hC := hC.trans hCn
    have f190 := own_sta f142 r189_0 (nsS f169.nostat (nsS f187.nostat (nsS f170.nostat (nsS r141_8.nostat ns0))))
    have f191 := own_sta f143 r189_0 (nsS f169.nostat (nsS f187.nostat (nsS f170.nostat (nsS r141_8.nostat ns0))))
    have f192 := own_sta f144 r189_0 (nsS f169.nostat (nsS f187.nostat (nsS f170.nostat (nsS r141_8.nostat ns0))))
    have f193 := f145.keep r189_0
    have f194 := (((f37.keep r82_0).ext E104).keep r141_0).keep r189_0
    have f195 := (((f39.keep r82_0 nin0).ext E104).keep r141_0 (ninS ne150 (ninS ne149 (ninS ne148 (ninS ne147 nin0))))).keep r189_0 (ninS ne150 (ninS ne149 (ninS ne148 (ninS ne147 nin0))))
    have f196 := (((f40.keep r82_0 nin0).ext E104).keep r141_0 (ninS ne150 (ninS ne149 (ninS ne148 (ninS ne147 nin0))))).keep r189_0 (ninS ne150 (ninS ne149 (ninS ne148 (ninS ne147 nin0))))
    have f197 := (((f42.keep r82_0 nin0).ext E104).keep r141_0 (ninS ne156 (ninS ne155 (ninS ne154 (ninS ne153 nin0))))).keep r189_0 (ninS ne156 (ninS ne155 (ninS ne154 (ninS ne153 nin0))))
    have f199 := f167.keep r189_0 (ninS ne166 (ninS ne165 (ninS ne164 (ninS ne163 nin0))))
    have f200 := f168.keep r189_0 (ninS ne166 (ninS ne165 (ninS ne164 (ninS ne163 nin0))))
    have f201 := f169.keep r189_0
    have f202 := f170.keep r189_0
    have K189 := K141.trans r189_0 (allS (Or.inr sz_x32_0) (allS (Or.inr sz_x32_1) (allS (Or.inr sz_x32_3) (allS (Or.inr sz_x32_4) all0))))
    have Z189 : n0 ≤ h189.size := Nat.le_trans Z141 r189_0.1
    have ch209 : Goes p e below sZ (entryFrame m #[.int p1, .int p2, .int p3, .int p4] maxLocals) T189 (mkF m 130 #[vI p1, vI p2, vI p3, vI p4, vI 1, vI rc, vI ac, vI bc, vR b4, vI 1, vU, vU] [.ref b4]) := fun t kt => ch188 t (by
      show SG X141 127 #[vI p1, vI p2, vI p3, vI p4, vI 1, vI rc, vI ac, vI bc, vR b4, vI 1, vU, vU] [.ref b4] _
      refine st189.trans ?_
      show SG X189 130 #[vI p1, vI p2, vI p3, vI p4, vI 1, vI rc, vI ac, vI bc, vR b4, vI 1, vU, vU] [.ref b4] _
      exact kt)
    obtain ⟨B208, hB208⟩ : ∃ B : List Int32, B = (((((B184 ++ [own_c10]) ++ [(9 : Int32)]) ++ [(60 : Int32), (47 : Int32)]) ++ [(ac.toInt8.toInt32)]) ++ [own_c62]) := ⟨_, rfl⟩
    have lB208 : B208.length + 25 ≤ 78 := by rw [hB208]; exact (own_len (us := [own_c62]) (m := 25) (own_len (us := [(ac.toInt8.toInt32)]) (m := 26) (own_len (us := [(60 : Int32), (47 : Int32)]) (m := 27) (own_len (us := [(9 : Int32)]) (m := 29) (own_len (us := [own_c10]) (m := 30) lB184 (bl rfl)) (bl rfl)) (bl rfl)) (bl rfl)) (bl rfl))
    have pB208 : ∀ x ∈ B208, ¬ x < (0 : Int32) := by rw [hB208]; exact (own_posA (own_posA (own_posA (own_posA (own_posA pB184 (own_pos1 (by decide))) (own_pos1 (by decide))) (by decide)) (own_pos1 hacx.2)) (own_pos1 (by decide)))
    have f210 : Fld Z h189 x32_0 sA "count" "I" (.int (Int32.ofNat B208.length)) := by rw [hB208]; exact r189_3
    have f211 : Arv Z h189 x32_1 x32_2 .byte (78 : Int32) (own_iv B208) (.int 0) := by rw [hB208]; exact r189_4
    have ch212 : Goes p e below sZ (entryFrame m #[.int p1, .int p2, .int p3, .int p4] maxLocals) T189 (mkF m 144 #[vI p1, vI p2, vI p3, vI p4, vI 1, vI rc, vI ac, vI bc, vR b4, vI 1, vU, vU] [.ref b4]) := fun t kt => ch209 t (by
      show SG X189 130 #[vI p1, vI p2, vI p3, vI p4, vI 1, vI rc, vI ac, vI bc, vR b4, vI 1, vU, vU] [.ref b4] _
      refine XS.aload X189.here hx rfl (hb hby at_130) rfl rfl ?_
      refine Jvm.RoadKit.acmp (g := (mkF m 132 #[vI p1, vI p2, vI p3, vI p4, vI 1, vI rc, vI ac, vI bc, vR b4, vI 1, vU, vU] [.ref b4, .ref b4])) X189 hx rfl rfl rfl (pc0 := 132) (pc' := 135) (same := true) rfl (hb hby at_132) rfl (decide_eq_true rfl) (by decide) (by decide) ?_
      refine XS.iconst X189.here hx rfl (hb hby at_135) ?_
      refine XS.goto X189.here hx rfl (pc0 := 136) (pc' := 140) rfl (hb hby at_136) (by decide) (by decide) ?_
      refine XS.istore X189.here hx rfl (hb hby at_140) rfl (l' := #[vI p1, vI p2, vI p3, vI p4, vI 1, vI rc, vI ac, vI bc, vR b4, vI 1, vU, vU]) rfl ?_
      refine XS.aload X189.here hx rfl (hb hby at_142) rfl rfl ?_
      exact kt)
    obtain ⟨cq213, kq213, q213a, q213b, q213c⟩ := isOf hZ e189 f193
    obtain ⟨_, T213, lo213, Lc213, h213, kk213, X213, e213, hS, hk, hZ, hown, N213, hQ213, hCn, st213⟩ := own_afW (QFN Z b4 x32_0 x32_3 x32_1 x32_2 B208 x32_4 x32_5 x10_0 cs x10_1 x10_2 (rc.toInt8.toInt32) uc h189 n0) 25 9 365 185 34 550 (X189.virtualBackS hx (y := Y_60) (z := Y_60) hown (mvT hZ (w 215 rfl)) (mvT hZ (w 216 rfl)) (own_ns hZ (w 218 rfl)) (mvT hZ (w 218 rfl)) (mvT hZ (w 217 rfl)) (by decide) (backOfSH (W := 0) (rmFN l Z a0 hw [] b4 x32_0 x32_3 x32_1 x32_2 B208 x32_4 x32_5 x10_0 cs x10_1 x10_2 (rc.toInt8.toInt32) uc h189 n0 Z189 f193 f199 f200 f201 r189_1 r189_2 f210 f211 f202 r189_5 r189_6 r189_7 r189_8 r32_13 f190 f194 f195 f196 f197 f191 f192 hcs (Nat.le_trans (Nat.add_le_add_left (by decide : 7 ≤ 25) _) lB208) pB208 hrcx.2 g_x32_0 g_x32_1 g_x32_3 g_x32_4) hZ (w 219 rfl) (w 2 rfl) (by decide) (by decide) (own_EW hw) hC.1) q213a q213c (g := (mkF m 144 #[vI p1, vI p2, vI p3, vI p4, vI 1, vI rc, vI ac, vI bc, vR b4, vI 1, vU, vU] [.ref b4])) rfl (by rw [hml]; rfl) (Steps.refl _) (argsL := []) (rest := []) (lenOf pd_26 rfl) rfl (lq rfl) (hb hby at_144) (fun _ _ => ⟨rfl, e189, (by decide : 25 + 9 ≤ _), (by decide : 365 + 185 ≤ _)⟩)) hS e189 hk hZ hown N189 (by rintro _ _ _ ⟨_, _, -, N, -⟩; exact N) rfl rfl
    dsimp only at st213
    obtain ⟨x213_0, x213_1, rfl, N213q, r213_0, r213_1, r213_2⟩ := hQ213
    have hC := hC.trans hCn
    have K213 := K189.trans r213_0 (allS (Or.inr sz_x32_0) (allS (Or.inr sz_x32_1) (allS (Or.inr sz_x32_3) (allS (Or.inr sz_x32_4) all0))))
    have Z213 : n0 ≤ h213.size := Nat.le_trans Z189 r213_0.1
    obtain ⟨vo, hvo⟩ : ∃ v : List Value, v = own_iv [(60), (63), (120), (109), (108), (32), (118), (101), (114), (115), (105), (111), (110), (61), (34), (49), (46), (48), (34), (32), (101), (110), (99), (111), (100), (105), (110), (103), (61), (34), (85), (84), (70), (45), (56), (34), (63), (62), own_c10, own_c60, (rc.toInt8.toInt32), own_c62, own_c10, (9), own_c60, (ac.toInt8.toInt32), own_c62, own_c10, (9), (60), (47), (ac.toInt8.toInt32), own_c62, own_c10, (60), (47), (rc.toInt8.toInt32), own_c62, own_c10] := ⟨_, rfl⟩
    have f232 : Arv Z h213 x213_0 x213_1 .byte (59 : Int32) vo (.int 0) := own_arv r213_2 (own_li (n := 59) (by rw [hB208, hB184, hB44]; simp [own_hdr]) rfl) (by rw [hvo, hB208, hB184, hB44]; simp only [own_hdr, List.cons_append, List.nil_append, List.append_nil] <;> rfl)
    obtain ⟨_, T233, lo233, Lc233, X233, N233, hQ233, st233⟩ := own_af (QTG38_0_0 Z x213_0 rc x213_1 (59 : Int32) vo h213 n0) 34 0 550 0 34 550 (Jvm.LawKit.callS X213 hx (y := Y_51) hown (mvT hZ (w 325 rfl)) (mvT hZ (w 326 rfl)) (mvT hZ (w 327 rfl)) (mvT hZ (w 328 rfl)) (by decide) (backOf (W := 0) (rmTG38_0_0 l Z a0 hw [] x213_0 rc x213_1 (59 : Int32) vo h213 n0 Z213 f232 (by decide) (by rw [hvo]; exact congrArg Value.int own_e10) (by rw [hvo]; exact congrArg Value.int own_e60) (by rw [hvo]; rfl) (by rw [hvo]; exact congrArg Value.int own_e62)) hZ (w 328 rfl) (w 327 rfl) (by decide) (by decide)) (g := (mkF m 157 #[vI p1, vI p2, vI p3, vI p4, vI 1, vI rc, vI ac, vI bc, vR b4, vI 1, vR x213_0, vU] [.int rc, .int 0, .int 0, .int 38, .ref x213_0])) rfl (by rw [hml]; rfl) (argsL := [.ref x213_0, .int 38, .int 0, .int 0, .int rc]) (rest := []) (lenOf pd_40 rfl) rfl (lq rfl) (hb hby at_157) (fun _ _ => ⟨rfl, e213, (by decide : 34 + 0 ≤ _), (by decide : 550 + 0 ≤ _)⟩)) N213 (fun _ _ _ h => h.2.1) rfl rfl
    dsimp only at st233
    obtain ⟨rfl, N233q, r233_0⟩ := hQ233
    obtain ⟨_, T234, lo234, Lc234, X234, N234, hQ234, st234⟩ := own_af (QTG42_1_0 Z x213_0 ac x213_1 (59 : Int32) vo h213 n0) 34 0 550 0 34 550 (Jvm.LawKit.callS X233 hx (y := Y_51) hown (mvT hZ (w 325 rfl)) (mvT hZ (w 326 rfl)) (mvT hZ (w 327 rfl)) (mvT hZ (w 328 rfl)) (by decide) (backOf (W := 0) (rmTG42_1_0 l Z a0 hw [] x213_0 ac x213_1 (59 : Int32) vo h213 n0 Z213 f232 (by decide) (by rw [hvo]; exact congrArg Value.int own_e10) (by rw [hvo]; exact congrArg Value.int own_e60) (by rw [hvo]; rfl) (by rw [hvo]; exact congrArg Value.int own_e62) (by rw [hvo]; rfl)) hZ (w 328 rfl) (w 327 rfl) (by decide) (by decide)) (g := (mkF m 176 #[vI p1, vI p2, vI p3, vI p4, vI 1, vI rc, vI ac, vI bc, vR b4, vI 1, vR x213_0, vI 42] [.int ac, .int 0, .int 1, .int 42, .ref x213_0])) rfl (by rw [hml]; rfl) (argsL := [.ref x213_0, .int 42, .int 1, .int 0, .int ac]) (rest := []) (lenOf pd_40 rfl) rfl (lq rfl) (hb hby at_176) (fun _ _ => ⟨rfl, r233_0, (by decide : 34 + 0 ≤ _), (by decide : 550 + 0 ≤ _)⟩)) N233 (fun _ _ _ h => h.2.1) rfl rfl
    dsimp only at st234
    obtain ⟨rfl, N234q, r234_0⟩ := hQ234
    obtain ⟨_, T235, lo235, Lc235, X235, N235, hQ235, st235⟩ := own_af (QTG47_1_1 Z x213_0 ac x213_1 (59 : Int32) vo h213 n0) 34 0 550 0 34 550 (Jvm.LawKit.callS X234 hx (y := Y_51) hown (mvT hZ (w 325 rfl)) (mvT hZ (w 326 rfl)) (mvT hZ (w 327 rfl)) (mvT hZ (w 328 rfl)) (by decide) (backOf (W := 0) (rmTG47_1_1 l Z a0 hw [] x213_0 ac x213_1 (59 : Int32) vo h213 n0 Z213 f232 (by decide) (by rw [hvo]; exact congrArg Value.int own_e10) (by rw [hvo]; rfl) (by rw [hvo]; rfl) (by rw [hvo]; exact congrArg Value.int own_e62) (by rw [hvo]; rfl) (by rw [hvo]; rfl)) hZ (w 328 rfl) (w 327 rfl) (by decide) (by decide)) (g := (mkF m 227 #[vI p1, vI p2, vI p3, vI p4, vI 1, vI rc, vI ac, vI bc, vR b4, vI 1, vR x213_0, vI 47] [.int ac, .int 1, .int 1, .int 47, .ref x213_0])) rfl (by rw [hml]; rfl) (argsL := [.ref x213_0, .int 47, .int 1, .int 1, .int ac]) (rest := []) (lenOf pd_40 rfl) rfl (lq rfl) (hb hby at_227) (fun _ _ => ⟨rfl, r234_0, (by decide : 34 + 0 ≤ _), (by decide : 550 + 0 ≤ _)⟩)) N234 (fun _ _ _ h => h.2.1) rfl rfl
    dsimp only at st235
    obtain ⟨rfl, N235q, r235_0⟩ := hQ235
    obtain ⟨_, T236, lo236, Lc236, X236, N236, hQ236, st236⟩ := own_af (QTG53_0_1 Z x213_0 rc x213_1 (59 : Int32) vo h213 n0) 34 0 550 0 34 550 (Jvm.LawKit.callS X235 hx (y := Y_51) hown (mvT hZ (w 325 rfl)) (mvT hZ (w 326 rfl)) (mvT hZ (w 327 rfl)) (mvT hZ (w 328 rfl)) (by decide) (backOf (W := 0) (rmTG53_0_1 l Z a0 hw [] x213_0 rc x213_1 (59 : Int32) vo h213 n0 Z213 f232 (by decide) (by rw [hvo]; exact congrArg Value.int own_e10) (by rw [hvo]; rfl) (by rw [hvo]; rfl) (by rw [hvo]; exact congrArg Value.int own_e62) (by rw [hvo]; rfl)) hZ (w 328 rfl) (w 327 rfl) (by decide) (by decide)) (g := (mkF m 240 #[vI p1, vI p2, vI p3, vI p4, vI 1, vI rc, vI ac, vI bc, vR b4, vI 1, vR x213_0, vI 53] [.int rc, .int 1, .int 0, .int 53, .ref x213_0])) rfl (by rw [hml]; rfl) (argsL := [.ref x213_0, .int 53, .int 0, .int 1, .int rc]) (rest := []) (lenOf pd_40 rfl) rfl (lq rfl) (hb hby at_240) (fun _ _ => ⟨rfl, r235_0, (by decide : 34 + 0 ≤ _), (by decide : 550 + 0 ≤ _)⟩)) N235 (fun _ _ _ h => h.2.1) rfl rfl
    dsimp only at st236
    obtain ⟨rfl, N236q, r236_0⟩ := hQ236
    obtain ⟨fs, hr, hrun, hended, hW⟩ := X236.leaveW (v := some (.int 1)) hS (by rw [r236_0]; exact hk) (fun h => by rw [Bd.returns] at h; cases h)
    refine ⟨_, _, ch212 _ ?_, hrun, hended, _, _, rfl, ?_, ?_, ⟨hW.1, hW.2.1, hW.2.2.1, hW.2.2.2.mono (by decide) (by decide)⟩⟩
    · show SG X189 144 #[vI p1, vI p2, vI p3, vI p4, vI 1, vI rc, vI ac, vI bc, vR b4, vI 1, vU, vU] [.ref b4] _
      refine st213.trans ?_
      show SG X213 147 #[vI p1, vI p2, vI p3, vI p4, vI 1, vI rc, vI ac, vI bc, vR b4, vI 1, vU, vU] [.ref x213_0] _
      refine XS.astore X213.here hx rfl (hb hby at_147) rfl rfl (l' := #[vI p1, vI p2, vI p3, vI p4, vI 1, vI rc, vI ac, vI bc, vR b4, vI 1, vR x213_0, vU]) rfl ?_
      refine XS.aload X213.here hx rfl (hb hby at_149) rfl rfl ?_
      refine XS.bipush X213.here hx rfl (hb hby at_151) ?_
      refine XS.iconst X213.here hx rfl (hb hby at_153) ?_
      refine XS.iconst X213.here hx rfl (hb hby at_154) ?_
      refine XS.iload X213.here hx rfl (hb hby at_155) rfl ?_
      refine st233 _ ?_
      show SG X233 160 #[vI p1, vI p2, vI p3, vI p4, vI 1, vI rc, vI ac, vI bc, vR b4, vI 1, vR x213_0, vU] [.int 42] _
      refine XS.istore X233.here hx rfl (hb hby at_160) rfl (l' := #[vI p1, vI p2, vI p3, vI p4, vI 1, vI rc, vI ac, vI bc, vR b4, vI 1, vR x213_0, vI 42]) rfl ?_
      refine XS.iload X233.here hx rfl (hb hby at_162) rfl ?_
      refine XS.iconst X233.here hx rfl (hb hby at_164) ?_
      refine XS.icmpNo X233.here hx rfl (hb hby at_165) rfl (flt (by decide : ¬ ((1 : Int32) < (1 : Int32)))).1 ?_
      refine XS.aload X233.here hx rfl (hb hby at_168) rfl rfl ?_
      refine XS.iload X233.here hx rfl (hb hby at_170) rfl ?_
      refine XS.iconst X233.here hx rfl (hb hby at_172) ?_
      refine XS.iconst X233.here hx rfl (hb hby at_173) ?_
      refine XS.iload X233.here hx rfl (hb hby at_174) rfl ?_
      refine st234 _ ?_
      show SG X234 179 #[vI p1, vI p2, vI p3, vI p4, vI 1, vI rc, vI ac, vI bc, vR b4, vI 1, vR x213_0, vI 42] [.int 47] _
      refine XS.istore X234.here hx rfl (hb hby at_179) rfl (l' := #[vI p1, vI p2, vI p3, vI p4, vI 1, vI rc, vI ac, vI bc, vR b4, vI 1, vR x213_0, vI 47]) rfl ?_
      refine XS.iload X234.here hx rfl (hb hby at_181) rfl ?_
      refine XS.iconst X234.here hx rfl (hb hby at_183) ?_
      refine XS.icmpYes X234.here hx rfl (pc0 := 184) (pc' := 213) rfl (hb hby at_184) rfl (tlt (by decide : ((1 : Int32) < (2 : Int32)))).1 (by decide) (by decide) ?_
      refine XS.iload X234.here hx rfl (hb hby at_213) rfl ?_
      refine XS.iconst X234.here hx rfl (hb hby at_215) ?_
      refine XS.icmpNo X234.here hx rfl (hb hby at_216) rfl (flt (by decide : ¬ ((1 : Int32) < (1 : Int32)))).1 ?_
      refine XS.aload X234.here hx rfl (hb hby at_219) rfl rfl ?_
      refine XS.iload X234.here hx rfl (hb hby at_221) rfl ?_
      refine XS.iconst X234.here hx rfl (hb hby at_223) ?_
      refine XS.iconst X234.here hx rfl (hb hby at_224) ?_
      refine XS.iload X234.here hx rfl (hb hby at_225) rfl ?_
      refine st235 _ ?_
      show SG X235 230 #[vI p1, vI p2, vI p3, vI p4, vI 1, vI rc, vI ac, vI bc, vR b4, vI 1, vR x213_0, vI 47] [.int 53] _
      refine XS.istore X235.here hx rfl (hb hby at_230) rfl (l' := #[vI p1, vI p2, vI p3, vI p4, vI 1, vI rc, vI ac, vI bc, vR b4, vI 1, vR x213_0, vI 53]) rfl ?_
      refine XS.aload X235.here hx rfl (hb hby at_232) rfl rfl ?_
      refine XS.iload X235.here hx rfl (hb hby at_234) rfl ?_
      refine XS.iconst X235.here hx rfl (hb hby at_236) ?_
      refine XS.iconst X235.here hx rfl (hb hby at_237) ?_
      refine XS.iload X235.here hx rfl (hb hby at_238) rfl ?_
      refine st236 _ ?_
      show SG X236 243 #[vI p1, vI p2, vI p3, vI p4, vI 1, vI rc, vI ac, vI bc, vR b4, vI 1, vR x213_0, vI 53] [.int 58] _
      refine XS.istore X236.here hx rfl (hb hby at_243) rfl (l' := #[vI p1, vI p2, vI p3, vI p4, vI 1, vI rc, vI ac, vI bc, vR b4, vI 1, vR x213_0, vI 58]) rfl ?_
      refine XS.iload X236.here hx rfl (hb hby at_245) rfl ?_
      refine XS.ifNo X236.here hx rfl (hb hby at_247) rfl ((if0 _ _).trans (feq (by decide : ¬ ((1 : Int32) = (0 : Int32)))).1) ?_
      refine XS.iload X236.here hx rfl (hb hby at_250) rfl ?_
      refine XS.ifNo X236.here hx rfl (hb hby at_252) rfl ((if0 _ _).trans (flt (by decide : ¬ ((58 : Int32) < (0 : Int32)))).1) ?_
      refine XS.iload X236.here hx rfl (hb hby at_255) rfl ?_
      refine XS.iconst X236.here hx rfl (hb hby at_257) ?_
      refine XS.iadd X236.here hx rfl (hb hby at_258) rfl ?_
      show SG X236 259 #[vI p1, vI p2, vI p3, vI p4, vI 1, vI rc, vI ac, vI bc, vR b4, vI 1, vR x213_0, vI 58] [.int 59] _
      refine XS.aload X236.here hx rfl (hb hby at_259) rfl rfl ?_
      refine own_alen X236 hx hZ r236_0 f232 (hb hby at_261) ?_
      refine XS.icmpNo X236.here hx rfl (hb hby at_262) rfl (teq (by decide : ((59 : Int32) = (59 : Int32)))).2 ?_
      refine XS.aload X236.here hx rfl (hb hby at_265) rfl rfl ?_
      refine XS.iload X236.here hx rfl (hb hby at_267) rfl ?_
      refine own_bal X236 hx hZ r236_0 f232 (x := (10 : Int32)) ⟨by decide, by decide⟩ (by rw [hvo]; exact congrArg Value.int own_e10) (hb hby at_269) ?_
      refine XS.bipush X236.here hx rfl (hb hby at_270) ?_
      refine XS.icmpNo X236.here hx rfl (hb hby at_272) rfl (teq (by decide : ((10 : Int32) = (10 : Int32)))).2 ?_
      refine XS.iconst X236.here hx rfl (hb hby at_275) ?_
      refine XS.goto X236.here hx rfl (pc0 := 276) (pc' := 280) rfl (hb hby at_276) (by decide) (by decide) ?_
      exact retN X236 hx (t := .boolean) Bd.returns (by simp) (hb hby at_280) hr
    · show Q0 Z p1 p2 p3 p4 cs uc h0 n0 _ T236.heap _
      rw [r236_0]
      exact ⟨rfl, N236, K213⟩
    · show CHr Z consts_1 s.vm s.heap T236.vm T236.heap
      rw [hh, r236_0]
      exact hC.trans (CHv.at X236 hZ (own_EW hw) hC.1)
  · obtain ⟨_, T237, lo237, Lc237, X237, N237, hQ237, st237⟩ := own_af (QVO Z ac cs h32 n0) 16 2 332 5 18 337 (Jvm.LawKit.callS X32 hx (y := Y_3) hown (mvT hZ (w 3 rfl)) (mvT hZ (w 4 rfl)) (mvT hZ (w 5 rfl)) (mvT hZ (w 6 rfl)) (by decide) (backOf (W := 1) (rmVO l Z a0 hw [] ac cs h32 n0 Z32 f33 hcs hacx.1) hZ (w 6 rfl) (w 5 rfl) (by decide) (by decide)) (g := (mkF m 60 #[vI p1, vI p2, vI p3, vI p4, vI 2, vI rc, vI ac, vI bc, vR b4, vI 1, vU, vU] [.int ac, .ref b4])) rfl (by rw [hml]; rfl) (argsL := [.int ac]) (rest := [.ref b4]) (lenOf pd_0 rfl) rfl (lq rfl) (hb hby at_60) (fun _ _ => ⟨rfl, e32, (by decide : 16 + 2 ≤ _), (by decide : 332 + 5 ≤ _)⟩)) N32 (by rintro _ _ _ ⟨_, _, _, -, N, -⟩; exact N) rfl rfl
    dsimp only at st237
    obtain ⟨x237_0, x237_1, x237_2, rfl, N237q, r237_0, r237_1, r237_2, r237_3, r237_4, r237_5, r237_6⟩ := hQ237
    have hC := hC.trans (CHr.keep r237_0 sf0 hC.1)
    have hk := Nat.le_trans hk r237_0.1
    have K237 := K32.trans r237_0 all0
    have Z237 : n0 ≤ T237.heap.size := Nat.le_trans Z32 r237_0.1
    obtain ⟨T259, h259, k259, X259, e259, E259, A259, O259, st259⟩ := newR X237 hx hZ hown (w 29 rfl) (w 30 rfl) rfl (g := (mkF m 64 #[vI p1, vI p2, vI p3, vI p4, vI 2, vI rc, vI ac, vI bc, vR b4, vI 1, vU, vU] [.int 0, .ref x237_0, .ref b4])) rfl (hb hby at_64) rfl (by decide) (cap := 0) (by decide) (by decide) (by decide) (by decide)
    obtain ⟨b259, g259⟩ : ∃ z, z = T237.heap.size := ⟨_, rfl⟩
    rw [← g259] at A259 st259
    have hC := hC.trans (CHr.ext E259 hC.1)
    have hk := Nat.le_trans hk E259.1
    have f270 := (f36.keep r237_0).ext E259
    have f276 := (r32_1.keep r237_0 nin0).ext E259
    have f277 := (r32_2.keep r237_0 nin0).ext E259
    have f278 := (r32_3.keep r237_0).ext E259
    have f279 := (r32_4.keep r237_0 nin0).ext E259
    have f280 := (r32_5.keep r237_0 nin0).ext E259
    have f281 := (f46.keep r237_0 nin0).ext E259
    have f282 := (f47.keep r237_0 nin0).ext E259
    have f283 := (r32_8.keep r237_0).ext E259
    have f284 := (r32_9.keep r237_0 nin0).ext E259
    have f285 := (r32_10.keep r237_0 nin0).ext E259
    have f286 := (r32_11.keep r237_0 nin0).ext E259
    have f287 := (r32_12.keep r237_0 nin0).ext E259
    have f288 := (own_sta f33 r237_0 ns0).ext E259
    have f289 := (own_sta f34 r237_0 ns0).ext E259
    have f290 := (own_sta f35 r237_0 ns0).ext E259
    have f291 := r237_3.ext E259
    have f292 := r237_4.ext E259
    have f293 := r237_5.ext E259
    have f294 := r237_6.ext E259
    have K259 := K237.ext E259
    have Z259 : n0 ≤ h259.size := Nat.le_trans Z237 E259.1
    have V259 : Arv Z h259 b259 k259 (.object "java/lang/String") (0 : Int32) [] .null := (Arv.new A259 (by decide)).pad (pad_rep [] .null 0)
    have ch295 : Goes p e below sZ (entryFrame m #[.int p1, .int p2, .int p3, .int p4] maxLocals) T259 (mkF m 67 #[vI p1, vI p2, vI p3, vI p4, vI 2, vI rc, vI ac, vI bc, vR b4, vI 1, vU, vU] [.ref b259, .ref x237_0, .ref b4]) := fun t kt => ch45 t (by
      show SG X32 50 #[vI p1, vI p2, vI p3, vI p4, .val (.int ((p1 &&& (3 : Int32)) % (3 : Int32))), vI rc, vI ac, vI bc, vR b4, vI 1, vU, vU] [] _
      rw [hd]
      show SG X32 50 #[vI p1, vI p2, vI p3, vI p4, vI 2, vI rc, vI ac, vI bc, vR b4, vI 1, vU, vU] [] _
      refine XS.iload X32.here hx rfl (hb hby at_50) rfl ?_
      refine XS.iconst X32.here hx rfl (hb hby at_52) ?_
      refine XS.icmpNo X32.here hx rfl (hb hby at_53) rfl (flt (by decide : ¬ ((2 : Int32) < (1 : Int32)))).1 ?_
      refine XS.aload X32.here hx rfl (hb hby at_56) rfl rfl ?_
      refine XS.iload X32.here hx rfl (hb hby at_58) rfl ?_
      refine st237 _ ?_
      show SG X237 63 #[vI p1, vI p2, vI p3, vI p4, vI 2, vI rc, vI ac, vI bc, vR b4, vI 1, vU, vU] [.ref x237_0, .ref b4] _
      refine XS.iconst X237.here hx rfl (hb hby at_63) ?_
      refine st259 _ ?_
      show SG X259 67 #[vI p1, vI p2, vI p3, vI p4, vI 2, vI rc, vI ac, vI bc, vR b4, vI 1, vU, vU] [.ref b259, .ref x237_0, .ref b4] _
      exact kt)
    obtain ⟨cq296, kq296, q296a, q296b, q296c⟩ := isOf hZ e259 f270
    obtain ⟨_, T296, lo296, Lc296, h296, kk296, X296, e296, hS, hk, hZ, hown, N296, hQ296, hCn, st296⟩ := own_afW (QSR1 Z b4 x237_0 b259 x32_0 x32_3 x32_1 x32_2 B44 x32_4 x32_5 x10_0 cs x237_1 x237_2 (ac.toInt8.toInt32) k259 h259 n0) 19 2 337 8 21 345 (X259.virtualBackS hx (y := Y_55) (z := Y_55) hown (mvT hZ (w 329 rfl)) (mvT hZ (w 148 rfl)) (own_ns hZ (w 150 rfl)) (mvT hZ (w 150 rfl)) (mvT hZ (w 149 rfl)) (by decide) (backOfSH (W := 0) (rmSR1 l Z a0 hw [] b4 x237_0 b259 x32_0 x32_3 x32_1 x32_2 B44 x32_4 x32_5 x10_0 cs x237_1 x237_2 (ac.toInt8.toInt32) k259 h259 n0 Z259 f270 f276 f277 f278 f279 f280 f281 f282 f283 f284 f285 f286 f287 r32_13 f288 f291 f292 f293 f294 V259 hcs (Nat.le_trans (Nat.add_le_add_left (by decide : 5 ≤ 36) _) lB44) g_x32_0 g_x32_1 g_x32_3 g_x32_4) hZ (w 151 rfl) (w 2 rfl) (by decide) (by decide) (own_EW hw) hC.1) q296a q296c (g := (mkF m 67 #[vI p1, vI p2, vI p3, vI p4, vI 2, vI rc, vI ac, vI bc, vR b4, vI 1, vU, vU] [.ref b259, .ref x237_0, .ref b4])) rfl (by rw [hml]; rfl) (Steps.refl _) (argsL := [.ref x237_0, .ref b259]) (rest := []) (lenOf pd_19 rfl) rfl (lq rfl) (hb hby at_67) (fun _ _ => ⟨rfl, e259, (by decide : 19 + 2 ≤ _), (by decide : 337 + 8 ≤ _)⟩)) hS e259 hk hZ hown N237 (fun _ _ _ h => h.2.1) rfl rfl
    dsimp only at st296
    obtain ⟨rfl, N296q, r296_0, r296_1, r296_2, r296_3, r296_4, r296_5, r296_6, r296_7, r296_8⟩ := hQ296
    have hC := hC.trans hCn
    have f297 := own_sta f288 r296_0 (nsS f278.nostat (nsS f282.nostat (nsS f283.nostat (nsS f287.nostat ns0))))
    have f298 := own_sta f289 r296_0 (nsS f278.nostat (nsS f282.nostat (nsS f283.nostat (nsS f287.nostat ns0))))
    have f299 := own_sta f290 r296_0 (nsS f278.nostat (nsS f282.nostat (nsS f283.nostat (nsS f287.nostat ns0))))
    have ne302 : x10_0 ≠ x32_4 := Nat.ne_of_lt (Nat.lt_of_lt_of_le f27.lt r32_17)
    have ne303 : x10_0 ≠ x32_3 := Nat.ne_of_lt (Nat.lt_of_lt_of_le f27.lt r32_16)
    have ne304 : x10_0 ≠ x32_1 := Nat.ne_of_lt (Nat.lt_of_lt_of_le f27.lt r32_15)
    have ne305 : x10_0 ≠ x32_0 := Nat.ne_of_lt (Nat.lt_of_lt_of_le f27.lt r32_14)
    have ne308 : x10_1 ≠ x32_4 := Nat.ne_of_lt (Nat.lt_of_lt_of_le f30.lt r32_17)
    have ne309 : x10_1 ≠ x32_3 := Nat.ne_of_lt (Nat.lt_of_lt_of_le f30.lt r32_16)
    have ne310 : x10_1 ≠ x32_1 := Nat.ne_of_lt (Nat.lt_of_lt_of_le f30.lt r32_15)
    have ne311 : x10_1 ≠ x32_0 := Nat.ne_of_lt (Nat.lt_of_lt_of_le f30.lt r32_14)
    have ne318 : b4 ≠ x32_4 := Nat.ne_of_lt (Nat.lt_of_lt_of_le f21.lt r32_17)
    have ne319 : b4 ≠ x32_3 := Nat.ne_of_lt (Nat.lt_of_lt_of_le f21.lt r32_16)
    have ne320 : b4 ≠ x32_1 := Nat.ne_of_lt (Nat.lt_of_lt_of_le f21.lt r32_15)
    have ne321 : b4 ≠ x32_0 := Nat.ne_of_lt (Nat.lt_of_lt_of_le f21.lt r32_14)
    have f324 := f278.keep r296_0
    have f325 := f283.keep r296_0
    have ne327 : x32_4 ≠ x237_0 := Nat.ne_of_lt (Nat.lt_of_lt_of_le r32_12.lt r237_1)
    have ne328 : x32_3 ≠ x237_0 := Nat.ne_of_lt (Nat.lt_of_lt_of_le r32_8.lt r237_1)
    have ne329 : x32_1 ≠ x237_0 := Nat.ne_of_lt (Nat.lt_of_lt_of_le f47.lt r237_1)
    have ne330 : x32_0 ≠ x237_0 := Nat.ne_of_lt (Nat.lt_of_lt_of_le r32_3.lt r237_1)
    have ne333 : x32_4 ≠ x237_1 := Nat.ne_of_lt (Nat.lt_of_lt_of_le r32_12.lt r237_2)
    have ne334 : x32_3 ≠ x237_1 := Nat.ne_of_lt (Nat.lt_of_lt_of_le r32_8.lt r237_2)
    have ne335 : x32_1 ≠ x237_1 := Nat.ne_of_lt (Nat.lt_of_lt_of_le f47.lt r237_2)
    have ne336 : x32_0 ≠ x237_1 := Nat.ne_of_lt (Nat.lt_of_lt_of_le r32_3.lt r237_2)
    have K296 := K259.trans r296_0 (allS (Or.inr sz_x32_0) (allS (Or.inr sz_x32_1) (allS (Or.inr sz_x32_3) (allS (Or.inr sz_x32_4) all0))))
    have Z296 : n0 ≤ h296.size := Nat.le_trans Z259 r296_0.1
    have ch340 : Goes p e below sZ (entryFrame m #[.int p1, .int p2, .int p3, .int p4] maxLocals) T296 (mkF m 71 #[vI p1, vI p2, vI p3, vI p4, vI 2, vI rc, vI ac, vI bc, vR b4, vI 1, vU, vU] []) := fun t kt => ch295 t (by
      show SG X259 67 #[vI p1, vI p2, vI p3, vI p4, vI 2, vI rc, vI ac, vI bc, vR b4, vI 1, vU, vU] [.ref b259, .ref x237_0, .ref b4] _
      refine st296.trans ?_
      show SG X296 70 #[vI p1, vI p2, vI p3, vI p4, vI 2, vI rc, vI ac, vI bc, vR b4, vI 1, vU, vU] [.ref b4] _
      refine XS.pop X296.here hx rfl (hb hby at_70) rfl rfl ?_
      exact kt)
    obtain ⟨B339, hB339⟩ : ∃ B : List Int32, B = (((((B44 ++ [own_c10]) ++ [(9 : Int32)]) ++ [own_c60]) ++ [(ac.toInt8.toInt32)]) ++ [own_c62]) := ⟨_, rfl⟩
    have lB339 : B339.length + 31 ≤ 78 := by rw [hB339]; exact (own_len (us := [own_c62]) (m := 31) (own_len (us := [(ac.toInt8.toInt32)]) (m := 32) (own_len (us := [own_c60]) (m := 33) (own_len (us := [(9 : Int32)]) (m := 34) (own_len (us := [own_c10]) (m := 35) lB44 (bl rfl)) (bl rfl)) (bl rfl)) (bl rfl)) (bl rfl))
    have pB339 : ∀ x ∈ B339, ¬ x < (0 : Int32) := by rw [hB339]; exact (own_posA (own_posA (own_posA (own_posA (own_posA pB44 (own_pos1 (by decide))) (own_pos1 (by decide))) (own_pos1 (by decide))) (own_pos1 hacx.2)) (own_pos1 (by decide)))
    have f341 : Fld Z h296 x32_0 sA "count" "I" (.int (Int32.ofNat B339.length)) := by rw [hB339]; exact r296_3
    have f342 : Arv Z h296 x32_1 x32_2 .byte (78 : Int32) (own_iv B339) (.int 0) := by rw [hB339]; exact r296_4
    obtain ⟨_, T343, lo343, Lc343, X343, N343, hQ343, st343⟩ := own_af (QVO Z bc cs h296 n0) 21 2 345 5 23 350 (Jvm.LawKit.callS X296 hx (y := Y_3) hown (mvT hZ (w 3 rfl)) (mvT hZ (w 4 rfl)) (mvT hZ (w 5 rfl)) (mvT hZ (w 6 rfl)) (by decide) (backOf (W := 1) (rmVO l Z a0 hw [] bc cs h296 n0 Z296 f297 hcs hbcx.1) hZ (w 6 rfl) (w 5 rfl) (by decide) (by decide)) (g := (mkF m 81 #[vI p1, vI p2, vI p3, vI p4, vI 2, vI rc, vI ac, vI bc, vR b4, vI 1, vU, vU] [.int bc, .ref b4])) rfl (by rw [hml]; rfl) (argsL := [.int bc]) (rest := [.ref b4]) (lenOf pd_0 rfl) rfl (lq rfl) (hb hby at_81) (fun _ _ => ⟨rfl, e296, (by decide : 21 + 2 ≤ _), (by decide : 345 + 5 ≤ _)⟩)) N296 (by rintro _ _ _ ⟨_, _, _, -, N, -⟩; exact N) rfl rfl
    dsimp only at st343
    obtain ⟨x343_0, x343_1, x343_2, rfl, N343q, r343_0, r343_1, r343_2, r343_3, r343_4, r343_5, r343_6⟩ := hQ343
    have hC := hC.trans (CHr.keep r343_0 sf0 hC.1)
    have hk := Nat.le_trans hk r343_0.1
    have K343 := K296.trans r343_0 all0
    have Z343 : n0 ≤ T343.heap.size := Nat.le_trans Z296 r343_0.1
    obtain ⟨T370, h370, k370, X370, e370, E370, A370, O370, st370⟩ := newR X343 hx hZ hown (w 29 rfl) (w 30 rfl) rfl (g := (mkF m 85 #[vI p1, vI p2, vI p3, vI p4, vI 2, vI rc, vI ac, vI bc, vR b4, vI 1, vU, vU] [.int 0, .ref x343_0, .ref b4])) rfl (hb hby at_85) rfl (by decide) (cap := 0) (by decide) (by decide) (by decide) (by decide)
    obtain ⟨b370, g370⟩ : ∃ z, z = T343.heap.size := ⟨_, rfl⟩
    rw [← g370] at A370 st370
    have hC := hC.trans (CHr.ext E370 hC.1)
    have hk := Nat.le_trans hk E370.1
    have f384 := ((f270.keep r296_0).keep r343_0).ext E370
    have f390 := ((f276.keep r296_0 (ninS ne321 (ninS ne320 (ninS ne319 (ninS ne318 nin0))))).keep r343_0 nin0).ext E370
    have f391 := ((f277.keep r296_0 (ninS ne321 (ninS ne320 (ninS ne319 (ninS ne318 nin0))))).keep r343_0 nin0).ext E370
    have f392 := (f324.keep r343_0).ext E370
    have f393 := (f325.keep r343_0).ext E370
    have f399 := (r296_1.keep r343_0 nin0).ext E370
    have f400 := (r296_2.keep r343_0 nin0).ext E370
    have f401 := (f341.keep r343_0 nin0).ext E370
    have f402 := (f342.keep r343_0 nin0).ext E370
    have f403 := (r296_5.keep r343_0 nin0).ext E370
    have f404 := (r296_6.keep r343_0 nin0).ext E370
    have f405 := (r296_7.keep r343_0 nin0).ext E370
    have f406 := (r296_8.keep r343_0 nin0).ext E370
    have f407 := (own_sta f297 r343_0 ns0).ext E370
    have f408 := (own_sta f298 r343_0 ns0).ext E370
    have f409 := (own_sta f299 r343_0 ns0).ext E370
    have f410 := r343_3.ext E370
    have f411 := r343_4.ext E370
    have f412 := r343_5.ext E370
    have f413 := r343_6.ext E370
    have K370 := K343.ext E370
    have Z370 : n0 ≤ h370.size := Nat.le_trans Z343 E370.1
    have V370 : Arv Z h370 b370 k370 (.object "java/lang/String") (0 : Int32) [] .null := (Arv.new A370 (by decide)).pad (pad_rep [] .null 0)
    have ch414 : Goes p e below sZ (entryFrame m #[.int p1, .int p2, .int p3, .int p4] maxLocals) T370 (mkF m 88 #[vI p1, vI p2, vI p3, vI p4, vI 2, vI rc, vI ac, vI bc, vR b4, vI 1, vU, vU] [.ref b370, .ref x343_0, .ref b4]) := fun t kt => ch340 t (by
      show SG X296 71 #[vI p1, vI p2, vI p3, vI p4, vI 2, vI rc, vI ac, vI bc, vR b4, vI 1, vU, vU] [] _
      refine XS.iload X296.here hx rfl (hb hby at_71) rfl ?_
      refine XS.iconst X296.here hx rfl (hb hby at_73) ?_
      refine XS.icmpNo X296.here hx rfl (hb hby at_74) rfl (flt (by decide : ¬ ((2 : Int32) < (2 : Int32)))).1 ?_
      refine XS.aload X296.here hx rfl (hb hby at_77) rfl rfl ?_
      refine XS.iload X296.here hx rfl (hb hby at_79) rfl ?_
      refine st343 _ ?_
      show SG X343 84 #[vI p1, vI p2, vI p3, vI p4, vI 2, vI rc, vI ac, vI bc, vR b4, vI 1, vU, vU] [.ref x343_0, .ref b4] _
      refine XS.iconst X343.here hx rfl (hb hby at_84) ?_
      refine st370 _ ?_
      show SG X370 88 #[vI p1, vI p2, vI p3, vI p4, vI 2, vI rc, vI ac, vI bc, vR b4, vI 1, vU, vU] [.ref b370, .ref x343_0, .ref b4] _
      exact kt)
    obtain ⟨cq415, kq415, q415a, q415b, q415c⟩ := isOf hZ e370 f384
    obtain ⟨_, T415, lo415, Lc415, h415, kk415, X415, e415, hS, hk, hZ, hown, N415, hQ415, hCn, st415⟩ := own_afW (QSR2 Z b4 x343_0 b370 x32_0 x32_3 x32_1 x32_2 B339 x32_4 x32_5 x10_0 x237_0 cs x343_1 x343_2 (bc.toInt8.toInt32) k370 h370 n0) 24 4 350 14 28 364 (X370.virtualBackS hx (y := Y_55) (z := Y_55) hown (mvT hZ (w 329 rfl)) (mvT hZ (w 148 rfl)) (own_ns hZ (w 150 rfl)) (mvT hZ (w 150 rfl)) (mvT hZ (w 149 rfl)) (by decide) (backOfSH (W := 0) (rmSR2 l Z a0 hw [] b4 x343_0 b370 x32_0 x32_3 x32_1 x32_2 B339 x32_4 x32_5 x10_0 x237_0 cs x343_1 x343_2 (bc.toInt8.toInt32) k370 h370 n0 Z370 f384 f390 f391 f392 f399 f400 f401 f402 f393 f403 f404 f405 f406 r32_13 f407 f410 f411 f412 f413 V370 hcs (Nat.le_trans (Nat.add_le_add_left (by decide : 6 ≤ 31) _) lB339) g_x32_0 g_x32_1 g_x32_3 g_x32_4) hZ (w 151 rfl) (w 2 rfl) (by decide) (by decide) (own_EW hw) hC.1) q415a q415c (g := (mkF m 88 #[vI p1, vI p2, vI p3, vI p4, vI 2, vI rc, vI ac, vI bc, vR b4, vI 1, vU, vU] [.ref b370, .ref x343_0, .ref b4])) rfl (by rw [hml]; rfl) (Steps.refl _) (argsL := [.ref x343_0, .ref b370]) (rest := []) (lenOf pd_19 rfl) rfl (lq rfl) (hb hby at_88) (fun _ _ => ⟨rfl, e370, (by decide : 24 + 4 ≤ _), (by decide : 350 + 14 ≤ _)⟩)) hS e370 hk hZ hown N343 (fun _ _ _ h => h.2.1) rfl rfl
    dsimp only at st415
    obtain ⟨rfl, N415q, r415_0, r415_1, r415_2, r415_3, r415_4, r415_5, r415_6, r415_7, r415_8⟩ := hQ415
    have hC := hC.trans hCn
    have f416 := own_sta f407 r415_0 (nsS f392.nostat (nsS f402.nostat (nsS f393.nostat (nsS f406.nostat ns0))))
    have f417 := own_sta f408 r415_0 (nsS f392.nostat (nsS f402.nostat (nsS f393.nostat (nsS f406.nostat ns0))))
    have f418 := own_sta f409 r415_0 (nsS f392.nostat (nsS f402.nostat (nsS f393.nostat (nsS f406.nostat ns0))))
    have f419 := f384.keep r415_0
    have f425 := f390.keep r415_0 (ninS ne321 (ninS ne320 (ninS ne319 (ninS ne318 nin0))))
    have f426 := f391.keep r415_0 (ninS ne321 (ninS ne320 (ninS ne319 (ninS ne318 nin0))))
    have f427 := f392.keep r415_0
    have f428 := f393.keep r415_0
    have f434 := f410.keep r415_0
    have ne435 : x32_4 ≠ x343_0 := Nat.ne_of_lt (Nat.lt_of_lt_of_le r296_8.lt r343_1)
    have ne436 : x32_3 ≠ x343_0 := Nat.ne_of_lt (Nat.lt_of_lt_of_le f325.lt r343_1)
    have ne437 : x32_1 ≠ x343_0 := Nat.ne_of_lt (Nat.lt_of_lt_of_le f342.lt r343_1)
    have ne438 : x32_0 ≠ x343_0 := Nat.ne_of_lt (Nat.lt_of_lt_of_le f324.lt r343_1)
    have f439 := f411.keep r415_0 (ninS (Ne.symm ne438) (ninS (Ne.symm ne437) (ninS (Ne.symm ne436) (ninS (Ne.symm ne435) nin0))))
    have f440 := f412.keep r415_0 (ninS (Ne.symm ne438) (ninS (Ne.symm ne437) (ninS (Ne.symm ne436) (ninS (Ne.symm ne435) nin0))))
    have ne441 : x32_4 ≠ x343_1 := Nat.ne_of_lt (Nat.lt_of_lt_of_le r296_8.lt r343_2)
    have ne442 : x32_3 ≠ x343_1 := Nat.ne_of_lt (Nat.lt_of_lt_of_le f325.lt r343_2)
    have ne443 : x32_1 ≠ x343_1 := Nat.ne_of_lt (Nat.lt_of_lt_of_le f342.lt r343_2)
    have ne444 : x32_0 ≠ x343_1 := Nat.ne_of_lt (Nat.lt_of_lt_of_le f324.lt r343_2)
    have f445 := f413.keep r415_0 (ninS (Ne.symm ne444) (ninS (Ne.symm ne443) (ninS (Ne.symm ne442) (ninS (Ne.symm ne441) nin0))))
    have K415 := K370.trans r415_0 (allS (Or.inr sz_x32_0) (allS (Or.inr sz_x32_1) (allS (Or.inr sz_x32_3) (allS (Or.inr sz_x32_4) all0))))
    have Z415 : n0 ≤ h415.size := Nat.le_trans Z370 r415_0.1
    have ch448 : Goes p e below sZ (entryFrame m #[.int p1, .int p2, .int p3, .int p4] maxLocals) T415 (mkF m 92 #[vI p1, vI p2, vI p3, vI p4, vI 2, vI rc, vI ac, vI bc, vR b4, vI 1, vU, vU] []) := fun t kt => ch414 t (by
      show SG X370 88 #[vI p1, vI p2, vI p3, vI p4, vI 2, vI rc, vI ac, vI bc, vR b4, vI 1, vU, vU] [.ref b370, .ref x343_0, .ref b4] _
      refine st415.trans ?_
      show SG X415 91 #[vI p1, vI p2, vI p3, vI p4, vI 2, vI rc, vI ac, vI bc, vR b4, vI 1, vU, vU] [.ref b4] _
      refine XS.pop X415.here hx rfl (hb hby at_91) rfl rfl ?_
      exact kt)
    obtain ⟨B447, hB447⟩ : ∃ B : List Int32, B = (((((B339 ++ [own_c10]) ++ [(9 : Int32), (9 : Int32)]) ++ [own_c60]) ++ [(bc.toInt8.toInt32)]) ++ [own_c62]) := ⟨_, rfl⟩
    have lB447 : B447.length + 25 ≤ 78 := by rw [hB447]; exact (own_len (us := [own_c62]) (m := 25) (own_len (us := [(bc.toInt8.toInt32)]) (m := 26) (own_len (us := [own_c60]) (m := 27) (own_len (us := [(9 : Int32), (9 : Int32)]) (m := 28) (own_len (us := [own_c10]) (m := 30) lB339 (bl rfl)) (bl rfl)) (bl rfl)) (bl rfl)) (bl rfl))
    have pB447 : ∀ x ∈ B447, ¬ x < (0 : Int32) := by rw [hB447]; exact (own_posA (own_posA (own_posA (own_posA (own_posA pB339 (own_pos1 (by decide))) (by decide)) (own_pos1 (by decide))) (own_pos1 hbcx.2)) (own_pos1 (by decide)))
    have f449 : Fld Z h415 x32_0 sA "count" "I" (.int (Int32.ofNat B447.length)) := by rw [hB447]; exact r415_3
    have f450 : Arv Z h415 x32_1 x32_2 .byte (78 : Int32) (own_iv B447) (.int 0) := by rw [hB447]; exact r415_4
    have ch451 : Goes p e below sZ (entryFrame m #[.int p1, .int p2, .int p3, .int p4] maxLocals) T415 (mkF m 99 #[vI p1, vI p2, vI p3, vI p4, vI 2, vI rc, vI ac, vI bc, vR b4, vI 1, vU, vU] [.ref b4]) := fun t kt => ch448 t (by
      show SG X415 92 #[vI p1, vI p2, vI p3, vI p4, vI 2, vI rc, vI ac, vI bc, vR b4, vI 1, vU, vU] [] _
      refine XS.iload X415.here hx rfl (hb hby at_92) rfl ?_
      refine XS.ifNo X415.here hx rfl (hb hby at_94) rfl ((if0 _ _).trans (feq (by decide : ¬ ((1 : Int32) = (0 : Int32)))).1) ?_
      refine XS.aload X415.here hx rfl (hb hby at_97) rfl rfl ?_
      exact kt)
    obtain ⟨cq452, kq452, q452a, q452b, q452c⟩ := isOf hZ e415 f419
    obtain ⟨_, T452, lo452, Lc452, h452, kk452, X452, e452, hS, hk, hZ, hown, N452, hQ452, hCn, st452⟩ := own_afW (QEN3 Z b4 x32_0 x32_3 x32_1 x32_2 B447 x32_4 x32_5 x10_0 x237_0 x343_0 cs x343_1 x343_2 (bc.toInt8.toInt32) h415 n0) 28 6 364 26 34 390 (X415.virtualBackS hx (y := Y_58) (z := Y_58) hown (mvT hZ (w 334 rfl)) (mvT hZ (w 221 rfl)) (own_ns hZ (w 223 rfl)) (mvT hZ (w 223 rfl)) (mvT hZ (w 222 rfl)) (by decide) (backOfSH (W := 0) (rmEN3 l Z a0 hw [] b4 x32_0 x32_3 x32_1 x32_2 B447 x32_4 x32_5 x10_0 x237_0 x343_0 cs x343_1 x343_2 (bc.toInt8.toInt32) h415 n0 Z415 f419 f425 f426 f427 r415_1 r415_2 f449 f450 f428 r415_5 r415_6 r415_7 r415_8 r32_13 f416 f434 f439 f440 f445 hcs (Nat.le_trans (Nat.add_le_add_left (by decide : 7 ≤ 25) _) lB447) g_x32_0 g_x32_1 g_x32_3 g_x32_4) hZ (w 224 rfl) (w 2 rfl) (by decide) (by decide) (own_EW hw) hC.1) q452a q452c (g := (mkF m 99 #[vI p1, vI p2, vI p3, vI p4, vI 2, vI rc, vI ac, vI bc, vR b4, vI 1, vU, vU] [.ref b4])) rfl (by rw [hml]; rfl) (Steps.refl _) (argsL := []) (rest := []) (lenOf pd_27 rfl) rfl (lq rfl) (hb hby at_99) (fun _ _ => ⟨rfl, e415, (by decide : 28 + 6 ≤ _), (by decide : 364 + 26 ≤ _)⟩)) hS e415 hk hZ hown N415 (fun _ _ _ h => h.2.1) rfl rfl
    dsimp only at st452
    obtain ⟨rfl, N452q, r452_0, r452_1, r452_2, r452_3, r452_4, r452_5, r452_6, r452_7, r452_8⟩ := hQ452
    have hC := hC.trans hCn
    have f453 := own_sta f416 r452_0 (nsS f427.nostat (nsS f450.nostat (nsS f428.nostat (nsS r415_8.nostat ns0))))
    have f454 := own_sta f417 r452_0 (nsS f427.nostat (nsS f450.nostat (nsS f428.nostat (nsS r415_8.nostat ns0))))
    have f455 := own_sta f418 r452_0 (nsS f427.nostat (nsS f450.nostat (nsS f428.nostat (nsS r415_8.nostat ns0))))
    have f456 := f419.keep r452_0
    have f462 := f425.keep r452_0 (ninS ne321 (ninS ne320 (ninS ne319 (ninS ne318 nin0))))
    have f463 := f426.keep r452_0 (ninS ne321 (ninS ne320 (ninS ne319 (ninS ne318 nin0))))
    have f464 := f427.keep r452_0
    have f465 := f428.keep r452_0
    have f466 := ((((f291.keep r296_0).keep r343_0).ext E370).keep r415_0).keep r452_0
    have f467 := ((((f292.keep r296_0 (ninS (Ne.symm ne330) (ninS (Ne.symm ne329) (ninS (Ne.symm ne328) (ninS (Ne.symm ne327) nin0))))).keep r343_0 nin0).ext E370).keep r415_0 (ninS (Ne.symm ne330) (ninS (Ne.symm ne329) (ninS (Ne.symm ne328) (ninS (Ne.symm ne327) nin0))))).keep r452_0 (ninS (Ne.symm ne330) (ninS (Ne.symm ne329) (ninS (Ne.symm ne328) (ninS (Ne.symm ne327) nin0))))
    have f468 := ((((f293.keep r296_0 (ninS (Ne.symm ne330) (ninS (Ne.symm ne329) (ninS (Ne.symm ne328) (ninS (Ne.symm ne327) nin0))))).keep r343_0 nin0).ext E370).keep r415_0 (ninS (Ne.symm ne330) (ninS (Ne.symm ne329) (ninS (Ne.symm ne328) (ninS (Ne.symm ne327) nin0))))).keep r452_0 (ninS (Ne.symm ne330) (ninS (Ne.symm ne329) (ninS (Ne.symm ne328) (ninS (Ne.symm ne327) nin0))))
    have f469 := ((((f294.keep r296_0 (ninS (Ne.symm ne336) (ninS (Ne.symm ne335) (ninS (Ne.symm ne334) (ninS (Ne.symm ne333) nin0))))).keep r343_0 nin0).ext E370).keep r415_0 (ninS (Ne.symm ne336) (ninS (Ne.symm ne335) (ninS (Ne.symm ne334) (ninS (Ne.symm ne333) nin0))))).keep r452_0 (ninS (Ne.symm ne336) (ninS (Ne.symm ne335) (ninS (Ne.symm ne334) (ninS (Ne.symm ne333) nin0))))
    have K452 := K415.trans r452_0 (allS (Or.inr sz_x32_0) (allS (Or.inr sz_x32_1) (allS (Or.inr sz_x32_3) (allS (Or.inr sz_x32_4) all0))))
    have Z452 : n0 ≤ h452.size := Nat.le_trans Z415 r452_0.1
    have ch477 : Goes p e below sZ (entryFrame m #[.int p1, .int p2, .int p3, .int p4] maxLocals) T452 (mkF m 102 #[vI p1, vI p2, vI p3, vI p4, vI 2, vI rc, vI ac, vI bc, vR b4, vI 1, vU, vU] [.ref b4]) := fun t kt => ch451 t (by
      show SG X415 99 #[vI p1, vI p2, vI p3, vI p4, vI 2, vI rc, vI ac, vI bc, vR b4, vI 1, vU, vU] [.ref b4] _
      refine st452.trans ?_
      show SG X452 102 #[vI p1, vI p2, vI p3, vI p4, vI 2, vI rc, vI ac, vI bc, vR b4, vI 1, vU, vU] [.ref b4] _
      exact kt)
    obtain ⟨B476, hB476⟩ : ∃ B : List Int32, B = (((((B447 ++ [own_c10]) ++ [(9 : Int32), (9 : Int32)]) ++ [(60 : Int32), (47 : Int32)]) ++ [(bc.toInt8.toInt32)]) ++ [own_c62]) := ⟨_, rfl⟩
    have lB476 : B476.length + 18 ≤ 78 := by rw [hB476]; exact (own_len (us := [own_c62]) (m := 18) (own_len (us := [(bc.toInt8.toInt32)]) (m := 19) (own_len (us := [(60 : Int32), (47 : Int32)]) (m := 20) (own_len (us := [(9 : Int32), (9 : Int32)]) (m := 22) (own_len (us := [own_c10]) (m := 24) lB447 (bl rfl)) (bl rfl)) (bl rfl)) (bl rfl)) (bl rfl))
    have pB476 : ∀ x ∈ B476, ¬ x < (0 : Int32) := by rw [hB476]; exact (own_posA (own_posA (own_posA (own_posA (own_posA pB447 (own_pos1 (by decide))) (by decide)) (by decide)) (own_pos1 hbcx.2)) (own_pos1 (by decide)))
    have f478 : Fld Z h452 x32_0 sA "count" "I" (.int (Int32.ofNat B476.length)) := by rw [hB476]; exact r452_3
    have f479 : Arv Z h452 x32_1 x32_2 .byte (78 : Int32) (own_iv B476) (.int 0) := by rw [hB476]; exact r452_4
    have ch480 : Goes p e below sZ (entryFrame m #[.int p1, .int p2, .int p3, .int p4] maxLocals) T452 (mkF m 127 #[vI p1, vI p2, vI p3, vI p4, vI 2, vI rc, vI ac, vI bc, vR b4, vI 1, vU, vU] [.ref b4]) := fun t kt => ch477 t (by
      show SG X452 102 #[vI p1, vI p2, vI p3, vI p4, vI 2, vI rc, vI ac, vI bc, vR b4, vI 1, vU, vU] [.ref b4] _
      refine XS.aload X452.here hx rfl (hb hby at_102) rfl rfl ?_
      refine Jvm.RoadKit.acmp (g := (mkF m 104 #[vI p1, vI p2, vI p3, vI p4, vI 2, vI rc, vI ac, vI bc, vR b4, vI 1, vU, vU] [.ref b4, .ref b4])) X452 hx rfl rfl rfl (pc0 := 104) (pc' := 107) (same := true) rfl (hb hby at_104) rfl (decide_eq_true rfl) (by decide) (by decide) ?_
      refine XS.iconst X452.here hx rfl (hb hby at_107) ?_
      refine XS.goto X452.here hx rfl (pc0 := 108) (pc' := 112) rfl (hb hby at_108) (by decide) (by decide) ?_
      refine XS.istore X452.here hx rfl (hb hby at_112) rfl (l' := #[vI p1, vI p2, vI p3, vI p4, vI 2, vI rc, vI ac, vI bc, vR b4, vI 1, vU, vU]) rfl ?_
      refine XS.iload X452.here hx rfl (hb hby at_114) rfl ?_
      refine XS.iconst X452.here hx rfl (hb hby at_116) ?_
      refine XS.icmpNo X452.here hx rfl (hb hby at_117) rfl (flt (by decide : ¬ ((2 : Int32) < (1 : Int32)))).1 ?_
      refine XS.iload X452.here hx rfl (hb hby at_120) rfl ?_
      refine XS.ifNo X452.here hx rfl (hb hby at_122) rfl ((if0 _ _).trans (feq (by decide : ¬ ((1 : Int32) = (0 : Int32)))).1) ?_
      refine XS.aload X452.here hx rfl (hb hby at_125) rfl rfl ?_
      exact kt)
    obtain ⟨cq481, kq481, q481a, q481b, q481c⟩ := isOf hZ e452 f456
    obtain ⟨_, T481, lo481, Lc481, h481, kk481, X481, e481, hS, hk, hZ, hown, N481, hQ481, hCn, st481⟩ := own_afW (QEN2 Z b4 x32_0 x32_3 x32_1 x32_2 B476 x32_4 x32_5 x10_0 x237_0 cs x237_1 x237_2 (ac.toInt8.toInt32) h452 n0) 34 4 390 20 38 410 (X452.virtualBackS hx (y := Y_58) (z := Y_58) hown (mvT hZ (w 334 rfl)) (mvT hZ (w 221 rfl)) (own_ns hZ (w 223 rfl)) (mvT hZ (w 223 rfl)) (mvT hZ (w 222 rfl)) (by decide) (backOfSH (W := 0) (rmEN2 l Z a0 hw [] b4 x32_0 x32_3 x32_1 x32_2 B476 x32_4 x32_5 x10_0 x237_0 cs x237_1 x237_2 (ac.toInt8.toInt32) h452 n0 Z452 f456 f462 f463 f464 r452_1 r452_2 f478 f479 f465 r452_5 r452_6 r452_7 r452_8 r32_13 f453 f466 f467 f468 f469 hcs (Nat.le_trans (Nat.add_le_add_left (by decide : 6 ≤ 18) _) lB476) g_x32_0 g_x32_1 g_x32_3 g_x32_4) hZ (w 224 rfl) (w 2 rfl) (by decide) (by decide) (own_EW hw) hC.1) q481a q481c (g := (mkF m 127 #[vI p1, vI p2, vI p3, vI p4, vI 2, vI rc, vI ac, vI bc, vR b4, vI 1, vU, vU] [.ref b4])) rfl (by rw [hml]; rfl) (Steps.refl _) (argsL := []) (rest := []) (lenOf pd_27 rfl) rfl (lq rfl) (hb hby at_127) (fun _ _ => ⟨rfl, e452, (by decide : 34 + 4 ≤ _), (by decide : 390 + 20 ≤ _)⟩)) hS e452 hk hZ hown N452 (fun _ _ _ h => h.2.1) rfl rfl
    dsimp only at st481
    obtain ⟨rfl, N481q, r481_0, r481_1, r481_2, r481_3, r481_4, r481_5, r481_6, r481_7, r481_8⟩ := hQ481
    have hC := hC.trans hCn
    have f482 := own_sta f453 r481_0 (nsS f464.nostat (nsS f479.nostat (nsS f465.nostat (nsS r452_8.nostat ns0))))
    have f483 := own_sta f454 r481_0 (nsS f464.nostat (nsS f479.nostat (nsS f465.nostat (nsS r452_8.nostat ns0))))
    have f484 := own_sta f455 r481_0 (nsS f464.nostat (nsS f479.nostat (nsS f465.nostat (nsS r452_8.nostat ns0))))
    have f485 := f456.keep r481_0
    have f486 := (((((((f37.keep r237_0).ext E259).keep r296_0).keep r343_0).ext E370).keep r415_0).keep r452_0).keep r481_0
    have f487 := (((((((f39.keep r237_0 nin0).ext E259).keep r296_0 (ninS ne305 (ninS ne304 (ninS ne303 (ninS ne302 nin0))))).keep r343_0 nin0).ext E370).keep r415_0 (ninS ne305 (ninS ne304 (ninS ne303 (ninS ne302 nin0))))).keep r452_0 (ninS ne305 (ninS ne304 (ninS ne303 (ninS ne302 nin0))))).keep r481_0 (ninS ne305 (ninS ne304 (ninS ne303 (ninS ne302 nin0))))
    have f488 := (((((((f40.keep r237_0 nin0).ext E259).keep r296_0 (ninS ne305 (ninS ne304 (ninS ne303 (ninS ne302 nin0))))).keep r343_0 nin0).ext E370).keep r415_0 (ninS ne305 (ninS ne304 (ninS ne303 (ninS ne302 nin0))))).keep r452_0 (ninS ne305 (ninS ne304 (ninS ne303 (ninS ne302 nin0))))).keep r481_0 (ninS ne305 (ninS ne304 (ninS ne303 (ninS ne302 nin0))))
    have f489 := (((((((f42.keep r237_0 nin0).ext E259).keep r296_0 (ninS ne311 (ninS ne310 (ninS ne309 (ninS ne308 nin0))))).keep r343_0 nin0).ext E370).keep r415_0 (ninS ne311 (ninS ne310 (ninS ne309 (ninS ne308 nin0))))).keep r452_0 (ninS ne311 (ninS ne310 (ninS ne309 (ninS ne308 nin0))))).keep r481_0 (ninS ne311 (ninS ne310 (ninS ne309 (ninS ne308 nin0))))
    have f491 := f462.keep r481_0 (ninS ne321 (ninS ne320 (ninS ne319 (ninS ne318 nin0))))
    have f492 := f463.keep r481_0 (ninS ne321 (ninS ne320 (ninS ne319 (ninS ne318 nin0))))
    have f493 := f464.keep r481_0
    have f494 := f465.keep r481_0
    have K481 := K452.trans r481_0 (allS (Or.inr sz_x32_0) (allS (Or.inr sz_x32_1) (allS (Or.inr sz_x32_3) (allS (Or.inr sz_x32_4) all0))))
    have Z481 : n0 ≤ h481.size := Nat.le_trans Z452 r481_0.1
    have ch506 : Goes p e below sZ (entryFrame m #[.int p1, .int p2, .int p3, .int p4] maxLocals) T481 (mkF m 130 #[vI p1, vI p2, vI p3, vI p4, vI 2, vI rc, vI ac, vI bc, vR b4, vI 1, vU, vU] [.ref b4]) := fun t kt => ch480 t (by
      show SG X452 127 #[vI p1, vI p2, vI p3, vI p4, vI 2, vI rc, vI ac, vI bc, vR b4, vI 1, vU, vU] [.ref b4] _
      refine st481.trans ?_
      show SG X481 130 #[vI p1, vI p2, vI p3, vI p4, vI 2, vI rc, vI ac, vI bc, vR b4, vI 1, vU, vU] [.ref b4] _
      exact kt)
    obtain ⟨B505, hB505⟩ : ∃ B : List Int32, B = (((((B476 ++ [own_c10]) ++ [(9 : Int32)]) ++ [(60 : Int32), (47 : Int32)]) ++ [(ac.toInt8.toInt32)]) ++ [own_c62]) := ⟨_, rfl⟩
    have lB505 : B505.length + 12 ≤ 78 := by rw [hB505]; exact (own_len (us := [own_c62]) (m := 12) (own_len (us := [(ac.toInt8.toInt32)]) (m := 13) (own_len (us := [(60 : Int32), (47 : Int32)]) (m := 14) (own_len (us := [(9 : Int32)]) (m := 16) (own_len (us := [own_c10]) (m := 17) lB476 (bl rfl)) (bl rfl)) (bl rfl)) (bl rfl)) (bl rfl))
    have pB505 : ∀ x ∈ B505, ¬ x < (0 : Int32) := by rw [hB505]; exact (own_posA (own_posA (own_posA (own_posA (own_posA pB476 (own_pos1 (by decide))) (own_pos1 (by decide))) (by decide)) (own_pos1 hacx.2)) (own_pos1 (by decide)))
    have f507 : Fld Z h481 x32_0 sA "count" "I" (.int (Int32.ofNat B505.length)) := by rw [hB505]; exact r481_3
    have f508 : Arv Z h481 x32_1 x32_2 .byte (78 : Int32) (own_iv B505) (.int 0) := by rw [hB505]; exact r481_4
    have ch509 : Goes p e below sZ (entryFrame m #[.int p1, .int p2, .int p3, .int p4] maxLocals) T481 (mkF m 144 #[vI p1, vI p2, vI p3, vI p4, vI 2, vI rc, vI ac, vI bc, vR b4, vI 1, vU, vU] [.ref b4]) := fun t kt => ch506 t (by
      show SG X481 130 #[vI p1, vI p2, vI p3, vI p4, vI 2, vI rc, vI ac, vI bc, vR b4, vI 1, vU, vU] [.ref b4] _
      refine XS.aload X481.here hx rfl (hb hby at_130) rfl rfl ?_
      refine Jvm.RoadKit.acmp (g := (mkF m 132 #[vI p1, vI p2, vI p3, vI p4, vI 2, vI rc, vI ac, vI bc, vR b4, vI 1, vU, vU] [.ref b4, .ref b4])) X481 hx rfl rfl rfl (pc0 := 132) (pc' := 135) (same := true) rfl (hb hby at_132) rfl (decide_eq_true rfl) (by decide) (by decide) ?_
      refine XS.iconst X481.here hx rfl (hb hby at_135) ?_
      refine XS.goto X481.here hx rfl (pc0 := 136) (pc' := 140) rfl (hb hby at_136) (by decide) (by decide) ?_
      refine XS.istore X481.here hx rfl (hb hby at_140) rfl (l' := #[vI p1, vI p2, vI p3, vI p4, vI 2, vI rc, vI ac, vI bc, vR b4, vI 1, vU, vU]) rfl ?_
      refine XS.aload X481.here hx rfl (hb hby at_142) rfl rfl ?_
      exact kt)
    obtain ⟨cq510, kq510, q510a, q510b, q510c⟩ := isOf hZ e481 f485
    obtain ⟨_, T510, lo510, Lc510, h510, kk510, X510, e510, hS, hk, hZ, hown, N510, hQ510, hCn, st510⟩ := own_afW (QFN Z b4 x32_0 x32_3 x32_1 x32_2 B505 x32_4 x32_5 x10_0 cs x10_1 x10_2 (rc.toInt8.toInt32) uc h481 n0) 38 9 410 185 47 595 (X481.virtualBackS hx (y := Y_60) (z := Y_60) hown (mvT hZ (w 215 rfl)) (mvT hZ (w 216 rfl)) (own_ns hZ (w 218 rfl)) (mvT hZ (w 218 rfl)) (mvT hZ (w 217 rfl)) (by decide) (backOfSH (W := 0) (rmFN l Z a0 hw [] b4 x32_0 x32_3 x32_1 x32_2 B505 x32_4 x32_5 x10_0 cs x10_1 x10_2 (rc.toInt8.toInt32) uc h481 n0 Z481 f485 f491 f492 f493 r481_1 r481_2 f507 f508 f494 r481_5 r481_6 r481_7 r481_8 r32_13 f482 f486 f487 f488 f489 f483 f484 hcs (Nat.le_trans (Nat.add_le_add_left (by decide : 7 ≤ 12) _) lB505) pB505 hrcx.2 g_x32_0 g_x32_1 g_x32_3 g_x32_4) hZ (w 219 rfl) (w 2 rfl) (by decide) (by decide) (own_EW hw) hC.1) q510a q510c (g := (mkF m 144 #[vI p1, vI p2, vI p3, vI p4, vI 2, vI rc, vI ac, vI bc, vR b4, vI 1, vU, vU] [.ref b4])) rfl (by rw [hml]; rfl) (Steps.refl _) (argsL := []) (rest := []) (lenOf pd_26 rfl) rfl (lq rfl) (hb hby at_144) (fun _ _ => ⟨rfl, e481, (by decide : 38 + 9 ≤ _), (by decide : 410 + 185 ≤ _)⟩)) hS e481 hk hZ hown N481 (by rintro _ _ _ ⟨_, _, -, N, -⟩; exact N) rfl rfl
    dsimp only at st510
    obtain ⟨x510_0, x510_1, rfl, N510q, r510_0, r510_1, r510_2⟩ := hQ510
    have hC := hC.trans hCn
    have K510 := K481.trans r510_0 (allS (Or.inr sz_x32_0) (allS (Or.inr sz_x32_1) (allS (Or.inr sz_x32_3) (allS (Or.inr sz_x32_4) all0))))
    have Z510 : n0 ≤ h510.size := Nat.le_trans Z481 r510_0.1
    obtain ⟨vo, hvo⟩ : ∃ v : List Value, v = own_iv [(60), (63), (120), (109), (108), (32), (118), (101), (114), (115), (105), (111), (110), (61), (34), (49), (46), (48), (34), (32), (101), (110), (99), (111), (100), (105), (110), (103), (61), (34), (85), (84), (70), (45), (56), (34), (63), (62), own_c10, own_c60, (rc.toInt8.toInt32), own_c62, own_c10, (9), own_c60, (ac.toInt8.toInt32), own_c62, own_c10, (9), (9), own_c60, (bc.toInt8.toInt32), own_c62, own_c10, (9), (9), (60), (47), (bc.toInt8.toInt32), own_c62, own_c10, (9), (60), (47), (ac.toInt8.toInt32), own_c62, own_c10, (60), (47), (rc.toInt8.toInt32), own_c62, own_c10] := ⟨_, rfl⟩
    have f534 : Arv Z h510 x510_0 x510_1 .byte (72 : Int32) vo (.int 0) := own_arv r510_2 (own_li (n := 72) (by rw [hB505, hB476, hB447, hB339, hB44]; simp [own_hdr]) rfl) (by rw [hvo, hB505, hB476, hB447, hB339, hB44]; simp only [own_hdr, List.cons_append, List.nil_append, List.append_nil] <;> rfl)
    obtain ⟨_, T535, lo535, Lc535, X535, N535, hQ535, st535⟩ := own_af (QTG38_0_0 Z x510_0 rc x510_1 (72 : Int32) vo h510 n0) 47 0 595 0 47 595 (Jvm.LawKit.callS X510 hx (y := Y_51) hown (mvT hZ (w 325 rfl)) (mvT hZ (w 326 rfl)) (mvT hZ (w 327 rfl)) (mvT hZ (w 328 rfl)) (by decide) (backOf (W := 0) (rmTG38_0_0 l Z a0 hw [] x510_0 rc x510_1 (72 : Int32) vo h510 n0 Z510 f534 (by decide) (by rw [hvo]; exact congrArg Value.int own_e10) (by rw [hvo]; exact congrArg Value.int own_e60) (by rw [hvo]; rfl) (by rw [hvo]; exact congrArg Value.int own_e62)) hZ (w 328 rfl) (w 327 rfl) (by decide) (by decide)) (g := (mkF m 157 #[vI p1, vI p2, vI p3, vI p4, vI 2, vI rc, vI ac, vI bc, vR b4, vI 1, vR x510_0, vU] [.int rc, .int 0, .int 0, .int 38, .ref x510_0])) rfl (by rw [hml]; rfl) (argsL := [.ref x510_0, .int 38, .int 0, .int 0, .int rc]) (rest := []) (lenOf pd_40 rfl) rfl (lq rfl) (hb hby at_157) (fun _ _ => ⟨rfl, e510, (by decide : 47 + 0 ≤ _), (by decide : 595 + 0 ≤ _)⟩)) N510 (fun _ _ _ h => h.2.1) rfl rfl
    dsimp only at st535
    obtain ⟨rfl, N535q, r535_0⟩ := hQ535
    obtain ⟨_, T536, lo536, Lc536, X536, N536, hQ536, st536⟩ := own_af (QTG42_1_0 Z x510_0 ac x510_1 (72 : Int32) vo h510 n0) 47 0 595 0 47 595 (Jvm.LawKit.callS X535 hx (y := Y_51) hown (mvT hZ (w 325 rfl)) (mvT hZ (w 326 rfl)) (mvT hZ (w 327 rfl)) (mvT hZ (w 328 rfl)) (by decide) (backOf (W := 0) (rmTG42_1_0 l Z a0 hw [] x510_0 ac x510_1 (72 : Int32) vo h510 n0 Z510 f534 (by decide) (by rw [hvo]; exact congrArg Value.int own_e10) (by rw [hvo]; exact congrArg Value.int own_e60) (by rw [hvo]; rfl) (by rw [hvo]; exact congrArg Value.int own_e62) (by rw [hvo]; rfl)) hZ (w 328 rfl) (w 327 rfl) (by decide) (by decide)) (g := (mkF m 176 #[vI p1, vI p2, vI p3, vI p4, vI 2, vI rc, vI ac, vI bc, vR b4, vI 1, vR x510_0, vI 42] [.int ac, .int 0, .int 1, .int 42, .ref x510_0])) rfl (by rw [hml]; rfl) (argsL := [.ref x510_0, .int 42, .int 1, .int 0, .int ac]) (rest := []) (lenOf pd_40 rfl) rfl (lq rfl) (hb hby at_176) (fun _ _ => ⟨rfl, r535_0, (by decide : 47 + 0 ≤ _), (by decide : 595 + 0 ≤ _)⟩)) N535 (fun _ _ _ h => h.2.1) rfl rfl
    dsimp only at st536
    obtain ⟨rfl, N536q, r536_0⟩ := hQ536
    obtain ⟨_, T537, lo537, Lc537, X537, N537, hQ537, st537⟩ := own_af (QTG47_2_0 Z x510_0 bc x510_1 (72 : Int32) vo h510 n0) 47 0 595 0 47 595 (Jvm.LawKit.callS X536 hx (y := Y_51) hown (mvT hZ (w 325 rfl)) (mvT hZ (w 326 rfl)) (mvT hZ (w 327 rfl)) (mvT hZ (w 328 rfl)) (by decide) (backOf (W := 0) (rmTG47_2_0 l Z a0 hw [] x510_0 bc x510_1 (72 : Int32) vo h510 n0 Z510 f534 (by decide) (by rw [hvo]; exact congrArg Value.int own_e10) (by rw [hvo]; exact congrArg Value.int own_e60) (by rw [hvo]; rfl) (by rw [hvo]; exact congrArg Value.int own_e62) (by rw [hvo]; rfl) (by rw [hvo]; rfl)) hZ (w 328 rfl) (w 327 rfl) (by decide) (by decide)) (g := (mkF m 195 #[vI p1, vI p2, vI p3, vI p4, vI 2, vI rc, vI ac, vI bc, vR b4, vI 1, vR x510_0, vI 47] [.int bc, .int 0, .int 2, .int 47, .ref x510_0])) rfl (by rw [hml]; rfl) (argsL := [.ref x510_0, .int 47, .int 2, .int 0, .int bc]) (rest := []) (lenOf pd_40 rfl) rfl (lq rfl) (hb hby at_195) (fun _ _ => ⟨rfl, r536_0, (by decide : 47 + 0 ≤ _), (by decide : 595 + 0 ≤ _)⟩)) N536 (fun _ _ _ h => h.2.1) rfl rfl
    dsimp only at st537
    obtain ⟨rfl, N537q, r537_0⟩ := hQ537
    obtain ⟨_, T538, lo538, Lc538, X538, N538, hQ538, st538⟩ := own_af (QTG53_2_1 Z x510_0 bc x510_1 (72 : Int32) vo h510 n0) 47 0 595 0 47 595 (Jvm.LawKit.callS X537 hx (y := Y_51) hown (mvT hZ (w 325 rfl)) (mvT hZ (w 326 rfl)) (mvT hZ (w 327 rfl)) (mvT hZ (w 328 rfl)) (by decide) (backOf (W := 0) (rmTG53_2_1 l Z a0 hw [] x510_0 bc x510_1 (72 : Int32) vo h510 n0 Z510 f534 (by decide) (by rw [hvo]; exact congrArg Value.int own_e10) (by rw [hvo]; rfl) (by rw [hvo]; rfl) (by rw [hvo]; exact congrArg Value.int own_e62) (by rw [hvo]; rfl) (by rw [hvo]; rfl) (by rw [hvo]; rfl)) hZ (w 328 rfl) (w 327 rfl) (by decide) (by decide)) (g := (mkF m 208 #[vI p1, vI p2, vI p3, vI p4, vI 2, vI rc, vI ac, vI bc, vR b4, vI 1, vR x510_0, vI 53] [.int bc, .int 1, .int 2, .int 53, .ref x510_0])) rfl (by rw [hml]; rfl) (argsL := [.ref x510_0, .int 53, .int 2, .int 1, .int bc]) (rest := []) (lenOf pd_40 rfl) rfl (lq rfl) (hb hby at_208) (fun _ _ => ⟨rfl, r537_0, (by decide : 47 + 0 ≤ _), (by decide : 595 + 0 ≤ _)⟩)) N537 (fun _ _ _ h => h.2.1) rfl rfl
    dsimp only at st538
    obtain ⟨rfl, N538q, r538_0⟩ := hQ538
    obtain ⟨_, T539, lo539, Lc539, X539, N539, hQ539, st539⟩ := own_af (QTG60_1_1 Z x510_0 ac x510_1 (72 : Int32) vo h510 n0) 47 0 595 0 47 595 (Jvm.LawKit.callS X538 hx (y := Y_51) hown (mvT hZ (w 325 rfl)) (mvT hZ (w 326 rfl)) (mvT hZ (w 327 rfl)) (mvT hZ (w 328 rfl)) (by decide) (backOf (W := 0) (rmTG60_1_1 l Z a0 hw [] x510_0 ac x510_1 (72 : Int32) vo h510 n0 Z510 f534 (by decide) (by rw [hvo]; exact congrArg Value.int own_e10) (by rw [hvo]; rfl) (by rw [hvo]; rfl) (by rw [hvo]; exact congrArg Value.int own_e62) (by rw [hvo]; rfl) (by rw [hvo]; rfl)) hZ (w 328 rfl) (w 327 rfl) (by decide) (by decide)) (g := (mkF m 227 #[vI p1, vI p2, vI p3, vI p4, vI 2, vI rc, vI ac, vI bc, vR b4, vI 1, vR x510_0, vI 60] [.int ac, .int 1, .int 1, .int 60, .ref x510_0])) rfl (by rw [hml]; rfl) (argsL := [.ref x510_0, .int 60, .int 1, .int 1, .int ac]) (rest := []) (lenOf pd_40 rfl) rfl (lq rfl) (hb hby at_227) (fun _ _ => ⟨rfl, r538_0, (by decide : 47 + 0 ≤ _), (by decide : 595 + 0 ≤ _)⟩)) N538 (fun _ _ _ h => h.2.1) rfl rfl
    dsimp only at st539
    obtain ⟨rfl, N539q, r539_0⟩ := hQ539
    obtain ⟨_, T540, lo540, Lc540, X540, N540, hQ540, st540⟩ := own_af (QTG66_0_1 Z x510_0 rc x510_1 (72 : Int32) vo h510 n0) 47 0 595 0 47 595 (Jvm.LawKit.callS X539 hx (y := Y_51) hown (mvT hZ (w 325 rfl)) (mvT hZ (w 326 rfl)) (mvT hZ (w 327 rfl)) (mvT hZ (w 328 rfl)) (by decide) (backOf (W := 0) (rmTG66_0_1 l Z a0 hw [] x510_0 rc x510_1 (72 : Int32) vo h510 n0 Z510 f534 (by decide) (by rw [hvo]; exact congrArg Value.int own_e10) (by rw [hvo]; rfl) (by rw [hvo]; rfl) (by rw [hvo]; exact congrArg Value.int own_e62) (by rw [hvo]; rfl)) hZ (w 328 rfl) (w 327 rfl) (by decide) (by decide)) (g := (mkF m 240 #[vI p1, vI p2, vI p3, vI p4, vI 2, vI rc, vI ac, vI bc, vR b4, vI 1, vR x510_0, vI 66] [.int rc, .int 1, .int 0, .int 66, .ref x510_0])) rfl (by rw [hml]; rfl) (argsL := [.ref x510_0, .int 66, .int 0, .int 1, .int rc]) (rest := []) (lenOf pd_40 rfl) rfl (lq rfl) (hb hby at_240) (fun _ _ => ⟨rfl, r539_0, (by decide : 47 + 0 ≤ _), (by decide : 595 + 0 ≤ _)⟩)) N539 (fun _ _ _ h => h.2.1) rfl rfl
    dsimp only at st540
    obtain ⟨rfl, N540q, r540_0⟩ := hQ540
    obtain ⟨fs, hr, hrun, hended, hW⟩ := X540.leaveW (v := some (.int 1)) hS (by rw [r540_0]; exact hk) (fun h => by rw [Bd.returns] at h; cases h)
    refine ⟨_, _, ch509 _ ?_, hrun, hended, _, _, rfl, ?_, ?_, ⟨hW.1, hW.2.1, hW.2.2.1, hW.2.2.2.mono (by decide) (by decide)⟩⟩
    · show SG X481 144 #[vI p1, vI p2, vI p3, vI p4, vI 2, vI rc, vI ac, vI bc, vR b4, vI 1, vU, vU] [.ref b4] _
      refine st510.trans ?_
      show SG X510 147 #[vI p1, vI p2, vI p3, vI p4, vI 2, vI rc, vI ac, vI bc, vR b4, vI 1, vU, vU] [.ref x510_0] _
      refine XS.astore X510.here hx rfl (hb hby at_147) rfl rfl (l' := #[vI p1, vI p2, vI p3, vI p4, vI 2, vI rc, vI ac, vI bc, vR b4, vI 1, vR x510_0, vU]) rfl ?_
      refine XS.aload X510.here hx rfl (hb hby at_149) rfl rfl ?_
      refine XS.bipush X510.here hx rfl (hb hby at_151) ?_
      refine XS.iconst X510.here hx rfl (hb hby at_153) ?_
      refine XS.iconst X510.here hx rfl (hb hby at_154) ?_
      refine XS.iload X510.here hx rfl (hb hby at_155) rfl ?_
      refine st535 _ ?_
      show SG X535 160 #[vI p1, vI p2, vI p3, vI p4, vI 2, vI rc, vI ac, vI bc, vR b4, vI 1, vR x510_0, vU] [.int 42] _
      refine XS.istore X535.here hx rfl (hb hby at_160) rfl (l' := #[vI p1, vI p2, vI p3, vI p4, vI 2, vI rc, vI ac, vI bc, vR b4, vI 1, vR x510_0, vI 42]) rfl ?_
      refine XS.iload X535.here hx rfl (hb hby at_162) rfl ?_
      refine XS.iconst X535.here hx rfl (hb hby at_164) ?_
      refine XS.icmpNo X535.here hx rfl (hb hby at_165) rfl (flt (by decide : ¬ ((2 : Int32) < (1 : Int32)))).1 ?_
      refine XS.aload X535.here hx rfl (hb hby at_168) rfl rfl ?_
      refine XS.iload X535.here hx rfl (hb hby at_170) rfl ?_
      refine XS.iconst X535.here hx rfl (hb hby at_172) ?_
      refine XS.iconst X535.here hx rfl (hb hby at_173) ?_
      refine XS.iload X535.here hx rfl (hb hby at_174) rfl ?_
      refine st536 _ ?_
      show SG X536 179 #[vI p1, vI p2, vI p3, vI p4, vI 2, vI rc, vI ac, vI bc, vR b4, vI 1, vR x510_0, vI 42] [.int 47] _
      refine XS.istore X536.here hx rfl (hb hby at_179) rfl (l' := #[vI p1, vI p2, vI p3, vI p4, vI 2, vI rc, vI ac, vI bc, vR b4, vI 1, vR x510_0, vI 47]) rfl ?_
      refine XS.iload X536.here hx rfl (hb hby at_181) rfl ?_
      refine XS.iconst X536.here hx rfl (hb hby at_183) ?_
      refine XS.icmpNo X536.here hx rfl (hb hby at_184) rfl (flt (by decide : ¬ ((2 : Int32) < (2 : Int32)))).1 ?_
      refine XS.aload X536.here hx rfl (hb hby at_187) rfl rfl ?_
      refine XS.iload X536.here hx rfl (hb hby at_189) rfl ?_
      refine XS.iconst X536.here hx rfl (hb hby at_191) ?_
      refine XS.iconst X536.here hx rfl (hb hby at_192) ?_
      refine XS.iload X536.here hx rfl (hb hby at_193) rfl ?_
      refine st537 _ ?_
      show SG X537 198 #[vI p1, vI p2, vI p3, vI p4, vI 2, vI rc, vI ac, vI bc, vR b4, vI 1, vR x510_0, vI 47] [.int 53] _
      refine XS.istore X537.here hx rfl (hb hby at_198) rfl (l' := #[vI p1, vI p2, vI p3, vI p4, vI 2, vI rc, vI ac, vI bc, vR b4, vI 1, vR x510_0, vI 53]) rfl ?_
      refine XS.aload X537.here hx rfl (hb hby at_200) rfl rfl ?_
      refine XS.iload X537.here hx rfl (hb hby at_202) rfl ?_
      refine XS.iconst X537.here hx rfl (hb hby at_204) ?_
      refine XS.iconst X537.here hx rfl (hb hby at_205) ?_
      refine XS.iload X537.here hx rfl (hb hby at_206) rfl ?_
      refine st538 _ ?_
      show SG X538 211 #[vI p1, vI p2, vI p3, vI p4, vI 2, vI rc, vI ac, vI bc, vR b4, vI 1, vR x510_0, vI 53] [.int 60] _
      refine XS.istore X538.here hx rfl (hb hby at_211) rfl (l' := #[vI p1, vI p2, vI p3, vI p4, vI 2, vI rc, vI ac, vI bc, vR b4, vI 1, vR x510_0, vI 60]) rfl ?_
      refine XS.iload X538.here hx rfl (hb hby at_213) rfl ?_
      refine XS.iconst X538.here hx rfl (hb hby at_215) ?_
      refine XS.icmpNo X538.here hx rfl (hb hby at_216) rfl (flt (by decide : ¬ ((2 : Int32) < (1 : Int32)))).1 ?_
      refine XS.aload X538.here hx rfl (hb hby at_219) rfl rfl ?_
      refine XS.iload X538.here hx rfl (hb hby at_221) rfl ?_
      refine XS.iconst X538.here hx rfl (hb hby at_223) ?_
      refine XS.iconst X538.here hx rfl (hb hby at_224) ?_
      refine XS.iload X538.here hx rfl (hb hby at_225) rfl ?_
      refine st539 _ ?_
      show SG X539 230 #[vI p1, vI p2, vI p3, vI p4, vI 2, vI rc, vI ac, vI bc, vR b4, vI 1, vR x510_0, vI 60] [.int 66] _
      refine XS.istore X539.here hx rfl (hb hby at_230) rfl (l' := #[vI p1, vI p2, vI p3, vI p4, vI 2, vI rc, vI ac, vI bc, vR b4, vI 1, vR x510_0, vI 66]) rfl ?_
      refine XS.aload X539.here hx rfl (hb hby at_232) rfl rfl ?_
      refine XS.iload X539.here hx rfl (hb hby at_234) rfl ?_
      refine XS.iconst X539.here hx rfl (hb hby at_236) ?_
      refine XS.iconst X539.here hx rfl (hb hby at_237) ?_
      refine XS.iload X539.here hx rfl (hb hby at_238) rfl ?_
      refine st540 _ ?_
      show SG X540 243 #[vI p1, vI p2, vI p3, vI p4, vI 2, vI rc, vI ac, vI bc, vR b4, vI 1, vR x510_0, vI 66] [.int 71] _
      refine XS.istore X540.here hx rfl (hb hby at_243) rfl (l' := #[vI p1, vI p2, vI p3, vI p4, vI 2, vI rc, vI ac, vI bc, vR b4, vI 1, vR x510_0, vI 71]) rfl ?_
      refine XS.iload X540.here hx rfl (hb hby at_245) rfl ?_
      refine XS.ifNo X540.here hx rfl (hb hby at_247) rfl ((if0 _ _).trans (feq (by decide : ¬ ((1 : Int32) = (0 : Int32)))).1) ?_
      refine XS.iload X540.here hx rfl (hb hby at_250) rfl ?_
      refine XS.ifNo X540.here hx rfl (hb hby at_252) rfl ((if0 _ _).trans (flt (by decide : ¬ ((71 : Int32) < (0 : Int32)))).1) ?_
      refine XS.iload X540.here hx rfl (hb hby at_255) rfl ?_
      refine XS.iconst X540.here hx rfl (hb hby at_257) ?_
      refine XS.iadd X540.here hx rfl (hb hby at_258) rfl ?_
      show SG X540 259 #[vI p1, vI p2, vI p3, vI p4, vI 2, vI rc, vI ac, vI bc, vR b4, vI 1, vR x510_0, vI 71] [.int 72] _
      refine XS.aload X540.here hx rfl (hb hby at_259) rfl rfl ?_
      refine own_alen X540 hx hZ r540_0 f534 (hb hby at_261) ?_
      refine XS.icmpNo X540.here hx rfl (hb hby at_262) rfl (teq (by decide : ((72 : Int32) = (72 : Int32)))).2 ?_
      refine XS.aload X540.here hx rfl (hb hby at_265) rfl rfl ?_
      refine XS.iload X540.here hx rfl (hb hby at_267) rfl ?_
      refine own_bal X540 hx hZ r540_0 f534 (x := (10 : Int32)) ⟨by decide, by decide⟩ (by rw [hvo]; exact congrArg Value.int own_e10) (hb hby at_269) ?_
      refine XS.bipush X540.here hx rfl (hb hby at_270) ?_
      refine XS.icmpNo X540.here hx rfl (hb hby at_272) rfl (teq (by decide : ((10 : Int32) = (10 : Int32)))).2 ?_
      refine XS.iconst X540.here hx rfl (hb hby at_275) ?_
      refine XS.goto X540.here hx rfl (pc0 := 276) (pc' := 280) rfl (hb hby at_276) (by decide) (by decide) ?_
      exact retN X540 hx (t := .boolean) Bd.returns (by simp) (hb hby at_280) hr
    · show Q0 Z p1 p2 p3 p4 cs uc h0 n0 _ T540.heap _
      rw [r540_0]
      exact ⟨rfl, N540, K510⟩
    · show CHr Z consts_1 s.vm s.heap T540.vm T540.heap
      rw [hh, r540_0]
      exact hC.trans (CHv.at X540 hZ (own_EW hw) hC.1)

end Wk
set_option maxRecDepth 65536 in
set_option maxHeartbeats 40000000 in
theorem comes_1 {Post : Tables → Env → Array Value → State → Outcome → State → Prop} (hpost : ∀ tb e args s v u, (limb_1_1.after args s (.returned v) u = true ∧ limb_1_2.after args s (.returned v) u = true ∧ True) → FramedW s (.returned v) u (Jvm.fieldLocs frame_1_writes args s ++ Jvm.arrayLocs frame_1_arrays args s ++ Jvm.staticLocs frame_1_statics s) 64 4864 → Post tb e args s (.returned v) u) :
    ArmFor flags0 classFile x code maxLocals ret World_1 tables_1 room_1 Calls_1 rest_1 Pre_1 Post := by
  intro l hfl _ _ p e ha hc hk s m args below hf hA hF happ hP
  obtain ⟨hcalls, hrest, hpre⟩ := hP
  obtain ⟨-, -, -, hnamed, -, -, -, hat⟩ := (Spec.applies_iff hf).mp happ
  obtain ⟨hg, hn⟩ := and_e (Cond.before_iff.mp (show (Jvm.Cond.and given_1 narrow_1).before args s = true from hpre))
  obtain ⟨g1, g2⟩ := and_e hg
  obtain ⟨g3, g4⟩ := and_e g2
  obtain ⟨g5, g6⟩ := and_e g4
  obtain ⟨g7, g8⟩ := and_e g6
  obtain ⟨w0, w1, w2, w3, rfl⟩ : ∃ w0 w1 w2 w3 : Value, args = #[w0, w1, w2, w3] := by
    have hs : args.size = 4 := by simpa [Cond.value, given_1] using g1
    obtain ⟨L⟩ := args
    match L, hs with
    | [w0, w1, w2, w3], _ => exact ⟨w0, w1, w2, w3, rfl⟩
  have hw := fun d (hd : d ∈ tables_1) => atoms_spec (ws := Jvm.Cond.code x code maxLocals ret :: tables_1) hat d (List.mem_cons_of_mem _ hd)
  have hfit : Fit s := fun {y c} hc i hi => by
    obtain ⟨ha, rfl⟩ := Array.getElem?_eq_some_iff.mp hc
    have q := List.all_eq_true.mp ((Array.all_eq_true_iff_forall_mem.mp hF) _ (Array.getElem_mem ha)) i (List.mem_range.mpr hi)
    simpa [Array.getElem?_eq_getElem hi] using q
  obtain ⟨hsets, hown0⟩ := atoms_of _ (rest_1_c_eq ▸ (show rest_1_c.before _ s = true from hrest))
  have hr0 := Cond.before_iff.mp hown0
  obtain ⟨i0, ei0⟩ := is_v g3
  obtain rfl : w0 = (.int i0) := Option.some.inj ei0
  obtain ⟨i1, ei1⟩ := is_v g5
  obtain rfl : w1 = (.int i1) := Option.some.inj ei1
  obtain ⟨i2, ei2⟩ := is_v g7
  obtain rfl : w2 = (.int i2) := Option.some.inj ei2
  obtain ⟨i3, ei3⟩ := is_v g8
  obtain rfl : w3 = (.int i3) := Option.some.inj ei3
  obtain ⟨z1, ez1⟩ := is_v (Cond.before_iff.mp (hsets _ (List.mem_of_getElem? (i := 1) rfl)))
  have S_1 := Sta.start ez1 (Or.inl (hsets _ (List.mem_of_getElem? (i := 0) rfl)))
  have hz : ¬ z1 = (0 : Int32) := fun q => by
    have q1 := not_v (Cond.before_iff.mp (hsets _ (List.mem_of_getElem? (i := 2) rfl)))
    rw [Cond.eq_ints ez1 (y := (0 : Int32)) rfl] at q1
    simp [q] at q1
  obtain ⟨uc, euc⟩ := own_exref (Cond.before_iff.mp (hsets _ (List.mem_of_getElem? (i := 14) rfl)))
  have euc2 := own_eqref (Cond.before_iff.mp (hsets _ (List.mem_of_getElem? (i := 13) rfl))) euc
  have S_2 := Sta.start euc (Or.inl (hsets _ (List.mem_of_getElem? (i := 10) rfl)))
  have S_3 := Sta.start euc2 (Or.inl (hsets _ (List.mem_of_getElem? (i := 12) rfl)))
  have hCH : CHv s consts_1 s.vm s.heap := CHv.start (own_EW hw) hcalls.1 (hsets _ (List.mem_of_getElem? (i := 2) rfl)) (own_wS hw _ (by simp [Bundle.stringAtoms])) (own_wS hw _ (by simp [Bundle.stringAtoms, Bundle.sN]))
  obtain ⟨n, o, h1, h2, h3, _, L, rfl, ⟨rfl, N, -⟩, hq⟩ := rm0 l s _ hw tables_1 i0 i1 i2 i3 z1 uc s.heap s.heap.size (Nat.le_refl _) S_1 S_2 S_3 hz p e ha hc hk s m _ below hf ((Spec.applies_iff_loose hf).mp happ).1 ⟨rfl, State.Warmed39.refl s, rfl, hCH⟩ trivial
  refine ⟨n, _, h1, h2, h3, hpost _ _ _ _ _ _ ⟨Cond.after_iff.mpr rfl, Cond.after_iff.mpr (eq_i res_at (Term.int_eval (1)) rfl), trivial⟩ ⟨hq.2.1, hq.2.2.1, hq.2.2.2.1, (hq.2.2.2.2.sift fun y hy => Or.inr (N y hy)).mono (by decide) (by decide)⟩⟩
theorem main_1_1 : Claimed_1_1 := comes_1 fun _ _ _ _ _ _ h hF => ⟨h.1, hF⟩
theorem main_1_2 : Claimed_1_2 := comes_1 fun _ _ _ _ _ _ h hF => ⟨h.2.1, hF⟩
end Jvm.Pilot.@@N@@
namespace Jvm.Pilot.@@N@@
open Jvm Jvm.ClassFile Sem Op Lib Jvm.Free Jvm.Stand Jvm.Pilot.@@N@@.Jvm.D
/-! MADE BY PROGRAM (witnessworld.py) out of the Statement's table words and the real class files: 38 classes; the members and pool entries that the words name. The judged class is class 1, her method 1. -/
namespace start1
open Jvm.ClassFile
def u (s : String) : CpInfo := .utf8 (stringToUtf16 s)
/-- a pool by its gaps: so many unusable entries, then the entry; so many at the end -/
def gap : Nat → List CpInfo → List CpInfo
  | 0, r => r
  | n + 1, r => .unusable :: gap n r
def poolList (es : List (Nat × CpInfo)) (last : Nat) : List CpInfo := es.foldr (fun e r => gap e.1 (e.2 :: r)) (gap last [])
def pool (es : List (Nat × CpInfo)) (last : Nat) : Array CpInfo := ⟨poolList es last⟩
def fileOf (pool : Array CpInfo) (this : Nat) (attrs : Array Attribute := #[]) (ms : Array MethodInfo := #[]) (fl : Nat := 33) (sup : Nat := 0) (ifs : Array Nat := #[]) (fds : Array FieldInfo := #[]) : ClassFile where
  minorVersion := 0
  majorVersion := 65
  constantPool := pool
  accessFlags := fl
  thisClass := this
  superClass := sup
  interfaces := ifs
  fields := fds
  methods := ms
  attributes := attrs
def plain (name : String) (sup : Option ClassId) : Class where
  name := name
  kind := .ordinary
  loader := none
  accessFlags := 33
  super := sup
  interfaces := #[]
  cf := none
  fields := #[]
  methods := #[]
  instanceTypes := #[]
  staticTypes := #[]
  resolved := #[]
  callSites := []
  init := .initialized
  statics := none
  mirror := none

def pool0 : Array CpInfo := pool [(5, u "<init>"), (0, u "()V"), (1, .class_ 10), (1, u "java/lang/Object"), (85, u "clone"), (0, u "()Ljava/lang/Object;")] 26

def k0c0 : Code := { maxStack := 0, maxLocals := 1, code := object_method_1_code, exceptionTable := #[], attributes := #[] }
def k0m0 : Method := { name := "<init>", desc := "()V", sig := { parameters := [], returnType := none }, accessFlags := 1, code := some k0c0 }
def k0m1 : Method := { name := "clone", desc := "()Ljava/lang/Object;", sig := { parameters := [], returnType := some (.object "java/lang/Object") }, accessFlags := 260, code := none }
/-- java/lang/Object -/
def k0 : Class := { plain "java/lang/Object" none with
  accessFlags := 33
  interfaces := #[]
  cf := some (fileOf pool0 8 #[] #[{ accessFlags := 1, nameIndex := 5, descriptorIndex := 6, attributes := #[] }, { accessFlags := 260, nameIndex := 96, descriptorIndex := 97, attributes := #[] }] 33 0 #[] #[])
  fields := #[]
  methods := #[k0m0, k0m1]
  instanceTypes := #[]
  staticTypes := #[]
  resolved := Array.replicate 124 none
  statics := none }

def pool1 : Array CpInfo := pool [(2, .class_ 4), (1, u "java/lang/Object"), (0, u "<init>"), (0, u "()V"), (0, .class_ 8), (0, u "com/example/cartolog/cartolog/xml/XmlDocument"), (0, .methodref 10 11), (0, .class_ 12), (0, .nameAndType 13 14), (0, u "java/lang/String"), (0, u "valueOf"), (0, u "(C)Ljava/lang/String;"), (0, .methodref 7 16), (0, .nameAndType 5 17), (0, u "(Ljava/lang/String;Ljava/lang/String;[Ljava/lang/String;)V"), (0, .methodref 7 19), (0, .nameAndType 20 21), (0, u "start"), (0, u "(Ljava/lang/String;[Ljava/lang/String;)Lcom/example/cartolog/cartolog/xml/XmlDocument;"), (0, .methodref 7 23), (0, .nameAndType 24 25), (0, u "end"), (0, u "()Lcom/example/cartolog/cartolog/xml/XmlDocument;"), (0, .methodref 7 27), (0, .nameAndType 28 29), (0, u "finish"), (0, u "()[B"), (0, .methodref 31 32), (0, .class_ 33), (0, .nameAndType 34 35), (0, u "com/example/cartolog/cartolog/xml/XmlDocumentEndPinLaw"), (0, u "tag"), (0, u "([BIIZC)I"), (2, u "law"), (0, u "(IIII)Z")] 5

def k1m0 : Method := { name := "<init>", desc := "()V", sig := { parameters := [], returnType := none }, accessFlags := 1, code := none }
def k1c1 : Code := { maxStack := 5, maxLocals := 12, code := code, exceptionTable := #[], attributes := #[] }
def k1m1 : Method := { name := "law", desc := "(IIII)Z", sig := { parameters := [.int, .int, .int, .int], returnType := some .boolean }, accessFlags := 9, code := some k1c1 }
def k1c2 : Code := { maxStack := 3, maxLocals := 7, code := method_3_code, exceptionTable := #[], attributes := #[] }
def k1m2 : Method := { name := "tag", desc := "([BIIZC)I", sig := { parameters := [(.array .byte), .int, .int, .boolean, .char], returnType := some .int }, accessFlags := 10, code := some k1c2 }
/-- com/example/cartolog/cartolog/xml/XmlDocumentEndPinLaw -/
def k1 : Class := { plain "com/example/cartolog/cartolog/xml/XmlDocumentEndPinLaw" (some 0) with
  accessFlags := 49
  interfaces := #[]
  cf := some (fileOf pool1 31 #[] #[{ accessFlags := 1, nameIndex := 5, descriptorIndex := 6, attributes := #[] }, { accessFlags := 9, nameIndex := 38, descriptorIndex := 39, attributes := #[] }, { accessFlags := 10, nameIndex := 34, descriptorIndex := 35, attributes := #[] }] 49 2 #[] #[])
  fields := #[]
  methods := #[k1m0, k1m1, k1m2]
  instanceTypes := #[]
  staticTypes := #[]
  resolved := Array.replicate 45 none
  statics := none }

def pool2 : Array CpInfo := pool [(1, .methodref 2 3), (0, .class_ 4), (0, .nameAndType 5 6), (0, u "java/lang/Object"), (0, u "<init>"), (0, u "()V"), (0, .class_ 8), (0, u "java/lang/StringBuilder"), (0, .methodref 7 3), (0, .fieldref 11 12), (0, .class_ 13), (0, .nameAndType 14 15), (0, u "com/example/cartolog/cartolog/xml/XmlDocument"), (0, u "xml"), (0, u "Ljava/lang/StringBuilder;"), (0, .class_ 17), (0, u "java/util/ArrayDeque"), (0, .methodref 16 3), (0, .fieldref 11 20), (0, .nameAndType 21 22), (0, u "open"), (0, u "Ljava/util/Deque;"), (0, .string 24), (0, u "<?xml version=\"1.0\" encoding=\"UTF-8\"?>"), (0, .methodref 7 26), (0, .nameAndType 27 28), (0, u "append"), (0, u "(Ljava/lang/String;)Ljava/lang/StringBuilder;"), (6, .methodref 11 36), (0, .nameAndType 37 38), (0, u "start"), (0, u "(Ljava/lang/String;[Ljava/lang/String;)Lcom/example/cartolog/cartolog/xml/XmlDocument;"), (0, .methodref 11 40), (0, .nameAndType 41 42), (0, u "startTag"), (0, u "(Ljava/lang/String;[Ljava/lang/String;)Ljava/lang/StringBuilder;"), (0, .methodref 7 44), (0, .nameAndType 27 45), (0, u "(C)Ljava/lang/StringBuilder;"), (0, .interfaceMethodref 47 48), (0, .class_ 49), (0, .nameAndType 50 51), (0, u "java/util/Deque"), (0, u "push"), (0, u "(Ljava/lang/Object;)V"), (0, .interfaceMethodref 47 53), (0, .nameAndType 54 55), (0, u "pop"), (0, u "()Ljava/lang/Object;"), (0, .class_ 57), (0, u "java/lang/String"), (0, .methodref 11 59), (0, .nameAndType 60 6), (0, u "newLine"), (0, .string 62), (0, u "</"), (18, .methodref 7 82), (0, .nameAndType 83 84), (0, u "toString"), (0, u "()Ljava/lang/String;"), (0, .fieldref 86 87), (0, .class_ 88), (0, .nameAndType 89 90), (0, u "java/nio/charset/StandardCharsets"), (0, u "UTF_8"), (0, u "Ljava/nio/charset/Charset;"), (0, .methodref 56 92), (0, .nameAndType 93 94), (0, u "getBytes"), (0, u "(Ljava/nio/charset/Charset;)[B"), (10, .methodref 11 106), (0, .nameAndType 107 108), (0, u "end"), (0, u "()Lcom/example/cartolog/cartolog/xml/XmlDocument;"), (0, .interfaceMethodref 47 110), (0, .nameAndType 111 112), (0, u "isEmpty"), (0, u "()Z"), (30, u "()I"), (23, .string 168), (0, u "\t"), (16, .interfaceMethodref 47 186), (0, .nameAndType 187 143), (0, u "size"), (0, .methodref 56 189), (0, .nameAndType 190 191), (0, u "repeat"), (0, u "(I)Ljava/lang/String;"), (0, u "SCHEMA"), (0, u "Ljava/lang/String;"), (3, u "XLINK"), (2, u "SCHEMA_INSTANCE"), (0, u "REPLACEMENT"), (0, u "I"), (2, u "(Ljava/lang/String;Ljava/lang/String;[Ljava/lang/String;)V"), (15, u "finish"), (0, u "()[B")] 19

def k2c0 : Code := { maxStack := 3, maxLocals := 4, code := prog_33_method_1_code, exceptionTable := #[], attributes := #[] }
def k2m0 : Method := { name := "<init>", desc := "(Ljava/lang/String;Ljava/lang/String;[Ljava/lang/String;)V", sig := { parameters := [(.object "java/lang/String"), (.object "java/lang/String"), (.array (.object "java/lang/String"))], returnType := none }, accessFlags := 129, code := some k2c0 }
def k2c1 : Code := { maxStack := 3, maxLocals := 3, code := prog_33_method_2_code, exceptionTable := #[], attributes := #[] }
def k2m1 : Method := { name := "start", desc := "(Ljava/lang/String;[Ljava/lang/String;)Lcom/example/cartolog/cartolog/xml/XmlDocument;", sig := { parameters := [(.object "java/lang/String"), (.array (.object "java/lang/String"))], returnType := some (.object "com/example/cartolog/cartolog/xml/XmlDocument") }, accessFlags := 129, code := some k2c1 }
def k2c2 : Code := { maxStack := 2, maxLocals := 2, code := prog_33_method_3_code, exceptionTable := #[], attributes := #[] }
def k2m2 : Method := { name := "end", desc := "()Lcom/example/cartolog/cartolog/xml/XmlDocument;", sig := { parameters := [], returnType := some (.object "com/example/cartolog/cartolog/xml/XmlDocument") }, accessFlags := 1, code := some k2c2 }
def k2c3 : Code := { maxStack := 3, maxLocals := 1, code := prog_33_method_8_code, exceptionTable := #[], attributes := #[] }
def k2m3 : Method := { name := "finish", desc := "()[B", sig := { parameters := [], returnType := some (.array .byte) }, accessFlags := 1, code := some k2c3 }
def k2c4 : Code := { maxStack := 4, maxLocals := 4, code := prog_33_method_10_code, exceptionTable := #[], attributes := #[] }
def k2m4 : Method := { name := "startTag", desc := "(Ljava/lang/String;[Ljava/lang/String;)Ljava/lang/StringBuilder;", sig := { parameters := [(.object "java/lang/String"), (.array (.object "java/lang/String"))], returnType := some (.object "java/lang/StringBuilder") }, accessFlags := 130, code := some k2c4 }
def k2c5 : Code := { maxStack := 3, maxLocals := 1, code := prog_33_method_13_code, exceptionTable := #[], attributes := #[] }
def k2m5 : Method := { name := "newLine", desc := "()V", sig := { parameters := [], returnType := none }, accessFlags := 2, code := some k2c5 }
/-- com/example/cartolog/cartolog/xml/XmlDocument -/
def k2 : Class := { plain "com/example/cartolog/cartolog/xml/XmlDocument" (some 0) with
  accessFlags := 49
  interfaces := #[]
  cf := some (fileOf pool2 11 #[] #[{ accessFlags := 129, nameIndex := 5, descriptorIndex := 205, attributes := #[] }, { accessFlags := 129, nameIndex := 37, descriptorIndex := 38, attributes := #[] }, { accessFlags := 1, nameIndex := 107, descriptorIndex := 108, attributes := #[] }, { accessFlags := 1, nameIndex := 221, descriptorIndex := 222, attributes := #[] }, { accessFlags := 130, nameIndex := 41, descriptorIndex := 42, attributes := #[] }, { accessFlags := 2, nameIndex := 60, descriptorIndex := 6, attributes := #[] }] 49 2 #[] #[{ accessFlags := 25, nameIndex := 192, descriptorIndex := 193, attributes := #[] }, { accessFlags := 25, nameIndex := 197, descriptorIndex := 193, attributes := #[] }, { accessFlags := 26, nameIndex := 200, descriptorIndex := 193, attributes := #[] }, { accessFlags := 26, nameIndex := 201, descriptorIndex := 202, attributes := #[] }, { accessFlags := 18, nameIndex := 14, descriptorIndex := 15, attributes := #[] }, { accessFlags := 18, nameIndex := 21, descriptorIndex := 22, attributes := #[] }])
  fields := #[{ name := "SCHEMA", type := (.object "java/lang/String"), accessFlags := 25, slot := 0, constantValue := 0 }, { name := "XLINK", type := (.object "java/lang/String"), accessFlags := 25, slot := 1, constantValue := 0 }, { name := "SCHEMA_INSTANCE", type := (.object "java/lang/String"), accessFlags := 26, slot := 2, constantValue := 0 }, { name := "REPLACEMENT", type := .int, accessFlags := 26, slot := 3, constantValue := 0 }, { name := "xml", type := (.object "java/lang/StringBuilder"), accessFlags := 18, slot := 0, constantValue := 0 }, { name := "open", type := (.object "java/util/Deque"), accessFlags := 18, slot := 1, constantValue := 0 }]
  methods := #[k2m0, k2m1, k2m2, k2m3, k2m4, k2m5]
  instanceTypes := #[(.object "java/lang/StringBuilder"), (.object "java/util/Deque")]
  staticTypes := #[(.object "java/lang/String"), (.object "java/lang/String"), (.object "java/lang/String"), .int]
  resolved := Array.replicate 242 none
  statics := none }

def pool3 : Array CpInfo := pool [(1, .class_ 2), (0, u "java/io/Serializable"), (0, .class_ 4), (0, u "java/lang/Object")] 2

/-- java/io/Serializable -/
def k3 : Class := { plain "java/io/Serializable" (some 0) with
  accessFlags := 1537
  interfaces := #[]
  cf := some (fileOf pool3 1 #[] #[] 1537 3 #[] #[])
  fields := #[]
  methods := #[]
  instanceTypes := #[]
  staticTypes := #[]
  resolved := Array.replicate 7 none
  statics := none }

def pool4 : Array CpInfo := pool [(1, .class_ 2), (0, u "java/lang/Comparable"), (0, .class_ 4), (0, u "java/lang/Object")] 7

/-- java/lang/Comparable -/
def k4 : Class := { plain "java/lang/Comparable" (some 0) with
  accessFlags := 1537
  interfaces := #[]
  cf := some (fileOf pool4 1 #[] #[] 1537 3 #[] #[])
  fields := #[]
  methods := #[]
  instanceTypes := #[]
  staticTypes := #[]
  resolved := Array.replicate 12 none
  statics := none }

def pool5 : Array CpInfo := pool [(2, .class_ 4), (1, u "java/lang/CharSequence"), (42, .class_ 48), (0, u "java/lang/CharSequence$1CodePointIterator"), (10, .class_ 60), (0, u "java/lang/CharSequence$1CharIterator"), (5, .class_ 67), (0, u "java/lang/Object")] 63

/-- java/lang/CharSequence -/
def k5 : Class := { plain "java/lang/CharSequence" (some 0) with
  accessFlags := 1537
  interfaces := #[]
  cf := some (fileOf pool5 2 #[.nestMembers #[47, 59]] #[] 1537 66 #[] #[])
  fields := #[]
  methods := #[]
  instanceTypes := #[]
  staticTypes := #[]
  resolved := Array.replicate 131 none
  statics := none }

def pool6 : Array CpInfo := pool [(1, .class_ 2), (0, u "java/lang/constant/Constable"), (0, .class_ 4), (0, u "java/lang/Object")] 6

/-- java/lang/constant/Constable -/
def k6 : Class := { plain "java/lang/constant/Constable" (some 0) with
  accessFlags := 1537
  interfaces := #[]
  cf := some (fileOf pool6 1 #[] #[] 1537 3 #[] #[])
  fields := #[]
  methods := #[]
  instanceTypes := #[]
  staticTypes := #[]
  resolved := Array.replicate 11 none
  statics := none }

def pool7 : Array CpInfo := pool [(1, .class_ 2), (0, u "java/lang/constant/ConstantDesc"), (0, .class_ 4), (0, u "java/lang/Object")] 32

/-- java/lang/constant/ConstantDesc -/
def k7 : Class := { plain "java/lang/constant/ConstantDesc" (some 0) with
  accessFlags := 1537
  interfaces := #[]
  cf := some (fileOf pool7 1 #[] #[] 1537 3 #[] #[])
  fields := #[]
  methods := #[]
  instanceTypes := #[]
  staticTypes := #[]
  resolved := Array.replicate 37 none
  statics := none }

def pool8 : Array CpInfo := pool [(1, .methodref 2 3), (0, .class_ 4), (0, .nameAndType 5 6), (0, u "java/lang/Object"), (0, u "<init>"), (0, u "()V"), (0, .string 8), (0, u ""), (0, .fieldref 10 11), (0, .class_ 12), (0, .nameAndType 13 14), (0, u "java/lang/String"), (0, u "value"), (0, u "[B"), (0, .fieldref 10 16), (0, .nameAndType 17 18), (0, u "coder"), (0, u "B"), (2, u "hash"), (0, u "I"), (2, u "hashIsZero"), (0, u "Z"), (11, .fieldref 10 39), (0, .nameAndType 40 26), (0, u "COMPACT_STRINGS"), (12, u "toBytes"), (0, .methodref 55 56), (0, .class_ 57), (0, .nameAndType 58 59), (0, u "java/util/Arrays"), (0, u "copyOfRange"), (0, u "([BII)[B"), (26, .fieldref 87 88), (0, .class_ 89), (0, .nameAndType 90 91), (0, u "sun/nio/cs/UTF_8"), (0, u "INSTANCE"), (0, u "Lsun/nio/cs/UTF_8;"), (1, .class_ 95), (1, u "java/lang/StringCoding"), (11, .class_ 109), (1, u "java/lang/StringLatin1"), (18, .methodref 93 129), (0, .nameAndType 130 131), (0, u "hasNegatives"), (0, u "([BII)Z"), (10, u "()Z"), (50, .class_ 195), (1, u "java/lang/System"), (13, .methodref 10 210), (0, .nameAndType 5 211), (0, u "([BB)V"), (0, .methodref 193 213), (0, .nameAndType 214 215), (0, u "arraycopy"), (0, u "(Ljava/lang/Object;ILjava/lang/Object;II)V"), (36, .methodref 10 253), (0, .nameAndType 254 255), (0, u "encodeUTF8"), (0, u "(B[BZ)[B"), (23, .methodref 280 281), (0, .class_ 14), (0, .nameAndType 282 283), (0, u "clone"), (0, u "()Ljava/lang/Object;"), (33, u "encode"), (16, u "()I"), (0, .methodref 10 336), (0, .nameAndType 17 337), (0, u "()B"), (2, u "()[B"), (28, u "(C)Z"), (119, .methodref 10 490), (0, .nameAndType 5 491), (0, u "(Ljava/lang/AbstractStringBuilder;Ljava/lang/Void;)V"), (1, .nameAndType 494 142), (0, u "isLatin1"), (11, .nameAndType 507 334), (0, u "length"), (24, u "getBytes"), (2, .methodref 10 536), (0, .nameAndType 317 537), (0, u "(Ljava/nio/charset/Charset;B[B)[B"), (11, .methodref 550 506), (0, .class_ 551), (0, u "java/lang/AbstractStringBuilder"), (0, .methodref 550 553), (0, .nameAndType 554 340), (0, u "getValue"), (20, .class_ 576), (0, u "java/lang/CharSequence"), (22, u "CASE_INSENSITIVE_ORDER"), (0, u "Ljava/util/Comparator;"), (181, u "valueOf"), (0, u "(C)Ljava/lang/String;"), (37, u "([BIB)V"), (69, u "repeat"), (0, u "(I)Ljava/lang/String;"), (50, .integer 2147483647), (71, .methodref 107 1016), (0, .nameAndType 1017 369), (0, u "canEncode"), (0, .methodref 107 1019), (0, .nameAndType 53 1020), (0, u "(C)[B"), (20, .methodref 55 1042), (0, .nameAndType 1043 211), (0, u "fill"), (3, .methodref 550 493), (53, u "serialPersistentFields"), (0, u "[Ljava/io/ObjectStreamField;"), (0, .class_ 1104), (0, u "java/lang/String$CaseInsensitiveComparator"), (1, .class_ 1107), (0, u "java/io/Serializable"), (0, .class_ 1109), (0, u "java/lang/Comparable"), (0, .class_ 1111), (0, u "java/lang/constant/Constable"), (0, .class_ 1113), (0, u "java/lang/constant/ConstantDesc"), (2, u "serialVersionUID"), (0, u "J"), (3, u "REPL"), (0, u "C"), (2, u "LATIN1"), (1, u "UTF16"), (105, u "(Ljava/lang/StringBuilder;)V"), (11, u "(Ljava/nio/charset/Charset;)[B")] 205

def k8m0 : Method := { name := "<init>", desc := "()V", sig := { parameters := [], returnType := none }, accessFlags := 1, code := none }
def k8c1 : Code := { maxStack := 4, maxLocals := 3, code := jdk_42_method_18_code, exceptionTable := #[], attributes := #[] }
def k8m1 : Method := { name := "encode", desc := "(Ljava/nio/charset/Charset;B[B)[B", sig := { parameters := [(.object "java/nio/charset/Charset"), .byte, (.array .byte)], returnType := some (.array .byte) }, accessFlags := 10, code := some k8c1 }
def k8c2 : Code := { maxStack := 5, maxLocals := 9, code := jdk_42_method_46_code, exceptionTable := #[], attributes := #[] }
def k8m2 : Method := { name := "encodeUTF8", desc := "(B[BZ)[B", sig := { parameters := [.byte, (.array .byte), .boolean], returnType := some (.array .byte) }, accessFlags := 10, code := some k8c2 }
def k8c3 : Code := { maxStack := 3, maxLocals := 2, code := jdk_42_method_53_code, exceptionTable := #[], attributes := #[] }
def k8m3 : Method := { name := "<init>", desc := "(Ljava/lang/StringBuilder;)V", sig := { parameters := [(.object "java/lang/StringBuilder")], returnType := none }, accessFlags := 1, code := some k8c3 }
def k8c4 : Code := { maxStack := 2, maxLocals := 1, code := jdk_42_method_54_code, exceptionTable := #[], attributes := #[] }
def k8m4 : Method := { name := "length", desc := "()I", sig := { parameters := [], returnType := some .int }, accessFlags := 1, code := some k8c4 }
def k8c5 : Code := { maxStack := 3, maxLocals := 2, code := jdk_42_method_64_code, exceptionTable := #[], attributes := #[] }
def k8m5 : Method := { name := "getBytes", desc := "(Ljava/nio/charset/Charset;)[B", sig := { parameters := [(.object "java/nio/charset/Charset")], returnType := some (.array .byte) }, accessFlags := 1, code := some k8c5 }
def k8c6 : Code := { maxStack := 4, maxLocals := 1, code := jdk_42_method_139_code, exceptionTable := #[], attributes := #[] }
def k8m6 : Method := { name := "valueOf", desc := "(C)Ljava/lang/String;", sig := { parameters := [.char], returnType := some (.object "java/lang/String") }, accessFlags := 9, code := some k8c6 }
def k8c7 : Code := { maxStack := 5, maxLocals := 5, code := jdk_42_method_145_code, exceptionTable := #[], attributes := #[] }
def k8m7 : Method := { name := "repeat", desc := "(I)Ljava/lang/String;", sig := { parameters := [.int], returnType := some (.object "java/lang/String") }, accessFlags := 1, code := some k8c7 }
def k8c8 : Code := { maxStack := 5, maxLocals := 4, code := jdk_42_method_147_code, exceptionTable := #[], attributes := #[] }
def k8m8 : Method := { name := "getBytes", desc := "([BIB)V", sig := { parameters := [(.array .byte), .int, .byte], returnType := none }, accessFlags := 0, code := some k8c8 }
def k8c9 : Code := { maxStack := 5, maxLocals := 5, code := jdk_42_method_150_code, exceptionTable := #[], attributes := #[] }
def k8m9 : Method := { name := "<init>", desc := "(Ljava/lang/AbstractStringBuilder;Ljava/lang/Void;)V", sig := { parameters := [(.object "java/lang/AbstractStringBuilder"), (.object "java/lang/Void")], returnType := none }, accessFlags := 0, code := some k8c9 }
def k8c10 : Code := { maxStack := 2, maxLocals := 3, code := jdk_42_method_151_code, exceptionTable := #[], attributes := #[] }
def k8m10 : Method := { name := "<init>", desc := "([BB)V", sig := { parameters := [(.array .byte), .byte], returnType := none }, accessFlags := 0, code := some k8c10 }
def k8c11 : Code := { maxStack := 1, maxLocals := 1, code := jdk_42_method_152_code, exceptionTable := #[], attributes := #[] }
def k8m11 : Method := { name := "coder", desc := "()B", sig := { parameters := [], returnType := some .byte }, accessFlags := 0, code := some k8c11 }
/-- java/lang/String -/
def k8 : Class := { plain "java/lang/String" (some 0) with
  accessFlags := 49
  interfaces := #[3, 4, 5, 6, 7]
  cf := some (fileOf pool8 10 #[.nestMembers #[1103]] #[{ accessFlags := 1, nameIndex := 5, descriptorIndex := 6, attributes := #[] }, { accessFlags := 10, nameIndex := 317, descriptorIndex := 537, attributes := #[] }, { accessFlags := 10, nameIndex := 254, descriptorIndex := 255, attributes := #[] }, { accessFlags := 1, nameIndex := 5, descriptorIndex := 1233, attributes := #[] }, { accessFlags := 1, nameIndex := 507, descriptorIndex := 334, attributes := #[] }, { accessFlags := 1, nameIndex := 532, descriptorIndex := 1245, attributes := #[] }, { accessFlags := 9, nameIndex := 782, descriptorIndex := 783, attributes := #[] }, { accessFlags := 1, nameIndex := 891, descriptorIndex := 892, attributes := #[] }, { accessFlags := 0, nameIndex := 532, descriptorIndex := 821, attributes := #[] }, { accessFlags := 0, nameIndex := 5, descriptorIndex := 491, attributes := #[] }, { accessFlags := 0, nameIndex := 5, descriptorIndex := 211, attributes := #[] }, { accessFlags := 0, nameIndex := 17, descriptorIndex := 337, attributes := #[] }] 49 2 #[1106, 1108, 575, 1110, 1112] #[{ accessFlags := 18, nameIndex := 13, descriptorIndex := 14, attributes := #[] }, { accessFlags := 18, nameIndex := 17, descriptorIndex := 18, attributes := #[] }, { accessFlags := 2, nameIndex := 21, descriptorIndex := 22, attributes := #[] }, { accessFlags := 2, nameIndex := 25, descriptorIndex := 26, attributes := #[] }, { accessFlags := 26, nameIndex := 1116, descriptorIndex := 1117, attributes := #[] }, { accessFlags := 24, nameIndex := 40, descriptorIndex := 26, attributes := #[] }, { accessFlags := 26, nameIndex := 1101, descriptorIndex := 1102, attributes := #[] }, { accessFlags := 26, nameIndex := 1121, descriptorIndex := 1122, attributes := #[] }, { accessFlags := 25, nameIndex := 599, descriptorIndex := 600, attributes := #[] }, { accessFlags := 24, nameIndex := 1125, descriptorIndex := 18, attributes := #[] }, { accessFlags := 24, nameIndex := 1127, descriptorIndex := 18, attributes := #[] }])
  fields := #[{ name := "value", type := (.array .byte), accessFlags := 18, slot := 0, constantValue := 0 }, { name := "coder", type := .byte, accessFlags := 18, slot := 1, constantValue := 0 }, { name := "hash", type := .int, accessFlags := 2, slot := 2, constantValue := 0 }, { name := "hashIsZero", type := .boolean, accessFlags := 2, slot := 3, constantValue := 0 }, { name := "serialVersionUID", type := .long, accessFlags := 26, slot := 0, constantValue := 0 }, { name := "COMPACT_STRINGS", type := .boolean, accessFlags := 24, slot := 1, constantValue := 0 }, { name := "serialPersistentFields", type := (.array (.object "java/io/ObjectStreamField")), accessFlags := 26, slot := 2, constantValue := 0 }, { name := "REPL", type := .char, accessFlags := 26, slot := 3, constantValue := 0 }, { name := "CASE_INSENSITIVE_ORDER", type := (.object "java/util/Comparator"), accessFlags := 25, slot := 4, constantValue := 0 }, { name := "LATIN1", type := .byte, accessFlags := 24, slot := 5, constantValue := 0 }, { name := "UTF16", type := .byte, accessFlags := 24, slot := 6, constantValue := 0 }]
  methods := #[k8m0, k8m1, k8m2, k8m3, k8m4, k8m5, k8m6, k8m7, k8m8, k8m9, k8m10, k8m11]
  instanceTypes := #[(.array .byte), .byte, .int, .boolean]
  staticTypes := #[.long, .boolean, (.array (.object "java/io/ObjectStreamField")), .char, (.object "java/util/Comparator"), .byte, .byte]
  resolved := Array.replicate 1451 none
  statics := some 0 }

def pool9 : Array CpInfo := pool [(4, .class_ 6), (1, u "java/lang/Object"), (0, u "<init>"), (0, u "()V"), (5, .class_ 16), (1, u "java/lang/StringLatin1"), (73, u "canEncode"), (14, u "(C)Z"), (15, u "$assertionsDisabled"), (0, u "Z"), (98, .class_ 223), (1, u "java/lang/StringLatin1$LinesSpliterator"), (156, u "toBytes"), (1, u "(C)[B"), (7, .class_ 391), (0, u "java/lang/StringLatin1$CharsSpliterator")] 3

def k9m0 : Method := { name := "<init>", desc := "()V", sig := { parameters := [], returnType := none }, accessFlags := 0, code := none }
def k9c1 : Code := { maxStack := 2, maxLocals := 1, code := jdk_43_method_3_code, exceptionTable := #[], attributes := #[] }
def k9m1 : Method := { name := "canEncode", desc := "(C)Z", sig := { parameters := [.char], returnType := some .boolean }, accessFlags := 9, code := some k9c1 }
def k9c2 : Code := { maxStack := 4, maxLocals := 1, code := jdk_43_method_46_code, exceptionTable := #[], attributes := #[] }
def k9m2 : Method := { name := "toBytes", desc := "(C)[B", sig := { parameters := [.char], returnType := some (.array .byte) }, accessFlags := 9, code := some k9c2 }
/-- java/lang/StringLatin1 -/
def k9 : Class := { plain "java/lang/StringLatin1" (some 0) with
  accessFlags := 48
  interfaces := #[]
  cf := some (fileOf pool9 14 #[.nestMembers #[390, 221]] #[{ accessFlags := 0, nameIndex := 7, descriptorIndex := 8, attributes := #[] }, { accessFlags := 9, nameIndex := 90, descriptorIndex := 105, attributes := #[] }, { accessFlags := 9, nameIndex := 380, descriptorIndex := 382, attributes := #[] }] 48 4 #[] #[{ accessFlags := 4120, nameIndex := 121, descriptorIndex := 122, attributes := #[] }])
  fields := #[{ name := "$assertionsDisabled", type := .boolean, accessFlags := 4120, slot := 0, constantValue := 0 }]
  methods := #[k9m0, k9m1, k9m2]
  instanceTypes := #[]
  staticTypes := #[.boolean]
  resolved := Array.replicate 395 none
  statics := none }

def pool10 : Array CpInfo := pool [(1, .class_ 2), (0, u "java/lang/Appendable"), (0, .class_ 4), (0, u "java/lang/Object")] 9

/-- java/lang/Appendable -/
def k10 : Class := { plain "java/lang/Appendable" (some 0) with
  accessFlags := 1537
  interfaces := #[]
  cf := some (fileOf pool10 1 #[] #[] 1537 3 #[] #[])
  fields := #[]
  methods := #[]
  instanceTypes := #[]
  staticTypes := #[]
  resolved := Array.replicate 14 none
  statics := none }

def pool11 : Array CpInfo := pool [(1, .class_ 2), (0, u "java/lang/String"), (0, .methodref 4 5), (0, .class_ 6), (0, .nameAndType 7 8), (0, u "java/lang/Object"), (0, u "<init>"), (0, u "()V"), (1, .class_ 12), (1, u "java/lang/AbstractStringBuilder"), (0, u "EMPTYVALUE"), (0, u "[B"), (0, .fieldref 10 16), (0, .nameAndType 17 14), (0, u "value"), (0, .fieldref 1 19), (0, .nameAndType 20 21), (0, u "COMPACT_STRINGS"), (0, u "Z"), (0, .fieldref 10 23), (0, .nameAndType 24 25), (0, u "coder"), (0, u "B"), (6, .methodref 1 33), (0, .nameAndType 34 35), (0, u "length"), (0, u "()I"), (3, .integer 2147483647), (0, .methodref 1 41), (0, .nameAndType 24 42), (0, u "()B"), (2, u "append"), (0, u "(Ljava/lang/String;)Ljava/lang/AbstractStringBuilder;"), (1, .class_ 49), (0, u "java/lang/CharSequence"), (19, u "(Ljava/lang/String;)V"), (5, u "maybeLatin1"), (3, .fieldref 10 80), (0, .nameAndType 81 82), (0, u "count"), (0, u "I"), (0, .methodref 10 84), (0, .nameAndType 85 86), (0, u "isLatin1"), (0, u "()Z"), (1, .class_ 90), (1, u "java/lang/StringLatin1"), (9, .methodref 10 101), (0, .nameAndType 102 103), (0, u "ensureCapacityInternal"), (0, u "(I)V"), (0, .methodref 10 105), (0, .nameAndType 106 107), (0, u "newCapacity"), (0, u "(I)I"), (0, .methodref 109 110), (0, .class_ 111), (0, .nameAndType 112 113), (0, u "java/util/Arrays"), (0, u "copyOf"), (0, u "([BI)[B"), (0, .methodref 115 116), (0, .class_ 117), (0, .nameAndType 118 119), (0, u "jdk/internal/util/ArraysSupport"), (0, u "newLength"), (0, u "(III)I"), (71, .methodref 88 192), (0, .nameAndType 193 194), (0, u "canEncode"), (0, u "(C)Z"), (13, .methodref 10 209), (0, .nameAndType 210 211), (0, u "putStringAt"), (0, u "(ILjava/lang/String;)V"), (5, u "inflateIfNeededFor"), (2, .nameAndType 221 222), (0, u "getBytes"), (0, u "([BIB)V"), (69, u "(C)Ljava/lang/AbstractStringBuilder;"), (104, .methodref 10 398), (0, .nameAndType 217 69), (0, .methodref 1 220), (3, u "()[B"), (40, .class_ 445), (0, u "java/lang/Appendable"), (106, u "getValue")] 56

def k11m0 : Method := { name := "<init>", desc := "()V", sig := { parameters := [], returnType := none }, accessFlags := 0, code := none }
def k11c1 : Code := { maxStack := 2, maxLocals := 2, code := jdk_68_method_2_code, exceptionTable := #[], attributes := #[] }
def k11m1 : Method := { name := "<init>", desc := "(I)V", sig := { parameters := [.int], returnType := none }, accessFlags := 0, code := some k11c1 }
def k11c2 : Code := { maxStack := 1, maxLocals := 1, code := jdk_68_method_6_code, exceptionTable := #[], attributes := #[] }
def k11m2 : Method := { name := "length", desc := "()I", sig := { parameters := [], returnType := some .int }, accessFlags := 1, code := some k11c2 }
def k11c3 : Code := { maxStack := 4, maxLocals := 3, code := jdk_68_method_9_code, exceptionTable := #[], attributes := #[] }
def k11m3 : Method := { name := "ensureCapacityInternal", desc := "(I)V", sig := { parameters := [.int], returnType := none }, accessFlags := 2, code := some k11c3 }
def k11c4 : Code := { maxStack := 5, maxLocals := 6, code := jdk_68_method_10_code, exceptionTable := #[], attributes := #[] }
def k11m4 : Method := { name := "newCapacity", desc := "(I)I", sig := { parameters := [.int], returnType := some .int }, accessFlags := 2, code := some k11c4 }
def k11c5 : Code := { maxStack := 3, maxLocals := 3, code := jdk_68_method_22_code, exceptionTable := #[], attributes := #[] }
def k11m5 : Method := { name := "append", desc := "(Ljava/lang/String;)Ljava/lang/AbstractStringBuilder;", sig := { parameters := [(.object "java/lang/String")], returnType := some (.object "java/lang/AbstractStringBuilder") }, accessFlags := 1, code := some k11c5 }
def k11c6 : Code := { maxStack := 5, maxLocals := 2, code := jdk_68_method_31_code, exceptionTable := #[], attributes := #[] }
def k11m6 : Method := { name := "append", desc := "(C)Ljava/lang/AbstractStringBuilder;", sig := { parameters := [.char], returnType := some (.object "java/lang/AbstractStringBuilder") }, accessFlags := 1, code := some k11c6 }
def k11c7 : Code := { maxStack := 1, maxLocals := 1, code := jdk_68_method_64_code, exceptionTable := #[], attributes := #[] }
def k11m7 : Method := { name := "getValue", desc := "()[B", sig := { parameters := [], returnType := some (.array .byte) }, accessFlags := 16, code := some k11c7 }
def k11c8 : Code := { maxStack := 1, maxLocals := 1, code := jdk_68_method_68_code, exceptionTable := #[], attributes := #[] }
def k11m8 : Method := { name := "isLatin1", desc := "()Z", sig := { parameters := [], returnType := some .boolean }, accessFlags := 16, code := some k11c8 }
def k11c9 : Code := { maxStack := 2, maxLocals := 2, code := jdk_68_method_71_code, exceptionTable := #[], attributes := #[] }
def k11m9 : Method := { name := "inflateIfNeededFor", desc := "(Ljava/lang/String;)V", sig := { parameters := [(.object "java/lang/String")], returnType := none }, accessFlags := 2, code := some k11c9 }
def k11c10 : Code := { maxStack := 4, maxLocals := 3, code := jdk_68_method_73_code, exceptionTable := #[], attributes := #[] }
def k11m10 : Method := { name := "putStringAt", desc := "(ILjava/lang/String;)V", sig := { parameters := [.int, (.object "java/lang/String")], returnType := none }, accessFlags := 2, code := some k11c10 }
/-- java/lang/AbstractStringBuilder -/
def k11 : Class := { plain "java/lang/AbstractStringBuilder" (some 0) with
  accessFlags := 1056
  interfaces := #[10, 5]
  cf := some (fileOf pool11 10 #[] #[{ accessFlags := 0, nameIndex := 7, descriptorIndex := 8, attributes := #[] }, { accessFlags := 0, nameIndex := 7, descriptorIndex := 103, attributes := #[] }, { accessFlags := 1, nameIndex := 34, descriptorIndex := 35, attributes := #[] }, { accessFlags := 2, nameIndex := 102, descriptorIndex := 103, attributes := #[] }, { accessFlags := 2, nameIndex := 106, descriptorIndex := 107, attributes := #[] }, { accessFlags := 1, nameIndex := 45, descriptorIndex := 46, attributes := #[] }, { accessFlags := 1, nameIndex := 45, descriptorIndex := 292, attributes := #[] }, { accessFlags := 16, nameIndex := 552, descriptorIndex := 403, attributes := #[] }, { accessFlags := 16, nameIndex := 85, descriptorIndex := 86, attributes := #[] }, { accessFlags := 2, nameIndex := 217, descriptorIndex := 69, attributes := #[] }, { accessFlags := 2, nameIndex := 210, descriptorIndex := 211, attributes := #[] }] 1056 4 #[444, 48] #[{ accessFlags := 0, nameIndex := 17, descriptorIndex := 14, attributes := #[] }, { accessFlags := 0, nameIndex := 24, descriptorIndex := 25, attributes := #[] }, { accessFlags := 0, nameIndex := 75, descriptorIndex := 21, attributes := #[] }, { accessFlags := 0, nameIndex := 81, descriptorIndex := 82, attributes := #[] }, { accessFlags := 26, nameIndex := 13, descriptorIndex := 14, attributes := #[] }])
  fields := #[{ name := "value", type := (.array .byte), accessFlags := 0, slot := 0, constantValue := 0 }, { name := "coder", type := .byte, accessFlags := 0, slot := 1, constantValue := 0 }, { name := "maybeLatin1", type := .boolean, accessFlags := 0, slot := 2, constantValue := 0 }, { name := "count", type := .int, accessFlags := 0, slot := 3, constantValue := 0 }, { name := "EMPTYVALUE", type := (.array .byte), accessFlags := 26, slot := 0, constantValue := 0 }]
  methods := #[k11m0, k11m1, k11m2, k11m3, k11m4, k11m5, k11m6, k11m7, k11m8, k11m9, k11m10]
  instanceTypes := #[(.array .byte), .byte, .boolean, .int]
  staticTypes := #[(.array .byte)]
  resolved := Array.replicate 609 none
  statics := none }

def pool12 : Array CpInfo := pool [(1, .methodref 2 3), (0, .class_ 4), (0, .nameAndType 5 6), (0, u "java/lang/AbstractStringBuilder"), (0, u "<init>"), (0, u "(I)V"), (11, .class_ 20), (1, u "java/lang/String"), (3, .class_ 26), (1, u "java/lang/StringBuilder"), (0, u "append"), (0, u "(Ljava/lang/String;)Ljava/lang/StringBuilder;"), (0, .methodref 2 30), (0, .nameAndType 27 31), (0, u "(Ljava/lang/String;)Ljava/lang/AbstractStringBuilder;"), (18, .methodref 2 51), (0, .nameAndType 27 52), (0, u "(C)Ljava/lang/AbstractStringBuilder;"), (84, .methodref 18 138), (0, .nameAndType 5 139), (0, u "(Ljava/lang/StringBuilder;)V"), (5, u "()V"), (10, u "()I"), (129, u "(C)Ljava/lang/StringBuilder;"), (56, .methodref 2 344), (0, .nameAndType 345 156), (0, u "length"), (3, .class_ 350), (0, u "java/lang/Appendable"), (0, .class_ 352), (0, u "java/io/Serializable"), (0, .class_ 354), (0, u "java/lang/Comparable"), (0, .class_ 356), (0, u "java/lang/CharSequence"), (0, u "serialVersionUID"), (0, u "J"), (40, u "toString"), (0, u "()Ljava/lang/String;")] 21

def k12c0 : Code := { maxStack := 2, maxLocals := 1, code := jdk_67_method_1_code, exceptionTable := #[], attributes := #[] }
def k12m0 : Method := { name := "<init>", desc := "()V", sig := { parameters := [], returnType := none }, accessFlags := 1, code := some k12c0 }
def k12c1 : Code := { maxStack := 2, maxLocals := 2, code := jdk_67_method_7_code, exceptionTable := #[], attributes := #[] }
def k12m1 : Method := { name := "append", desc := "(Ljava/lang/String;)Ljava/lang/StringBuilder;", sig := { parameters := [(.object "java/lang/String")], returnType := some (.object "java/lang/StringBuilder") }, accessFlags := 1, code := some k12c1 }
def k12c2 : Code := { maxStack := 2, maxLocals := 2, code := jdk_67_method_14_code, exceptionTable := #[], attributes := #[] }
def k12m2 : Method := { name := "append", desc := "(C)Ljava/lang/StringBuilder;", sig := { parameters := [.char], returnType := some (.object "java/lang/StringBuilder") }, accessFlags := 1, code := some k12c2 }
def k12c3 : Code := { maxStack := 3, maxLocals := 1, code := jdk_67_method_42_code, exceptionTable := #[], attributes := #[] }
def k12m3 : Method := { name := "toString", desc := "()Ljava/lang/String;", sig := { parameters := [], returnType := some (.object "java/lang/String") }, accessFlags := 1, code := some k12c3 }
def k12c4 : Code := { maxStack := 1, maxLocals := 1, code := jdk_67_method_93_code, exceptionTable := #[], attributes := #[] }
def k12m4 : Method := { name := "length", desc := "()I", sig := { parameters := [], returnType := some .int }, accessFlags := 4161, code := some k12c4 }
/-- java/lang/StringBuilder -/
def k12 : Class := { plain "java/lang/StringBuilder" (some 11) with
  accessFlags := 49
  interfaces := #[10, 3, 4, 5]
  cf := some (fileOf pool12 24 #[] #[{ accessFlags := 1, nameIndex := 5, descriptorIndex := 145, attributes := #[] }, { accessFlags := 1, nameIndex := 27, descriptorIndex := 28, attributes := #[] }, { accessFlags := 1, nameIndex := 27, descriptorIndex := 286, attributes := #[] }, { accessFlags := 1, nameIndex := 399, descriptorIndex := 400, attributes := #[] }, { accessFlags := 4161, nameIndex := 345, descriptorIndex := 156, attributes := #[] }] 49 2 #[349, 351, 353, 355] #[{ accessFlags := 24, nameIndex := 357, descriptorIndex := 358, attributes := #[] }])
  fields := #[{ name := "serialVersionUID", type := .long, accessFlags := 24, slot := 0, constantValue := 0 }]
  methods := #[k12m0, k12m1, k12m2, k12m3, k12m4]
  instanceTypes := #[(.array .byte), .byte, .boolean, .int]
  staticTypes := #[.long]
  resolved := Array.replicate 422 none
  statics := none }

def pool13 : Array CpInfo := pool [(8, .class_ 10), (1, u "java/lang/Iterable"), (24, .class_ 36), (0, u "java/lang/Object")] 25

/-- java/lang/Iterable -/
def k13 : Class := { plain "java/lang/Iterable" (some 0) with
  accessFlags := 1537
  interfaces := #[]
  cf := some (fileOf pool13 8 #[] #[] 1537 35 #[] #[])
  fields := #[]
  methods := #[]
  instanceTypes := #[]
  staticTypes := #[]
  resolved := Array.replicate 62 none
  statics := none }

def pool14 : Array CpInfo := pool [(10, .class_ 12), (1, u "java/util/Collection"), (17, u "()Z"), (29, .class_ 61), (0, u "java/lang/Object"), (0, .class_ 63), (0, u "java/lang/Iterable"), (2, u "isEmpty")] 48

def k14m0 : Method := { name := "isEmpty", desc := "()Z", sig := { parameters := [], returnType := some .boolean }, accessFlags := 1025, code := none }
/-- java/util/Collection -/
def k14 : Class := { plain "java/util/Collection" (some 0) with
  accessFlags := 1537
  interfaces := #[13]
  cf := some (fileOf pool14 10 #[] #[{ accessFlags := 1025, nameIndex := 66, descriptorIndex := 30, attributes := #[] }] 1537 60 #[62] #[])
  fields := #[]
  methods := #[k14m0]
  instanceTypes := #[]
  staticTypes := #[]
  resolved := Array.replicate 115 none
  statics := none }

def pool15 : Array CpInfo := pool [(1, .methodref 2 3), (0, .class_ 4), (0, .nameAndType 5 6), (0, u "java/lang/Object"), (0, u "<init>"), (0, u "()V"), (1, .class_ 10), (1, u "java/util/AbstractCollection"), (66, .class_ 78), (0, u "java/util/Collection")] 81

def k15c0 : Code := { maxStack := 1, maxLocals := 1, code := jdk_22_method_1_code, exceptionTable := #[], attributes := #[] }
def k15m0 : Method := { name := "<init>", desc := "()V", sig := { parameters := [], returnType := none }, accessFlags := 4, code := some k15c0 }
/-- java/util/AbstractCollection -/
def k15 : Class := { plain "java/util/AbstractCollection" (some 0) with
  accessFlags := 1057
  interfaces := #[14]
  cf := some (fileOf pool15 8 #[] #[{ accessFlags := 4, nameIndex := 5, descriptorIndex := 6, attributes := #[] }] 1057 2 #[77] #[])
  fields := #[]
  methods := #[k15m0]
  instanceTypes := #[]
  staticTypes := #[]
  resolved := Array.replicate 160 none
  statics := none }

def pool16 : Array CpInfo := pool [(1, .class_ 2), (0, u "java/util/Queue"), (0, .class_ 4), (0, u "java/lang/Object"), (0, .class_ 6), (0, u "java/util/Collection")] 14

/-- java/util/Queue -/
def k16 : Class := { plain "java/util/Queue" (some 0) with
  accessFlags := 1537
  interfaces := #[14]
  cf := some (fileOf pool16 1 #[] #[] 1537 3 #[5] #[])
  fields := #[]
  methods := #[]
  instanceTypes := #[]
  staticTypes := #[]
  resolved := Array.replicate 21 none
  statics := none }

def pool17 : Array CpInfo := pool [(8, .class_ 10), (1, u "java/util/SequencedCollection"), (15, .class_ 27), (0, u "java/lang/Object"), (0, .class_ 29), (0, u "java/util/Collection")] 27

/-- java/util/SequencedCollection -/
def k17 : Class := { plain "java/util/SequencedCollection" (some 0) with
  accessFlags := 1537
  interfaces := #[14]
  cf := some (fileOf pool17 8 #[] #[] 1537 26 #[28] #[])
  fields := #[]
  methods := #[]
  instanceTypes := #[]
  staticTypes := #[]
  resolved := Array.replicate 57 none
  statics := none }

def pool18 : Array CpInfo := pool [(8, .class_ 10), (1, u "java/util/Deque"), (2, .class_ 14), (0, u "java/lang/Object"), (0, .class_ 16), (0, u "java/util/Queue"), (0, .class_ 18), (0, u "java/util/SequencedCollection"), (1, u "(Ljava/lang/Object;)V"), (8, u "()Ljava/lang/Object;"), (19, u "push"), (0, u "pop"), (1, u "size"), (0, u "()I")] 16

def k18m0 : Method := { name := "push", desc := "(Ljava/lang/Object;)V", sig := { parameters := [(.object "java/lang/Object")], returnType := none }, accessFlags := 1025, code := none }
def k18m1 : Method := { name := "pop", desc := "()Ljava/lang/Object;", sig := { parameters := [], returnType := some (.object "java/lang/Object") }, accessFlags := 1025, code := none }
def k18m2 : Method := { name := "size", desc := "()I", sig := { parameters := [], returnType := some .int }, accessFlags := 1025, code := none }
/-- java/util/Deque -/
def k18 : Class := { plain "java/util/Deque" (some 0) with
  accessFlags := 1537
  interfaces := #[16, 17]
  cf := some (fileOf pool18 8 #[] #[{ accessFlags := 1025, nameIndex := 49, descriptorIndex := 20, attributes := #[] }, { accessFlags := 1025, nameIndex := 50, descriptorIndex := 29, attributes := #[] }, { accessFlags := 1025, nameIndex := 52, descriptorIndex := 53, attributes := #[] }] 1537 13 #[15, 17] #[])
  fields := #[]
  methods := #[k18m0, k18m1, k18m2]
  instanceTypes := #[]
  staticTypes := #[]
  resolved := Array.replicate 70 none
  statics := none }

def pool19 : Array CpInfo := pool [(1, .class_ 2), (0, u "java/lang/Cloneable"), (0, .class_ 4), (0, u "java/lang/Object")] 2

/-- java/lang/Cloneable -/
def k19 : Class := { plain "java/lang/Cloneable" (some 0) with
  accessFlags := 1537
  interfaces := #[]
  cf := some (fileOf pool19 1 #[] #[] 1537 3 #[] #[])
  fields := #[]
  methods := #[]
  instanceTypes := #[]
  staticTypes := #[]
  resolved := Array.replicate 7 none
  statics := none }

def pool20 : Array CpInfo := pool [(3, .fieldref 4 5), (0, .class_ 6), (0, .nameAndType 7 8), (0, u "java/util/ArrayDeque"), (0, u "elements"), (0, u "[Ljava/lang/Object;"), (4, u "(II)I"), (6, .fieldref 4 21), (0, .nameAndType 22 23), (0, u "tail"), (0, u "I"), (0, .fieldref 4 25), (0, .nameAndType 26 23), (0, u "head"), (12, u "<init>"), (2, .methodref 43 44), (0, .class_ 45), (0, .nameAndType 39 46), (0, u "java/util/AbstractCollection"), (0, u "()V"), (0, .class_ 48), (0, u "java/lang/Object"), (4, u "size"), (0, u "()I"), (13, .methodref 4 69), (0, .nameAndType 70 13), (0, u "dec"), (3, .methodref 4 75), (0, .nameAndType 76 13), (0, u "inc"), (9, .methodref 4 87), (0, .nameAndType 88 89), (0, u "addFirst"), (0, u "(Ljava/lang/Object;)V"), (3, .methodref 4 94), (0, .nameAndType 95 96), (0, u "pollFirst"), (0, u "()Ljava/lang/Object;"), (6, .methodref 4 104), (0, .nameAndType 105 106), (0, u "elementAt"), (0, u "([Ljava/lang/Object;I)Ljava/lang/Object;"), (11, .methodref 4 119), (0, .nameAndType 120 96), (0, u "removeFirst"), (6, .methodref 4 128), (0, .nameAndType 129 130), (0, u "sub"), (0, u "(III)I"), (0, .class_ 132), (0, u "java/util/ArrayDeque$DeqIterator"), (3, .class_ 137), (0, u "java/util/ArrayDeque$DescendingIterator"), (1, .class_ 140), (0, u "java/util/ArrayDeque$DeqSpliterator"), (137, .class_ 279), (0, u "java/util/Deque"), (0, .class_ 281), (0, u "java/lang/Cloneable"), (0, .class_ 283), (0, u "java/io/Serializable"), (0, u "MAX_ARRAY_SIZE"), (1, u "serialVersionUID"), (0, u "J"), (54, u "push"), (0, u "pop"), (3, u "isEmpty"), (0, u "()Z")] 89

def k20c0 : Code := { maxStack := 2, maxLocals := 1, code := jdk_21_method_3_code, exceptionTable := #[], attributes := #[] }
def k20m0 : Method := { name := "<init>", desc := "()V", sig := { parameters := [], returnType := none }, accessFlags := 1, code := some k20c0 }
def k20c1 : Code := { maxStack := 2, maxLocals := 2, code := jdk_21_method_6_code, exceptionTable := #[], attributes := #[] }
def k20m1 : Method := { name := "inc", desc := "(II)I", sig := { parameters := [.int, .int], returnType := some .int }, accessFlags := 24, code := some k20c1 }
def k20c2 : Code := { maxStack := 2, maxLocals := 2, code := jdk_21_method_7_code, exceptionTable := #[], attributes := #[] }
def k20m2 : Method := { name := "dec", desc := "(II)I", sig := { parameters := [.int, .int], returnType := some .int }, accessFlags := 24, code := some k20c2 }
def k20c3 : Code := { maxStack := 2, maxLocals := 3, code := jdk_21_method_9_code, exceptionTable := #[], attributes := #[] }
def k20m3 : Method := { name := "sub", desc := "(III)I", sig := { parameters := [.int, .int, .int], returnType := some .int }, accessFlags := 24, code := some k20c3 }
def k20c4 : Code := { maxStack := 2, maxLocals := 2, code := jdk_21_method_10_code, exceptionTable := #[], attributes := #[] }
def k20m4 : Method := { name := "elementAt", desc := "([Ljava/lang/Object;I)Ljava/lang/Object;", sig := { parameters := [(.array (.object "java/lang/Object")), .int], returnType := some (.object "java/lang/Object") }, accessFlags := 24, code := some k20c4 }
def k20c5 : Code := { maxStack := 4, maxLocals := 3, code := jdk_21_method_12_code, exceptionTable := #[], attributes := #[] }
def k20m5 : Method := { name := "addFirst", desc := "(Ljava/lang/Object;)V", sig := { parameters := [(.object "java/lang/Object")], returnType := none }, accessFlags := 1, code := some k20c5 }
def k20c6 : Code := { maxStack := 2, maxLocals := 2, code := jdk_21_method_18_code, exceptionTable := #[], attributes := #[] }
def k20m6 : Method := { name := "removeFirst", desc := "()Ljava/lang/Object;", sig := { parameters := [], returnType := some (.object "java/lang/Object") }, accessFlags := 1, code := some k20c6 }
def k20c7 : Code := { maxStack := 3, maxLocals := 4, code := jdk_21_method_20_code, exceptionTable := #[], attributes := #[] }
def k20m7 : Method := { name := "pollFirst", desc := "()Ljava/lang/Object;", sig := { parameters := [], returnType := some (.object "java/lang/Object") }, accessFlags := 1, code := some k20c7 }
def k20c8 : Code := { maxStack := 2, maxLocals := 2, code := jdk_21_method_34_code, exceptionTable := #[], attributes := #[] }
def k20m8 : Method := { name := "push", desc := "(Ljava/lang/Object;)V", sig := { parameters := [(.object "java/lang/Object")], returnType := none }, accessFlags := 1, code := some k20c8 }
def k20c9 : Code := { maxStack := 1, maxLocals := 1, code := jdk_21_method_35_code, exceptionTable := #[], attributes := #[] }
def k20m9 : Method := { name := "pop", desc := "()Ljava/lang/Object;", sig := { parameters := [], returnType := some (.object "java/lang/Object") }, accessFlags := 1, code := some k20c9 }
def k20c10 : Code := { maxStack := 3, maxLocals := 1, code := jdk_21_method_37_code, exceptionTable := #[], attributes := #[] }
def k20m10 : Method := { name := "size", desc := "()I", sig := { parameters := [], returnType := some .int }, accessFlags := 1, code := some k20c10 }
def k20c11 : Code := { maxStack := 2, maxLocals := 1, code := jdk_21_method_38_code, exceptionTable := #[], attributes := #[] }
def k20m11 : Method := { name := "isEmpty", desc := "()Z", sig := { parameters := [], returnType := some .boolean }, accessFlags := 1, code := some k20c11 }
/-- java/util/ArrayDeque -/
def k20 : Class := { plain "java/util/ArrayDeque" (some 15) with
  accessFlags := 33
  interfaces := #[18, 19, 3]
  cf := some (fileOf pool20 4 #[.nestMembers #[139, 136, 131]] #[{ accessFlags := 1, nameIndex := 39, descriptorIndex := 46, attributes := #[] }, { accessFlags := 24, nameIndex := 76, descriptorIndex := 13, attributes := #[] }, { accessFlags := 24, nameIndex := 70, descriptorIndex := 13, attributes := #[] }, { accessFlags := 24, nameIndex := 129, descriptorIndex := 130, attributes := #[] }, { accessFlags := 24, nameIndex := 105, descriptorIndex := 106, attributes := #[] }, { accessFlags := 1, nameIndex := 88, descriptorIndex := 89, attributes := #[] }, { accessFlags := 1, nameIndex := 120, descriptorIndex := 96, attributes := #[] }, { accessFlags := 1, nameIndex := 95, descriptorIndex := 96, attributes := #[] }, { accessFlags := 1, nameIndex := 342, descriptorIndex := 89, attributes := #[] }, { accessFlags := 1, nameIndex := 343, descriptorIndex := 96, attributes := #[] }, { accessFlags := 1, nameIndex := 53, descriptorIndex := 54, attributes := #[] }, { accessFlags := 1, nameIndex := 347, descriptorIndex := 348, attributes := #[] }] 33 43 #[278, 280, 282] #[{ accessFlags := 128, nameIndex := 7, descriptorIndex := 8, attributes := #[] }, { accessFlags := 128, nameIndex := 26, descriptorIndex := 23, attributes := #[] }, { accessFlags := 128, nameIndex := 22, descriptorIndex := 23, attributes := #[] }, { accessFlags := 26, nameIndex := 284, descriptorIndex := 23, attributes := #[] }, { accessFlags := 26, nameIndex := 286, descriptorIndex := 287, attributes := #[] }])
  fields := #[{ name := "elements", type := (.array (.object "java/lang/Object")), accessFlags := 128, slot := 0, constantValue := 0 }, { name := "head", type := .int, accessFlags := 128, slot := 1, constantValue := 0 }, { name := "tail", type := .int, accessFlags := 128, slot := 2, constantValue := 0 }, { name := "MAX_ARRAY_SIZE", type := .int, accessFlags := 26, slot := 0, constantValue := 0 }, { name := "serialVersionUID", type := .long, accessFlags := 26, slot := 1, constantValue := 0 }]
  methods := #[k20m0, k20m1, k20m2, k20m3, k20m4, k20m5, k20m6, k20m7, k20m8, k20m9, k20m10, k20m11]
  instanceTypes := #[(.array (.object "java/lang/Object")), .int, .int]
  staticTypes := #[.int, .long]
  resolved := Array.replicate 438 none
  statics := none }

def pool21 : Array CpInfo := pool [(9, u "<init>"), (6, .class_ 18), (1, u "java/lang/Object"), (0, u "()V"), (1, .class_ 23), (1, u "jdk/internal/util/ArraysSupport"), (0, u "LOG2_ARRAY_LONG_INDEX_SCALE"), (0, u "I"), (2, u "U"), (0, u "Ljdk/internal/misc/Unsafe;"), (8, u "BIG_ENDIAN"), (0, u "Z"), (8, u "LOG2_BYTE_BIT_SIZE"), (4, u "LOG2_ARRAY_INT_INDEX_SCALE"), (54, u "JLA"), (0, u "Ljdk/internal/access/JavaLangAccess;"), (11, u "LOG2_ARRAY_BOOLEAN_INDEX_SCALE"), (9, u "LOG2_ARRAY_BYTE_INDEX_SCALE"), (5, u "LOG2_ARRAY_CHAR_INDEX_SCALE"), (5, u "LOG2_ARRAY_SHORT_INDEX_SCALE"), (18, u "LOG2_ARRAY_FLOAT_INDEX_SCALE"), (24, u "LOG2_ARRAY_DOUBLE_INDEX_SCALE"), (6, .methodref 195 196), (0, .class_ 197), (0, .nameAndType 198 199), (0, u "java/lang/Math"), (0, u "max"), (0, u "(II)I"), (0, .integer 2147483639), (76, u "T_BOOLEAN"), (2, u "T_CHAR"), (1, u "T_FLOAT"), (1, u "T_DOUBLE"), (1, u "T_BYTE"), (1, u "T_SHORT"), (1, u "T_INT"), (1, u "T_LONG"), (1, u "SOFT_MAX_ARRAY_LENGTH"), (56, u "newLength"), (0, u "(III)I")] 25

def k21m0 : Method := { name := "<init>", desc := "()V", sig := { parameters := [], returnType := none }, accessFlags := 2, code := none }
def k21c1 : Code := { maxStack := 3, maxLocals := 4, code := jdk_48_method_27_code, exceptionTable := #[], attributes := #[] }
def k21m1 : Method := { name := "newLength", desc := "(III)I", sig := { parameters := [.int, .int, .int], returnType := some .int }, accessFlags := 9, code := some k21c1 }
/-- jdk/internal/util/ArraysSupport -/
def k21 : Class := { plain "jdk/internal/util/ArraysSupport" (some 0) with
  accessFlags := 33
  interfaces := #[]
  cf := some (fileOf pool21 21 #[] #[{ accessFlags := 2, nameIndex := 9, descriptorIndex := 19, attributes := #[] }, { accessFlags := 9, nameIndex := 351, descriptorIndex := 352, attributes := #[] }] 33 16 #[] #[{ accessFlags := 24, nameIndex := 28, descriptorIndex := 29, attributes := #[] }, { accessFlags := 26, nameIndex := 38, descriptorIndex := 39, attributes := #[] }, { accessFlags := 25, nameIndex := 121, descriptorIndex := 25, attributes := #[] }, { accessFlags := 25, nameIndex := 131, descriptorIndex := 25, attributes := #[] }, { accessFlags := 25, nameIndex := 137, descriptorIndex := 25, attributes := #[] }, { accessFlags := 25, nameIndex := 143, descriptorIndex := 25, attributes := #[] }, { accessFlags := 25, nameIndex := 53, descriptorIndex := 25, attributes := #[] }, { accessFlags := 25, nameIndex := 24, descriptorIndex := 25, attributes := #[] }, { accessFlags := 25, nameIndex := 162, descriptorIndex := 25, attributes := #[] }, { accessFlags := 25, nameIndex := 187, descriptorIndex := 25, attributes := #[] }, { accessFlags := 26, nameIndex := 48, descriptorIndex := 25, attributes := #[] }, { accessFlags := 25, nameIndex := 277, descriptorIndex := 25, attributes := #[] }, { accessFlags := 25, nameIndex := 280, descriptorIndex := 25, attributes := #[] }, { accessFlags := 25, nameIndex := 282, descriptorIndex := 25, attributes := #[] }, { accessFlags := 25, nameIndex := 284, descriptorIndex := 25, attributes := #[] }, { accessFlags := 25, nameIndex := 286, descriptorIndex := 25, attributes := #[] }, { accessFlags := 25, nameIndex := 288, descriptorIndex := 25, attributes := #[] }, { accessFlags := 25, nameIndex := 290, descriptorIndex := 25, attributes := #[] }, { accessFlags := 25, nameIndex := 292, descriptorIndex := 25, attributes := #[] }, { accessFlags := 26, nameIndex := 108, descriptorIndex := 109, attributes := #[] }, { accessFlags := 25, nameIndex := 294, descriptorIndex := 25, attributes := #[] }])
  fields := #[{ name := "U", type := (.object "jdk/internal/misc/Unsafe"), accessFlags := 24, slot := 0, constantValue := 0 }, { name := "BIG_ENDIAN", type := .boolean, accessFlags := 26, slot := 1, constantValue := 0 }, { name := "LOG2_ARRAY_BOOLEAN_INDEX_SCALE", type := .int, accessFlags := 25, slot := 2, constantValue := 0 }, { name := "LOG2_ARRAY_BYTE_INDEX_SCALE", type := .int, accessFlags := 25, slot := 3, constantValue := 0 }, { name := "LOG2_ARRAY_CHAR_INDEX_SCALE", type := .int, accessFlags := 25, slot := 4, constantValue := 0 }, { name := "LOG2_ARRAY_SHORT_INDEX_SCALE", type := .int, accessFlags := 25, slot := 5, constantValue := 0 }, { name := "LOG2_ARRAY_INT_INDEX_SCALE", type := .int, accessFlags := 25, slot := 6, constantValue := 0 }, { name := "LOG2_ARRAY_LONG_INDEX_SCALE", type := .int, accessFlags := 25, slot := 7, constantValue := 0 }, { name := "LOG2_ARRAY_FLOAT_INDEX_SCALE", type := .int, accessFlags := 25, slot := 8, constantValue := 0 }, { name := "LOG2_ARRAY_DOUBLE_INDEX_SCALE", type := .int, accessFlags := 25, slot := 9, constantValue := 0 }, { name := "LOG2_BYTE_BIT_SIZE", type := .int, accessFlags := 26, slot := 10, constantValue := 0 }, { name := "T_BOOLEAN", type := .int, accessFlags := 25, slot := 11, constantValue := 0 }, { name := "T_CHAR", type := .int, accessFlags := 25, slot := 12, constantValue := 0 }, { name := "T_FLOAT", type := .int, accessFlags := 25, slot := 13, constantValue := 0 }, { name := "T_DOUBLE", type := .int, accessFlags := 25, slot := 14, constantValue := 0 }, { name := "T_BYTE", type := .int, accessFlags := 25, slot := 15, constantValue := 0 }, { name := "T_SHORT", type := .int, accessFlags := 25, slot := 16, constantValue := 0 }, { name := "T_INT", type := .int, accessFlags := 25, slot := 17, constantValue := 0 }, { name := "T_LONG", type := .int, accessFlags := 25, slot := 18, constantValue := 0 }, { name := "JLA", type := (.object "jdk/internal/access/JavaLangAccess"), accessFlags := 26, slot := 19, constantValue := 0 }, { name := "SOFT_MAX_ARRAY_LENGTH", type := .int, accessFlags := 25, slot := 20, constantValue := 0 }]
  methods := #[k21m0, k21m1]
  instanceTypes := #[]
  staticTypes := #[(.object "jdk/internal/misc/Unsafe"), .boolean, .int, .int, .int, .int, .int, .int, .int, .int, .int, .int, .int, .int, .int, .int, .int, .int, .int, (.object "jdk/internal/access/JavaLangAccess"), .int]
  resolved := Array.replicate 378 none
  statics := none }

def pool22 : Array CpInfo := pool [(1, .class_ 2), (0, u "java/lang/Math"), (1, .class_ 6), (1, u "java/lang/Object"), (0, u "<init>"), (0, u "()V"), (89, .class_ 100), (1, u "java/lang/Math$RandomNumberGeneratorHolder"), (71, u "negativeZeroFloatBits"), (0, u "J"), (2, u "negativeZeroDoubleBits"), (21, u "max"), (2, u "min"), (43, u "$assertionsDisabled"), (0, u "Z"), (88, u "(II)I"), (2, u "twoToTheDoubleScaleDown"), (0, u "D"), (4, u "twoToTheDoubleScaleUp"), (9, u "E"), (3, u "PI"), (2, u "TAU"), (2, u "DEGREES_TO_RADIANS"), (0, u "RADIANS_TO_DEGREES")] 94

def k22m0 : Method := { name := "<init>", desc := "()V", sig := { parameters := [], returnType := none }, accessFlags := 2, code := none }
def k22c1 : Code := { maxStack := 2, maxLocals := 2, code := jdk_29_method_65_code, exceptionTable := #[], attributes := #[] }
def k22m1 : Method := { name := "max", desc := "(II)I", sig := { parameters := [.int, .int], returnType := some .int }, accessFlags := 9, code := some k22c1 }
def k22c2 : Code := { maxStack := 2, maxLocals := 2, code := jdk_29_method_69_code, exceptionTable := #[], attributes := #[] }
def k22m2 : Method := { name := "min", desc := "(II)I", sig := { parameters := [.int, .int], returnType := some .int }, accessFlags := 9, code := some k22c2 }
/-- java/lang/Math -/
def k22 : Class := { plain "java/lang/Math" (some 0) with
  accessFlags := 49
  interfaces := #[]
  cf := some (fileOf pool22 1 #[.nestMembers #[98]] #[{ accessFlags := 2, nameIndex := 7, descriptorIndex := 8, attributes := #[] }, { accessFlags := 9, nameIndex := 198, descriptorIndex := 335, attributes := #[] }, { accessFlags := 9, nameIndex := 201, descriptorIndex := 335, attributes := #[] }] 49 4 #[] #[{ accessFlags := 25, nameIndex := 354, descriptorIndex := 339, attributes := #[] }, { accessFlags := 25, nameIndex := 358, descriptorIndex := 339, attributes := #[] }, { accessFlags := 25, nameIndex := 361, descriptorIndex := 339, attributes := #[] }, { accessFlags := 26, nameIndex := 364, descriptorIndex := 339, attributes := #[] }, { accessFlags := 26, nameIndex := 365, descriptorIndex := 339, attributes := #[] }, { accessFlags := 26, nameIndex := 172, descriptorIndex := 173, attributes := #[] }, { accessFlags := 26, nameIndex := 176, descriptorIndex := 173, attributes := #[] }, { accessFlags := 8, nameIndex := 344, descriptorIndex := 339, attributes := #[] }, { accessFlags := 8, nameIndex := 338, descriptorIndex := 339, attributes := #[] }, { accessFlags := 4120, nameIndex := 245, descriptorIndex := 246, attributes := #[] }])
  fields := #[{ name := "E", type := .double, accessFlags := 25, slot := 0, constantValue := 0 }, { name := "PI", type := .double, accessFlags := 25, slot := 1, constantValue := 0 }, { name := "TAU", type := .double, accessFlags := 25, slot := 2, constantValue := 0 }, { name := "DEGREES_TO_RADIANS", type := .double, accessFlags := 26, slot := 3, constantValue := 0 }, { name := "RADIANS_TO_DEGREES", type := .double, accessFlags := 26, slot := 4, constantValue := 0 }, { name := "negativeZeroFloatBits", type := .long, accessFlags := 26, slot := 5, constantValue := 0 }, { name := "negativeZeroDoubleBits", type := .long, accessFlags := 26, slot := 6, constantValue := 0 }, { name := "twoToTheDoubleScaleUp", type := .double, accessFlags := 8, slot := 7, constantValue := 0 }, { name := "twoToTheDoubleScaleDown", type := .double, accessFlags := 8, slot := 8, constantValue := 0 }, { name := "$assertionsDisabled", type := .boolean, accessFlags := 4120, slot := 9, constantValue := 0 }]
  methods := #[k22m0, k22m1, k22m2]
  instanceTypes := #[]
  staticTypes := #[.double, .double, .double, .double, .double, .long, .long, .double, .double, .boolean]
  resolved := Array.replicate 460 none
  statics := none }

def pool23 : Array CpInfo := pool [(2, .class_ 4), (1, u "java/lang/Object"), (0, u "<init>"), (0, u "()V"), (7, .class_ 16), (1, u "java/util/Arrays"), (57, .class_ 76), (1, u "java/util/Arrays$NaturalOrder"), (36, .class_ 115), (1, u "java/util/Arrays$LegacyMergeSort"), (1, u "Z"), (21, u "copyOfRange"), (10, .methodref 151 152), (0, .class_ 153), (0, .nameAndType 154 155), (0, u "java/lang/System"), (0, u "arraycopy"), (0, u "(Ljava/lang/Object;ILjava/lang/Object;II)V"), (146, u "copyOf"), (1, .methodref 305 306), (0, .class_ 307), (0, .nameAndType 308 309), (0, u "java/lang/Math"), (0, u "min"), (0, u "(II)I"), (29, .methodref 14 340), (0, .nameAndType 341 342), (0, u "copyOfRangeByte"), (0, u "([BII)[B"), (0, .methodref 14 344), (0, .nameAndType 345 346), (0, u "checkLength"), (0, u "(II)V"), (28, .class_ 376), (0, u "java/util/Arrays$ArrayList"), (68, u "$assertionsDisabled"), (269, u "MIN_ARRAY_SORT_GRAN"), (0, u "I"), (2, u "INSERTIONSORT_THRESHOLD"), (120, u "fill"), (9, u "([BB)V"), (18, u "([BI)[B"), (105, .class_ 976), (0, u "java/util/Arrays$ArrayItr")] 52

def k23m0 : Method := { name := "<init>", desc := "()V", sig := { parameters := [], returnType := none }, accessFlags := 2, code := none }
def k23c1 : Code := { maxStack := 3, maxLocals := 4, code := jdk_65_method_109_code, exceptionTable := #[], attributes := #[] }
def k23m1 : Method := { name := "fill", desc := "([BB)V", sig := { parameters := [(.array .byte), .byte], returnType := none }, accessFlags := 9, code := some k23c1 }
def k23c2 : Code := { maxStack := 6, maxLocals := 3, code := jdk_65_method_121_code, exceptionTable := #[], attributes := #[] }
def k23m2 : Method := { name := "copyOf", desc := "([BI)[B", sig := { parameters := [(.array .byte), .int], returnType := some (.array .byte) }, accessFlags := 9, code := some k23c2 }
def k23c3 : Code := { maxStack := 4, maxLocals := 2, code := jdk_65_method_131_code, exceptionTable := #[], attributes := #[] }
def k23m3 : Method := { name := "checkLength", desc := "(II)V", sig := { parameters := [.int, .int], returnType := none }, accessFlags := 10, code := some k23c3 }
def k23c4 : Code := { maxStack := 3, maxLocals := 3, code := jdk_65_method_132_code, exceptionTable := #[], attributes := #[] }
def k23m4 : Method := { name := "copyOfRange", desc := "([BII)[B", sig := { parameters := [(.array .byte), .int, .int], returnType := some (.array .byte) }, accessFlags := 9, code := some k23c4 }
def k23c5 : Code := { maxStack := 6, maxLocals := 5, code := jdk_65_method_133_code, exceptionTable := #[], attributes := #[] }
def k23m5 : Method := { name := "copyOfRangeByte", desc := "([BII)[B", sig := { parameters := [(.array .byte), .int, .int], returnType := some (.array .byte) }, accessFlags := 10, code := some k23c5 }
/-- java/util/Arrays -/
def k23 : Class := { plain "java/util/Arrays" (some 0) with
  accessFlags := 49
  interfaces := #[]
  cf := some (fileOf pool23 14 #[.nestMembers #[975, 375, 113, 74]] #[{ accessFlags := 2, nameIndex := 5, descriptorIndex := 6, attributes := #[] }, { accessFlags := 9, nameIndex := 840, descriptorIndex := 850, attributes := #[] }, { accessFlags := 9, nameIndex := 302, descriptorIndex := 869, attributes := #[] }, { accessFlags := 10, nameIndex := 345, descriptorIndex := 346, attributes := #[] }, { accessFlags := 9, nameIndex := 139, descriptorIndex := 342, attributes := #[] }, { accessFlags := 10, nameIndex := 341, descriptorIndex := 342, attributes := #[] }] 49 2 #[] #[{ accessFlags := 26, nameIndex := 715, descriptorIndex := 716, attributes := #[] }, { accessFlags := 26, nameIndex := 719, descriptorIndex := 716, attributes := #[] }, { accessFlags := 4120, nameIndex := 445, descriptorIndex := 117, attributes := #[] }])
  fields := #[{ name := "MIN_ARRAY_SORT_GRAN", type := .int, accessFlags := 26, slot := 0, constantValue := 0 }, { name := "INSERTIONSORT_THRESHOLD", type := .int, accessFlags := 26, slot := 1, constantValue := 0 }, { name := "$assertionsDisabled", type := .boolean, accessFlags := 4120, slot := 2, constantValue := 0 }]
  methods := #[k23m0, k23m1, k23m2, k23m3, k23m4, k23m5]
  instanceTypes := #[]
  staticTypes := #[.int, .int, .boolean]
  resolved := Array.replicate 1029 none
  statics := none }

def pool24 : Array CpInfo := pool [(2, .class_ 4), (1, u "java/lang/Object"), (0, u "<init>"), (0, u "()V"), (1, .class_ 10), (1, u "java/lang/System"), (0, u "allowSecurityManager"), (0, u "I"), (16, u "cons"), (0, u "Ljava/io/Console;"), (77, .class_ 110), (1, u "java/lang/System$CallersHolder"), (43, u "initialErrStream"), (0, u "Ljava/io/PrintStream;"), (19, u "security"), (0, u "Ljava/lang/SecurityManager;"), (31, .class_ 209), (0, u "java/lang/System$1"), (7, u "props"), (0, u "Ljava/util/Properties;"), (2, u "lineSeparator"), (0, u "Ljava/lang/String;"), (96, .class_ 321), (1, u "java/lang/System$LoggerFinder"), (5, .class_ 328), (0, u "java/lang/System$Logger"), (67, u "err"), (2, u "out"), (91, u "notSupportedJnuEncoding"), (15, u "in"), (17, u "initialIn"), (0, u "Ljava/io/InputStream;"), (35, u "bootLayer"), (0, u "Ljava/lang/ModuleLayer;"), (99, .class_ 664), (0, u "java/lang/System$2"), (9, u "NEVER"), (2, u "MAYBE"), (49, u "arraycopy"), (0, u "(Ljava/lang/Object;ILjava/lang/Object;II)V"), (72, .class_ 802), (0, u "java/lang/System$Logger$Level")] 31

def k24m0 : Method := { name := "<init>", desc := "()V", sig := { parameters := [], returnType := none }, accessFlags := 2, code := none }
def k24m1 : Method := { name := "arraycopy", desc := "(Ljava/lang/Object;ILjava/lang/Object;II)V", sig := { parameters := [(.object "java/lang/Object"), .int, (.object "java/lang/Object"), .int, .int], returnType := none }, accessFlags := 265, code := none }
/-- java/lang/System -/
def k24 : Class := { plain "java/lang/System" (some 0) with
  accessFlags := 49
  interfaces := #[]
  cf := some (fileOf pool24 8 #[.nestMembers #[319, 327, 801, 108, 663, 208]] #[{ accessFlags := 2, nameIndex := 5, descriptorIndex := 6, attributes := #[] }, { accessFlags := 265, nameIndex := 727, descriptorIndex := 728, attributes := #[] }] 49 2 #[] #[{ accessFlags := 25, nameIndex := 507, descriptorIndex := 526, attributes := #[] }, { accessFlags := 25, nameIndex := 399, descriptorIndex := 155, attributes := #[] }, { accessFlags := 25, nameIndex := 396, descriptorIndex := 155, attributes := #[] }, { accessFlags := 10, nameIndex := 525, descriptorIndex := 526, attributes := #[] }, { accessFlags := 26, nameIndex := 674, descriptorIndex := 12, attributes := #[] }, { accessFlags := 26, nameIndex := 677, descriptorIndex := 12, attributes := #[] }, { accessFlags := 10, nameIndex := 11, descriptorIndex := 12, attributes := #[] }, { accessFlags := 74, nameIndex := 175, descriptorIndex := 176, attributes := #[] }, { accessFlags := 10, nameIndex := 491, descriptorIndex := 222, attributes := #[] }, { accessFlags := 74, nameIndex := 29, descriptorIndex := 30, attributes := #[] }, { accessFlags := 74, nameIndex := 154, descriptorIndex := 155, attributes := #[] }, { accessFlags := 10, nameIndex := 217, descriptorIndex := 218, attributes := #[] }, { accessFlags := 10, nameIndex := 221, descriptorIndex := 222, attributes := #[] }, { accessFlags := 8, nameIndex := 562, descriptorIndex := 563, attributes := #[] }])
  fields := #[{ name := "in", type := (.object "java/io/InputStream"), accessFlags := 25, slot := 0, constantValue := 0 }, { name := "out", type := (.object "java/io/PrintStream"), accessFlags := 25, slot := 1, constantValue := 0 }, { name := "err", type := (.object "java/io/PrintStream"), accessFlags := 25, slot := 2, constantValue := 0 }, { name := "initialIn", type := (.object "java/io/InputStream"), accessFlags := 10, slot := 3, constantValue := 0 }, { name := "NEVER", type := .int, accessFlags := 26, slot := 4, constantValue := 0 }, { name := "MAYBE", type := .int, accessFlags := 26, slot := 5, constantValue := 0 }, { name := "allowSecurityManager", type := .int, accessFlags := 10, slot := 6, constantValue := 0 }, { name := "security", type := (.object "java/lang/SecurityManager"), accessFlags := 74, slot := 7, constantValue := 0 }, { name := "notSupportedJnuEncoding", type := (.object "java/lang/String"), accessFlags := 10, slot := 8, constantValue := 0 }, { name := "cons", type := (.object "java/io/Console"), accessFlags := 74, slot := 9, constantValue := 0 }, { name := "initialErrStream", type := (.object "java/io/PrintStream"), accessFlags := 74, slot := 10, constantValue := 0 }, { name := "props", type := (.object "java/util/Properties"), accessFlags := 10, slot := 11, constantValue := 0 }, { name := "lineSeparator", type := (.object "java/lang/String"), accessFlags := 10, slot := 12, constantValue := 0 }, { name := "bootLayer", type := (.object "java/lang/ModuleLayer"), accessFlags := 8, slot := 13, constantValue := 0 }]
  methods := #[k24m0, k24m1]
  instanceTypes := #[]
  staticTypes := #[(.object "java/io/InputStream"), (.object "java/io/PrintStream"), (.object "java/io/PrintStream"), (.object "java/io/InputStream"), .int, .int, .int, (.object "java/lang/SecurityManager"), (.object "java/lang/String"), (.object "java/io/Console"), (.object "java/io/PrintStream"), (.object "java/util/Properties"), (.object "java/lang/String"), (.object "java/lang/ModuleLayer")]
  resolved := Array.replicate 834 none
  statics := none }

def pool25 : Array CpInfo := pool [(2, .class_ 4), (1, u "java/lang/Object"), (0, u "<init>"), (0, u "()V"), (14, .class_ 23), (1, u "java/nio/charset/StandardCharsets"), (0, u "US_ASCII"), (0, u "Ljava/nio/charset/Charset;"), (7, u "ISO_8859_1"), (7, u "UTF_8"), (5, u "UTF_16BE"), (5, u "UTF_16LE"), (5, u "UTF_16")] 8

def k25m0 : Method := { name := "<init>", desc := "()V", sig := { parameters := [], returnType := none }, accessFlags := 2, code := none }
/-- java/nio/charset/StandardCharsets -/
def k25 : Class := { plain "java/nio/charset/StandardCharsets" (some 0) with
  accessFlags := 49
  interfaces := #[]
  cf := some (fileOf pool25 21 #[] #[{ accessFlags := 2, nameIndex := 5, descriptorIndex := 6, attributes := #[] }] 49 2 #[] #[{ accessFlags := 25, nameIndex := 24, descriptorIndex := 25, attributes := #[] }, { accessFlags := 25, nameIndex := 33, descriptorIndex := 25, attributes := #[] }, { accessFlags := 25, nameIndex := 41, descriptorIndex := 25, attributes := #[] }, { accessFlags := 25, nameIndex := 47, descriptorIndex := 25, attributes := #[] }, { accessFlags := 25, nameIndex := 53, descriptorIndex := 25, attributes := #[] }, { accessFlags := 25, nameIndex := 59, descriptorIndex := 25, attributes := #[] }])
  fields := #[{ name := "US_ASCII", type := (.object "java/nio/charset/Charset"), accessFlags := 25, slot := 0, constantValue := 0 }, { name := "ISO_8859_1", type := (.object "java/nio/charset/Charset"), accessFlags := 25, slot := 1, constantValue := 0 }, { name := "UTF_8", type := (.object "java/nio/charset/Charset"), accessFlags := 25, slot := 2, constantValue := 0 }, { name := "UTF_16BE", type := (.object "java/nio/charset/Charset"), accessFlags := 25, slot := 3, constantValue := 0 }, { name := "UTF_16LE", type := (.object "java/nio/charset/Charset"), accessFlags := 25, slot := 4, constantValue := 0 }, { name := "UTF_16", type := (.object "java/nio/charset/Charset"), accessFlags := 25, slot := 5, constantValue := 0 }]
  methods := #[k25m0]
  instanceTypes := #[]
  staticTypes := #[(.object "java/nio/charset/Charset"), (.object "java/nio/charset/Charset"), (.object "java/nio/charset/Charset"), (.object "java/nio/charset/Charset"), (.object "java/nio/charset/Charset"), (.object "java/nio/charset/Charset")]
  resolved := Array.replicate 68 none
  statics := some 1 }

def pool26 : Array CpInfo := pool [(18, .class_ 20), (1, u "java/nio/charset/Charset"), (0, u "cache1"), (0, u "[Ljava/lang/Object;"), (2, u "cache2"), (0, .class_ 27), (0, u "java/lang/Object"), (0, .class_ 29), (0, u "java/nio/charset/Charset$1"), (4, .class_ 36), (1, u "java/nio/charset/Charset$ThreadTrackHolder"), (21, .class_ 59), (0, u "java/nio/charset/Charset$2"), (11, .class_ 73), (1, u "java/nio/charset/Charset$ExtendedProviderHolder"), (22, u "standardProvider"), (0, u "Ljava/nio/charset/spi/CharsetProvider;"), (29, u "name"), (7, .class_ 136), (0, u "java/nio/charset/Charset$3"), (5, u "defaultCharset"), (0, u "Ljava/nio/charset/Charset;"), (14, u "zeroAliases"), (0, u "[Ljava/lang/String;"), (29, u "Ljava/lang/String;"), (2, u "aliases"), (2, u "aliasSet"), (0, u "Ljava/util/Set;"), (82, .class_ 280), (0, u "java/lang/Comparable"), (84, .class_ 366), (0, u "java/nio/charset/Charset$ExtendedProviderHolder$1")] 3

/-- java/nio/charset/Charset -/
def k26 : Class := { plain "java/nio/charset/Charset" (some 0) with
  accessFlags := 1057
  interfaces := #[4]
  cf := some (fileOf pool26 18 #[.nestMembers #[71, 365, 34, 135, 58, 28]] #[] 1057 26 #[279] #[{ accessFlags := 26, nameIndex := 96, descriptorIndex := 97, attributes := #[] }, { accessFlags := 26, nameIndex := 158, descriptorIndex := 159, attributes := #[] }, { accessFlags := 74, nameIndex := 21, descriptorIndex := 22, attributes := #[] }, { accessFlags := 74, nameIndex := 25, descriptorIndex := 22, attributes := #[] }, { accessFlags := 10, nameIndex := 142, descriptorIndex := 143, attributes := #[] }, { accessFlags := 18, nameIndex := 127, descriptorIndex := 189, attributes := #[] }, { accessFlags := 18, nameIndex := 192, descriptorIndex := 159, attributes := #[] }, { accessFlags := 2, nameIndex := 195, descriptorIndex := 196, attributes := #[] }])
  fields := #[{ name := "standardProvider", type := (.object "java/nio/charset/spi/CharsetProvider"), accessFlags := 26, slot := 0, constantValue := 0 }, { name := "zeroAliases", type := (.array (.object "java/lang/String")), accessFlags := 26, slot := 1, constantValue := 0 }, { name := "cache1", type := (.array (.object "java/lang/Object")), accessFlags := 74, slot := 2, constantValue := 0 }, { name := "cache2", type := (.array (.object "java/lang/Object")), accessFlags := 74, slot := 3, constantValue := 0 }, { name := "defaultCharset", type := (.object "java/nio/charset/Charset"), accessFlags := 10, slot := 4, constantValue := 0 }, { name := "name", type := (.object "java/lang/String"), accessFlags := 18, slot := 0, constantValue := 0 }, { name := "aliases", type := (.array (.object "java/lang/String")), accessFlags := 18, slot := 1, constantValue := 0 }, { name := "aliasSet", type := (.object "java/util/Set"), accessFlags := 2, slot := 2, constantValue := 0 }]
  methods := #[]
  instanceTypes := #[(.object "java/lang/String"), (.array (.object "java/lang/String")), (.object "java/util/Set")]
  staticTypes := #[(.object "java/nio/charset/spi/CharsetProvider"), (.array (.object "java/lang/String")), (.array (.object "java/lang/Object")), (.array (.object "java/lang/Object")), (.object "java/nio/charset/Charset")]
  resolved := Array.replicate 370 none
  statics := none }

def pool27 : Array CpInfo := pool [(1, .class_ 2), (0, u "sun/nio/cs/HistoricallyNamedCharset"), (0, .class_ 4), (0, u "java/lang/Object")] 4

/-- sun/nio/cs/HistoricallyNamedCharset -/
def k27 : Class := { plain "sun/nio/cs/HistoricallyNamedCharset" (some 0) with
  accessFlags := 1537
  interfaces := #[]
  cf := some (fileOf pool27 1 #[] #[] 1537 3 #[] #[])
  fields := #[]
  methods := #[]
  instanceTypes := #[]
  staticTypes := #[]
  resolved := Array.replicate 9 none
  statics := none }

def pool28 : Array CpInfo := pool [(2, .class_ 4), (1, u "java/nio/charset/Charset"), (130, .class_ 136), (0, u "sun/nio/cs/Unicode"), (0, .class_ 138), (0, u "sun/nio/cs/HistoricallyNamedCharset")] 15

/-- sun/nio/cs/Unicode -/
def k28 : Class := { plain "sun/nio/cs/Unicode" (some 26) with
  accessFlags := 1056
  interfaces := #[27]
  cf := some (fileOf pool28 135 #[] #[] 1056 2 #[137] #[])
  fields := #[]
  methods := #[]
  instanceTypes := #[(.object "java/lang/String"), (.array (.object "java/lang/String")), (.object "java/util/Set")]
  staticTypes := #[]
  resolved := Array.replicate 154 none
  statics := none }

def pool29 : Array CpInfo := pool [(10, .class_ 12), (1, u "sun/nio/cs/Unicode"), (0, u "<init>"), (3, .class_ 18), (0, u "sun/nio/cs/UTF_8$Decoder"), (3, .class_ 23), (0, u "sun/nio/cs/UTF_8$Encoder"), (15, .class_ 40), (0, u "sun/nio/cs/UTF_8"), (2, u "()V"), (2, u "INSTANCE"), (0, u "Lsun/nio/cs/UTF_8;"), (8, u "JLA"), (0, u "Ljdk/internal/access/JavaLangAccess;")] 26

def k29m0 : Method := { name := "<init>", desc := "()V", sig := { parameters := [], returnType := none }, accessFlags := 1, code := none }
/-- sun/nio/cs/UTF_8 -/
def k29 : Class := { plain "sun/nio/cs/UTF_8" (some 28) with
  accessFlags := 49
  interfaces := #[]
  cf := some (fileOf pool29 39 #[.nestMembers #[22, 17]] #[{ accessFlags := 1, nameIndex := 13, descriptorIndex := 43, attributes := #[] }] 49 10 #[] #[{ accessFlags := 25, nameIndex := 46, descriptorIndex := 47, attributes := #[] }, { accessFlags := 26, nameIndex := 56, descriptorIndex := 57, attributes := #[] }])
  fields := #[{ name := "INSTANCE", type := (.object "sun/nio/cs/UTF_8"), accessFlags := 25, slot := 0, constantValue := 0 }, { name := "JLA", type := (.object "jdk/internal/access/JavaLangAccess"), accessFlags := 26, slot := 1, constantValue := 0 }]
  methods := #[k29m0]
  instanceTypes := #[(.object "java/lang/String"), (.array (.object "java/lang/String")), (.object "java/util/Set")]
  staticTypes := #[(.object "sun/nio/cs/UTF_8"), (.object "jdk/internal/access/JavaLangAccess")]
  resolved := Array.replicate 84 none
  statics := some 2 }

def pool30 : Array CpInfo := pool [(2, .class_ 4), (1, u "java/lang/Object"), (0, u "<init>"), (0, u "()V"), (0, .methodref 8 9), (0, .class_ 10), (0, .nameAndType 11 12), (0, u "java/lang/StringCoding"), (0, u "countPositives"), (0, u "([BII)I"), (11, u "hasNegatives"), (0, u "([BII)Z")] 23

def k30m0 : Method := { name := "<init>", desc := "()V", sig := { parameters := [], returnType := none }, accessFlags := 2, code := none }
def k30c1 : Code := { maxStack := 3, maxLocals := 3, code := jdk_123_method_2_code, exceptionTable := #[], attributes := #[] }
def k30m1 : Method := { name := "hasNegatives", desc := "([BII)Z", sig := { parameters := [(.array .byte), .int, .int], returnType := some .boolean }, accessFlags := 9, code := some k30c1 }
def k30c2 : Code := { maxStack := 2, maxLocals := 5, code := jdk_123_method_3_code, exceptionTable := #[], attributes := #[] }
def k30m2 : Method := { name := "countPositives", desc := "([BII)I", sig := { parameters := [(.array .byte), .int, .int], returnType := some .int }, accessFlags := 9, code := some k30c2 }
/-- java/lang/StringCoding -/
def k30 : Class := { plain "java/lang/StringCoding" (some 0) with
  accessFlags := 32
  interfaces := #[]
  cf := some (fileOf pool30 8 #[] #[{ accessFlags := 2, nameIndex := 5, descriptorIndex := 6, attributes := #[] }, { accessFlags := 9, nameIndex := 24, descriptorIndex := 25, attributes := #[] }, { accessFlags := 9, nameIndex := 11, descriptorIndex := 12, attributes := #[] }] 32 2 #[] #[])
  fields := #[]
  methods := #[k30m0, k30m1, k30m2]
  instanceTypes := #[]
  staticTypes := #[]
  resolved := Array.replicate 49 none
  statics := none }

def pool31 : Array CpInfo := pool [(2, .class_ 4), (1, u "java/lang/Object"), (0, u "<init>"), (0, u "()V"), (17, .class_ 26), (1, u "jdk/internal/util/Preconditions"), (28, .class_ 56), (0, u "jdk/internal/util/Preconditions$4"), (57, .class_ 115), (0, u "jdk/internal/util/Preconditions$1"), (7, u "SIOOBE_FORMATTER"), (0, u "Ljava/util/function/BiFunction;"), (0, .class_ 126), (0, u "jdk/internal/util/Preconditions$2"), (3, u "AIOOBE_FORMATTER"), (0, .class_ 132), (0, u "jdk/internal/util/Preconditions$3"), (3, u "IOOBE_FORMATTER")] 57

def k31m0 : Method := { name := "<init>", desc := "()V", sig := { parameters := [], returnType := none }, accessFlags := 1, code := none }
/-- jdk/internal/util/Preconditions -/
def k31 : Class := { plain "jdk/internal/util/Preconditions" (some 0) with
  accessFlags := 33
  interfaces := #[]
  cf := some (fileOf pool31 24 #[.nestMembers #[55, 131, 125, 114]] #[{ accessFlags := 1, nameIndex := 5, descriptorIndex := 6, attributes := #[] }] 33 2 #[] #[{ accessFlags := 25, nameIndex := 123, descriptorIndex := 124, attributes := #[] }, { accessFlags := 25, nameIndex := 130, descriptorIndex := 124, attributes := #[] }, { accessFlags := 25, nameIndex := 136, descriptorIndex := 124, attributes := #[] }])
  fields := #[{ name := "SIOOBE_FORMATTER", type := (.object "java/util/function/BiFunction"), accessFlags := 25, slot := 0, constantValue := 0 }, { name := "AIOOBE_FORMATTER", type := (.object "java/util/function/BiFunction"), accessFlags := 25, slot := 1, constantValue := 0 }, { name := "IOOBE_FORMATTER", type := (.object "java/util/function/BiFunction"), accessFlags := 25, slot := 2, constantValue := 0 }]
  methods := #[k31m0]
  instanceTypes := #[]
  staticTypes := #[(.object "java/util/function/BiFunction"), (.object "java/util/function/BiFunction"), (.object "java/util/function/BiFunction")]
  resolved := Array.replicate 194 none
  statics := some 3 }

/-- the primitive byte -/
def k32 : Class := { plain "byte" none with kind := .primitive 'B', accessFlags := 0x411 }
/-- [B -/
def k33 : Class := { plain "[B" (some 0) with kind := .array 32 .byte, interfaces := #[19, 3], accessFlags := 1041 }

/-- the primitive int -/
def k34 : Class := { plain "int" none with kind := .primitive 'I', accessFlags := 0x411 }
/-- [I -/
def k35 : Class := { plain "[I" (some 0) with kind := .array 34 .int, interfaces := #[19, 3], accessFlags := 1041 }

/-- [Ljava/lang/Object; -/
def k36 : Class := { plain "[Ljava/lang/Object;" (some 0) with kind := .array 0 (.object "java/lang/Object"), interfaces := #[19, 3], accessFlags := 1041 }

/-- [Ljava/lang/String; -/
def k37 : Class := { plain "[Ljava/lang/String;" (some 0) with kind := .array 8 (.object "java/lang/String"), interfaces := #[19, 3], accessFlags := 1041 }

def heap : Heap := #[{ cls := 8, slots := #[.long 0, .int 1, .null, .int 0, .null, .int 0, .int 0], vm := .statics 8 },
  { cls := 25, slots := #[.null, .null, .ref 4, .null, .null, .null], vm := .statics 25 },
  { cls := 29, slots := #[.ref 4, .null], vm := .statics 29 },
  { cls := 31, slots := #[.null, .null, .null], vm := .statics 31 },
  { cls := 29, slots := #[.null, .null, .null], vm := .none }]
def classes : Array Class := #[k0, k1, k2, k3, k4, k5, k6, k7, k8, k9, k10, k11, k12, k13, k14, k15, k16, k17, k18, k19, k20, k21, k22, k23, k24, k25, k26, k27, k28, k29, k30, k31, k32, k33, k34, k35, k36, k37]
def interned : List (Array UInt16 × Addr) := []
def slotsUsed : Nat := 21
def theMethod : MethodId := ⟨1, 1⟩
def args0 : Array Value := #[.int 2, .int 65, .int 66, .int 67]
def aboutOver (below : List Frame) : State where
  vm := { classes := classes, interned := interned.toArray }
  heap := heap
  slotsUsed := slotsUsed
  threads := #[{ frames := .invoking theMethod args0 :: below }]
def below0 : List Frame := [.native { method := ⟨0, 0⟩, args := #[] }]
def about1 : State := aboutOver below0
def p0 : Program := .bare "" "" ""
def e0 : Env := launch0.env 0 0 0
theorem w_frames : about1.frames = Frame.invoking theMethod args0 :: below0 := rfl
set_option maxRecDepth 65536 in
theorem w_args : argsFit about1.vm theMethod args0 = true := by decide +kernel
set_option maxRecDepth 65536 in
theorem w_heap : heapFits about1 = true := by decide +kernel
set_option maxRecDepth 65536 in
theorem w_runnable : about1.curStatus? = some .runnable := by decide +kernel
set_option maxRecDepth 65536 in
theorem w_alone : about1.alone = true := by decide +kernel
set_option maxRecDepth 65536 in
theorem w_named : about1.methodNamed? x = some theMethod := by decide +kernel
set_option maxRecDepth 65536 in
theorem w_hears : about1.hears theMethod below0 = true := by decide +kernel
set_option maxRecDepth 65536 in
theorem w_ripe : about1.ripe theMethod args0 below0 = true := by decide +kernel
theorem w_running : about1.status = .running := rfl
set_option maxRecDepth 65536 in
theorem w_room : about1.hasRoom e0.platform room_1 = true :=
  launch0.hasRoom_least _ room_1 (by decide +kernel) (by decide +kernel) (by decide +kernel) (by decide +kernel) (by decide +kernel) (by decide +kernel)
theorem allAtoms_all (ts : List Jvm.Cond) (a : Array Jvm.Value) (st : Jvm.State) : (allAtoms ts).before a st = ts.all (fun c => c.before a st) := by
  induction ts with
  | nil => rfl
  | cons c t ih =>
    show (Jvm.Cond.and c (allAtoms t)).before a st = _
    rw [Jvm.Cond.before_and, ih, List.all_cons]
def words1 : List Jvm.Cond := Jvm.Cond.code x code maxLocals ret :: tables_1
/-- a 'code' word, met by the world's own term for the bytes: nothing is compared byte by byte -/
theorem code_word {y : MethodName} {bytes : ByteArray} {mx : Nat} {rt : Option FieldType} {a : Array Value} {s : State} {m : MethodId} {meth : Method} {c : Code} (h1 : s.methodNamed? y = some m) (h2 : s.vm.method? m = some meth) (h3 : meth.code = some c) (h4 : c.code = bytes)
    (h5 : (c.maxLocals == mx && c.exceptionTable.isEmpty && decide (c.maxStack ≤ mostOperands) && decide (meth.sig.returnType = rt) && !meth.locks && decide (parseMethodDescriptor y.desc = some meth.sig)) = true) : (Jvm.Cond.code y bytes mx rt).before a s = true := by
  simp only [Bool.and_eq_true, beq_iff_eq, Bool.not_eq_true', decide_eq_true_eq] at h5
  obtain ⟨⟨⟨⟨⟨g1, g2⟩, g3⟩, g4⟩, g5⟩, g6⟩ := h5
  simp [Cond.before, Cond.holds, Cond.value, h1, h2, h3, h4, g1, g2, g3, g4, g5, g6]
def isCode : Jvm.Cond → Bool
  | .code _ _ _ _ => true
  | _ => false
theorem all_split {L : List Jvm.Cond} {P : Jvm.Cond → Bool} (h1 : L.all (fun c => isCode c || P c) = true) (h2 : ∀ c ∈ L.filter isCode, P c = true) : L.all P = true := by
  refine List.all_eq_true.mpr fun c hc => ?_
  have h := List.all_eq_true.mp h1 c hc
  rcases Bool.eq_false_or_eq_true (isCode c) with hi | hi
  · exact h2 c (List.mem_filter.mpr ⟨hc, hi⟩)
  · simpa [hi] using h
set_option maxRecDepth 65536 in
theorem w_c0 : (Jvm.Cond.code x code maxLocals ret).before args0 about1 = true := code_word (m := ⟨1, 1⟩) (meth := k1m1) (c := k1c1) (by decide +kernel) rfl rfl rfl (by decide +kernel)
set_option maxRecDepth 65536 in
theorem w_c1 : (Jvm.Cond.code ({ cls := "java/lang/String", name := "valueOf", desc := "(C)Ljava/lang/String;" } : Jvm.MethodName) jdk_42_method_139_code (1 : Nat) (Option.some (Jvm.ClassFile.FieldType.object "java/lang/String"))).before args0 about1 = true := code_word (m := ⟨8, 6⟩) (meth := k8m6) (c := k8c6) (by decide +kernel) rfl rfl rfl (by decide +kernel)
set_option maxRecDepth 65536 in
theorem w_c2 : (Jvm.Cond.code ({ cls := "java/lang/StringLatin1", name := "canEncode", desc := "(C)Z" } : Jvm.MethodName) jdk_43_method_3_code (1 : Nat) (Option.some Jvm.ClassFile.FieldType.boolean)).before args0 about1 = true := code_word (m := ⟨9, 1⟩) (meth := k9m1) (c := k9c1) (by decide +kernel) rfl rfl rfl (by decide +kernel)
set_option maxRecDepth 65536 in
theorem w_c3 : (Jvm.Cond.code ({ cls := "java/lang/StringLatin1", name := "toBytes", desc := "(C)[B" } : Jvm.MethodName) jdk_43_method_46_code (1 : Nat) (Option.some (Jvm.ClassFile.FieldType.array Jvm.ClassFile.FieldType.byte))).before args0 about1 = true := code_word (m := ⟨9, 2⟩) (meth := k9m2) (c := k9c2) (by decide +kernel) rfl rfl rfl (by decide +kernel)
set_option maxRecDepth 65536 in
theorem w_c4 : (Jvm.Cond.code ({ cls := "java/lang/String", name := "<init>", desc := "([BB)V" } : Jvm.MethodName) jdk_42_method_151_code (3 : Nat) (Option.none : Option Jvm.ClassFile.FieldType)).before args0 about1 = true := code_word (m := ⟨8, 10⟩) (meth := k8m10) (c := k8c10) (by decide +kernel) rfl rfl rfl (by decide +kernel)
set_option maxRecDepth 65536 in
theorem w_c5 : (Jvm.Cond.code ({ cls := "java/lang/Object", name := "<init>", desc := "()V" } : Jvm.MethodName) object_method_1_code (1 : Nat) (Option.none : Option Jvm.ClassFile.FieldType)).before args0 about1 = true := code_word (m := ⟨0, 0⟩) (meth := k0m0) (c := k0c0) (by decide +kernel) rfl rfl rfl (by decide +kernel)
set_option maxRecDepth 65536 in
theorem w_c6 : (Jvm.Cond.code ({ cls := "com/example/cartolog/cartolog/xml/XmlDocument", name := "<init>", desc := "(Ljava/lang/String;Ljava/lang/String;[Ljava/lang/String;)V" } : Jvm.MethodName) prog_33_method_1_code (4 : Nat) (Option.none : Option Jvm.ClassFile.FieldType)).before args0 about1 = true := code_word (m := ⟨2, 0⟩) (meth := k2m0) (c := k2c0) (by decide +kernel) rfl rfl rfl (by decide +kernel)
set_option maxRecDepth 65536 in
theorem w_c7 : (Jvm.Cond.code ({ cls := "java/lang/StringBuilder", name := "<init>", desc := "()V" } : Jvm.MethodName) jdk_67_method_1_code (1 : Nat) (Option.none : Option Jvm.ClassFile.FieldType)).before args0 about1 = true := code_word (m := ⟨12, 0⟩) (meth := k12m0) (c := k12c0) (by decide +kernel) rfl rfl rfl (by decide +kernel)
set_option maxRecDepth 65536 in
theorem w_c8 : (Jvm.Cond.code ({ cls := "java/lang/AbstractStringBuilder", name := "<init>", desc := "(I)V" } : Jvm.MethodName) jdk_68_method_2_code (2 : Nat) (Option.none : Option Jvm.ClassFile.FieldType)).before args0 about1 = true := code_word (m := ⟨11, 1⟩) (meth := k11m1) (c := k11c1) (by decide +kernel) rfl rfl rfl (by decide +kernel)
set_option maxRecDepth 65536 in
theorem w_c9 : (Jvm.Cond.code ({ cls := "java/util/ArrayDeque", name := "<init>", desc := "()V" } : Jvm.MethodName) jdk_21_method_3_code (1 : Nat) (Option.none : Option Jvm.ClassFile.FieldType)).before args0 about1 = true := code_word (m := ⟨20, 0⟩) (meth := k20m0) (c := k20c0) (by decide +kernel) rfl rfl rfl (by decide +kernel)
set_option maxRecDepth 65536 in
theorem w_c10 : (Jvm.Cond.code ({ cls := "java/util/AbstractCollection", name := "<init>", desc := "()V" } : Jvm.MethodName) jdk_22_method_1_code (1 : Nat) (Option.none : Option Jvm.ClassFile.FieldType)).before args0 about1 = true := code_word (m := ⟨15, 0⟩) (meth := k15m0) (c := k15c0) (by decide +kernel) rfl rfl rfl (by decide +kernel)
set_option maxRecDepth 65536 in
theorem w_c11 : (Jvm.Cond.code ({ cls := "java/lang/StringBuilder", name := "append", desc := "(Ljava/lang/String;)Ljava/lang/StringBuilder;" } : Jvm.MethodName) jdk_67_method_7_code (2 : Nat) (Option.some (Jvm.ClassFile.FieldType.object "java/lang/StringBuilder"))).before args0 about1 = true := code_word (m := ⟨12, 1⟩) (meth := k12m1) (c := k12c1) (by decide +kernel) rfl rfl rfl (by decide +kernel)
set_option maxRecDepth 65536 in
theorem w_c12 : (Jvm.Cond.code ({ cls := "java/lang/AbstractStringBuilder", name := "append", desc := "(Ljava/lang/String;)Ljava/lang/AbstractStringBuilder;" } : Jvm.MethodName) jdk_68_method_22_code (3 : Nat) (Option.some (Jvm.ClassFile.FieldType.object "java/lang/AbstractStringBuilder"))).before args0 about1 = true := code_word (m := ⟨11, 5⟩) (meth := k11m5) (c := k11c5) (by decide +kernel) rfl rfl rfl (by decide +kernel)
set_option maxRecDepth 65536 in
theorem w_c13 : (Jvm.Cond.code ({ cls := "java/lang/String", name := "length", desc := "()I" } : Jvm.MethodName) jdk_42_method_54_code (1 : Nat) (Option.some Jvm.ClassFile.FieldType.int)).before args0 about1 = true := code_word (m := ⟨8, 4⟩) (meth := k8m4) (c := k8c4) (by decide +kernel) rfl rfl rfl (by decide +kernel)
set_option maxRecDepth 65536 in
theorem w_c14 : (Jvm.Cond.code ({ cls := "java/lang/String", name := "coder", desc := "()B" } : Jvm.MethodName) jdk_42_method_152_code (1 : Nat) (Option.some Jvm.ClassFile.FieldType.byte)).before args0 about1 = true := code_word (m := ⟨8, 11⟩) (meth := k8m11) (c := k8c11) (by decide +kernel) rfl rfl rfl (by decide +kernel)
set_option maxRecDepth 65536 in
theorem w_c15 : (Jvm.Cond.code ({ cls := "java/lang/AbstractStringBuilder", name := "ensureCapacityInternal", desc := "(I)V" } : Jvm.MethodName) jdk_68_method_9_code (3 : Nat) (Option.none : Option Jvm.ClassFile.FieldType)).before args0 about1 = true := code_word (m := ⟨11, 3⟩) (meth := k11m3) (c := k11c3) (by decide +kernel) rfl rfl rfl (by decide +kernel)
set_option maxRecDepth 65536 in
theorem w_c16 : (Jvm.Cond.code ({ cls := "java/lang/AbstractStringBuilder", name := "newCapacity", desc := "(I)I" } : Jvm.MethodName) jdk_68_method_10_code (6 : Nat) (Option.some Jvm.ClassFile.FieldType.int)).before args0 about1 = true := code_word (m := ⟨11, 4⟩) (meth := k11m4) (c := k11c4) (by decide +kernel) rfl rfl rfl (by decide +kernel)
set_option maxRecDepth 65536 in
theorem w_c17 : (Jvm.Cond.code ({ cls := "jdk/internal/util/ArraysSupport", name := "newLength", desc := "(III)I" } : Jvm.MethodName) jdk_48_method_27_code (4 : Nat) (Option.some Jvm.ClassFile.FieldType.int)).before args0 about1 = true := code_word (m := ⟨21, 1⟩) (meth := k21m1) (c := k21c1) (by decide +kernel) rfl rfl rfl (by decide +kernel)
set_option maxRecDepth 65536 in
theorem w_c18 : (Jvm.Cond.code ({ cls := "java/lang/Math", name := "max", desc := "(II)I" } : Jvm.MethodName) jdk_29_method_65_code (2 : Nat) (Option.some Jvm.ClassFile.FieldType.int)).before args0 about1 = true := code_word (m := ⟨22, 1⟩) (meth := k22m1) (c := k22c1) (by decide +kernel) rfl rfl rfl (by decide +kernel)
set_option maxRecDepth 65536 in
theorem w_c19 : (Jvm.Cond.code ({ cls := "java/util/Arrays", name := "copyOf", desc := "([BI)[B" } : Jvm.MethodName) jdk_65_method_121_code (3 : Nat) (Option.some (Jvm.ClassFile.FieldType.array Jvm.ClassFile.FieldType.byte))).before args0 about1 = true := code_word (m := ⟨23, 2⟩) (meth := k23m2) (c := k23c2) (by decide +kernel) rfl rfl rfl (by decide +kernel)
set_option maxRecDepth 65536 in
theorem w_c20 : (Jvm.Cond.code ({ cls := "java/lang/Math", name := "min", desc := "(II)I" } : Jvm.MethodName) jdk_29_method_69_code (2 : Nat) (Option.some Jvm.ClassFile.FieldType.int)).before args0 about1 = true := code_word (m := ⟨22, 2⟩) (meth := k22m2) (c := k22c2) (by decide +kernel) rfl rfl rfl (by decide +kernel)
set_option maxRecDepth 65536 in
theorem w_c21 : (Jvm.Cond.code ({ cls := "java/lang/AbstractStringBuilder", name := "putStringAt", desc := "(ILjava/lang/String;)V" } : Jvm.MethodName) jdk_68_method_73_code (3 : Nat) (Option.none : Option Jvm.ClassFile.FieldType)).before args0 about1 = true := code_word (m := ⟨11, 10⟩) (meth := k11m10) (c := k11c10) (by decide +kernel) rfl rfl rfl (by decide +kernel)
set_option maxRecDepth 65536 in
theorem w_c22 : (Jvm.Cond.code ({ cls := "java/lang/AbstractStringBuilder", name := "inflateIfNeededFor", desc := "(Ljava/lang/String;)V" } : Jvm.MethodName) jdk_68_method_71_code (2 : Nat) (Option.none : Option Jvm.ClassFile.FieldType)).before args0 about1 = true := code_word (m := ⟨11, 9⟩) (meth := k11m9) (c := k11c9) (by decide +kernel) rfl rfl rfl (by decide +kernel)
set_option maxRecDepth 65536 in
theorem w_c23 : (Jvm.Cond.code ({ cls := "java/lang/String", name := "getBytes", desc := "([BIB)V" } : Jvm.MethodName) jdk_42_method_147_code (4 : Nat) (Option.none : Option Jvm.ClassFile.FieldType)).before args0 about1 = true := code_word (m := ⟨8, 8⟩) (meth := k8m8) (c := k8c8) (by decide +kernel) rfl rfl rfl (by decide +kernel)
set_option maxRecDepth 65536 in
theorem w_c24 : (Jvm.Cond.code ({ cls := "com/example/cartolog/cartolog/xml/XmlDocument", name := "start", desc := "(Ljava/lang/String;[Ljava/lang/String;)Lcom/example/cartolog/cartolog/xml/XmlDocument;" } : Jvm.MethodName) prog_33_method_2_code (3 : Nat) (Option.some (Jvm.ClassFile.FieldType.object "com/example/cartolog/cartolog/xml/XmlDocument"))).before args0 about1 = true := code_word (m := ⟨2, 1⟩) (meth := k2m1) (c := k2c1) (by decide +kernel) rfl rfl rfl (by decide +kernel)
set_option maxRecDepth 65536 in
theorem w_c25 : (Jvm.Cond.code ({ cls := "com/example/cartolog/cartolog/xml/XmlDocument", name := "startTag", desc := "(Ljava/lang/String;[Ljava/lang/String;)Ljava/lang/StringBuilder;" } : Jvm.MethodName) prog_33_method_10_code (4 : Nat) (Option.some (Jvm.ClassFile.FieldType.object "java/lang/StringBuilder"))).before args0 about1 = true := code_word (m := ⟨2, 4⟩) (meth := k2m4) (c := k2c4) (by decide +kernel) rfl rfl rfl (by decide +kernel)
set_option maxRecDepth 65536 in
theorem w_c26 : (Jvm.Cond.code ({ cls := "com/example/cartolog/cartolog/xml/XmlDocument", name := "newLine", desc := "()V" } : Jvm.MethodName) prog_33_method_13_code (1 : Nat) (Option.none : Option Jvm.ClassFile.FieldType)).before args0 about1 = true := code_word (m := ⟨2, 5⟩) (meth := k2m5) (c := k2c5) (by decide +kernel) rfl rfl rfl (by decide +kernel)
set_option maxRecDepth 65536 in
theorem w_c27 : (Jvm.Cond.code ({ cls := "java/lang/StringBuilder", name := "append", desc := "(C)Ljava/lang/StringBuilder;" } : Jvm.MethodName) jdk_67_method_14_code (2 : Nat) (Option.some (Jvm.ClassFile.FieldType.object "java/lang/StringBuilder"))).before args0 about1 = true := code_word (m := ⟨12, 2⟩) (meth := k12m2) (c := k12c2) (by decide +kernel) rfl rfl rfl (by decide +kernel)
set_option maxRecDepth 65536 in
theorem w_c28 : (Jvm.Cond.code ({ cls := "java/lang/AbstractStringBuilder", name := "append", desc := "(C)Ljava/lang/AbstractStringBuilder;" } : Jvm.MethodName) jdk_68_method_31_code (2 : Nat) (Option.some (Jvm.ClassFile.FieldType.object "java/lang/AbstractStringBuilder"))).before args0 about1 = true := code_word (m := ⟨11, 6⟩) (meth := k11m6) (c := k11c6) (by decide +kernel) rfl rfl rfl (by decide +kernel)
set_option maxRecDepth 65536 in
theorem w_c29 : (Jvm.Cond.code ({ cls := "java/lang/AbstractStringBuilder", name := "isLatin1", desc := "()Z" } : Jvm.MethodName) jdk_68_method_68_code (1 : Nat) (Option.some Jvm.ClassFile.FieldType.boolean)).before args0 about1 = true := code_word (m := ⟨11, 8⟩) (meth := k11m8) (c := k11c8) (by decide +kernel) rfl rfl rfl (by decide +kernel)
set_option maxRecDepth 65536 in
theorem w_c30 : (Jvm.Cond.code ({ cls := "java/util/ArrayDeque", name := "size", desc := "()I" } : Jvm.MethodName) jdk_21_method_37_code (1 : Nat) (Option.some Jvm.ClassFile.FieldType.int)).before args0 about1 = true := code_word (m := ⟨20, 10⟩) (meth := k20m10) (c := k20c10) (by decide +kernel) rfl rfl rfl (by decide +kernel)
set_option maxRecDepth 65536 in
theorem w_c31 : (Jvm.Cond.code ({ cls := "java/util/ArrayDeque", name := "sub", desc := "(III)I" } : Jvm.MethodName) jdk_21_method_9_code (3 : Nat) (Option.some Jvm.ClassFile.FieldType.int)).before args0 about1 = true := code_word (m := ⟨20, 3⟩) (meth := k20m3) (c := k20c3) (by decide +kernel) rfl rfl rfl (by decide +kernel)
set_option maxRecDepth 65536 in
theorem w_c32 : (Jvm.Cond.code ({ cls := "java/lang/String", name := "repeat", desc := "(I)Ljava/lang/String;" } : Jvm.MethodName) jdk_42_method_145_code (5 : Nat) (Option.some (Jvm.ClassFile.FieldType.object "java/lang/String"))).before args0 about1 = true := code_word (m := ⟨8, 7⟩) (meth := k8m7) (c := k8c7) (by decide +kernel) rfl rfl rfl (by decide +kernel)
set_option maxRecDepth 65536 in
theorem w_c33 : (Jvm.Cond.code ({ cls := "java/util/ArrayDeque", name := "push", desc := "(Ljava/lang/Object;)V" } : Jvm.MethodName) jdk_21_method_34_code (2 : Nat) (Option.none : Option Jvm.ClassFile.FieldType)).before args0 about1 = true := code_word (m := ⟨20, 8⟩) (meth := k20m8) (c := k20c8) (by decide +kernel) rfl rfl rfl (by decide +kernel)
set_option maxRecDepth 65536 in
theorem w_c34 : (Jvm.Cond.code ({ cls := "java/util/ArrayDeque", name := "addFirst", desc := "(Ljava/lang/Object;)V" } : Jvm.MethodName) jdk_21_method_12_code (3 : Nat) (Option.none : Option Jvm.ClassFile.FieldType)).before args0 about1 = true := code_word (m := ⟨20, 5⟩) (meth := k20m5) (c := k20c5) (by decide +kernel) rfl rfl rfl (by decide +kernel)
set_option maxRecDepth 65536 in
theorem w_c35 : (Jvm.Cond.code ({ cls := "java/util/ArrayDeque", name := "dec", desc := "(II)I" } : Jvm.MethodName) jdk_21_method_7_code (2 : Nat) (Option.some Jvm.ClassFile.FieldType.int)).before args0 about1 = true := code_word (m := ⟨20, 2⟩) (meth := k20m2) (c := k20c2) (by decide +kernel) rfl rfl rfl (by decide +kernel)
set_option maxRecDepth 65536 in
theorem w_c36 : (Jvm.Cond.code ({ cls := "com/example/cartolog/cartolog/xml/XmlDocument", name := "finish", desc := "()[B" } : Jvm.MethodName) prog_33_method_8_code (1 : Nat) (Option.some (Jvm.ClassFile.FieldType.array Jvm.ClassFile.FieldType.byte))).before args0 about1 = true := code_word (m := ⟨2, 3⟩) (meth := k2m3) (c := k2c3) (by decide +kernel) rfl rfl rfl (by decide +kernel)
set_option maxRecDepth 65536 in
theorem w_c37 : (Jvm.Cond.code ({ cls := "com/example/cartolog/cartolog/xml/XmlDocument", name := "end", desc := "()Lcom/example/cartolog/cartolog/xml/XmlDocument;" } : Jvm.MethodName) prog_33_method_3_code (2 : Nat) (Option.some (Jvm.ClassFile.FieldType.object "com/example/cartolog/cartolog/xml/XmlDocument"))).before args0 about1 = true := code_word (m := ⟨2, 2⟩) (meth := k2m2) (c := k2c2) (by decide +kernel) rfl rfl rfl (by decide +kernel)
set_option maxRecDepth 65536 in
theorem w_c38 : (Jvm.Cond.code ({ cls := "java/util/ArrayDeque", name := "pop", desc := "()Ljava/lang/Object;" } : Jvm.MethodName) jdk_21_method_35_code (1 : Nat) (Option.some (Jvm.ClassFile.FieldType.object "java/lang/Object"))).before args0 about1 = true := code_word (m := ⟨20, 9⟩) (meth := k20m9) (c := k20c9) (by decide +kernel) rfl rfl rfl (by decide +kernel)
set_option maxRecDepth 65536 in
theorem w_c39 : (Jvm.Cond.code ({ cls := "java/util/ArrayDeque", name := "removeFirst", desc := "()Ljava/lang/Object;" } : Jvm.MethodName) jdk_21_method_18_code (2 : Nat) (Option.some (Jvm.ClassFile.FieldType.object "java/lang/Object"))).before args0 about1 = true := code_word (m := ⟨20, 6⟩) (meth := k20m6) (c := k20c6) (by decide +kernel) rfl rfl rfl (by decide +kernel)
set_option maxRecDepth 65536 in
theorem w_c40 : (Jvm.Cond.code ({ cls := "java/util/ArrayDeque", name := "pollFirst", desc := "()Ljava/lang/Object;" } : Jvm.MethodName) jdk_21_method_20_code (4 : Nat) (Option.some (Jvm.ClassFile.FieldType.object "java/lang/Object"))).before args0 about1 = true := code_word (m := ⟨20, 7⟩) (meth := k20m7) (c := k20c7) (by decide +kernel) rfl rfl rfl (by decide +kernel)
set_option maxRecDepth 65536 in
theorem w_c41 : (Jvm.Cond.code ({ cls := "java/util/ArrayDeque", name := "elementAt", desc := "([Ljava/lang/Object;I)Ljava/lang/Object;" } : Jvm.MethodName) jdk_21_method_10_code (2 : Nat) (Option.some (Jvm.ClassFile.FieldType.object "java/lang/Object"))).before args0 about1 = true := code_word (m := ⟨20, 4⟩) (meth := k20m4) (c := k20c4) (by decide +kernel) rfl rfl rfl (by decide +kernel)
set_option maxRecDepth 65536 in
theorem w_c42 : (Jvm.Cond.code ({ cls := "java/util/ArrayDeque", name := "inc", desc := "(II)I" } : Jvm.MethodName) jdk_21_method_6_code (2 : Nat) (Option.some Jvm.ClassFile.FieldType.int)).before args0 about1 = true := code_word (m := ⟨20, 1⟩) (meth := k20m1) (c := k20c1) (by decide +kernel) rfl rfl rfl (by decide +kernel)
set_option maxRecDepth 65536 in
theorem w_c43 : (Jvm.Cond.code ({ cls := "java/util/ArrayDeque", name := "isEmpty", desc := "()Z" } : Jvm.MethodName) jdk_21_method_38_code (1 : Nat) (Option.some Jvm.ClassFile.FieldType.boolean)).before args0 about1 = true := code_word (m := ⟨20, 11⟩) (meth := k20m11) (c := k20c11) (by decide +kernel) rfl rfl rfl (by decide +kernel)
set_option maxRecDepth 65536 in
theorem w_c44 : (Jvm.Cond.code ({ cls := "java/lang/StringBuilder", name := "toString", desc := "()Ljava/lang/String;" } : Jvm.MethodName) jdk_67_method_42_code (1 : Nat) (Option.some (Jvm.ClassFile.FieldType.object "java/lang/String"))).before args0 about1 = true := code_word (m := ⟨12, 3⟩) (meth := k12m3) (c := k12c3) (by decide +kernel) rfl rfl rfl (by decide +kernel)
set_option maxRecDepth 65536 in
theorem w_c45 : (Jvm.Cond.code ({ cls := "java/lang/String", name := "<init>", desc := "(Ljava/lang/StringBuilder;)V" } : Jvm.MethodName) jdk_42_method_53_code (2 : Nat) (Option.none : Option Jvm.ClassFile.FieldType)).before args0 about1 = true := code_word (m := ⟨8, 3⟩) (meth := k8m3) (c := k8c3) (by decide +kernel) rfl rfl rfl (by decide +kernel)
set_option maxRecDepth 65536 in
theorem w_c46 : (Jvm.Cond.code ({ cls := "java/lang/String", name := "<init>", desc := "(Ljava/lang/AbstractStringBuilder;Ljava/lang/Void;)V" } : Jvm.MethodName) jdk_42_method_150_code (5 : Nat) (Option.none : Option Jvm.ClassFile.FieldType)).before args0 about1 = true := code_word (m := ⟨8, 9⟩) (meth := k8m9) (c := k8c9) (by decide +kernel) rfl rfl rfl (by decide +kernel)
set_option maxRecDepth 65536 in
theorem w_c47 : (Jvm.Cond.code ({ cls := "java/lang/AbstractStringBuilder", name := "getValue", desc := "()[B" } : Jvm.MethodName) jdk_68_method_64_code (1 : Nat) (Option.some (Jvm.ClassFile.FieldType.array Jvm.ClassFile.FieldType.byte))).before args0 about1 = true := code_word (m := ⟨11, 7⟩) (meth := k11m7) (c := k11c7) (by decide +kernel) rfl rfl rfl (by decide +kernel)
set_option maxRecDepth 65536 in
theorem w_c48 : (Jvm.Cond.code ({ cls := "java/lang/StringBuilder", name := "length", desc := "()I" } : Jvm.MethodName) jdk_67_method_93_code (1 : Nat) (Option.some Jvm.ClassFile.FieldType.int)).before args0 about1 = true := code_word (m := ⟨12, 4⟩) (meth := k12m4) (c := k12c4) (by decide +kernel) rfl rfl rfl (by decide +kernel)
set_option maxRecDepth 65536 in
theorem w_c49 : (Jvm.Cond.code ({ cls := "java/lang/AbstractStringBuilder", name := "length", desc := "()I" } : Jvm.MethodName) jdk_68_method_6_code (1 : Nat) (Option.some Jvm.ClassFile.FieldType.int)).before args0 about1 = true := code_word (m := ⟨11, 2⟩) (meth := k11m2) (c := k11c2) (by decide +kernel) rfl rfl rfl (by decide +kernel)
set_option maxRecDepth 65536 in
theorem w_c50 : (Jvm.Cond.code ({ cls := "java/util/Arrays", name := "copyOfRange", desc := "([BII)[B" } : Jvm.MethodName) jdk_65_method_132_code (3 : Nat) (Option.some (Jvm.ClassFile.FieldType.array Jvm.ClassFile.FieldType.byte))).before args0 about1 = true := code_word (m := ⟨23, 4⟩) (meth := k23m4) (c := k23c4) (by decide +kernel) rfl rfl rfl (by decide +kernel)
set_option maxRecDepth 65536 in
theorem w_c51 : (Jvm.Cond.code ({ cls := "java/util/Arrays", name := "copyOfRangeByte", desc := "([BII)[B" } : Jvm.MethodName) jdk_65_method_133_code (5 : Nat) (Option.some (Jvm.ClassFile.FieldType.array Jvm.ClassFile.FieldType.byte))).before args0 about1 = true := code_word (m := ⟨23, 5⟩) (meth := k23m5) (c := k23c5) (by decide +kernel) rfl rfl rfl (by decide +kernel)
set_option maxRecDepth 65536 in
theorem w_c52 : (Jvm.Cond.code ({ cls := "java/util/Arrays", name := "checkLength", desc := "(II)V" } : Jvm.MethodName) jdk_65_method_131_code (2 : Nat) (Option.none : Option Jvm.ClassFile.FieldType)).before args0 about1 = true := code_word (m := ⟨23, 3⟩) (meth := k23m3) (c := k23c3) (by decide +kernel) rfl rfl rfl (by decide +kernel)
set_option maxRecDepth 65536 in
theorem w_c53 : (Jvm.Cond.code ({ cls := "java/lang/String", name := "getBytes", desc := "(Ljava/nio/charset/Charset;)[B" } : Jvm.MethodName) jdk_42_method_64_code (2 : Nat) (Option.some (Jvm.ClassFile.FieldType.array Jvm.ClassFile.FieldType.byte))).before args0 about1 = true := code_word (m := ⟨8, 5⟩) (meth := k8m5) (c := k8c5) (by decide +kernel) rfl rfl rfl (by decide +kernel)
set_option maxRecDepth 65536 in
theorem w_c54 : (Jvm.Cond.code ({ cls := "java/lang/String", name := "encode", desc := "(Ljava/nio/charset/Charset;B[B)[B" } : Jvm.MethodName) jdk_42_method_18_code (3 : Nat) (Option.some (Jvm.ClassFile.FieldType.array Jvm.ClassFile.FieldType.byte))).before args0 about1 = true := code_word (m := ⟨8, 1⟩) (meth := k8m1) (c := k8c1) (by decide +kernel) rfl rfl rfl (by decide +kernel)
set_option maxRecDepth 65536 in
theorem w_c55 : (Jvm.Cond.code ({ cls := "java/lang/String", name := "encodeUTF8", desc := "(B[BZ)[B" } : Jvm.MethodName) jdk_42_method_46_code (9 : Nat) (Option.some (Jvm.ClassFile.FieldType.array Jvm.ClassFile.FieldType.byte))).before args0 about1 = true := code_word (m := ⟨8, 2⟩) (meth := k8m2) (c := k8c2) (by decide +kernel) rfl rfl rfl (by decide +kernel)
set_option maxRecDepth 65536 in
theorem w_c56 : (Jvm.Cond.code ({ cls := "java/lang/StringCoding", name := "hasNegatives", desc := "([BII)Z" } : Jvm.MethodName) jdk_123_method_2_code (3 : Nat) (Option.some Jvm.ClassFile.FieldType.boolean)).before args0 about1 = true := code_word (m := ⟨30, 1⟩) (meth := k30m1) (c := k30c1) (by decide +kernel) rfl rfl rfl (by decide +kernel)
set_option maxRecDepth 65536 in
theorem w_c57 : (Jvm.Cond.code ({ cls := "java/lang/StringCoding", name := "countPositives", desc := "([BII)I" } : Jvm.MethodName) jdk_123_method_3_code (5 : Nat) (Option.some Jvm.ClassFile.FieldType.int)).before args0 about1 = true := code_word (m := ⟨30, 2⟩) (meth := k30m2) (c := k30c2) (by decide +kernel) rfl rfl rfl (by decide +kernel)
set_option maxRecDepth 65536 in
theorem w_c58 : (Jvm.Cond.code ({ cls := "com/example/cartolog/cartolog/xml/XmlDocumentEndPinLaw", name := "tag", desc := "([BIIZC)I" } : Jvm.MethodName) method_3_code (7 : Nat) (Option.some Jvm.ClassFile.FieldType.int)).before args0 about1 = true := code_word (m := ⟨1, 2⟩) (meth := k1m2) (c := k1c2) (by decide +kernel) rfl rfl rfl (by decide +kernel)
set_option maxRecDepth 65536 in
theorem w_c59 : (Jvm.Cond.code ({ cls := "java/util/Arrays", name := "fill", desc := "([BB)V" } : Jvm.MethodName) jdk_65_method_109_code (4 : Nat) (Option.none : Option Jvm.ClassFile.FieldType)).before args0 about1 = true := code_word (m := ⟨23, 1⟩) (meth := k23m1) (c := k23c1) (by decide +kernel) rfl rfl rfl (by decide +kernel)
def codes1 : List Jvm.Cond := [Jvm.Cond.code x code maxLocals ret, Jvm.Cond.code ({ cls := "java/lang/String", name := "valueOf", desc := "(C)Ljava/lang/String;" } : Jvm.MethodName) jdk_42_method_139_code (1 : Nat) (Option.some (Jvm.ClassFile.FieldType.object "java/lang/String")), Jvm.Cond.code ({ cls := "java/lang/StringLatin1", name := "canEncode", desc := "(C)Z" } : Jvm.MethodName) jdk_43_method_3_code (1 : Nat) (Option.some Jvm.ClassFile.FieldType.boolean), Jvm.Cond.code ({ cls := "java/lang/StringLatin1", name := "toBytes", desc := "(C)[B" } : Jvm.MethodName) jdk_43_method_46_code (1 : Nat) (Option.some (Jvm.ClassFile.FieldType.array Jvm.ClassFile.FieldType.byte)), Jvm.Cond.code ({ cls := "java/lang/String", name := "<init>", desc := "([BB)V" } : Jvm.MethodName) jdk_42_method_151_code (3 : Nat) (Option.none : Option Jvm.ClassFile.FieldType), Jvm.Cond.code ({ cls := "java/lang/Object", name := "<init>", desc := "()V" } : Jvm.MethodName) object_method_1_code (1 : Nat) (Option.none : Option Jvm.ClassFile.FieldType), Jvm.Cond.code ({ cls := "com/example/cartolog/cartolog/xml/XmlDocument", name := "<init>", desc := "(Ljava/lang/String;Ljava/lang/String;[Ljava/lang/String;)V" } : Jvm.MethodName) prog_33_method_1_code (4 : Nat) (Option.none : Option Jvm.ClassFile.FieldType), Jvm.Cond.code ({ cls := "java/lang/StringBuilder", name := "<init>", desc := "()V" } : Jvm.MethodName) jdk_67_method_1_code (1 : Nat) (Option.none : Option Jvm.ClassFile.FieldType), Jvm.Cond.code ({ cls := "java/lang/AbstractStringBuilder", name := "<init>", desc := "(I)V" } : Jvm.MethodName) jdk_68_method_2_code (2 : Nat) (Option.none : Option Jvm.ClassFile.FieldType), Jvm.Cond.code ({ cls := "java/util/ArrayDeque", name := "<init>", desc := "()V" } : Jvm.MethodName) jdk_21_method_3_code (1 : Nat) (Option.none : Option Jvm.ClassFile.FieldType), Jvm.Cond.code ({ cls := "java/util/AbstractCollection", name := "<init>", desc := "()V" } : Jvm.MethodName) jdk_22_method_1_code (1 : Nat) (Option.none : Option Jvm.ClassFile.FieldType), Jvm.Cond.code ({ cls := "java/lang/StringBuilder", name := "append", desc := "(Ljava/lang/String;)Ljava/lang/StringBuilder;" } : Jvm.MethodName) jdk_67_method_7_code (2 : Nat) (Option.some (Jvm.ClassFile.FieldType.object "java/lang/StringBuilder")), Jvm.Cond.code ({ cls := "java/lang/AbstractStringBuilder", name := "append", desc := "(Ljava/lang/String;)Ljava/lang/AbstractStringBuilder;" } : Jvm.MethodName) jdk_68_method_22_code (3 : Nat) (Option.some (Jvm.ClassFile.FieldType.object "java/lang/AbstractStringBuilder")), Jvm.Cond.code ({ cls := "java/lang/String", name := "length", desc := "()I" } : Jvm.MethodName) jdk_42_method_54_code (1 : Nat) (Option.some Jvm.ClassFile.FieldType.int), Jvm.Cond.code ({ cls := "java/lang/String", name := "coder", desc := "()B" } : Jvm.MethodName) jdk_42_method_152_code (1 : Nat) (Option.some Jvm.ClassFile.FieldType.byte), Jvm.Cond.code ({ cls := "java/lang/AbstractStringBuilder", name := "ensureCapacityInternal", desc := "(I)V" } : Jvm.MethodName) jdk_68_method_9_code (3 : Nat) (Option.none : Option Jvm.ClassFile.FieldType), Jvm.Cond.code ({ cls := "java/lang/AbstractStringBuilder", name := "newCapacity", desc := "(I)I" } : Jvm.MethodName) jdk_68_method_10_code (6 : Nat) (Option.some Jvm.ClassFile.FieldType.int), Jvm.Cond.code ({ cls := "jdk/internal/util/ArraysSupport", name := "newLength", desc := "(III)I" } : Jvm.MethodName) jdk_48_method_27_code (4 : Nat) (Option.some Jvm.ClassFile.FieldType.int), Jvm.Cond.code ({ cls := "java/lang/Math", name := "max", desc := "(II)I" } : Jvm.MethodName) jdk_29_method_65_code (2 : Nat) (Option.some Jvm.ClassFile.FieldType.int), Jvm.Cond.code ({ cls := "java/util/Arrays", name := "copyOf", desc := "([BI)[B" } : Jvm.MethodName) jdk_65_method_121_code (3 : Nat) (Option.some (Jvm.ClassFile.FieldType.array Jvm.ClassFile.FieldType.byte)), Jvm.Cond.code ({ cls := "java/lang/Math", name := "min", desc := "(II)I" } : Jvm.MethodName) jdk_29_method_69_code (2 : Nat) (Option.some Jvm.ClassFile.FieldType.int), Jvm.Cond.code ({ cls := "java/lang/AbstractStringBuilder", name := "putStringAt", desc := "(ILjava/lang/String;)V" } : Jvm.MethodName) jdk_68_method_73_code (3 : Nat) (Option.none : Option Jvm.ClassFile.FieldType), Jvm.Cond.code ({ cls := "java/lang/AbstractStringBuilder", name := "inflateIfNeededFor", desc := "(Ljava/lang/String;)V" } : Jvm.MethodName) jdk_68_method_71_code (2 : Nat) (Option.none : Option Jvm.ClassFile.FieldType), Jvm.Cond.code ({ cls := "java/lang/String", name := "getBytes", desc := "([BIB)V" } : Jvm.MethodName) jdk_42_method_147_code (4 : Nat) (Option.none : Option Jvm.ClassFile.FieldType), Jvm.Cond.code ({ cls := "com/example/cartolog/cartolog/xml/XmlDocument", name := "start", desc := "(Ljava/lang/String;[Ljava/lang/String;)Lcom/example/cartolog/cartolog/xml/XmlDocument;" } : Jvm.MethodName) prog_33_method_2_code (3 : Nat) (Option.some (Jvm.ClassFile.FieldType.object "com/example/cartolog/cartolog/xml/XmlDocument")), Jvm.Cond.code ({ cls := "com/example/cartolog/cartolog/xml/XmlDocument", name := "startTag", desc := "(Ljava/lang/String;[Ljava/lang/String;)Ljava/lang/StringBuilder;" } : Jvm.MethodName) prog_33_method_10_code (4 : Nat) (Option.some (Jvm.ClassFile.FieldType.object "java/lang/StringBuilder")), Jvm.Cond.code ({ cls := "com/example/cartolog/cartolog/xml/XmlDocument", name := "newLine", desc := "()V" } : Jvm.MethodName) prog_33_method_13_code (1 : Nat) (Option.none : Option Jvm.ClassFile.FieldType), Jvm.Cond.code ({ cls := "java/lang/StringBuilder", name := "append", desc := "(C)Ljava/lang/StringBuilder;" } : Jvm.MethodName) jdk_67_method_14_code (2 : Nat) (Option.some (Jvm.ClassFile.FieldType.object "java/lang/StringBuilder")), Jvm.Cond.code ({ cls := "java/lang/AbstractStringBuilder", name := "append", desc := "(C)Ljava/lang/AbstractStringBuilder;" } : Jvm.MethodName) jdk_68_method_31_code (2 : Nat) (Option.some (Jvm.ClassFile.FieldType.object "java/lang/AbstractStringBuilder")), Jvm.Cond.code ({ cls := "java/lang/AbstractStringBuilder", name := "isLatin1", desc := "()Z" } : Jvm.MethodName) jdk_68_method_68_code (1 : Nat) (Option.some Jvm.ClassFile.FieldType.boolean), Jvm.Cond.code ({ cls := "java/util/ArrayDeque", name := "size", desc := "()I" } : Jvm.MethodName) jdk_21_method_37_code (1 : Nat) (Option.some Jvm.ClassFile.FieldType.int), Jvm.Cond.code ({ cls := "java/util/ArrayDeque", name := "sub", desc := "(III)I" } : Jvm.MethodName) jdk_21_method_9_code (3 : Nat) (Option.some Jvm.ClassFile.FieldType.int), Jvm.Cond.code ({ cls := "java/lang/String", name := "repeat", desc := "(I)Ljava/lang/String;" } : Jvm.MethodName) jdk_42_method_145_code (5 : Nat) (Option.some (Jvm.ClassFile.FieldType.object "java/lang/String")), Jvm.Cond.code ({ cls := "java/util/ArrayDeque", name := "push", desc := "(Ljava/lang/Object;)V" } : Jvm.MethodName) jdk_21_method_34_code (2 : Nat) (Option.none : Option Jvm.ClassFile.FieldType), Jvm.Cond.code ({ cls := "java/util/ArrayDeque", name := "addFirst", desc := "(Ljava/lang/Object;)V" } : Jvm.MethodName) jdk_21_method_12_code (3 : Nat) (Option.none : Option Jvm.ClassFile.FieldType), Jvm.Cond.code ({ cls := "java/util/ArrayDeque", name := "dec", desc := "(II)I" } : Jvm.MethodName) jdk_21_method_7_code (2 : Nat) (Option.some Jvm.ClassFile.FieldType.int), Jvm.Cond.code ({ cls := "com/example/cartolog/cartolog/xml/XmlDocument", name := "finish", desc := "()[B" } : Jvm.MethodName) prog_33_method_8_code (1 : Nat) (Option.some (Jvm.ClassFile.FieldType.array Jvm.ClassFile.FieldType.byte)), Jvm.Cond.code ({ cls := "com/example/cartolog/cartolog/xml/XmlDocument", name := "end", desc := "()Lcom/example/cartolog/cartolog/xml/XmlDocument;" } : Jvm.MethodName) prog_33_method_3_code (2 : Nat) (Option.some (Jvm.ClassFile.FieldType.object "com/example/cartolog/cartolog/xml/XmlDocument")), Jvm.Cond.code ({ cls := "java/util/ArrayDeque", name := "pop", desc := "()Ljava/lang/Object;" } : Jvm.MethodName) jdk_21_method_35_code (1 : Nat) (Option.some (Jvm.ClassFile.FieldType.object "java/lang/Object")), Jvm.Cond.code ({ cls := "java/util/ArrayDeque", name := "removeFirst", desc := "()Ljava/lang/Object;" } : Jvm.MethodName) jdk_21_method_18_code (2 : Nat) (Option.some (Jvm.ClassFile.FieldType.object "java/lang/Object")), Jvm.Cond.code ({ cls := "java/util/ArrayDeque", name := "pollFirst", desc := "()Ljava/lang/Object;" } : Jvm.MethodName) jdk_21_method_20_code (4 : Nat) (Option.some (Jvm.ClassFile.FieldType.object "java/lang/Object")), Jvm.Cond.code ({ cls := "java/util/ArrayDeque", name := "elementAt", desc := "([Ljava/lang/Object;I)Ljava/lang/Object;" } : Jvm.MethodName) jdk_21_method_10_code (2 : Nat) (Option.some (Jvm.ClassFile.FieldType.object "java/lang/Object")), Jvm.Cond.code ({ cls := "java/util/ArrayDeque", name := "inc", desc := "(II)I" } : Jvm.MethodName) jdk_21_method_6_code (2 : Nat) (Option.some Jvm.ClassFile.FieldType.int), Jvm.Cond.code ({ cls := "java/util/ArrayDeque", name := "isEmpty", desc := "()Z" } : Jvm.MethodName) jdk_21_method_38_code (1 : Nat) (Option.some Jvm.ClassFile.FieldType.boolean), Jvm.Cond.code ({ cls := "java/lang/StringBuilder", name := "toString", desc := "()Ljava/lang/String;" } : Jvm.MethodName) jdk_67_method_42_code (1 : Nat) (Option.some (Jvm.ClassFile.FieldType.object "java/lang/String")), Jvm.Cond.code ({ cls := "java/lang/String", name := "<init>", desc := "(Ljava/lang/StringBuilder;)V" } : Jvm.MethodName) jdk_42_method_53_code (2 : Nat) (Option.none : Option Jvm.ClassFile.FieldType), Jvm.Cond.code ({ cls := "java/lang/String", name := "<init>", desc := "(Ljava/lang/AbstractStringBuilder;Ljava/lang/Void;)V" } : Jvm.MethodName) jdk_42_method_150_code (5 : Nat) (Option.none : Option Jvm.ClassFile.FieldType), Jvm.Cond.code ({ cls := "java/lang/AbstractStringBuilder", name := "getValue", desc := "()[B" } : Jvm.MethodName) jdk_68_method_64_code (1 : Nat) (Option.some (Jvm.ClassFile.FieldType.array Jvm.ClassFile.FieldType.byte)), Jvm.Cond.code ({ cls := "java/lang/StringBuilder", name := "length", desc := "()I" } : Jvm.MethodName) jdk_67_method_93_code (1 : Nat) (Option.some Jvm.ClassFile.FieldType.int), Jvm.Cond.code ({ cls := "java/lang/AbstractStringBuilder", name := "length", desc := "()I" } : Jvm.MethodName) jdk_68_method_6_code (1 : Nat) (Option.some Jvm.ClassFile.FieldType.int), Jvm.Cond.code ({ cls := "java/util/Arrays", name := "copyOfRange", desc := "([BII)[B" } : Jvm.MethodName) jdk_65_method_132_code (3 : Nat) (Option.some (Jvm.ClassFile.FieldType.array Jvm.ClassFile.FieldType.byte)), Jvm.Cond.code ({ cls := "java/util/Arrays", name := "copyOfRangeByte", desc := "([BII)[B" } : Jvm.MethodName) jdk_65_method_133_code (5 : Nat) (Option.some (Jvm.ClassFile.FieldType.array Jvm.ClassFile.FieldType.byte)), Jvm.Cond.code ({ cls := "java/util/Arrays", name := "checkLength", desc := "(II)V" } : Jvm.MethodName) jdk_65_method_131_code (2 : Nat) (Option.none : Option Jvm.ClassFile.FieldType), Jvm.Cond.code ({ cls := "java/lang/String", name := "getBytes", desc := "(Ljava/nio/charset/Charset;)[B" } : Jvm.MethodName) jdk_42_method_64_code (2 : Nat) (Option.some (Jvm.ClassFile.FieldType.array Jvm.ClassFile.FieldType.byte)), Jvm.Cond.code ({ cls := "java/lang/String", name := "encode", desc := "(Ljava/nio/charset/Charset;B[B)[B" } : Jvm.MethodName) jdk_42_method_18_code (3 : Nat) (Option.some (Jvm.ClassFile.FieldType.array Jvm.ClassFile.FieldType.byte)), Jvm.Cond.code ({ cls := "java/lang/String", name := "encodeUTF8", desc := "(B[BZ)[B" } : Jvm.MethodName) jdk_42_method_46_code (9 : Nat) (Option.some (Jvm.ClassFile.FieldType.array Jvm.ClassFile.FieldType.byte)), Jvm.Cond.code ({ cls := "java/lang/StringCoding", name := "hasNegatives", desc := "([BII)Z" } : Jvm.MethodName) jdk_123_method_2_code (3 : Nat) (Option.some Jvm.ClassFile.FieldType.boolean), Jvm.Cond.code ({ cls := "java/lang/StringCoding", name := "countPositives", desc := "([BII)I" } : Jvm.MethodName) jdk_123_method_3_code (5 : Nat) (Option.some Jvm.ClassFile.FieldType.int), Jvm.Cond.code ({ cls := "com/example/cartolog/cartolog/xml/XmlDocumentEndPinLaw", name := "tag", desc := "([BIIZC)I" } : Jvm.MethodName) method_3_code (7 : Nat) (Option.some Jvm.ClassFile.FieldType.int), Jvm.Cond.code ({ cls := "java/util/Arrays", name := "fill", desc := "([BB)V" } : Jvm.MethodName) jdk_65_method_109_code (4 : Nat) (Option.none : Option Jvm.ClassFile.FieldType)]
set_option maxRecDepth 65536 in
theorem codes_eq : words1.filter isCode = codes1 := rfl
theorem w_codes : ∀ c ∈ words1.filter isCode, c.before args0 about1 = true := by
  rw [codes_eq]
  intro c hc
  simp only [codes1, List.mem_cons, List.not_mem_nil, or_false] at hc
  rcases hc with rfl | rfl | rfl | rfl | rfl | rfl | rfl | rfl | rfl | rfl | rfl | rfl | rfl | rfl | rfl | rfl | rfl | rfl | rfl | rfl | rfl | rfl | rfl | rfl | rfl | rfl | rfl | rfl | rfl | rfl | rfl | rfl | rfl | rfl | rfl | rfl | rfl | rfl | rfl | rfl | rfl | rfl | rfl | rfl | rfl | rfl | rfl | rfl | rfl | rfl | rfl | rfl | rfl | rfl | rfl | rfl | rfl | rfl | rfl | rfl
  · exact w_c0
  · exact w_c1
  · exact w_c2
  · exact w_c3
  · exact w_c4
  · exact w_c5
  · exact w_c6
  · exact w_c7
  · exact w_c8
  · exact w_c9
  · exact w_c10
  · exact w_c11
  · exact w_c12
  · exact w_c13
  · exact w_c14
  · exact w_c15
  · exact w_c16
  · exact w_c17
  · exact w_c18
  · exact w_c19
  · exact w_c20
  · exact w_c21
  · exact w_c22
  · exact w_c23
  · exact w_c24
  · exact w_c25
  · exact w_c26
  · exact w_c27
  · exact w_c28
  · exact w_c29
  · exact w_c30
  · exact w_c31
  · exact w_c32
  · exact w_c33
  · exact w_c34
  · exact w_c35
  · exact w_c36
  · exact w_c37
  · exact w_c38
  · exact w_c39
  · exact w_c40
  · exact w_c41
  · exact w_c42
  · exact w_c43
  · exact w_c44
  · exact w_c45
  · exact w_c46
  · exact w_c47
  · exact w_c48
  · exact w_c49
  · exact w_c50
  · exact w_c51
  · exact w_c52
  · exact w_c53
  · exact w_c54
  · exact w_c55
  · exact w_c56
  · exact w_c57
  · exact w_c58
  · exact w_c59
set_option maxRecDepth 65536 in
theorem w_t1 : (words1.take 24).all (fun c => isCode c || c.before args0 about1) = true := by decide +kernel
set_option maxRecDepth 65536 in
theorem w_t2 : ((words1.drop 24).take 24).all (fun c => isCode c || c.before args0 about1) = true := by decide +kernel
set_option maxRecDepth 65536 in
theorem w_t3 : (((words1.drop 24).drop 24).take 24).all (fun c => isCode c || c.before args0 about1) = true := by decide +kernel
set_option maxRecDepth 65536 in
theorem w_t4 : ((((words1.drop 24).drop 24).drop 24).take 24).all (fun c => isCode c || c.before args0 about1) = true := by decide +kernel
set_option maxRecDepth 65536 in
theorem w_t5 : (((((words1.drop 24).drop 24).drop 24).drop 24).take 24).all (fun c => isCode c || c.before args0 about1) = true := by decide +kernel
set_option maxRecDepth 65536 in
theorem w_t6 : ((((((words1.drop 24).drop 24).drop 24).drop 24).drop 24).take 24).all (fun c => isCode c || c.before args0 about1) = true := by decide +kernel
set_option maxRecDepth 65536 in
theorem w_t7 : (((((((words1.drop 24).drop 24).drop 24).drop 24).drop 24).drop 24).take 24).all (fun c => isCode c || c.before args0 about1) = true := by decide +kernel
set_option maxRecDepth 65536 in
theorem w_t8 : ((((((((words1.drop 24).drop 24).drop 24).drop 24).drop 24).drop 24).drop 24).take 24).all (fun c => isCode c || c.before args0 about1) = true := by decide +kernel
set_option maxRecDepth 65536 in
theorem w_t9 : (((((((((words1.drop 24).drop 24).drop 24).drop 24).drop 24).drop 24).drop 24).drop 24).take 24).all (fun c => isCode c || c.before args0 about1) = true := by decide +kernel
set_option maxRecDepth 65536 in
theorem w_t10 : ((((((((((words1.drop 24).drop 24).drop 24).drop 24).drop 24).drop 24).drop 24).drop 24).drop 24).take 24).all (fun c => isCode c || c.before args0 about1) = true := by decide +kernel
set_option maxRecDepth 65536 in
theorem w_t11 : (((((((((((words1.drop 24).drop 24).drop 24).drop 24).drop 24).drop 24).drop 24).drop 24).drop 24).drop 24).take 24).all (fun c => isCode c || c.before args0 about1) = true := by decide +kernel
set_option maxRecDepth 65536 in
theorem w_t12 : ((((((((((((words1.drop 24).drop 24).drop 24).drop 24).drop 24).drop 24).drop 24).drop 24).drop 24).drop 24).drop 24).take 24).all (fun c => isCode c || c.before args0 about1) = true := by decide +kernel
set_option maxRecDepth 65536 in
theorem w_t13 : (((((((((((((words1.drop 24).drop 24).drop 24).drop 24).drop 24).drop 24).drop 24).drop 24).drop 24).drop 24).drop 24).drop 24).take 24).all (fun c => isCode c || c.before args0 about1) = true := by decide +kernel
set_option maxRecDepth 65536 in
theorem w_t14 : (((((((((((((words1.drop 24).drop 24).drop 24).drop 24).drop 24).drop 24).drop 24).drop 24).drop 24).drop 24).drop 24).drop 24).drop 24).all (fun c => isCode c || c.before args0 about1) = true := by decide +kernel
theorem w_tables : (allAtoms (Jvm.Cond.code x code maxLocals ret :: tables_1)).before args0 about1 = true := by
  rw [allAtoms_all]
  show words1.all (fun c => c.before args0 about1) = true
  refine all_split ?_ w_codes
  rw [← List.take_append_drop 24 words1, List.all_append, w_t1, ← List.take_append_drop 24 (words1.drop 24), List.all_append, w_t2, ← List.take_append_drop 24 ((words1.drop 24).drop 24), List.all_append, w_t3, ← List.take_append_drop 24 (((words1.drop 24).drop 24).drop 24), List.all_append, w_t4, ← List.take_append_drop 24 ((((words1.drop 24).drop 24).drop 24).drop 24), List.all_append, w_t5, ← List.take_append_drop 24 (((((words1.drop 24).drop 24).drop 24).drop 24).drop 24), List.all_append, w_t6, ← List.take_append_drop 24 ((((((words1.drop 24).drop 24).drop 24).drop 24).drop 24).drop 24), List.all_append, w_t7, ← List.take_append_drop 24 (((((((words1.drop 24).drop 24).drop 24).drop 24).drop 24).drop 24).drop 24), List.all_append, w_t8, ← List.take_append_drop 24 ((((((((words1.drop 24).drop 24).drop 24).drop 24).drop 24).drop 24).drop 24).drop 24), List.all_append, w_t9, ← List.take_append_drop 24 (((((((((words1.drop 24).drop 24).drop 24).drop 24).drop 24).drop 24).drop 24).drop 24).drop 24), List.all_append, w_t10, ← List.take_append_drop 24 ((((((((((words1.drop 24).drop 24).drop 24).drop 24).drop 24).drop 24).drop 24).drop 24).drop 24).drop 24), List.all_append, w_t11, ← List.take_append_drop 24 (((((((((((words1.drop 24).drop 24).drop 24).drop 24).drop 24).drop 24).drop 24).drop 24).drop 24).drop 24).drop 24), List.all_append, w_t12, ← List.take_append_drop 24 ((((((((((((words1.drop 24).drop 24).drop 24).drop 24).drop 24).drop 24).drop 24).drop 24).drop 24).drop 24).drop 24).drop 24), List.all_append, w_t13, w_t14]
  rfl
set_option maxRecDepth 65536 in
theorem w_rest : rest_1_c.before args0 about1 = true := by decide +kernel
set_option maxRecDepth 65536 in
theorem w_case : (Jvm.Cond.and given_1 narrow_1).before args0 about1 = true := by decide +kernel
set_option maxRecDepth 65536 in
theorem w_consts : constsHeld consts_1 about1 := Jvm.Lit.constsHeldB_iff.mp (by decide +kernel)
theorem w_applies : (headSpec (Jvm.Cond.code x code maxLocals ret :: tables_1) room_1).applies x e0.platform about1 = true :=
  (Spec.applies_iff w_frames).mpr ⟨w_running, w_runnable, w_alone, w_named, w_hears, w_ripe, w_room, w_tables⟩
theorem atStart : AtStart classFile x code maxLocals ret World_1 tables_1 room_1 Calls_1 rest_1 Pre_1 launch0 p0 e0 about1 theMethod args0 below0 :=
  ⟨lists_1, trivial, launch0.admits_env _ _ _, launch0.least_env, fairChoices_fair.cas, fairChoices_fair.clock, w_frames, w_args, w_heap, w_applies, ⟨w_consts, trivial⟩, w_rest, w_case⟩
end start1
theorem witness_1 : WitnessClaimed_1 := ⟨start1.p0, start1.e0, start1.about1, start1.theMethod, start1.args0, start1.below0, start1.atStart⟩
end Jvm.Pilot.@@N@@
