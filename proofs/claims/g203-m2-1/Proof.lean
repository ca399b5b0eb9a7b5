import JvmDerived
import JvmDerived.Pilot.@@N@@Statement
import JvmDerived.Pilot.@@N@@Code
set_option linter.unusedVariables false
set_option linter.unusedSimpArgs false
namespace Jvm.RoadKit
open Sem ClassFile Op Lib Jvm.Stand Jvm.Free Jvm.LawKit
section New
variable {p : Program} {l : Launch} {e : Env} {R : Room} {s : State} {m : MethodId} {args : Array Value} {below : List Frame} {meth : Method} {c : Code} {T : State} {locs : List Loc} {cells slots : Nat}
theorem retI (X : Stand p l e R s m args below meth c T locs cells slots) (hx : p.tables.exec = Jvm.exec) {pc : Nat} {Ls : Array Slot} {z : Int32} {rest : List Value} (hret : meth.sig.returnType = some .int) (hd : decode c.code pc = .ok (.ireturn, 1)) {fs : List Frame}
    (hl : ∀ (f : JFrame) (acts : List Action), f.method = m → f.locked = none → f.entered = [] → (doReturn e (T.setTop f) acts (some (.int z))).1 = T.setFrames fs) : Steps p.tables e below (T.setTop (mkF m pc Ls (.int z :: rest))) (T.setFrames fs) := by
  have hm' : T.vm.method? m = some meth := X.method'
  have hn : narrow .int (.int z) = .int z := rfl
  show Steps p.tables e below (T.setTop { method := m, pc := pc, locals := Ls, stack := _ :: rest, locked := none }) _
  jvm_step X.here [X.here.top, hx, hd, hm', hret, hn]
  first | (intro acts; rw [hl _ acts rfl rfl rfl]) | rw [hl _ _ rfl rfl rfl]
  exact Steps.refl _
theorem retD (X : Stand p l e R s m args below meth c T locs cells slots) (hx : p.tables.exec = Jvm.exec) {pc : Nat} {Ls : Array Slot} {z : UInt64} {rest : List Value} (hret : meth.sig.returnType = some .double) (hd : decode c.code pc = .ok (.dreturn, 1)) {fs : List Frame}
    (hl : ∀ (f : JFrame) (acts : List Action), f.method = m → f.locked = none → f.entered = [] → (doReturn e (T.setTop f) acts (some (.double z))).1 = T.setFrames fs) : Steps p.tables e below (T.setTop (mkF m pc Ls (.double z :: rest))) (T.setFrames fs) := by
  have hm' : T.vm.method? m = some meth := X.method'
  have hn : narrow .double (.double z) = .double z := rfl
  show Steps p.tables e below (T.setTop { method := m, pc := pc, locals := Ls, stack := _ :: rest, locked := none }) _
  jvm_step X.here [X.here.top, hx, hd, hm', hret, hn]
  first | (intro acts; rw [hl _ acts rfl rfl rfl]) | rw [hl _ _ rfl rfl rfl]
  exact Steps.refl _
end New
end Jvm.RoadKit
namespace Jvm.Pilot.@@N@@
open Jvm Jvm.ClassFile Sem Op Lib Jvm.Free Jvm.Stand Jvm.LawKit Jvm.RoadKit Bundle Jvm.Pilot.@@N@@.Jvm.D
abbrev OwnS (p : Program) (e : Env) (below : List Frame) (T : State) (g : JFrame) (t : State) : Prop := Steps p.tables e below (T.setTop g) t
theorem own_selpriv {s : State} {args : Array Value} {y : MethodName} {n : Nat} (hy : y.cls ≠ "java/lang/invoke/MethodHandle" ∧ y.cls ≠ "java/lang/invoke/VarHandle") (hins : (Jvm.Cond.instantiable y.cls n).before args s = true) (hp : (Jvm.Cond.privateMethod y).before args s = true) (hi : (Jvm.Cond.instanceMethod y).before args s = true) : (Jvm.Cond.selects y.cls y y).before args s = true := by
  obtain ⟨c, k, hc, hk, -, hniab, -⟩ := Cond.instantiable_spec hins
  exact selects_self_of_private hc hk (Bool.or_eq_false_iff.mp hniab).1 (Cond.privateMethod_at hp) hi hy
theorem own_irr (x : Int32) : ¬ (x < x) := by rw [Int32.lt_iff_toInt_lt]; omega
theorem own_asymm {x y : Int32} (h : x < y) : ¬ (y < x) := by rw [Int32.lt_iff_toInt_lt] at *; omega
theorem own_irr64 (x : Int64) : ¬ (x < x) := by rw [Int64.lt_iff_toInt_lt]; omega
theorem own_asymm64 {x y : Int64} (h : x < y) : ¬ (y < x) := by rw [Int64.lt_iff_toInt_lt] at *; omega
theorem own_ne {x y : Int32} (h : x < y) : ¬ (x = y) := fun q => own_irr x (by rw [← q] at h; exact h)
theorem own_ne' {x y : Int32} (h : x < y) : ¬ (y = x) := fun q => own_irr x (by rw [q] at h; exact h)
theorem own_tri (x y : Int32) : x < y ∨ x = y ∨ y < x := by
  rw [Int32.lt_iff_toInt_lt, Int32.lt_iff_toInt_lt, ← Int32.toInt_inj]; omega
theorem own_ns {Z : State} {h : Heap} {a : Addr} {C : String} (F : Exa Z h a C) : ∃ cell : Cell, h[a]? = some cell ∧ cell.vm.isStatics = false := by
  obtain ⟨cell, k, h1, -, -, h4, -⟩ := F; exact ⟨cell, h1, h4⟩
theorem own_sta_keep {Z : State} {h h' : Heap} {ws : List Addr} {C n d : String} {v : Value} (F : Sta Z h C n d v) (K : Keep h h' ws) (q : ∀ x ∈ ws, ∃ cell : Cell, h[x]? = some cell ∧ cell.vm.isStatics = false) : Sta Z h' C n d v := by
  obtain ⟨cf, i, k, f, st, cell, h1, h2, h3, h4, h5, h6, h7⟩ := F
  refine ⟨cf, i, k, f, st, cell, h1, h2, h3, h4, K.2.1 st cell h5 fun r => ?_, h6, h7⟩
  obtain ⟨c2, g1, g2⟩ := q st r
  cases h5.symm.trans g1
  rw [g2] at h6; cases h6
theorem own_eq_int {args : Array Value} {first s : State} {o : Option Outcome} {idx : List Nat} {t : Term} {k : Int32} (h : (Jvm.Cond.eq t (.int k)).value args first o s idx = some true) : t.eval args first o idx s = some (.int k) := by
  simp only [Cond.value, Term.eval] at h
  cases ht : t.eval args first o idx s with
  | none => simp [ht] at h
  | some x => cases x <;> simp [ht] at h ⊢; exact h
theorem own_mod5 (p : Int32) : (p &&& (2147483647 : Int32)) % (5 : Int32) = (0 : Int32) ∨ (p &&& (2147483647 : Int32)) % (5 : Int32) = (1 : Int32) ∨ (p &&& (2147483647 : Int32)) % (5 : Int32) = (2 : Int32) ∨ (p &&& (2147483647 : Int32)) % (5 : Int32) = (3 : Int32) ∨ (p &&& (2147483647 : Int32)) % (5 : Int32) = (4 : Int32) := by
  have h := (c_irem (p &&& 2147483647) 5 5 rfl).1 (c_and p 2147483647 (by decide)).1
  have h2 : ((p &&& (2147483647 : Int32)) % (5 : Int32)).toInt = 0 ∨ ((p &&& (2147483647 : Int32)) % (5 : Int32)).toInt = 1 ∨ ((p &&& (2147483647 : Int32)) % (5 : Int32)).toInt = 2 ∨ ((p &&& (2147483647 : Int32)) % (5 : Int32)).toInt = 3 ∨ ((p &&& (2147483647 : Int32)) % (5 : Int32)).toInt = 4 := by omega
  rcases h2 with q | q | q | q | q
  · exact Or.inl (Int32.toInt_inj.mp q)
  · exact Or.inr (Or.inl (Int32.toInt_inj.mp q))
  · exact Or.inr (Or.inr (Or.inl (Int32.toInt_inj.mp q)))
  · exact Or.inr (Or.inr (Or.inr (Or.inl (Int32.toInt_inj.mp q))))
  · exact Or.inr (Or.inr (Or.inr (Or.inr ((Int32.toInt_inj.mp q)))))
theorem own_b8 (p : Int32) : B53 (p % (8 : Int32)).toInt64 := by
  have h := c_irem p 8 8 rfl
  have e := c_i2l (p % 8)
  unfold B53; rw [e]
  by_cases q : 0 ≤ p.toInt
  · have := h.1 q; omega
  · have := h.2 (by omega); omega
abbrev cS0 : String := "com/example/driftline/driftline/core/LearnerBestClassPinLaw"
abbrev cS1 : String := "com/example/driftline/driftline/core/Learner"
theorem own_at {Z : State} {a0 : Array Value} (hw : ∀ d ∈ tables_1, d.before a0 Z = true) (i : Nat) {d : Jvm.Cond} (h : tables_1[i]? = some d) : d.before a0 Z = true := hw _ (List.mem_of_getElem? h)
theorem d1_0 : decode prog_12_method_4_code 0 = .ok (.iconst 0, 1) := by decide +kernel
theorem d1_1 : decode prog_12_method_4_code 1 = .ok (.istore_n 1, 1) := by decide +kernel
theorem d1_2 : decode prog_12_method_4_code 2 = .ok (.iconst 1, 1) := by decide +kernel
theorem d1_3 : decode prog_12_method_4_code 3 = .ok (.istore_n 2, 1) := by decide +kernel
theorem d1_4 : decode prog_12_method_4_code 4 = .ok (.iload_n 2, 1) := by decide +kernel
theorem d1_5 : decode prog_12_method_4_code 5 = .ok (.aload_n 0, 1) := by decide +kernel
theorem d1_6 : decode prog_12_method_4_code 6 = .ok (.arraylength, 1) := by decide +kernel
theorem d1_7 : decode prog_12_method_4_code 7 = .ok (.if_icmp .ge 21, 3) := by decide +kernel
theorem d1_28 : decode prog_12_method_4_code 28 = .ok (.iload_n 1, 1) := by decide +kernel
theorem d1_29 : decode prog_12_method_4_code 29 = .ok (.ireturn, 1) := by decide +kernel
theorem pn_com_example_driftline_driftline_core_Learner : plainName cS1 = true := by first | (simp [plainName, overriddenIn]; done) | decide +kernel
theorem ef_1 (m : MethodId) (x0 : Addr) : entryFrame m #[(.ref x0)] 3 = mkF m 0 #[.val (.ref x0), .unset, .unset] [] := by first | (simp [entryFrame, mkF, argsToLocals, Value.category]; done) | rfl
def Q_1_0 (Z : State) (r0 : Addr) (kA : ClassId) (h0 : Heap) (n0 : Nat) (v : Option Value) (h : Heap) (L : List Loc) : Prop := v = some (.int 0) ∧ Fr n0 L ∧ h = h0 ∧ True
set_option maxRecDepth 65536 in
set_option maxHeartbeats 40000000 in
theorem rm1_0 (l : Launch) (Z : State) (a0 : Array Value) (hw : ∀ d ∈ tables_1, d.before a0 Z = true) (ws : List Jvm.Cond) (r0 : Addr) (kA : ClassId) (h0 : Heap) (n0 : Nat) (Z0 : n0 ≤ h0.size) (V_r0 : Arv Z h0 r0 kA .double (0 : Int32) [] (.double (FP.l2d (0 : Int64)))) :
    MetFree l (⟨cS1, "bestClass", "([D)I"⟩ : MethodName) (head1 (Jvm.Cond.code (⟨cS1, "bestClass", "([D)I"⟩ : MethodName) prog_12_method_4_code 3 (some .int) :: ws) ({ frames := 0, cells := 0, slots := 0, locals := 0 } : Room)) (fun a U => a = #[(.ref r0)] ∧ Z.Warmed39 U.vm ∧ U.heap = h0) (fun _ _ _ _ _ => True) (fun _ U o U' => ∃ v L, o = .returned v ∧ Q_1_0 Z r0 kA h0 n0 v U'.heap L ∧ FrameEnd U o U' L ({ frames := 0, cells := 0, slots := 0, locals := 0 } : Room).cells ({ frames := 0, cells := 0, slots := 0, locals := 0 } : Room).slots) := by
  refine MetFree.of_bodySF (plainFor_of_name pn_com_example_driftline_driftline_core_Learner) hisR ?_
  intro p e s m args below meth c s₁ Bd hml0 hP hK
  obtain ⟨rfl, hZ, hh⟩ := hP
  have hx := Bd.exec
  have hby := Bd.bytes
  have hml : c.maxLocals = 3 := hml0
  have hown : s.vm.findClass cS1 = some m.cls := findClass_of_methodNamed Bd.named
  have hnm := (name_of_methodNamed Bd.named Bd.method).1
  have X0 : Stand p l e ({ frames := 0, cells := 0, slots := 0, locals := 0 } : Room) s m #[(.ref r0)] below meth c s₁ [] 0 0 := Stand.of_body Bd
  have e0 : s₁.heap = h0 := by rw [← hh, Bd.state]; rfl
  have N0 := Fr.nil n0
  have k0 : ∀ t, OwnS p e below s₁ (mkF m 0 #[rv r0, .unset, .unset] []) t → OwnS p e below s₁ (entryFrame m #[(.ref r0)] 3) t := fun t k => castTop (ef_1 m r0) k
  obtain ⟨cl_z1, Ar_z1, q_z1, S_z1, N_z1, H_z1, G_z1⟩ := id V_r0
  obtain ⟨fs, hr, hrun, hended, hW, hsame⟩ := X0.leave (v := some (.int 0)) (fun h => by rw [Bd.returns] at h; cases h)
  refine ⟨_, _, k0 _ ?_, hrun, hended, _, _, rfl, ?_, ⟨_, rfl⟩, hW, hsame.mono (by decide) (by decide)⟩
  · show OwnS p e below s₁ (mkF m 0 #[rv r0, .unset, .unset] []) _
    refine XS.iconst X0.here hx rfl (hb hby d1_0) ?_
    show OwnS p e below s₁ (mkF m 1 #[rv r0, .unset, .unset] [(.int 0)]) _
    refine XS.istoreN X0.here hx rfl (hb hby d1_1) rfl (l' := #[rv r0, iv 0, .unset]) rfl ?_
    show OwnS p e below s₁ (mkF m 2 #[rv r0, iv 0, .unset] []) _
    refine XS.iconst X0.here hx rfl (hb hby d1_2) ?_
    show OwnS p e below s₁ (mkF m 3 #[rv r0, iv 0, .unset] [(.int 1)]) _
    refine XS.istoreN X0.here hx rfl (hb hby d1_3) rfl (l' := #[rv r0, iv 0, iv 1]) rfl ?_
    show OwnS p e below s₁ (mkF m 4 #[rv r0, iv 0, iv 1] []) _
    refine XS.iloadN X0.here hx rfl (hb hby d1_4) rfl ?_
    show OwnS p e below s₁ (mkF m 5 #[rv r0, iv 0, iv 1] [(.int 1)]) _
    refine XS.aloadN X0.here hx rfl (hb hby d1_5) rfl rfl ?_
    show OwnS p e below s₁ (mkF m 6 #[rv r0, iv 0, iv 1] [(.ref r0), (.int 1)]) _
    refine X0.arraylength hx (by rw [e0]; exact Ar_z1.1) (State.isArrayOf_alike hZ.alike Ar_z1.2.1) (g := (mkF m 6 #[rv r0, iv 0, iv 1] [(.ref r0), (.int 1)])) rfl rfl (hb hby d1_6) _ ?_
    rw [len_of S_z1 N_z1]
    show OwnS p e below s₁ (mkF m 7 #[rv r0, iv 0, iv 1] [(.int 0), (.int 1)]) _
    refine XS.icmpYes X0.here hx rfl (pc0 := 7) (pc' := 28) rfl (hb hby d1_7) rfl (flt (by decide : ¬ ((1 : Int32) < (0 : Int32)))).2.1 (by decide) (by decide) ?_
    show OwnS p e below s₁ (mkF m 28 #[rv r0, iv 0, iv 1] []) _
    refine XS.iloadN X0.here hx rfl (hb hby d1_28) rfl ?_
    show OwnS p e below s₁ (mkF m 29 #[rv r0, iv 0, iv 1] [(.int 0)]) _
    exact retI X0 hx Bd.returns (hb hby d1_29) hr
  · show Q_1_0 Z r0 kA h0 n0 _ s₁.heap _
    rw [e0]
    exact ⟨rfl, N0, rfl, trivial⟩
def Q_1_1 (Z : State) (r0 : Addr) (kA : ClassId) (d0 : Int64) (h0 : Heap) (n0 : Nat) (v : Option Value) (h : Heap) (L : List Loc) : Prop := v = some (.int 0) ∧ Fr n0 L ∧ h = h0 ∧ True
set_option maxRecDepth 65536 in
set_option maxHeartbeats 40000000 in
theorem rm1_1 (l : Launch) (Z : State) (a0 : Array Value) (hw : ∀ d ∈ tables_1, d.before a0 Z = true) (ws : List Jvm.Cond) (r0 : Addr) (kA : ClassId) (d0 : Int64) (h0 : Heap) (n0 : Nat) (Z0 : n0 ≤ h0.size) (V_r0 : Arv Z h0 r0 kA .double (1 : Int32) [(.double (FP.l2d d0))] (.double (FP.l2d (0 : Int64)))) (b_d0 : B53 d0) :
    MetFree l (⟨cS1, "bestClass", "([D)I"⟩ : MethodName) (head1 (Jvm.Cond.code (⟨cS1, "bestClass", "([D)I"⟩ : MethodName) prog_12_method_4_code 3 (some .int) :: ws) ({ frames := 0, cells := 0, slots := 0, locals := 0 } : Room)) (fun a U => a = #[(.ref r0)] ∧ Z.Warmed39 U.vm ∧ U.heap = h0) (fun _ _ _ _ _ => True) (fun _ U o U' => ∃ v L, o = .returned v ∧ Q_1_1 Z r0 kA d0 h0 n0 v U'.heap L ∧ FrameEnd U o U' L ({ frames := 0, cells := 0, slots := 0, locals := 0 } : Room).cells ({ frames := 0, cells := 0, slots := 0, locals := 0 } : Room).slots) := by
  refine MetFree.of_bodySF (plainFor_of_name pn_com_example_driftline_driftline_core_Learner) hisR ?_
  intro p e s m args below meth c s₁ Bd hml0 hP hK
  obtain ⟨rfl, hZ, hh⟩ := hP
  have hx := Bd.exec
  have hby := Bd.bytes
  have hml : c.maxLocals = 3 := hml0
  have hown : s.vm.findClass cS1 = some m.cls := findClass_of_methodNamed Bd.named
  have hnm := (name_of_methodNamed Bd.named Bd.method).1
  have X0 : Stand p l e ({ frames := 0, cells := 0, slots := 0, locals := 0 } : Room) s m #[(.ref r0)] below meth c s₁ [] 0 0 := Stand.of_body Bd
  have e0 : s₁.heap = h0 := by rw [← hh, Bd.state]; rfl
  have N0 := Fr.nil n0
  have k0 : ∀ t, OwnS p e below s₁ (mkF m 0 #[rv r0, .unset, .unset] []) t → OwnS p e below s₁ (entryFrame m #[(.ref r0)] 3) t := fun t k => castTop (ef_1 m r0) k
  obtain ⟨cl_z1, Ar_z1, q_z1, S_z1, N_z1, H_z1, G_z1⟩ := id V_r0
  obtain ⟨fs, hr, hrun, hended, hW, hsame⟩ := X0.leave (v := some (.int 0)) (fun h => by rw [Bd.returns] at h; cases h)
  refine ⟨_, _, k0 _ ?_, hrun, hended, _, _, rfl, ?_, ⟨_, rfl⟩, hW, hsame.mono (by decide) (by decide)⟩
  · show OwnS p e below s₁ (mkF m 0 #[rv r0, .unset, .unset] []) _
    refine XS.iconst X0.here hx rfl (hb hby d1_0) ?_
    show OwnS p e below s₁ (mkF m 1 #[rv r0, .unset, .unset] [(.int 0)]) _
    refine XS.istoreN X0.here hx rfl (hb hby d1_1) rfl (l' := #[rv r0, iv 0, .unset]) rfl ?_
    show OwnS p e below s₁ (mkF m 2 #[rv r0, iv 0, .unset] []) _
    refine XS.iconst X0.here hx rfl (hb hby d1_2) ?_
    show OwnS p e below s₁ (mkF m 3 #[rv r0, iv 0, .unset] [(.int 1)]) _
    refine XS.istoreN X0.here hx rfl (hb hby d1_3) rfl (l' := #[rv r0, iv 0, iv 1]) rfl ?_
    show OwnS p e below s₁ (mkF m 4 #[rv r0, iv 0, iv 1] []) _
    refine XS.iloadN X0.here hx rfl (hb hby d1_4) rfl ?_
    show OwnS p e below s₁ (mkF m 5 #[rv r0, iv 0, iv 1] [(.int 1)]) _
    refine XS.aloadN X0.here hx rfl (hb hby d1_5) rfl rfl ?_
    show OwnS p e below s₁ (mkF m 6 #[rv r0, iv 0, iv 1] [(.ref r0), (.int 1)]) _
    refine X0.arraylength hx (by rw [e0]; exact Ar_z1.1) (State.isArrayOf_alike hZ.alike Ar_z1.2.1) (g := (mkF m 6 #[rv r0, iv 0, iv 1] [(.ref r0), (.int 1)])) rfl rfl (hb hby d1_6) _ ?_
    rw [len_of S_z1 N_z1]
    show OwnS p e below s₁ (mkF m 7 #[rv r0, iv 0, iv 1] [(.int 1), (.int 1)]) _
    refine XS.icmpYes X0.here hx rfl (pc0 := 7) (pc' := 28) rfl (hb hby d1_7) rfl (flt (by decide : ¬ ((1 : Int32) < (1 : Int32)))).2.1 (by decide) (by decide) ?_
    show OwnS p e below s₁ (mkF m 28 #[rv r0, iv 0, iv 1] []) _
    refine XS.iloadN X0.here hx rfl (hb hby d1_28) rfl ?_
    show OwnS p e below s₁ (mkF m 29 #[rv r0, iv 0, iv 1] [(.int 0)]) _
    exact retI X0 hx Bd.returns (hb hby d1_29) hr
  · show Q_1_1 Z r0 kA d0 h0 n0 _ s₁.heap _
    rw [e0]
    exact ⟨rfl, N0, rfl, trivial⟩
theorem d1_10 : decode prog_12_method_4_code 10 = .ok (.aload_n 0, 1) := by decide +kernel
theorem d1_11 : decode prog_12_method_4_code 11 = .ok (.iload_n 2, 1) := by decide +kernel
theorem d1_12 : decode prog_12_method_4_code 12 = .ok (.daload, 1) := by decide +kernel
theorem d1_13 : decode prog_12_method_4_code 13 = .ok (.aload_n 0, 1) := by decide +kernel
theorem d1_14 : decode prog_12_method_4_code 14 = .ok (.iload_n 1, 1) := by decide +kernel
theorem d1_15 : decode prog_12_method_4_code 15 = .ok (.daload, 1) := by decide +kernel
theorem d1_16 : decode prog_12_method_4_code 16 = .ok (.dcmp .l, 1) := by decide +kernel
theorem d1_17 : decode prog_12_method_4_code 17 = .ok (.ifCond .le 5, 3) := by decide +kernel
theorem d1_20 : decode prog_12_method_4_code 20 = .ok (.iload_n 2, 1) := by decide +kernel
theorem d1_21 : decode prog_12_method_4_code 21 = .ok (.istore_n 1, 1) := by decide +kernel
theorem d1_22 : decode prog_12_method_4_code 22 = .ok (.iinc 2 1, 3) := by decide +kernel
theorem d1_25 : decode prog_12_method_4_code 25 = .ok (.goto (-21), 3) := by decide +kernel
def Q_1_2 (Z : State) (r0 : Addr) (kA : ClassId) (d0 : Int64) (d1 : Int64) (h0 : Heap) (n0 : Nat) (v : Option Value) (h : Heap) (L : List Loc) : Prop := (v = some (.int 1) ∧ Fr n0 L ∧ h = h0 ∧ ¬ (d1 < d0) ∧ d0 < d1) ∨ (v = some (.int 0) ∧ Fr n0 L ∧ h = h0 ∧ ¬ (d0 < d1))
set_option maxRecDepth 65536 in
set_option maxHeartbeats 40000000 in
theorem rm1_2 (l : Launch) (Z : State) (a0 : Array Value) (hw : ∀ d ∈ tables_1, d.before a0 Z = true) (ws : List Jvm.Cond) (r0 : Addr) (kA : ClassId) (d0 : Int64) (d1 : Int64) (h0 : Heap) (n0 : Nat) (Z0 : n0 ≤ h0.size) (V_r0 : Arv Z h0 r0 kA .double (2 : Int32) [(.double (FP.l2d d0)), (.double (FP.l2d d1))] (.double (FP.l2d (0 : Int64)))) (b_d0 : B53 d0) (b_d1 : B53 d1) :
    MetFree l (⟨cS1, "bestClass", "([D)I"⟩ : MethodName) (head1 (Jvm.Cond.code (⟨cS1, "bestClass", "([D)I"⟩ : MethodName) prog_12_method_4_code 3 (some .int) :: ws) ({ frames := 0, cells := 0, slots := 0, locals := 0 } : Room)) (fun a U => a = #[(.ref r0)] ∧ Z.Warmed39 U.vm ∧ U.heap = h0) (fun _ _ _ _ _ => True) (fun _ U o U' => ∃ v L, o = .returned v ∧ Q_1_2 Z r0 kA d0 d1 h0 n0 v U'.heap L ∧ FrameEnd U o U' L ({ frames := 0, cells := 0, slots := 0, locals := 0 } : Room).cells ({ frames := 0, cells := 0, slots := 0, locals := 0 } : Room).slots) := by
  refine MetFree.of_bodySF (plainFor_of_name pn_com_example_driftline_driftline_core_Learner) hisR ?_
  intro p e s m args below meth c s₁ Bd hml0 hP hK
  obtain ⟨rfl, hZ, hh⟩ := hP
  have hx := Bd.exec
  have hby := Bd.bytes
  have hml : c.maxLocals = 3 := hml0
  have hown : s.vm.findClass cS1 = some m.cls := findClass_of_methodNamed Bd.named
  have hnm := (name_of_methodNamed Bd.named Bd.method).1
  have X0 : Stand p l e ({ frames := 0, cells := 0, slots := 0, locals := 0 } : Room) s m #[(.ref r0)] below meth c s₁ [] 0 0 := Stand.of_body Bd
  have e0 : s₁.heap = h0 := by rw [← hh, Bd.state]; rfl
  have N0 := Fr.nil n0
  have k0 : ∀ t, OwnS p e below s₁ (mkF m 0 #[rv r0, .unset, .unset] []) t → OwnS p e below s₁ (entryFrame m #[(.ref r0)] 3) t := fun t k => castTop (ef_1 m r0) k
  obtain ⟨cl_z1, Ar_z1, q_z1, S_z1, N_z1, H_z1, G_z1⟩ := id V_r0
  have hin2 : ¬ ((1 : Int32) < 0 ∨ cl_z1.slots.size ≤ ((1 : Int32)).toNatClampNeg) := inb_of S_z1 ⟨by decide, by decide⟩
  have hin3 : ¬ ((0 : Int32) < 0 ∨ cl_z1.slots.size ≤ ((0 : Int32)).toNatClampNeg) := inb_of S_z1 ⟨by decide, by decide⟩
  have k5 : ∀ t, OwnS p e below s₁ (mkF m 17 #[rv r0, iv 0, iv 1] [(.int (lcmpW d1 d0))]) t → OwnS p e below s₁ (entryFrame m #[(.ref r0)] 3) t := fun t q => by
    refine k0 t ?_
    show OwnS p e below s₁ (mkF m 0 #[rv r0, .unset, .unset] []) _
    refine XS.iconst X0.here hx rfl (hb hby d1_0) ?_
    show OwnS p e below s₁ (mkF m 1 #[rv r0, .unset, .unset] [(.int 0)]) _
    refine XS.istoreN X0.here hx rfl (hb hby d1_1) rfl (l' := #[rv r0, iv 0, .unset]) rfl ?_
    show OwnS p e below s₁ (mkF m 2 #[rv r0, iv 0, .unset] []) _
    refine XS.iconst X0.here hx rfl (hb hby d1_2) ?_
    show OwnS p e below s₁ (mkF m 3 #[rv r0, iv 0, .unset] [(.int 1)]) _
    refine XS.istoreN X0.here hx rfl (hb hby d1_3) rfl (l' := #[rv r0, iv 0, iv 1]) rfl ?_
    show OwnS p e below s₁ (mkF m 4 #[rv r0, iv 0, iv 1] []) _
    refine XS.iloadN X0.here hx rfl (hb hby d1_4) rfl ?_
    show OwnS p e below s₁ (mkF m 5 #[rv r0, iv 0, iv 1] [(.int 1)]) _
    refine XS.aloadN X0.here hx rfl (hb hby d1_5) rfl rfl ?_
    show OwnS p e below s₁ (mkF m 6 #[rv r0, iv 0, iv 1] [(.ref r0), (.int 1)]) _
    refine X0.arraylength hx (by rw [e0]; exact Ar_z1.1) (State.isArrayOf_alike hZ.alike Ar_z1.2.1) (g := (mkF m 6 #[rv r0, iv 0, iv 1] [(.ref r0), (.int 1)])) rfl rfl (hb hby d1_6) _ ?_
    rw [len_of S_z1 N_z1]
    show OwnS p e below s₁ (mkF m 7 #[rv r0, iv 0, iv 1] [(.int 2), (.int 1)]) _
    refine XS.icmpNo X0.here hx rfl (hb hby d1_7) rfl (tlt (by decide : (1 : Int32) < (2 : Int32))).2.1 ?_
    show OwnS p e below s₁ (mkF m 10 #[rv r0, iv 0, iv 1] []) _
    refine XS.aloadN X0.here hx rfl (hb hby d1_10) rfl rfl ?_
    show OwnS p e below s₁ (mkF m 11 #[rv r0, iv 0, iv 1] [(.ref r0)]) _
    refine XS.iloadN X0.here hx rfl (hb hby d1_11) rfl ?_
    show OwnS p e below s₁ (mkF m 12 #[rv r0, iv 0, iv 1] [(.int 1), (.ref r0)]) _
    refine X0.daload hx (j := (1 : Int32)) (v := (.double (FP.l2d d1))) (by rw [e0]; exact Ar_z1.1) (State.isArrayOf_alike hZ.alike Ar_z1.2.1) Ar_z1.2.2 hin2 (Has.at H_z1 hin2 rfl) (g := (mkF m 12 #[rv r0, iv 0, iv 1] [(.int 1), (.ref r0)])) rfl rfl (hb hby d1_12) _ ?_
    show OwnS p e below s₁ (mkF m 13 #[rv r0, iv 0, iv 1] [(.double (FP.l2d d1))]) _
    refine XS.aloadN X0.here hx rfl (hb hby d1_13) rfl rfl ?_
    show OwnS p e below s₁ (mkF m 14 #[rv r0, iv 0, iv 1] [(.ref r0), (.double (FP.l2d d1))]) _
    refine XS.iloadN X0.here hx rfl (hb hby d1_14) rfl ?_
    show OwnS p e below s₁ (mkF m 15 #[rv r0, iv 0, iv 1] [(.int 0), (.ref r0), (.double (FP.l2d d1))]) _
    refine X0.daload hx (j := (0 : Int32)) (v := (.double (FP.l2d d0))) (by rw [e0]; exact Ar_z1.1) (State.isArrayOf_alike hZ.alike Ar_z1.2.1) Ar_z1.2.2 hin3 (Has.at H_z1 hin3 rfl) (g := (mkF m 15 #[rv r0, iv 0, iv 1] [(.int 0), (.ref r0), (.double (FP.l2d d1))])) rfl rfl (hb hby d1_15) _ ?_
    show OwnS p e below s₁ (mkF m 16 #[rv r0, iv 0, iv 1] [(.double (FP.l2d d0)), (.double (FP.l2d d1))]) _
    refine XS.dcmpS X0.here hx rfl (hb hby d1_16) rfl (dcmpV_w b_d1 b_d0 _) ?_
    exact q
  by_cases hc17_4 : d0 < d1
  · obtain ⟨fs, hr, hrun, hended, hW, hsame⟩ := X0.leave (v := some (.int 1)) (fun h => by rw [Bd.returns] at h; cases h)
    refine ⟨_, _, k5 _ ?_, hrun, hended, _, _, rfl, ?_, ⟨_, rfl⟩, hW, hsame.mono (by decide) (by decide)⟩
    · show OwnS p e below s₁ (mkF m 17 #[rv r0, iv 0, iv 1] [(.int (lcmpW d1 d0))]) _
      refine XS.ifNo X0.here hx rfl (hb hby d1_17) rfl ((if0 _ _).trans (tlt ((lw_gt _ _).mpr hc17_4)).2.2.2) ?_
      show OwnS p e below s₁ (mkF m 20 #[rv r0, iv 0, iv 1] []) _
      refine XS.iloadN X0.here hx rfl (hb hby d1_20) rfl ?_
      show OwnS p e below s₁ (mkF m 21 #[rv r0, iv 0, iv 1] [(.int 1)]) _
      refine XS.istoreN X0.here hx rfl (hb hby d1_21) rfl (l' := #[rv r0, iv 1, iv 1]) rfl ?_
      show OwnS p e below s₁ (mkF m 22 #[rv r0, iv 1, iv 1] []) _
      refine XS.iinc X0.here hx rfl (hb hby d1_22) rfl (l' := #[rv r0, iv 1, iv ((1 : Int32) + (1 : Int32))]) rfl ?_
      show OwnS p e below s₁ (mkF m 25 #[rv r0, iv 1, iv ((1 : Int32) + (1 : Int32))] []) _
      refine XS.goto X0.here hx rfl (pc0 := 25) (pc' := 4) rfl (hb hby d1_25) (by decide) (by decide) ?_
      show OwnS p e below s₁ (mkF m 4 #[rv r0, iv 1, iv ((1 : Int32) + (1 : Int32))] []) _
      refine XS.iloadN X0.here hx rfl (hb hby d1_4) rfl ?_
      show OwnS p e below s₁ (mkF m 5 #[rv r0, iv 1, iv ((1 : Int32) + (1 : Int32))] [(.int 2)]) _
      refine XS.aloadN X0.here hx rfl (hb hby d1_5) rfl rfl ?_
      show OwnS p e below s₁ (mkF m 6 #[rv r0, iv 1, iv ((1 : Int32) + (1 : Int32))] [(.ref r0), (.int 2)]) _
      refine X0.arraylength hx (by rw [e0]; exact Ar_z1.1) (State.isArrayOf_alike hZ.alike Ar_z1.2.1) (g := (mkF m 6 #[rv r0, iv 1, iv ((1 : Int32) + (1 : Int32))] [(.ref r0), (.int 2)])) rfl rfl (hb hby d1_6) _ ?_
      rw [len_of S_z1 N_z1]
      show OwnS p e below s₁ (mkF m 7 #[rv r0, iv 1, iv ((1 : Int32) + (1 : Int32))] [(.int 2), (.int 2)]) _
      refine XS.icmpYes X0.here hx rfl (pc0 := 7) (pc' := 28) rfl (hb hby d1_7) rfl (flt (by decide : ¬ ((2 : Int32) < (2 : Int32)))).2.1 (by decide) (by decide) ?_
      show OwnS p e below s₁ (mkF m 28 #[rv r0, iv 1, iv ((1 : Int32) + (1 : Int32))] []) _
      refine XS.iloadN X0.here hx rfl (hb hby d1_28) rfl ?_
      show OwnS p e below s₁ (mkF m 29 #[rv r0, iv 1, iv ((1 : Int32) + (1 : Int32))] [(.int 1)]) _
      exact retI X0 hx Bd.returns (hb hby d1_29) hr
    · show Q_1_2 Z r0 kA d0 d1 h0 n0 _ s₁.heap _
      rw [e0]
      exact Or.inl (⟨rfl, N0, rfl, (own_asymm64 hc17_4), hc17_4⟩)
  · obtain ⟨fs, hr, hrun, hended, hW, hsame⟩ := X0.leave (v := some (.int 0)) (fun h => by rw [Bd.returns] at h; cases h)
    refine ⟨_, _, k5 _ ?_, hrun, hended, _, _, rfl, ?_, ⟨_, rfl⟩, hW, hsame.mono (by decide) (by decide)⟩
    · show OwnS p e below s₁ (mkF m 17 #[rv r0, iv 0, iv 1] [(.int (lcmpW d1 d0))]) _
      refine XS.ifYes X0.here hx rfl (pc0 := 17) (pc' := 22) rfl (hb hby d1_17) rfl ((if0 _ _).trans (flt (fun q => hc17_4 ((lw_gt _ _).mp q))).2.2.2) (by decide) (by decide) ?_
      show OwnS p e below s₁ (mkF m 22 #[rv r0, iv 0, iv 1] []) _
      refine XS.iinc X0.here hx rfl (hb hby d1_22) rfl (l' := #[rv r0, iv 0, iv ((1 : Int32) + (1 : Int32))]) rfl ?_
      show OwnS p e below s₁ (mkF m 25 #[rv r0, iv 0, iv ((1 : Int32) + (1 : Int32))] []) _
      refine XS.goto X0.here hx rfl (pc0 := 25) (pc' := 4) rfl (hb hby d1_25) (by decide) (by decide) ?_
      show OwnS p e below s₁ (mkF m 4 #[rv r0, iv 0, iv ((1 : Int32) + (1 : Int32))] []) _
      refine XS.iloadN X0.here hx rfl (hb hby d1_4) rfl ?_
      show OwnS p e below s₁ (mkF m 5 #[rv r0, iv 0, iv ((1 : Int32) + (1 : Int32))] [(.int 2)]) _
      refine XS.aloadN X0.here hx rfl (hb hby d1_5) rfl rfl ?_
      show OwnS p e below s₁ (mkF m 6 #[rv r0, iv 0, iv ((1 : Int32) + (1 : Int32))] [(.ref r0), (.int 2)]) _
      refine X0.arraylength hx (by rw [e0]; exact Ar_z1.1) (State.isArrayOf_alike hZ.alike Ar_z1.2.1) (g := (mkF m 6 #[rv r0, iv 0, iv ((1 : Int32) + (1 : Int32))] [(.ref r0), (.int 2)])) rfl rfl (hb hby d1_6) _ ?_
      rw [len_of S_z1 N_z1]
      show OwnS p e below s₁ (mkF m 7 #[rv r0, iv 0, iv ((1 : Int32) + (1 : Int32))] [(.int 2), (.int 2)]) _
      refine XS.icmpYes X0.here hx rfl (pc0 := 7) (pc' := 28) rfl (hb hby d1_7) rfl (flt (by decide : ¬ ((2 : Int32) < (2 : Int32)))).2.1 (by decide) (by decide) ?_
      show OwnS p e below s₁ (mkF m 28 #[rv r0, iv 0, iv ((1 : Int32) + (1 : Int32))] []) _
      refine XS.iloadN X0.here hx rfl (hb hby d1_28) rfl ?_
      show OwnS p e below s₁ (mkF m 29 #[rv r0, iv 0, iv ((1 : Int32) + (1 : Int32))] [(.int 0)]) _
      exact retI X0 hx Bd.returns (hb hby d1_29) hr
    · show Q_1_2 Z r0 kA d0 d1 h0 n0 _ s₁.heap _
      rw [e0]
      exact Or.inr ((⟨rfl, N0, rfl, hc17_4⟩))
def Q_1_3 (Z : State) (r0 : Addr) (kA : ClassId) (d0 : Int64) (d1 : Int64) (d2 : Int64) (h0 : Heap) (n0 : Nat) (v : Option Value) (h : Heap) (L : List Loc) : Prop := (v = some (.int 2) ∧ Fr n0 L ∧ h = h0 ∧ ¬ (d2 < d0) ∧ ¬ (d2 < d1) ∧ d0 < d2 ∧ d1 < d2) ∨ (v = some (.int 1) ∧ Fr n0 L ∧ h = h0 ∧ ¬ (d1 < d0) ∧ ¬ (d1 < d2) ∧ d0 < d1) ∨ (v = some (.int 0) ∧ Fr n0 L ∧ h = h0 ∧ ¬ (d0 < d1) ∧ ¬ (d0 < d2))
set_option maxRecDepth 65536 in
set_option maxHeartbeats 40000000 in
theorem rm1_3 (l : Launch) (Z : State) (a0 : Array Value) (hw : ∀ d ∈ tables_1, d.before a0 Z = true) (ws : List Jvm.Cond) (r0 : Addr) (kA : ClassId) (d0 : Int64) (d1 : Int64) (d2 : Int64) (h0 : Heap) (n0 : Nat) (Z0 : n0 ≤ h0.size) (V_r0 : Arv Z h0 r0 kA .double (3 : Int32) [(.double (FP.l2d d0)), (.double (FP.l2d d1)), (.double (FP.l2d d2))] (.double (FP.l2d (0 : Int64)))) (b_d0 : B53 d0) (b_d1 : B53 d1) (b_d2 : B53 d2) :
    MetFree l (⟨cS1, "bestClass", "([D)I"⟩ : MethodName) (head1 (Jvm.Cond.code (⟨cS1, "bestClass", "([D)I"⟩ : MethodName) prog_12_method_4_code 3 (some .int) :: ws) ({ frames := 0, cells := 0, slots := 0, locals := 0 } : Room)) (fun a U => a = #[(.ref r0)] ∧ Z.Warmed39 U.vm ∧ U.heap = h0) (fun _ _ _ _ _ => True) (fun _ U o U' => ∃ v L, o = .returned v ∧ Q_1_3 Z r0 kA d0 d1 d2 h0 n0 v U'.heap L ∧ FrameEnd U o U' L ({ frames := 0, cells := 0, slots := 0, locals := 0 } : Room).cells ({ frames := 0, cells := 0, slots := 0, locals := 0 } : Room).slots) := by
  refine MetFree.of_bodySF (plainFor_of_name pn_com_example_driftline_driftline_core_Learner) hisR ?_
  intro p e s m args below meth c s₁ Bd hml0 hP hK
  obtain ⟨rfl, hZ, hh⟩ := hP
  have hx := Bd.exec
  have hby := Bd.bytes
  have hml : c.maxLocals = 3 := hml0
  have hown : s.vm.findClass cS1 = some m.cls := findClass_of_methodNamed Bd.named
  have hnm := (name_of_methodNamed Bd.named Bd.method).1
  have X0 : Stand p l e ({ frames := 0, cells := 0, slots := 0, locals := 0 } : Room) s m #[(.ref r0)] below meth c s₁ [] 0 0 := Stand.of_body Bd
  have e0 : s₁.heap = h0 := by rw [← hh, Bd.state]; rfl
  have N0 := Fr.nil n0
  have k0 : ∀ t, OwnS p e below s₁ (mkF m 0 #[rv r0, .unset, .unset] []) t → OwnS p e below s₁ (entryFrame m #[(.ref r0)] 3) t := fun t k => castTop (ef_1 m r0) k
  obtain ⟨cl_z1, Ar_z1, q_z1, S_z1, N_z1, H_z1, G_z1⟩ := id V_r0
  have hin2 : ¬ ((1 : Int32) < 0 ∨ cl_z1.slots.size ≤ ((1 : Int32)).toNatClampNeg) := inb_of S_z1 ⟨by decide, by decide⟩
  have hin3 : ¬ ((0 : Int32) < 0 ∨ cl_z1.slots.size ≤ ((0 : Int32)).toNatClampNeg) := inb_of S_z1 ⟨by decide, by decide⟩
  have k5 : ∀ t, OwnS p e below s₁ (mkF m 17 #[rv r0, iv 0, iv 1] [(.int (lcmpW d1 d0))]) t → OwnS p e below s₁ (entryFrame m #[(.ref r0)] 3) t := fun t q => by
    refine k0 t ?_
    show OwnS p e below s₁ (mkF m 0 #[rv r0, .unset, .unset] []) _
    refine XS.iconst X0.here hx rfl (hb hby d1_0) ?_
    show OwnS p e below s₁ (mkF m 1 #[rv r0, .unset, .unset] [(.int 0)]) _
    refine XS.istoreN X0.here hx rfl (hb hby d1_1) rfl (l' := #[rv r0, iv 0, .unset]) rfl ?_
    show OwnS p e below s₁ (mkF m 2 #[rv r0, iv 0, .unset] []) _
    refine XS.iconst X0.here hx rfl (hb hby d1_2) ?_
    show OwnS p e below s₁ (mkF m 3 #[rv r0, iv 0, .unset] [(.int 1)]) _
    refine XS.istoreN X0.here hx rfl (hb hby d1_3) rfl (l' := #[rv r0, iv 0, iv 1]) rfl ?_
    show OwnS p e below s₁ (mkF m 4 #[rv r0, iv 0, iv 1] []) _
    refine XS.iloadN X0.here hx rfl (hb hby d1_4) rfl ?_
    show OwnS p e below s₁ (mkF m 5 #[rv r0, iv 0, iv 1] [(.int 1)]) _
    refine XS.aloadN X0.here hx rfl (hb hby d1_5) rfl rfl ?_
    show OwnS p e below s₁ (mkF m 6 #[rv r0, iv 0, iv 1] [(.ref r0), (.int 1)]) _
    refine X0.arraylength hx (by rw [e0]; exact Ar_z1.1) (State.isArrayOf_alike hZ.alike Ar_z1.2.1) (g := (mkF m 6 #[rv r0, iv 0, iv 1] [(.ref r0), (.int 1)])) rfl rfl (hb hby d1_6) _ ?_
    rw [len_of S_z1 N_z1]
    show OwnS p e below s₁ (mkF m 7 #[rv r0, iv 0, iv 1] [(.int 3), (.int 1)]) _
    refine XS.icmpNo X0.here hx rfl (hb hby d1_7) rfl (tlt (by decide : (1 : Int32) < (3 : Int32))).2.1 ?_
    show OwnS p e below s₁ (mkF m 10 #[rv r0, iv 0, iv 1] []) _
    refine XS.aloadN X0.here hx rfl (hb hby d1_10) rfl rfl ?_
    show OwnS p e below s₁ (mkF m 11 #[rv r0, iv 0, iv 1] [(.ref r0)]) _
    refine XS.iloadN X0.here hx rfl (hb hby d1_11) rfl ?_
    show OwnS p e below s₁ (mkF m 12 #[rv r0, iv 0, iv 1] [(.int 1), (.ref r0)]) _
    refine X0.daload hx (j := (1 : Int32)) (v := (.double (FP.l2d d1))) (by rw [e0]; exact Ar_z1.1) (State.isArrayOf_alike hZ.alike Ar_z1.2.1) Ar_z1.2.2 hin2 (Has.at H_z1 hin2 rfl) (g := (mkF m 12 #[rv r0, iv 0, iv 1] [(.int 1), (.ref r0)])) rfl rfl (hb hby d1_12) _ ?_
    show OwnS p e below s₁ (mkF m 13 #[rv r0, iv 0, iv 1] [(.double (FP.l2d d1))]) _
    refine XS.aloadN X0.here hx rfl (hb hby d1_13) rfl rfl ?_
    show OwnS p e below s₁ (mkF m 14 #[rv r0, iv 0, iv 1] [(.ref r0), (.double (FP.l2d d1))]) _
    refine XS.iloadN X0.here hx rfl (hb hby d1_14) rfl ?_
    show OwnS p e below s₁ (mkF m 15 #[rv r0, iv 0, iv 1] [(.int 0), (.ref r0), (.double (FP.l2d d1))]) _
    refine X0.daload hx (j := (0 : Int32)) (v := (.double (FP.l2d d0))) (by rw [e0]; exact Ar_z1.1) (State.isArrayOf_alike hZ.alike Ar_z1.2.1) Ar_z1.2.2 hin3 (Has.at H_z1 hin3 rfl) (g := (mkF m 15 #[rv r0, iv 0, iv 1] [(.int 0), (.ref r0), (.double (FP.l2d d1))])) rfl rfl (hb hby d1_15) _ ?_
    show OwnS p e below s₁ (mkF m 16 #[rv r0, iv 0, iv 1] [(.double (FP.l2d d0)), (.double (FP.l2d d1))]) _
    refine XS.dcmpS X0.here hx rfl (hb hby d1_16) rfl (dcmpV_w b_d1 b_d0 _) ?_
    exact q
  by_cases hc17_4 : d0 < d1
  · have hin6 : ¬ ((2 : Int32) < 0 ∨ cl_z1.slots.size ≤ ((2 : Int32)).toNatClampNeg) := inb_of S_z1 ⟨by decide, by decide⟩
    have hin7 : ¬ ((1 : Int32) < 0 ∨ cl_z1.slots.size ≤ ((1 : Int32)).toNatClampNeg) := inb_of S_z1 ⟨by decide, by decide⟩
    have k9 : ∀ t, OwnS p e below s₁ (mkF m 17 #[rv r0, iv 1, iv ((1 : Int32) + (1 : Int32))] [(.int (lcmpW d2 d1))]) t → OwnS p e below s₁ (entryFrame m #[(.ref r0)] 3) t := fun t q => by
      refine k5 t ?_
      show OwnS p e below s₁ (mkF m 17 #[rv r0, iv 0, iv 1] [(.int (lcmpW d1 d0))]) _
      refine XS.ifNo X0.here hx rfl (hb hby d1_17) rfl ((if0 _ _).trans (tlt ((lw_gt _ _).mpr hc17_4)).2.2.2) ?_
      show OwnS p e below s₁ (mkF m 20 #[rv r0, iv 0, iv 1] []) _
      refine XS.iloadN X0.here hx rfl (hb hby d1_20) rfl ?_
      show OwnS p e below s₁ (mkF m 21 #[rv r0, iv 0, iv 1] [(.int 1)]) _
      refine XS.istoreN X0.here hx rfl (hb hby d1_21) rfl (l' := #[rv r0, iv 1, iv 1]) rfl ?_
      show OwnS p e below s₁ (mkF m 22 #[rv r0, iv 1, iv 1] []) _
      refine XS.iinc X0.here hx rfl (hb hby d1_22) rfl (l' := #[rv r0, iv 1, iv ((1 : Int32) + (1 : Int32))]) rfl ?_
      show OwnS p e below s₁ (mkF m 25 #[rv r0, iv 1, iv ((1 : Int32) + (1 : Int32))] []) _
      refine XS.goto X0.here hx rfl (pc0 := 25) (pc' := 4) rfl (hb hby d1_25) (by decide) (by decide) ?_
      show OwnS p e below s₁ (mkF m 4 #[rv r0, iv 1, iv ((1 : Int32) + (1 : Int32))] []) _
      refine XS.iloadN X0.here hx rfl (hb hby d1_4) rfl ?_
      show OwnS p e below s₁ (mkF m 5 #[rv r0, iv 1, iv ((1 : Int32) + (1 : Int32))] [(.int 2)]) _
      refine XS.aloadN X0.here hx rfl (hb hby d1_5) rfl rfl ?_
      show OwnS p e below s₁ (mkF m 6 #[rv r0, iv 1, iv ((1 : Int32) + (1 : Int32))] [(.ref r0), (.int 2)]) _
      refine X0.arraylength hx (by rw [e0]; exact Ar_z1.1) (State.isArrayOf_alike hZ.alike Ar_z1.2.1) (g := (mkF m 6 #[rv r0, iv 1, iv ((1 : Int32) + (1 : Int32))] [(.ref r0), (.int 2)])) rfl rfl (hb hby d1_6) _ ?_
      rw [len_of S_z1 N_z1]
      show OwnS p e below s₁ (mkF m 7 #[rv r0, iv 1, iv ((1 : Int32) + (1 : Int32))] [(.int 3), (.int 2)]) _
      refine XS.icmpNo X0.here hx rfl (hb hby d1_7) rfl (tlt (by decide : (2 : Int32) < (3 : Int32))).2.1 ?_
      show OwnS p e below s₁ (mkF m 10 #[rv r0, iv 1, iv ((1 : Int32) + (1 : Int32))] []) _
      refine XS.aloadN X0.here hx rfl (hb hby d1_10) rfl rfl ?_
      show OwnS p e below s₁ (mkF m 11 #[rv r0, iv 1, iv ((1 : Int32) + (1 : Int32))] [(.ref r0)]) _
      refine XS.iloadN X0.here hx rfl (hb hby d1_11) rfl ?_
      show OwnS p e below s₁ (mkF m 12 #[rv r0, iv 1, iv ((1 : Int32) + (1 : Int32))] [(.int 2), (.ref r0)]) _
      refine X0.daload hx (j := (2 : Int32)) (v := (.double (FP.l2d d2))) (by rw [e0]; exact Ar_z1.1) (State.isArrayOf_alike hZ.alike Ar_z1.2.1) Ar_z1.2.2 hin6 (Has.at H_z1 hin6 rfl) (g := (mkF m 12 #[rv r0, iv 1, iv ((1 : Int32) + (1 : Int32))] [(.int 2), (.ref r0)])) rfl rfl (hb hby d1_12) _ ?_
      show OwnS p e below s₁ (mkF m 13 #[rv r0, iv 1, iv ((1 : Int32) + (1 : Int32))] [(.double (FP.l2d d2))]) _
      refine XS.aloadN X0.here hx rfl (hb hby d1_13) rfl rfl ?_
      show OwnS p e below s₁ (mkF m 14 #[rv r0, iv 1, iv ((1 : Int32) + (1 : Int32))] [(.ref r0), (.double (FP.l2d d2))]) _
      refine XS.iloadN X0.here hx rfl (hb hby d1_14) rfl ?_
      show OwnS p e below s₁ (mkF m 15 #[rv r0, iv 1, iv ((1 : Int32) + (1 : Int32))] [(.int 1), (.ref r0), (.double (FP.l2d d2))]) _
      refine X0.daload hx (j := (1 : Int32)) (v := (.double (FP.l2d d1))) (by rw [e0]; exact Ar_z1.1) (State.isArrayOf_alike hZ.alike Ar_z1.2.1) Ar_z1.2.2 hin7 (Has.at H_z1 hin7 rfl) (g := (mkF m 15 #[rv r0, iv 1, iv ((1 : Int32) + (1 : Int32))] [(.int 1), (.ref r0), (.double (FP.l2d d2))])) rfl rfl (hb hby d1_15) _ ?_
      show OwnS p e below s₁ (mkF m 16 #[rv r0, iv 1, iv ((1 : Int32) + (1 : Int32))] [(.double (FP.l2d d1)), (.double (FP.l2d d2))]) _
      refine XS.dcmpS X0.here hx rfl (hb hby d1_16) rfl (dcmpV_w b_d2 b_d1 _) ?_
      exact q
    by_cases hc17_8 : d1 < d2
    · obtain ⟨fs, hr, hrun, hended, hW, hsame⟩ := X0.leave (v := some (.int 2)) (fun h => by rw [Bd.returns] at h; cases h)
      refine ⟨_, _, k9 _ ?_, hrun, hended, _, _, rfl, ?_, ⟨_, rfl⟩, hW, hsame.mono (by decide) (by decide)⟩
      · show OwnS p e below s₁ (mkF m 17 #[rv r0, iv 1, iv ((1 : Int32) + (1 : Int32))] [(.int (lcmpW d2 d1))]) _
        refine XS.ifNo X0.here hx rfl (hb hby d1_17) rfl ((if0 _ _).trans (tlt ((lw_gt _ _).mpr hc17_8)).2.2.2) ?_
        show OwnS p e below s₁ (mkF m 20 #[rv r0, iv 1, iv ((1 : Int32) + (1 : Int32))] []) _
        refine XS.iloadN X0.here hx rfl (hb hby d1_20) rfl ?_
        show OwnS p e below s₁ (mkF m 21 #[rv r0, iv 1, iv ((1 : Int32) + (1 : Int32))] [(.int 2)]) _
        refine XS.istoreN X0.here hx rfl (hb hby d1_21) rfl (l' := #[rv r0, iv 2, iv ((1 : Int32) + (1 : Int32))]) rfl ?_
        show OwnS p e below s₁ (mkF m 22 #[rv r0, iv 2, iv ((1 : Int32) + (1 : Int32))] []) _
        refine XS.iinc X0.here hx rfl (hb hby d1_22) rfl (l' := #[rv r0, iv 2, iv (((1 : Int32) + (1 : Int32)) + (1 : Int32))]) rfl ?_
        show OwnS p e below s₁ (mkF m 25 #[rv r0, iv 2, iv (((1 : Int32) + (1 : Int32)) + (1 : Int32))] []) _
        refine XS.goto X0.here hx rfl (pc0 := 25) (pc' := 4) rfl (hb hby d1_25) (by decide) (by decide) ?_
        show OwnS p e below s₁ (mkF m 4 #[rv r0, iv 2, iv (((1 : Int32) + (1 : Int32)) + (1 : Int32))] []) _
        refine XS.iloadN X0.here hx rfl (hb hby d1_4) rfl ?_
        show OwnS p e below s₁ (mkF m 5 #[rv r0, iv 2, iv (((1 : Int32) + (1 : Int32)) + (1 : Int32))] [(.int 3)]) _
        refine XS.aloadN X0.here hx rfl (hb hby d1_5) rfl rfl ?_
        show OwnS p e below s₁ (mkF m 6 #[rv r0, iv 2, iv (((1 : Int32) + (1 : Int32)) + (1 : Int32))] [(.ref r0), (.int 3)]) _
        refine X0.arraylength hx (by rw [e0]; exact Ar_z1.1) (State.isArrayOf_alike hZ.alike Ar_z1.2.1) (g := (mkF m 6 #[rv r0, iv 2, iv (((1 : Int32) + (1 : Int32)) + (1 : Int32))] [(.ref r0), (.int 3)])) rfl rfl (hb hby d1_6) _ ?_
        rw [len_of S_z1 N_z1]
        show OwnS p e below s₁ (mkF m 7 #[rv r0, iv 2, iv (((1 : Int32) + (1 : Int32)) + (1 : Int32))] [(.int 3), (.int 3)]) _
        refine XS.icmpYes X0.here hx rfl (pc0 := 7) (pc' := 28) rfl (hb hby d1_7) rfl (flt (by decide : ¬ ((3 : Int32) < (3 : Int32)))).2.1 (by decide) (by decide) ?_
        show OwnS p e below s₁ (mkF m 28 #[rv r0, iv 2, iv (((1 : Int32) + (1 : Int32)) + (1 : Int32))] []) _
        refine XS.iloadN X0.here hx rfl (hb hby d1_28) rfl ?_
        show OwnS p e below s₁ (mkF m 29 #[rv r0, iv 2, iv (((1 : Int32) + (1 : Int32)) + (1 : Int32))] [(.int 2)]) _
        exact retI X0 hx Bd.returns (hb hby d1_29) hr
      · show Q_1_3 Z r0 kA d0 d1 d2 h0 n0 _ s₁.heap _
        rw [e0]
        exact Or.inl (⟨rfl, N0, rfl, (by simp only [Int64.lt_iff_toInt_lt] at hc17_4 hc17_8 ⊢; omega), (own_asymm64 hc17_8), (by simp only [Int64.lt_iff_toInt_lt] at hc17_4 hc17_8 ⊢; omega), hc17_8⟩)
    · obtain ⟨fs, hr, hrun, hended, hW, hsame⟩ := X0.leave (v := some (.int 1)) (fun h => by rw [Bd.returns] at h; cases h)
      refine ⟨_, _, k9 _ ?_, hrun, hended, _, _, rfl, ?_, ⟨_, rfl⟩, hW, hsame.mono (by decide) (by decide)⟩
      · show OwnS p e below s₁ (mkF m 17 #[rv r0, iv 1, iv ((1 : Int32) + (1 : Int32))] [(.int (lcmpW d2 d1))]) _
        refine XS.ifYes X0.here hx rfl (pc0 := 17) (pc' := 22) rfl (hb hby d1_17) rfl ((if0 _ _).trans (flt (fun q => hc17_8 ((lw_gt _ _).mp q))).2.2.2) (by decide) (by decide) ?_
        show OwnS p e below s₁ (mkF m 22 #[rv r0, iv 1, iv ((1 : Int32) + (1 : Int32))] []) _
        refine XS.iinc X0.here hx rfl (hb hby d1_22) rfl (l' := #[rv r0, iv 1, iv (((1 : Int32) + (1 : Int32)) + (1 : Int32))]) rfl ?_
        show OwnS p e below s₁ (mkF m 25 #[rv r0, iv 1, iv (((1 : Int32) + (1 : Int32)) + (1 : Int32))] []) _
        refine XS.goto X0.here hx rfl (pc0 := 25) (pc' := 4) rfl (hb hby d1_25) (by decide) (by decide) ?_
        show OwnS p e below s₁ (mkF m 4 #[rv r0, iv 1, iv (((1 : Int32) + (1 : Int32)) + (1 : Int32))] []) _
        refine XS.iloadN X0.here hx rfl (hb hby d1_4) rfl ?_
        show OwnS p e below s₁ (mkF m 5 #[rv r0, iv 1, iv (((1 : Int32) + (1 : Int32)) + (1 : Int32))] [(.int 3)]) _
        refine XS.aloadN X0.here hx rfl (hb hby d1_5) rfl rfl ?_
        show OwnS p e below s₁ (mkF m 6 #[rv r0, iv 1, iv (((1 : Int32) + (1 : Int32)) + (1 : Int32))] [(.ref r0), (.int 3)]) _
        refine X0.arraylength hx (by rw [e0]; exact Ar_z1.1) (State.isArrayOf_alike hZ.alike Ar_z1.2.1) (g := (mkF m 6 #[rv r0, iv 1, iv (((1 : Int32) + (1 : Int32)) + (1 : Int32))] [(.ref r0), (.int 3)])) rfl rfl (hb hby d1_6) _ ?_
        rw [len_of S_z1 N_z1]
        show OwnS p e below s₁ (mkF m 7 #[rv r0, iv 1, iv (((1 : Int32) + (1 : Int32)) + (1 : Int32))] [(.int 3), (.int 3)]) _
        refine XS.icmpYes X0.here hx rfl (pc0 := 7) (pc' := 28) rfl (hb hby d1_7) rfl (flt (by decide : ¬ ((3 : Int32) < (3 : Int32)))).2.1 (by decide) (by decide) ?_
        show OwnS p e below s₁ (mkF m 28 #[rv r0, iv 1, iv (((1 : Int32) + (1 : Int32)) + (1 : Int32))] []) _
        refine XS.iloadN X0.here hx rfl (hb hby d1_28) rfl ?_
        show OwnS p e below s₁ (mkF m 29 #[rv r0, iv 1, iv (((1 : Int32) + (1 : Int32)) + (1 : Int32))] [(.int 1)]) _
        exact retI X0 hx Bd.returns (hb hby d1_29) hr
      · show Q_1_3 Z r0 kA d0 d1 d2 h0 n0 _ s₁.heap _
        rw [e0]
        exact Or.inr (Or.inl (⟨rfl, N0, rfl, (own_asymm64 hc17_4), hc17_8, hc17_4⟩))
  · have hin10 : ¬ ((2 : Int32) < 0 ∨ cl_z1.slots.size ≤ ((2 : Int32)).toNatClampNeg) := inb_of S_z1 ⟨by decide, by decide⟩
    have hin11 : ¬ ((0 : Int32) < 0 ∨ cl_z1.slots.size ≤ ((0 : Int32)).toNatClampNeg) := inb_of S_z1 ⟨by decide, by decide⟩
    have k13 : ∀ t, OwnS p e below s₁ (mkF m 17 #[rv r0, iv 0, iv ((1 : Int32) + (1 : Int32))] [(.int (lcmpW d2 d0))]) t → OwnS p e below s₁ (entryFrame m #[(.ref r0)] 3) t := fun t q => by
      refine k5 t ?_
      show OwnS p e below s₁ (mkF m 17 #[rv r0, iv 0, iv 1] [(.int (lcmpW d1 d0))]) _
      refine XS.ifYes X0.here hx rfl (pc0 := 17) (pc' := 22) rfl (hb hby d1_17) rfl ((if0 _ _).trans (flt (fun q => hc17_4 ((lw_gt _ _).mp q))).2.2.2) (by decide) (by decide) ?_
      show OwnS p e below s₁ (mkF m 22 #[rv r0, iv 0, iv 1] []) _
      refine XS.iinc X0.here hx rfl (hb hby d1_22) rfl (l' := #[rv r0, iv 0, iv ((1 : Int32) + (1 : Int32))]) rfl ?_
      show OwnS p e below s₁ (mkF m 25 #[rv r0, iv 0, iv ((1 : Int32) + (1 : Int32))] []) _
      refine XS.goto X0.here hx rfl (pc0 := 25) (pc' := 4) rfl (hb hby d1_25) (by decide) (by decide) ?_
      show OwnS p e below s₁ (mkF m 4 #[rv r0, iv 0, iv ((1 : Int32) + (1 : Int32))] []) _
      refine XS.iloadN X0.here hx rfl (hb hby d1_4) rfl ?_
      show OwnS p e below s₁ (mkF m 5 #[rv r0, iv 0, iv ((1 : Int32) + (1 : Int32))] [(.int 2)]) _
      refine XS.aloadN X0.here hx rfl (hb hby d1_5) rfl rfl ?_
      show OwnS p e below s₁ (mkF m 6 #[rv r0, iv 0, iv ((1 : Int32) + (1 : Int32))] [(.ref r0), (.int 2)]) _
      refine X0.arraylength hx (by rw [e0]; exact Ar_z1.1) (State.isArrayOf_alike hZ.alike Ar_z1.2.1) (g := (mkF m 6 #[rv r0, iv 0, iv ((1 : Int32) + (1 : Int32))] [(.ref r0), (.int 2)])) rfl rfl (hb hby d1_6) _ ?_
      rw [len_of S_z1 N_z1]
      show OwnS p e below s₁ (mkF m 7 #[rv r0, iv 0, iv ((1 : Int32) + (1 : Int32))] [(.int 3), (.int 2)]) _
      refine XS.icmpNo X0.here hx rfl (hb hby d1_7) rfl (tlt (by decide : (2 : Int32) < (3 : Int32))).2.1 ?_
      show OwnS p e below s₁ (mkF m 10 #[rv r0, iv 0, iv ((1 : Int32) + (1 : Int32))] []) _
      refine XS.aloadN X0.here hx rfl (hb hby d1_10) rfl rfl ?_
      show OwnS p e below s₁ (mkF m 11 #[rv r0, iv 0, iv ((1 : Int32) + (1 : Int32))] [(.ref r0)]) _
      refine XS.iloadN X0.here hx rfl (hb hby d1_11) rfl ?_
      show OwnS p e below s₁ (mkF m 12 #[rv r0, iv 0, iv ((1 : Int32) + (1 : Int32))] [(.int 2), (.ref r0)]) _
      refine X0.daload hx (j := (2 : Int32)) (v := (.double (FP.l2d d2))) (by rw [e0]; exact Ar_z1.1) (State.isArrayOf_alike hZ.alike Ar_z1.2.1) Ar_z1.2.2 hin10 (Has.at H_z1 hin10 rfl) (g := (mkF m 12 #[rv r0, iv 0, iv ((1 : Int32) + (1 : Int32))] [(.int 2), (.ref r0)])) rfl rfl (hb hby d1_12) _ ?_
      show OwnS p e below s₁ (mkF m 13 #[rv r0, iv 0, iv ((1 : Int32) + (1 : Int32))] [(.double (FP.l2d d2))]) _
      refine XS.aloadN X0.here hx rfl (hb hby d1_13) rfl rfl ?_
      show OwnS p e below s₁ (mkF m 14 #[rv r0, iv 0, iv ((1 : Int32) + (1 : Int32))] [(.ref r0), (.double (FP.l2d d2))]) _
      refine XS.iloadN X0.here hx rfl (hb hby d1_14) rfl ?_
      show OwnS p e below s₁ (mkF m 15 #[rv r0, iv 0, iv ((1 : Int32) + (1 : Int32))] [(.int 0), (.ref r0), (.double (FP.l2d d2))]) _
      refine X0.daload hx (j := (0 : Int32)) (v := (.double (FP.l2d d0))) (by rw [e0]; exact Ar_z1.1) (State.isArrayOf_alike hZ.alike Ar_z1.2.1) Ar_z1.2.2 hin11 (Has.at H_z1 hin11 rfl) (g := (mkF m 15 #[rv r0, iv 0, iv ((1 : Int32) + (1 : Int32))] [(.int 0), (.ref r0), (.double (FP.l2d d2))])) rfl rfl (hb hby d1_15) _ ?_
      show OwnS p e below s₁ (mkF m 16 #[rv r0, iv 0, iv ((1 : Int32) + (1 : Int32))] [(.double (FP.l2d d0)), (.double (FP.l2d d2))]) _
      refine XS.dcmpS X0.here hx rfl (hb hby d1_16) rfl (dcmpV_w b_d2 b_d0 _) ?_
      exact q
    by_cases hc17_12 : d0 < d2
    · obtain ⟨fs, hr, hrun, hended, hW, hsame⟩ := X0.leave (v := some (.int 2)) (fun h => by rw [Bd.returns] at h; cases h)
      refine ⟨_, _, k13 _ ?_, hrun, hended, _, _, rfl, ?_, ⟨_, rfl⟩, hW, hsame.mono (by decide) (by decide)⟩
      · show OwnS p e below s₁ (mkF m 17 #[rv r0, iv 0, iv ((1 : Int32) + (1 : Int32))] [(.int (lcmpW d2 d0))]) _
        refine XS.ifNo X0.here hx rfl (hb hby d1_17) rfl ((if0 _ _).trans (tlt ((lw_gt _ _).mpr hc17_12)).2.2.2) ?_
        show OwnS p e below s₁ (mkF m 20 #[rv r0, iv 0, iv ((1 : Int32) + (1 : Int32))] []) _
        refine XS.iloadN X0.here hx rfl (hb hby d1_20) rfl ?_
        show OwnS p e below s₁ (mkF m 21 #[rv r0, iv 0, iv ((1 : Int32) + (1 : Int32))] [(.int 2)]) _
        refine XS.istoreN X0.here hx rfl (hb hby d1_21) rfl (l' := #[rv r0, iv 2, iv ((1 : Int32) + (1 : Int32))]) rfl ?_
        show OwnS p e below s₁ (mkF m 22 #[rv r0, iv 2, iv ((1 : Int32) + (1 : Int32))] []) _
        refine XS.iinc X0.here hx rfl (hb hby d1_22) rfl (l' := #[rv r0, iv 2, iv (((1 : Int32) + (1 : Int32)) + (1 : Int32))]) rfl ?_
        show OwnS p e below s₁ (mkF m 25 #[rv r0, iv 2, iv (((1 : Int32) + (1 : Int32)) + (1 : Int32))] []) _
        refine XS.goto X0.here hx rfl (pc0 := 25) (pc' := 4) rfl (hb hby d1_25) (by decide) (by decide) ?_
        show OwnS p e below s₁ (mkF m 4 #[rv r0, iv 2, iv (((1 : Int32) + (1 : Int32)) + (1 : Int32))] []) _
        refine XS.iloadN X0.here hx rfl (hb hby d1_4) rfl ?_
        show OwnS p e below s₁ (mkF m 5 #[rv r0, iv 2, iv (((1 : Int32) + (1 : Int32)) + (1 : Int32))] [(.int 3)]) _
        refine XS.aloadN X0.here hx rfl (hb hby d1_5) rfl rfl ?_
        show OwnS p e below s₁ (mkF m 6 #[rv r0, iv 2, iv (((1 : Int32) + (1 : Int32)) + (1 : Int32))] [(.ref r0), (.int 3)]) _
        refine X0.arraylength hx (by rw [e0]; exact Ar_z1.1) (State.isArrayOf_alike hZ.alike Ar_z1.2.1) (g := (mkF m 6 #[rv r0, iv 2, iv (((1 : Int32) + (1 : Int32)) + (1 : Int32))] [(.ref r0), (.int 3)])) rfl rfl (hb hby d1_6) _ ?_
        rw [len_of S_z1 N_z1]
        show OwnS p e below s₁ (mkF m 7 #[rv r0, iv 2, iv (((1 : Int32) + (1 : Int32)) + (1 : Int32))] [(.int 3), (.int 3)]) _
        refine XS.icmpYes X0.here hx rfl (pc0 := 7) (pc' := 28) rfl (hb hby d1_7) rfl (flt (by decide : ¬ ((3 : Int32) < (3 : Int32)))).2.1 (by decide) (by decide) ?_
        show OwnS p e below s₁ (mkF m 28 #[rv r0, iv 2, iv (((1 : Int32) + (1 : Int32)) + (1 : Int32))] []) _
        refine XS.iloadN X0.here hx rfl (hb hby d1_28) rfl ?_
        show OwnS p e below s₁ (mkF m 29 #[rv r0, iv 2, iv (((1 : Int32) + (1 : Int32)) + (1 : Int32))] [(.int 2)]) _
        exact retI X0 hx Bd.returns (hb hby d1_29) hr
      · show Q_1_3 Z r0 kA d0 d1 d2 h0 n0 _ s₁.heap _
        rw [e0]
        exact Or.inl (⟨rfl, N0, rfl, (own_asymm64 hc17_12), (by simp only [Int64.lt_iff_toInt_lt] at hc17_12 hc17_4 ⊢; omega), hc17_12, (by simp only [Int64.lt_iff_toInt_lt] at hc17_12 hc17_4 ⊢; omega)⟩)
    · obtain ⟨fs, hr, hrun, hended, hW, hsame⟩ := X0.leave (v := some (.int 0)) (fun h => by rw [Bd.returns] at h; cases h)
      refine ⟨_, _, k13 _ ?_, hrun, hended, _, _, rfl, ?_, ⟨_, rfl⟩, hW, hsame.mono (by decide) (by decide)⟩
      · show OwnS p e below s₁ (mkF m 17 #[rv r0, iv 0, iv ((1 : Int32) + (1 : Int32))] [(.int (lcmpW d2 d0))]) _
        refine XS.ifYes X0.here hx rfl (pc0 := 17) (pc' := 22) rfl (hb hby d1_17) rfl ((if0 _ _).trans (flt (fun q => hc17_12 ((lw_gt _ _).mp q))).2.2.2) (by decide) (by decide) ?_
        show OwnS p e below s₁ (mkF m 22 #[rv r0, iv 0, iv ((1 : Int32) + (1 : Int32))] []) _
        refine XS.iinc X0.here hx rfl (hb hby d1_22) rfl (l' := #[rv r0, iv 0, iv (((1 : Int32) + (1 : Int32)) + (1 : Int32))]) rfl ?_
        show OwnS p e below s₁ (mkF m 25 #[rv r0, iv 0, iv (((1 : Int32) + (1 : Int32)) + (1 : Int32))] []) _
        refine XS.goto X0.here hx rfl (pc0 := 25) (pc' := 4) rfl (hb hby d1_25) (by decide) (by decide) ?_
        show OwnS p e below s₁ (mkF m 4 #[rv r0, iv 0, iv (((1 : Int32) + (1 : Int32)) + (1 : Int32))] []) _
        refine XS.iloadN X0.here hx rfl (hb hby d1_4) rfl ?_
        show OwnS p e below s₁ (mkF m 5 #[rv r0, iv 0, iv (((1 : Int32) + (1 : Int32)) + (1 : Int32))] [(.int 3)]) _
        refine XS.aloadN X0.here hx rfl (hb hby d1_5) rfl rfl ?_
        show OwnS p e below s₁ (mkF m 6 #[rv r0, iv 0, iv (((1 : Int32) + (1 : Int32)) + (1 : Int32))] [(.ref r0), (.int 3)]) _
        refine X0.arraylength hx (by rw [e0]; exact Ar_z1.1) (State.isArrayOf_alike hZ.alike Ar_z1.2.1) (g := (mkF m 6 #[rv r0, iv 0, iv (((1 : Int32) + (1 : Int32)) + (1 : Int32))] [(.ref r0), (.int 3)])) rfl rfl (hb hby d1_6) _ ?_
        rw [len_of S_z1 N_z1]
        show OwnS p e below s₁ (mkF m 7 #[rv r0, iv 0, iv (((1 : Int32) + (1 : Int32)) + (1 : Int32))] [(.int 3), (.int 3)]) _
        refine XS.icmpYes X0.here hx rfl (pc0 := 7) (pc' := 28) rfl (hb hby d1_7) rfl (flt (by decide : ¬ ((3 : Int32) < (3 : Int32)))).2.1 (by decide) (by decide) ?_
        show OwnS p e below s₁ (mkF m 28 #[rv r0, iv 0, iv (((1 : Int32) + (1 : Int32)) + (1 : Int32))] []) _
        refine XS.iloadN X0.here hx rfl (hb hby d1_28) rfl ?_
        show OwnS p e below s₁ (mkF m 29 #[rv r0, iv 0, iv (((1 : Int32) + (1 : Int32)) + (1 : Int32))] [(.int 0)]) _
        exact retI X0 hx Bd.returns (hb hby d1_29) hr
      · show Q_1_3 Z r0 kA d0 d1 d2 h0 n0 _ s₁.heap _
        rw [e0]
        exact Or.inr (Or.inr ((⟨rfl, N0, rfl, hc17_4, hc17_12⟩)))
def Q_1_4 (Z : State) (r0 : Addr) (kA : ClassId) (d0 : Int64) (d1 : Int64) (d2 : Int64) (d3 : Int64) (h0 : Heap) (n0 : Nat) (v : Option Value) (h : Heap) (L : List Loc) : Prop := (v = some (.int 3) ∧ Fr n0 L ∧ h = h0 ∧ ¬ (d3 < d0) ∧ ¬ (d3 < d1) ∧ ¬ (d3 < d2) ∧ d0 < d3 ∧ d1 < d3 ∧ d2 < d3) ∨ (v = some (.int 2) ∧ Fr n0 L ∧ h = h0 ∧ ¬ (d2 < d0) ∧ ¬ (d2 < d1) ∧ ¬ (d2 < d3) ∧ d0 < d2 ∧ d1 < d2) ∨ (v = some (.int 1) ∧ Fr n0 L ∧ h = h0 ∧ ¬ (d1 < d0) ∧ ¬ (d1 < d2) ∧ ¬ (d1 < d3) ∧ d0 < d1) ∨ (v = some (.int 0) ∧ Fr n0 L ∧ h = h0 ∧ ¬ (d0 < d1) ∧ ¬ (d0 < d2) ∧ ¬ (d0 < d3))
set_option maxRecDepth 65536 in
set_option maxHeartbeats 40000000 in
theorem rm1_4 (l : Launch) (Z : State) (a0 : Array Value) (hw : ∀ d ∈ tables_1, d.before a0 Z = true) (ws : List Jvm.Cond) (r0 : Addr) (kA : ClassId) (d0 : Int64) (d1 : Int64) (d2 : Int64) (d3 : Int64) (h0 : Heap) (n0 : Nat) (Z0 : n0 ≤ h0.size) (V_r0 : Arv Z h0 r0 kA .double (4 : Int32) [(.double (FP.l2d d0)), (.double (FP.l2d d1)), (.double (FP.l2d d2)), (.double (FP.l2d d3))] (.double (FP.l2d (0 : Int64)))) (b_d0 : B53 d0) (b_d1 : B53 d1) (b_d2 : B53 d2) (b_d3 : B53 d3) :
    MetFree l (⟨cS1, "bestClass", "([D)I"⟩ : MethodName) (head1 (Jvm.Cond.code (⟨cS1, "bestClass", "([D)I"⟩ : MethodName) prog_12_method_4_code 3 (some .int) :: ws) ({ frames := 0, cells := 0, slots := 0, locals := 0 } : Room)) (fun a U => a = #[(.ref r0)] ∧ Z.Warmed39 U.vm ∧ U.heap = h0) (fun _ _ _ _ _ => True) (fun _ U o U' => ∃ v L, o = .returned v ∧ Q_1_4 Z r0 kA d0 d1 d2 d3 h0 n0 v U'.heap L ∧ FrameEnd U o U' L ({ frames := 0, cells := 0, slots := 0, locals := 0 } : Room).cells ({ frames := 0, cells := 0, slots := 0, locals := 0 } : Room).slots) := by
  refine MetFree.of_bodySF (plainFor_of_name pn_com_example_driftline_driftline_core_Learner) hisR ?_
  intro p e s m args below meth c s₁ Bd hml0 hP hK
  obtain ⟨rfl, hZ, hh⟩ := hP
  have hx := Bd.exec
  have hby := Bd.bytes
  have hml : c.maxLocals = 3 := hml0
  have hown : s.vm.findClass cS1 = some m.cls := findClass_of_methodNamed Bd.named
  have hnm := (name_of_methodNamed Bd.named Bd.method).1
  have X0 : Stand p l e ({ frames := 0, cells := 0, slots := 0, locals := 0 } : Room) s m #[(.ref r0)] below meth c s₁ [] 0 0 := Stand.of_body Bd
  have e0 : s₁.heap = h0 := by rw [← hh, Bd.state]; rfl
  have N0 := Fr.nil n0
  have k0 : ∀ t, OwnS p e below s₁ (mkF m 0 #[rv r0, .unset, .unset] []) t → OwnS p e below s₁ (entryFrame m #[(.ref r0)] 3) t := fun t k => castTop (ef_1 m r0) k
  obtain ⟨cl_z1, Ar_z1, q_z1, S_z1, N_z1, H_z1, G_z1⟩ := id V_r0
  have hin2 : ¬ ((1 : Int32) < 0 ∨ cl_z1.slots.size ≤ ((1 : Int32)).toNatClampNeg) := inb_of S_z1 ⟨by decide, by decide⟩
  have hin3 : ¬ ((0 : Int32) < 0 ∨ cl_z1.slots.size ≤ ((0 : Int32)).toNatClampNeg) := inb_of S_z1 ⟨by decide, by decide⟩
  have k5 : ∀ t, OwnS p e below s₁ (mkF m 17 #[rv r0, iv 0, iv 1] [(.int (lcmpW d1 d0))]) t → OwnS p e below s₁ (entryFrame m #[(.ref r0)] 3) t := fun t q => by
    refine k0 t ?_
    show OwnS p e below s₁ (mkF m 0 #[rv r0, .unset, .unset] []) _
    refine XS.iconst X0.here hx rfl (hb hby d1_0) ?_
    show OwnS p e below s₁ (mkF m 1 #[rv r0, .unset, .unset] [(.int 0)]) _
    refine XS.istoreN X0.here hx rfl (hb hby d1_1) rfl (l' := #[rv r0, iv 0, .unset]) rfl ?_
    show OwnS p e below s₁ (mkF m 2 #[rv r0, iv 0, .unset] []) _
    refine XS.iconst X0.here hx rfl (hb hby d1_2) ?_
    show OwnS p e below s₁ (mkF m 3 #[rv r0, iv 0, .unset] [(.int 1)]) _
    refine XS.istoreN X0.here hx rfl (hb hby d1_3) rfl (l' := #[rv r0, iv 0, iv 1]) rfl ?_
    show OwnS p e below s₁ (mkF m 4 #[rv r0, iv 0, iv 1] []) _
    refine XS.iloadN X0.here hx rfl (hb hby d1_4) rfl ?_
    show OwnS p e below s₁ (mkF m 5 #[rv r0, iv 0, iv 1] [(.int 1)]) _
    refine XS.aloadN X0.here hx rfl (hb hby d1_5) rfl rfl ?_
    show OwnS p e below s₁ (mkF m 6 #[rv r0, iv 0, iv 1] [(.ref r0), (.int 1)]) _
    refine X0.arraylength hx (by rw [e0]; exact Ar_z1.1) (State.isArrayOf_alike hZ.alike Ar_z1.2.1) (g := (mkF m 6 #[rv r0, iv 0, iv 1] [(.ref r0), (.int 1)])) rfl rfl (hb hby d1_6) _ ?_
    rw [len_of S_z1 N_z1]
    show OwnS p e below s₁ (mkF m 7 #[rv r0, iv 0, iv 1] [(.int 4), (.int 1)]) _
    refine XS.icmpNo X0.here hx rfl (hb hby d1_7) rfl (tlt (by decide : (1 : Int32) < (4 : Int32))).2.1 ?_
    show OwnS p e below s₁ (mkF m 10 #[rv r0, iv 0, iv 1] []) _
    refine XS.aloadN X0.here hx rfl (hb hby d1_10) rfl rfl ?_
    show OwnS p e below s₁ (mkF m 11 #[rv r0, iv 0, iv 1] [(.ref r0)]) _
    refine XS.iloadN X0.here hx rfl (hb hby d1_11) rfl ?_
    show OwnS p e below s₁ (mkF m 12 #[rv r0, iv 0, iv 1] [(.int 1), (.ref r0)]) _
    refine X0.daload hx (j := (1 : Int32)) (v := (.double (FP.l2d d1))) (by rw [e0]; exact Ar_z1.1) (State.isArrayOf_alike hZ.alike Ar_z1.2.1) Ar_z1.2.2 hin2 (Has.at H_z1 hin2 rfl) (g := (mkF m 12 #[rv r0, iv 0, iv 1] [(.int 1), (.ref r0)])) rfl rfl (hb hby d1_12) _ ?_
    show OwnS p e below s₁ (mkF m 13 #[rv r0, iv 0, iv 1] [(.double (FP.l2d d1))]) _
    refine XS.aloadN X0.here hx rfl (hb hby d1_13) rfl rfl ?_
    show OwnS p e below s₁ (mkF m 14 #[rv r0, iv 0, iv 1] [(.ref r0), (.double (FP.l2d d1))]) _
    refine XS.iloadN X0.here hx rfl (hb hby d1_14) rfl ?_
    show OwnS p e below s₁ (mkF m 15 #[rv r0, iv 0, iv 1] [(.int 0), (.ref r0), (.double (FP.l2d d1))]) _
    refine X0.daload hx (j := (0 : Int32)) (v := (.double (FP.l2d d0))) (by rw [e0]; exact Ar_z1.1) (State.isArrayOf_alike hZ.alike Ar_z1.2.1) Ar_z1.2.2 hin3 (Has.at H_z1 hin3 rfl) (g := (mkF m 15 #[rv r0, iv 0, iv 1] [(.int 0), (.ref r0), (.double (FP.l2d d1))])) rfl rfl (hb hby d1_15) _ ?_
    show OwnS p e below s₁ (mkF m 16 #[rv r0, iv 0, iv 1] [(.double (FP.l2d d0)), (.double (FP.l2d d1))]) _
    refine XS.dcmpS X0.here hx rfl (hb hby d1_16) rfl (dcmpV_w b_d1 b_d0 _) ?_
    exact q
  by_cases hc17_4 : d0 < d1
  · have hin6 : ¬ ((2 : Int32) < 0 ∨ cl_z1.slots.size ≤ ((2 : Int32)).toNatClampNeg) := inb_of S_z1 ⟨by decide, by decide⟩
    have hin7 : ¬ ((1 : Int32) < 0 ∨ cl_z1.slots.size ≤ ((1 : Int32)).toNatClampNeg) := inb_of S_z1 ⟨by decide, by decide⟩
    have k9 : ∀ t, OwnS p e below s₁ (mkF m 17 #[rv r0, iv 1, iv ((1 : Int32) + (1 : Int32))] [(.int (lcmpW d2 d1))]) t → OwnS p e below s₁ (entryFrame m #[(.ref r0)] 3) t := fun t q => by
      refine k5 t ?_
      show OwnS p e below s₁ (mkF m 17 #[rv r0, iv 0, iv 1] [(.int (lcmpW d1 d0))]) _
      refine XS.ifNo X0.here hx rfl (hb hby d1_17) rfl ((if0 _ _).trans (tlt ((lw_gt _ _).mpr hc17_4)).2.2.2) ?_
      show OwnS p e below s₁ (mkF m 20 #[rv r0, iv 0, iv 1] []) _
      refine XS.iloadN X0.here hx rfl (hb hby d1_20) rfl ?_
      show OwnS p e below s₁ (mkF m 21 #[rv r0, iv 0, iv 1] [(.int 1)]) _
      refine XS.istoreN X0.here hx rfl (hb hby d1_21) rfl (l' := #[rv r0, iv 1, iv 1]) rfl ?_
      show OwnS p e below s₁ (mkF m 22 #[rv r0, iv 1, iv 1] []) _
      refine XS.iinc X0.here hx rfl (hb hby d1_22) rfl (l' := #[rv r0, iv 1, iv ((1 : Int32) + (1 : Int32))]) rfl ?_
      show OwnS p e below s₁ (mkF m 25 #[rv r0, iv 1, iv ((1 : Int32) + (1 : Int32))] []) _
      refine XS.goto X0.here hx rfl (pc0 := 25) (pc' := 4) rfl (hb hby d1_25) (by decide) (by decide) ?_
      show OwnS p e below s₁ (mkF m 4 #[rv r0, iv 1, iv ((1 : Int32) + (1 : Int32))] []) _
      refine XS.iloadN X0.here hx rfl (hb hby d1_4) rfl ?_
      show OwnS p e below s₁ (mkF m 5 #[rv r0, iv 1, iv ((1 : Int32) + (1 : Int32))] [(.int 2)]) _
      refine XS.aloadN X0.here hx rfl (hb hby d1_5) rfl rfl ?_
      show OwnS p e below s₁ (mkF m 6 #[rv r0, iv 1, iv ((1 : Int32) + (1 : Int32))] [(.ref r0), (.int 2)]) _
      refine X0.arraylength hx (by rw [e0]; exact Ar_z1.1) (State.isArrayOf_alike hZ.alike Ar_z1.2.1) (g := (mkF m 6 #[rv r0, iv 1, iv ((1 : Int32) + (1 : Int32))] [(.ref r0), (.int 2)])) rfl rfl (hb hby d1_6) _ ?_
      rw [len_of S_z1 N_z1]
      show OwnS p e below s₁ (mkF m 7 #[rv r0, iv 1, iv ((1 : Int32) + (1 : Int32))] [(.int 4), (.int 2)]) _
      refine XS.icmpNo X0.here hx rfl (hb hby d1_7) rfl (tlt (by decide : (2 : Int32) < (4 : Int32))).2.1 ?_
      show OwnS p e below s₁ (mkF m 10 #[rv r0, iv 1, iv ((1 : Int32) + (1 : Int32))] []) _
      refine XS.aloadN X0.here hx rfl (hb hby d1_10) rfl rfl ?_
      show OwnS p e below s₁ (mkF m 11 #[rv r0, iv 1, iv ((1 : Int32) + (1 : Int32))] [(.ref r0)]) _
      refine XS.iloadN X0.here hx rfl (hb hby d1_11) rfl ?_
      show OwnS p e below s₁ (mkF m 12 #[rv r0, iv 1, iv ((1 : Int32) + (1 : Int32))] [(.int 2), (.ref r0)]) _
      refine X0.daload hx (j := (2 : Int32)) (v := (.double (FP.l2d d2))) (by rw [e0]; exact Ar_z1.1) (State.isArrayOf_alike hZ.alike Ar_z1.2.1) Ar_z1.2.2 hin6 (Has.at H_z1 hin6 rfl) (g := (mkF m 12 #[rv r0, iv 1, iv ((1 : Int32) + (1 : Int32))] [(.int 2), (.ref r0)])) rfl rfl (hb hby d1_12) _ ?_
      show OwnS p e below s₁ (mkF m 13 #[rv r0, iv 1, iv ((1 : Int32) + (1 : Int32))] [(.double (FP.l2d d2))]) _
      refine XS.aloadN X0.here hx rfl (hb hby d1_13) rfl rfl ?_
      show OwnS p e below s₁ (mkF m 14 #[rv r0, iv 1, iv ((1 : Int32) + (1 : Int32))] [(.ref r0), (.double (FP.l2d d2))]) _
      refine XS.iloadN X0.here hx rfl (hb hby d1_14) rfl ?_
      show OwnS p e below s₁ (mkF m 15 #[rv r0, iv 1, iv ((1 : Int32) + (1 : Int32))] [(.int 1), (.ref r0), (.double (FP.l2d d2))]) _
      refine X0.daload hx (j := (1 : Int32)) (v := (.double (FP.l2d d1))) (by rw [e0]; exact Ar_z1.1) (State.isArrayOf_alike hZ.alike Ar_z1.2.1) Ar_z1.2.2 hin7 (Has.at H_z1 hin7 rfl) (g := (mkF m 15 #[rv r0, iv 1, iv ((1 : Int32) + (1 : Int32))] [(.int 1), (.ref r0), (.double (FP.l2d d2))])) rfl rfl (hb hby d1_15) _ ?_
      show OwnS p e below s₁ (mkF m 16 #[rv r0, iv 1, iv ((1 : Int32) + (1 : Int32))] [(.double (FP.l2d d1)), (.double (FP.l2d d2))]) _
      refine XS.dcmpS X0.here hx rfl (hb hby d1_16) rfl (dcmpV_w b_d2 b_d1 _) ?_
      exact q
    by_cases hc17_8 : d1 < d2
    · have hin10 : ¬ ((3 : Int32) < 0 ∨ cl_z1.slots.size ≤ ((3 : Int32)).toNatClampNeg) := inb_of S_z1 ⟨by decide, by decide⟩
      have hin11 : ¬ ((2 : Int32) < 0 ∨ cl_z1.slots.size ≤ ((2 : Int32)).toNatClampNeg) := inb_of S_z1 ⟨by decide, by decide⟩
      have k13 : ∀ t, OwnS p e below s₁ (mkF m 17 #[rv r0, iv 2, iv (((1 : Int32) + (1 : Int32)) + (1 : Int32))] [(.int (lcmpW d3 d2))]) t → OwnS p e below s₁ (entryFrame m #[(.ref r0)] 3) t := fun t q => by
        refine k9 t ?_
        show OwnS p e below s₁ (mkF m 17 #[rv r0, iv 1, iv ((1 : Int32) + (1 : Int32))] [(.int (lcmpW d2 d1))]) _
        refine XS.ifNo X0.here hx rfl (hb hby d1_17) rfl ((if0 _ _).trans (tlt ((lw_gt _ _).mpr hc17_8)).2.2.2) ?_
        show OwnS p e below s₁ (mkF m 20 #[rv r0, iv 1, iv ((1 : Int32) + (1 : Int32))] []) _
        refine XS.iloadN X0.here hx rfl (hb hby d1_20) rfl ?_
        show OwnS p e below s₁ (mkF m 21 #[rv r0, iv 1, iv ((1 : Int32) + (1 : Int32))] [(.int 2)]) _
        refine XS.istoreN X0.here hx rfl (hb hby d1_21) rfl (l' := #[rv r0, iv 2, iv ((1 : Int32) + (1 : Int32))]) rfl ?_
        show OwnS p e below s₁ (mkF m 22 #[rv r0, iv 2, iv ((1 : Int32) + (1 : Int32))] []) _
        refine XS.iinc X0.here hx rfl (hb hby d1_22) rfl (l' := #[rv r0, iv 2, iv (((1 : Int32) + (1 : Int32)) + (1 : Int32))]) rfl ?_
        show OwnS p e below s₁ (mkF m 25 #[rv r0, iv 2, iv (((1 : Int32) + (1 : Int32)) + (1 : Int32))] []) _
        refine XS.goto X0.here hx rfl (pc0 := 25) (pc' := 4) rfl (hb hby d1_25) (by decide) (by decide) ?_
        show OwnS p e below s₁ (mkF m 4 #[rv r0, iv 2, iv (((1 : Int32) + (1 : Int32)) + (1 : Int32))] []) _
        refine XS.iloadN X0.here hx rfl (hb hby d1_4) rfl ?_
        show OwnS p e below s₁ (mkF m 5 #[rv r0, iv 2, iv (((1 : Int32) + (1 : Int32)) + (1 : Int32))] [(.int 3)]) _
        refine XS.aloadN X0.here hx rfl (hb hby d1_5) rfl rfl ?_
        show OwnS p e below s₁ (mkF m 6 #[rv r0, iv 2, iv (((1 : Int32) + (1 : Int32)) + (1 : Int32))] [(.ref r0), (.int 3)]) _
        refine X0.arraylength hx (by rw [e0]; exact Ar_z1.1) (State.isArrayOf_alike hZ.alike Ar_z1.2.1) (g := (mkF m 6 #[rv r0, iv 2, iv (((1 : Int32) + (1 : Int32)) + (1 : Int32))] [(.ref r0), (.int 3)])) rfl rfl (hb hby d1_6) _ ?_
        rw [len_of S_z1 N_z1]
        show OwnS p e below s₁ (mkF m 7 #[rv r0, iv 2, iv (((1 : Int32) + (1 : Int32)) + (1 : Int32))] [(.int 4), (.int 3)]) _
        refine XS.icmpNo X0.here hx rfl (hb hby d1_7) rfl (tlt (by decide : (3 : Int32) < (4 : Int32))).2.1 ?_
        show OwnS p e below s₁ (mkF m 10 #[rv r0, iv 2, iv (((1 : Int32) + (1 : Int32)) + (1 : Int32))] []) _
        refine XS.aloadN X0.here hx rfl (hb hby d1_10) rfl rfl ?_
        show OwnS p e below s₁ (mkF m 11 #[rv r0, iv 2, iv (((1 : Int32) + (1 : Int32)) + (1 : Int32))] [(.ref r0)]) _
        refine XS.iloadN X0.here hx rfl (hb hby d1_11) rfl ?_
        show OwnS p e below s₁ (mkF m 12 #[rv r0, iv 2, iv (((1 : Int32) + (1 : Int32)) + (1 : Int32))] [(.int 3), (.ref r0)]) _
        refine X0.daload hx (j := (3 : Int32)) (v := (.double (FP.l2d d3))) (by rw [e0]; exact Ar_z1.1) (State.isArrayOf_alike hZ.alike Ar_z1.2.1) Ar_z1.2.2 hin10 (Has.at H_z1 hin10 rfl) (g := (mkF m 12 #[rv r0, iv 2, iv (((1 : Int32) + (1 : Int32)) + (1 : Int32))] [(.int 3), (.ref r0)])) rfl rfl (hb hby d1_12) _ ?_
        show OwnS p e below s₁ (mkF m 13 #[rv r0, iv 2, iv (((1 : Int32) + (1 : Int32)) + (1 : Int32))] [(.double (FP.l2d d3))]) _
        refine XS.aloadN X0.here hx rfl (hb hby d1_13) rfl rfl ?_
        show OwnS p e below s₁ (mkF m 14 #[rv r0, iv 2, iv (((1 : Int32) + (1 : Int32)) + (1 : Int32))] [(.ref r0), (.double (FP.l2d d3))]) _
        refine XS.iloadN X0.here hx rfl (hb hby d1_14) rfl ?_
        show OwnS p e below s₁ (mkF m 15 #[rv r0, iv 2, iv (((1 : Int32) + (1 : Int32)) + (1 : Int32))] [(.int 2), (.ref r0), (.double (FP.l2d d3))]) _
        refine X0.daload hx (j := (2 : Int32)) (v := (.double (FP.l2d d2))) (by rw [e0]; exact Ar_z1.1) (State.isArrayOf_alike hZ.alike Ar_z1.2.1) Ar_z1.2.2 hin11 (Has.at H_z1 hin11 rfl) (g := (mkF m 15 #[rv r0, iv 2, iv (((1 : Int32) + (1 : Int32)) + (1 : Int32))] [(.int 2), (.ref r0), (.double (FP.l2d d3))])) rfl rfl (hb hby d1_15) _ ?_
        show OwnS p e below s₁ (mkF m 16 #[rv r0, iv 2, iv (((1 : Int32) + (1 : Int32)) + (1 : Int32))] [(.double (FP.l2d d2)), (.double (FP.l2d d3))]) _
        refine XS.dcmpS X0.here hx rfl (hb hby d1_16) rfl (dcmpV_w b_d3 b_d2 _) ?_
        exact q
      by_cases hc17_12 : d2 < d3
      · obtain ⟨fs, hr, hrun, hended, hW, hsame⟩ := X0.leave (v := some (.int 3)) (fun h => by rw [Bd.returns] at h; cases h)
        refine ⟨_, _, k13 _ ?_, hrun, hended, _, _, rfl, ?_, ⟨_, rfl⟩, hW, hsame.mono (by decide) (by decide)⟩
        · show OwnS p e below s₁ (mkF m 17 #[rv r0, iv 2, iv (((1 : Int32) + (1 : Int32)) + (1 : Int32))] [(.int (lcmpW d3 d2))]) _
          refine XS.ifNo X0.here hx rfl (hb hby d1_17) rfl ((if0 _ _).trans (tlt ((lw_gt _ _).mpr hc17_12)).2.2.2) ?_
          show OwnS p e below s₁ (mkF m 20 #[rv r0, iv 2, iv (((1 : Int32) + (1 : Int32)) + (1 : Int32))] []) _
          refine XS.iloadN X0.here hx rfl (hb hby d1_20) rfl ?_
          show OwnS p e below s₁ (mkF m 21 #[rv r0, iv 2, iv (((1 : Int32) + (1 : Int32)) + (1 : Int32))] [(.int 3)]) _
          refine XS.istoreN X0.here hx rfl (hb hby d1_21) rfl (l' := #[rv r0, iv 3, iv (((1 : Int32) + (1 : Int32)) + (1 : Int32))]) rfl ?_
          show OwnS p e below s₁ (mkF m 22 #[rv r0, iv 3, iv (((1 : Int32) + (1 : Int32)) + (1 : Int32))] []) _
          refine XS.iinc X0.here hx rfl (hb hby d1_22) rfl (l' := #[rv r0, iv 3, iv ((((1 : Int32) + (1 : Int32)) + (1 : Int32)) + (1 : Int32))]) rfl ?_
          show OwnS p e below s₁ (mkF m 25 #[rv r0, iv 3, iv ((((1 : Int32) + (1 : Int32)) + (1 : Int32)) + (1 : Int32))] []) _
          refine XS.goto X0.here hx rfl (pc0 := 25) (pc' := 4) rfl (hb hby d1_25) (by decide) (by decide) ?_
          show OwnS p e below s₁ (mkF m 4 #[rv r0, iv 3, iv ((((1 : Int32) + (1 : Int32)) + (1 : Int32)) + (1 : Int32))] []) _
          refine XS.iloadN X0.here hx rfl (hb hby d1_4) rfl ?_
          show OwnS p e below s₁ (mkF m 5 #[rv r0, iv 3, iv ((((1 : Int32) + (1 : Int32)) + (1 : Int32)) + (1 : Int32))] [(.int 4)]) _
          refine XS.aloadN X0.here hx rfl (hb hby d1_5) rfl rfl ?_
          show OwnS p e below s₁ (mkF m 6 #[rv r0, iv 3, iv ((((1 : Int32) + (1 : Int32)) + (1 : Int32)) + (1 : Int32))] [(.ref r0), (.int 4)]) _
          refine X0.arraylength hx (by rw [e0]; exact Ar_z1.1) (State.isArrayOf_alike hZ.alike Ar_z1.2.1) (g := (mkF m 6 #[rv r0, iv 3, iv ((((1 : Int32) + (1 : Int32)) + (1 : Int32)) + (1 : Int32))] [(.ref r0), (.int 4)])) rfl rfl (hb hby d1_6) _ ?_
          rw [len_of S_z1 N_z1]
          show OwnS p e below s₁ (mkF m 7 #[rv r0, iv 3, iv ((((1 : Int32) + (1 : Int32)) + (1 : Int32)) + (1 : Int32))] [(.int 4), (.int 4)]) _
          refine XS.icmpYes X0.here hx rfl (pc0 := 7) (pc' := 28) rfl (hb hby d1_7) rfl (flt (by decide : ¬ ((4 : Int32) < (4 : Int32)))).2.1 (by decide) (by decide) ?_
          show OwnS p e below s₁ (mkF m 28 #[rv r0, iv 3, iv ((((1 : Int32) + (1 : Int32)) + (1 : Int32)) + (1 : Int32))] []) _
          refine XS.iloadN X0.here hx rfl (hb hby d1_28) rfl ?_
          show OwnS p e below s₁ (mkF m 29 #[rv r0, iv 3, iv ((((1 : Int32) + (1 : Int32)) + (1 : Int32)) + (1 : Int32))] [(.int 3)]) _
          exact retI X0 hx Bd.returns (hb hby d1_29) hr
        · show Q_1_4 Z r0 kA d0 d1 d2 d3 h0 n0 _ s₁.heap _
          rw [e0]
          exact Or.inl (⟨rfl, N0, rfl, (by simp only [Int64.lt_iff_toInt_lt] at hc17_12 hc17_4 hc17_8 ⊢; omega), (by simp only [Int64.lt_iff_toInt_lt] at hc17_12 hc17_4 hc17_8 ⊢; omega), (own_asymm64 hc17_12), (by simp only [Int64.lt_iff_toInt_lt] at hc17_12 hc17_4 hc17_8 ⊢; omega), (by simp only [Int64.lt_iff_toInt_lt] at hc17_12 hc17_4 hc17_8 ⊢; omega), hc17_12⟩)
      · obtain ⟨fs, hr, hrun, hended, hW, hsame⟩ := X0.leave (v := some (.int 2)) (fun h => by rw [Bd.returns] at h; cases h)
        refine ⟨_, _, k13 _ ?_, hrun, hended, _, _, rfl, ?_, ⟨_, rfl⟩, hW, hsame.mono (by decide) (by decide)⟩
        · show OwnS p e below s₁ (mkF m 17 #[rv r0, iv 2, iv (((1 : Int32) + (1 : Int32)) + (1 : Int32))] [(.int (lcmpW d3 d2))]) _
          refine XS.ifYes X0.here hx rfl (pc0 := 17) (pc' := 22) rfl (hb hby d1_17) rfl ((if0 _ _).trans (flt (fun q => hc17_12 ((lw_gt _ _).mp q))).2.2.2) (by decide) (by decide) ?_
          show OwnS p e below s₁ (mkF m 22 #[rv r0, iv 2, iv (((1 : Int32) + (1 : Int32)) + (1 : Int32))] []) _
          refine XS.iinc X0.here hx rfl (hb hby d1_22) rfl (l' := #[rv r0, iv 2, iv ((((1 : Int32) + (1 : Int32)) + (1 : Int32)) + (1 : Int32))]) rfl ?_
          show OwnS p e below s₁ (mkF m 25 #[rv r0, iv 2, iv ((((1 : Int32) + (1 : Int32)) + (1 : Int32)) + (1 : Int32))] []) _
          refine XS.goto X0.here hx rfl (pc0 := 25) (pc' := 4) rfl (hb hby d1_25) (by decide) (by decide) ?_
          show OwnS p e below s₁ (mkF m 4 #[rv r0, iv 2, iv ((((1 : Int32) + (1 : Int32)) + (1 : Int32)) + (1 : Int32))] []) _
          refine XS.iloadN X0.here hx rfl (hb hby d1_4) rfl ?_
          show OwnS p e below s₁ (mkF m 5 #[rv r0, iv 2, iv ((((1 : Int32) + (1 : Int32)) + (1 : Int32)) + (1 : Int32))] [(.int 4)]) _
          refine XS.aloadN X0.here hx rfl (hb hby d1_5) rfl rfl ?_
          show OwnS p e below s₁ (mkF m 6 #[rv r0, iv 2, iv ((((1 : Int32) + (1 : Int32)) + (1 : Int32)) + (1 : Int32))] [(.ref r0), (.int 4)]) _
          refine X0.arraylength hx (by rw [e0]; exact Ar_z1.1) (State.isArrayOf_alike hZ.alike Ar_z1.2.1) (g := (mkF m 6 #[rv r0, iv 2, iv ((((1 : Int32) + (1 : Int32)) + (1 : Int32)) + (1 : Int32))] [(.ref r0), (.int 4)])) rfl rfl (hb hby d1_6) _ ?_
          rw [len_of S_z1 N_z1]
          show OwnS p e below s₁ (mkF m 7 #[rv r0, iv 2, iv ((((1 : Int32) + (1 : Int32)) + (1 : Int32)) + (1 : Int32))] [(.int 4), (.int 4)]) _
          refine XS.icmpYes X0.here hx rfl (pc0 := 7) (pc' := 28) rfl (hb hby d1_7) rfl (flt (by decide : ¬ ((4 : Int32) < (4 : Int32)))).2.1 (by decide) (by decide) ?_
          show OwnS p e below s₁ (mkF m 28 #[rv r0, iv 2, iv ((((1 : Int32) + (1 : Int32)) + (1 : Int32)) + (1 : Int32))] []) _
          refine XS.iloadN X0.here hx rfl (hb hby d1_28) rfl ?_
          show OwnS p e below s₁ (mkF m 29 #[rv r0, iv 2, iv ((((1 : Int32) + (1 : Int32)) + (1 : Int32)) + (1 : Int32))] [(.int 2)]) _
          exact retI X0 hx Bd.returns (hb hby d1_29) hr
        · show Q_1_4 Z r0 kA d0 d1 d2 d3 h0 n0 _ s₁.heap _
          rw [e0]
          exact Or.inr (Or.inl (⟨rfl, N0, rfl, (by simp only [Int64.lt_iff_toInt_lt] at hc17_12 hc17_4 hc17_8 ⊢; omega), (own_asymm64 hc17_8), hc17_12, (by simp only [Int64.lt_iff_toInt_lt] at hc17_12 hc17_4 hc17_8 ⊢; omega), hc17_8⟩))
    · have hin14 : ¬ ((3 : Int32) < 0 ∨ cl_z1.slots.size ≤ ((3 : Int32)).toNatClampNeg) := inb_of S_z1 ⟨by decide, by decide⟩
      have hin15 : ¬ ((1 : Int32) < 0 ∨ cl_z1.slots.size ≤ ((1 : Int32)).toNatClampNeg) := inb_of S_z1 ⟨by decide, by decide⟩
      have k17 : ∀ t, OwnS p e below s₁ (mkF m 17 #[rv r0, iv 1, iv (((1 : Int32) + (1 : Int32)) + (1 : Int32))] [(.int (lcmpW d3 d1))]) t → OwnS p e below s₁ (entryFrame m #[(.ref r0)] 3) t := fun t q => by
        refine k9 t ?_
        show OwnS p e below s₁ (mkF m 17 #[rv r0, iv 1, iv ((1 : Int32) + (1 : Int32))] [(.int (lcmpW d2 d1))]) _
        refine XS.ifYes X0.here hx rfl (pc0 := 17) (pc' := 22) rfl (hb hby d1_17) rfl ((if0 _ _).trans (flt (fun q => hc17_8 ((lw_gt _ _).mp q))).2.2.2) (by decide) (by decide) ?_
        show OwnS p e below s₁ (mkF m 22 #[rv r0, iv 1, iv ((1 : Int32) + (1 : Int32))] []) _
        refine XS.iinc X0.here hx rfl (hb hby d1_22) rfl (l' := #[rv r0, iv 1, iv (((1 : Int32) + (1 : Int32)) + (1 : Int32))]) rfl ?_
        show OwnS p e below s₁ (mkF m 25 #[rv r0, iv 1, iv (((1 : Int32) + (1 : Int32)) + (1 : Int32))] []) _
        refine XS.goto X0.here hx rfl (pc0 := 25) (pc' := 4) rfl (hb hby d1_25) (by decide) (by decide) ?_
        show OwnS p e below s₁ (mkF m 4 #[rv r0, iv 1, iv (((1 : Int32) + (1 : Int32)) + (1 : Int32))] []) _
        refine XS.iloadN X0.here hx rfl (hb hby d1_4) rfl ?_
        show OwnS p e below s₁ (mkF m 5 #[rv r0, iv 1, iv (((1 : Int32) + (1 : Int32)) + (1 : Int32))] [(.int 3)]) _
        refine XS.aloadN X0.here hx rfl (hb hby d1_5) rfl rfl ?_
        show OwnS p e below s₁ (mkF m 6 #[rv r0, iv 1, iv (((1 : Int32) + (1 : Int32)) + (1 : Int32))] [(.ref r0), (.int 3)]) _
        refine X0.arraylength hx (by rw [e0]; exact Ar_z1.1) (State.isArrayOf_alike hZ.alike Ar_z1.2.1) (g := (mkF m 6 #[rv r0, iv 1, iv (((1 : Int32) + (1 : Int32)) + (1 : Int32))] [(.ref r0), (.int 3)])) rfl rfl (hb hby d1_6) _ ?_
        rw [len_of S_z1 N_z1]
        show OwnS p e below s₁ (mkF m 7 #[rv r0, iv 1, iv (((1 : Int32) + (1 : Int32)) + (1 : Int32))] [(.int 4), (.int 3)]) _
        refine XS.icmpNo X0.here hx rfl (hb hby d1_7) rfl (tlt (by decide : (3 : Int32) < (4 : Int32))).2.1 ?_
        show OwnS p e below s₁ (mkF m 10 #[rv r0, iv 1, iv (((1 : Int32) + (1 : Int32)) + (1 : Int32))] []) _
        refine XS.aloadN X0.here hx rfl (hb hby d1_10) rfl rfl ?_
        show OwnS p e below s₁ (mkF m 11 #[rv r0, iv 1, iv (((1 : Int32) + (1 : Int32)) + (1 : Int32))] [(.ref r0)]) _
        refine XS.iloadN X0.here hx rfl (hb hby d1_11) rfl ?_
        show OwnS p e below s₁ (mkF m 12 #[rv r0, iv 1, iv (((1 : Int32) + (1 : Int32)) + (1 : Int32))] [(.int 3), (.ref r0)]) _
        refine X0.daload hx (j := (3 : Int32)) (v := (.double (FP.l2d d3))) (by rw [e0]; exact Ar_z1.1) (State.isArrayOf_alike hZ.alike Ar_z1.2.1) Ar_z1.2.2 hin14 (Has.at H_z1 hin14 rfl) (g := (mkF m 12 #[rv r0, iv 1, iv (((1 : Int32) + (1 : Int32)) + (1 : Int32))] [(.int 3), (.ref r0)])) rfl rfl (hb hby d1_12) _ ?_
        show OwnS p e below s₁ (mkF m 13 #[rv r0, iv 1, iv (((1 : Int32) + (1 : Int32)) + (1 : Int32))] [(.double (FP.l2d d3))]) _
        refine XS.aloadN X0.here hx rfl (hb hby d1_13) rfl rfl ?_
        show OwnS p e below s₁ (mkF m 14 #[rv r0, iv 1, iv (((1 : Int32) + (1 : Int32)) + (1 : Int32))] [(.ref r0), (.double (FP.l2d d3))]) _
        refine XS.iloadN X0.here hx rfl (hb hby d1_14) rfl ?_
        show OwnS p e below s₁ (mkF m 15 #[rv r0, iv 1, iv (((1 : Int32) + (1 : Int32)) + (1 : Int32))] [(.int 1), (.ref r0), (.double (FP.l2d d3))]) _
        refine X0.daload hx (j := (1 : Int32)) (v := (.double (FP.l2d d1))) (by rw [e0]; exact Ar_z1.1) (State.isArrayOf_alike hZ.alike Ar_z1.2.1) Ar_z1.2.2 hin15 (Has.at H_z1 hin15 rfl) (g := (mkF m 15 #[rv r0, iv 1, iv (((1 : Int32) + (1 : Int32)) + (1 : Int32))] [(.int 1), (.ref r0), (.double (FP.l2d d3))])) rfl rfl (hb hby d1_15) _ ?_
        show OwnS p e below s₁ (mkF m 16 #[rv r0, iv 1, iv (((1 : Int32) + (1 : Int32)) + (1 : Int32))] [(.double (FP.l2d d1)), (.double (FP.l2d d3))]) _
        refine XS.dcmpS X0.here hx rfl (hb hby d1_16) rfl (dcmpV_w b_d3 b_d1 _) ?_
        exact q
      by_cases hc17_16 : d1 < d3
      · obtain ⟨fs, hr, hrun, hended, hW, hsame⟩ := X0.leave (v := some (.int 3)) (fun h => by rw [Bd.returns] at h; cases h)
        refine ⟨_, _, k17 _ ?_, hrun, hended, _, _, rfl, ?_, ⟨_, rfl⟩, hW, hsame.mono (by decide) (by decide)⟩
        · show OwnS p e below s₁ (mkF m 17 #[rv r0, iv 1, iv (((1 : Int32) + (1 : Int32)) + (1 : Int32))] [(.int (lcmpW d3 d1))]) _
          refine XS.ifNo X0.here hx rfl (hb hby d1_17) rfl ((if0 _ _).trans (tlt ((lw_gt _ _).mpr hc17_16)).2.2.2) ?_
          show OwnS p e below s₁ (mkF m 20 #[rv r0, iv 1, iv (((1 : Int32) + (1 : Int32)) + (1 : Int32))] []) _
          refine XS.iloadN X0.here hx rfl (hb hby d1_20) rfl ?_
          show OwnS p e below s₁ (mkF m 21 #[rv r0, iv 1, iv (((1 : Int32) + (1 : Int32)) + (1 : Int32))] [(.int 3)]) _
          refine XS.istoreN X0.here hx rfl (hb hby d1_21) rfl (l' := #[rv r0, iv 3, iv (((1 : Int32) + (1 : Int32)) + (1 : Int32))]) rfl ?_
          show OwnS p e below s₁ (mkF m 22 #[rv r0, iv 3, iv (((1 : Int32) + (1 : Int32)) + (1 : Int32))] []) _
          refine XS.iinc X0.here hx rfl (hb hby d1_22) rfl (l' := #[rv r0, iv 3, iv ((((1 : Int32) + (1 : Int32)) + (1 : Int32)) + (1 : Int32))]) rfl ?_
          show OwnS p e below s₁ (mkF m 25 #[rv r0, iv 3, iv ((((1 : Int32) + (1 : Int32)) + (1 : Int32)) + (1 : Int32))] []) _
          refine XS.goto X0.here hx rfl (pc0 := 25) (pc' := 4) rfl (hb hby d1_25) (by decide) (by decide) ?_
          show OwnS p e below s₁ (mkF m 4 #[rv r0, iv 3, iv ((((1 : Int32) + (1 : Int32)) + (1 : Int32)) + (1 : Int32))] []) _
          refine XS.iloadN X0.here hx rfl (hb hby d1_4) rfl ?_
          show OwnS p e below s₁ (mkF m 5 #[rv r0, iv 3, iv ((((1 : Int32) + (1 : Int32)) + (1 : Int32)) + (1 : Int32))] [(.int 4)]) _
          refine XS.aloadN X0.here hx rfl (hb hby d1_5) rfl rfl ?_
          show OwnS p e below s₁ (mkF m 6 #[rv r0, iv 3, iv ((((1 : Int32) + (1 : Int32)) + (1 : Int32)) + (1 : Int32))] [(.ref r0), (.int 4)]) _
          refine X0.arraylength hx (by rw [e0]; exact Ar_z1.1) (State.isArrayOf_alike hZ.alike Ar_z1.2.1) (g := (mkF m 6 #[rv r0, iv 3, iv ((((1 : Int32) + (1 : Int32)) + (1 : Int32)) + (1 : Int32))] [(.ref r0), (.int 4)])) rfl rfl (hb hby d1_6) _ ?_
          rw [len_of S_z1 N_z1]
          show OwnS p e below s₁ (mkF m 7 #[rv r0, iv 3, iv ((((1 : Int32) + (1 : Int32)) + (1 : Int32)) + (1 : Int32))] [(.int 4), (.int 4)]) _
          refine XS.icmpYes X0.here hx rfl (pc0 := 7) (pc' := 28) rfl (hb hby d1_7) rfl (flt (by decide : ¬ ((4 : Int32) < (4 : Int32)))).2.1 (by decide) (by decide) ?_
          show OwnS p e below s₁ (mkF m 28 #[rv r0, iv 3, iv ((((1 : Int32) + (1 : Int32)) + (1 : Int32)) + (1 : Int32))] []) _
          refine XS.iloadN X0.here hx rfl (hb hby d1_28) rfl ?_
          show OwnS p e below s₁ (mkF m 29 #[rv r0, iv 3, iv ((((1 : Int32) + (1 : Int32)) + (1 : Int32)) + (1 : Int32))] [(.int 3)]) _
          exact retI X0 hx Bd.returns (hb hby d1_29) hr
        · show Q_1_4 Z r0 kA d0 d1 d2 d3 h0 n0 _ s₁.heap _
          rw [e0]
          exact Or.inl (⟨rfl, N0, rfl, (by simp only [Int64.lt_iff_toInt_lt] at hc17_16 hc17_4 hc17_8 ⊢; omega), (own_asymm64 hc17_16), (by simp only [Int64.lt_iff_toInt_lt] at hc17_16 hc17_4 hc17_8 ⊢; omega), (by simp only [Int64.lt_iff_toInt_lt] at hc17_16 hc17_4 hc17_8 ⊢; omega), hc17_16, (by simp only [Int64.lt_iff_toInt_lt] at hc17_16 hc17_4 hc17_8 ⊢; omega)⟩)
      · obtain ⟨fs, hr, hrun, hended, hW, hsame⟩ := X0.leave (v := some (.int 1)) (fun h => by rw [Bd.returns] at h; cases h)
        refine ⟨_, _, k17 _ ?_, hrun, hended, _, _, rfl, ?_, ⟨_, rfl⟩, hW, hsame.mono (by decide) (by decide)⟩
        · show OwnS p e below s₁ (mkF m 17 #[rv r0, iv 1, iv (((1 : Int32) + (1 : Int32)) + (1 : Int32))] [(.int (lcmpW d3 d1))]) _
          refine XS.ifYes X0.here hx rfl (pc0 := 17) (pc' := 22) rfl (hb hby d1_17) rfl ((if0 _ _).trans (flt (fun q => hc17_16 ((lw_gt _ _).mp q))).2.2.2) (by decide) (by decide) ?_
          show OwnS p e below s₁ (mkF m 22 #[rv r0, iv 1, iv (((1 : Int32) + (1 : Int32)) + (1 : Int32))] []) _
          refine XS.iinc X0.here hx rfl (hb hby d1_22) rfl (l' := #[rv r0, iv 1, iv ((((1 : Int32) + (1 : Int32)) + (1 : Int32)) + (1 : Int32))]) rfl ?_
          show OwnS p e below s₁ (mkF m 25 #[rv r0, iv 1, iv ((((1 : Int32) + (1 : Int32)) + (1 : Int32)) + (1 : Int32))] []) _
          refine XS.goto X0.here hx rfl (pc0 := 25) (pc' := 4) rfl (hb hby d1_25) (by decide) (by decide) ?_
          show OwnS p e below s₁ (mkF m 4 #[rv r0, iv 1, iv ((((1 : Int32) + (1 : Int32)) + (1 : Int32)) + (1 : Int32))] []) _
          refine XS.iloadN X0.here hx rfl (hb hby d1_4) rfl ?_
          show OwnS p e below s₁ (mkF m 5 #[rv r0, iv 1, iv ((((1 : Int32) + (1 : Int32)) + (1 : Int32)) + (1 : Int32))] [(.int 4)]) _
          refine XS.aloadN X0.here hx rfl (hb hby d1_5) rfl rfl ?_
          show OwnS p e below s₁ (mkF m 6 #[rv r0, iv 1, iv ((((1 : Int32) + (1 : Int32)) + (1 : Int32)) + (1 : Int32))] [(.ref r0), (.int 4)]) _
          refine X0.arraylength hx (by rw [e0]; exact Ar_z1.1) (State.isArrayOf_alike hZ.alike Ar_z1.2.1) (g := (mkF m 6 #[rv r0, iv 1, iv ((((1 : Int32) + (1 : Int32)) + (1 : Int32)) + (1 : Int32))] [(.ref r0), (.int 4)])) rfl rfl (hb hby d1_6) _ ?_
          rw [len_of S_z1 N_z1]
          show OwnS p e below s₁ (mkF m 7 #[rv r0, iv 1, iv ((((1 : Int32) + (1 : Int32)) + (1 : Int32)) + (1 : Int32))] [(.int 4), (.int 4)]) _
          refine XS.icmpYes X0.here hx rfl (pc0 := 7) (pc' := 28) rfl (hb hby d1_7) rfl (flt (by decide : ¬ ((4 : Int32) < (4 : Int32)))).2.1 (by decide) (by decide) ?_
          show OwnS p e below s₁ (mkF m 28 #[rv r0, iv 1, iv ((((1 : Int32) + (1 : Int32)) + (1 : Int32)) + (1 : Int32))] []) _
          refine XS.iloadN X0.here hx rfl (hb hby d1_28) rfl ?_
          show OwnS p e below s₁ (mkF m 29 #[rv r0, iv 1, iv ((((1 : Int32) + (1 : Int32)) + (1 : Int32)) + (1 : Int32))] [(.int 1)]) _
          exact retI X0 hx Bd.returns (hb hby d1_29) hr
        · show Q_1_4 Z r0 kA d0 d1 d2 d3 h0 n0 _ s₁.heap _
          rw [e0]
          exact Or.inr (Or.inr (Or.inl (⟨rfl, N0, rfl, (own_asymm64 hc17_4), hc17_8, hc17_16, hc17_4⟩)))
  · have hin18 : ¬ ((2 : Int32) < 0 ∨ cl_z1.slots.size ≤ ((2 : Int32)).toNatClampNeg) := inb_of S_z1 ⟨by decide, by decide⟩
    have hin19 : ¬ ((0 : Int32) < 0 ∨ cl_z1.slots.size ≤ ((0 : Int32)).toNatClampNeg) := inb_of S_z1 ⟨by decide, by decide⟩
    have k21 : ∀ t, OwnS p e below s₁ (mkF m 17 #[rv r0, iv 0, iv ((1 : Int32) + (1 : Int32))] [(.int (lcmpW d2 d0))]) t → OwnS p e below s₁ (entryFrame m #[(.ref r0)] 3) t := fun t q => by
      refine k5 t ?_
      show OwnS p e below s₁ (mkF m 17 #[rv r0, iv 0, iv 1] [(.int (lcmpW d1 d0))]) _
      refine XS.ifYes X0.here hx rfl (pc0 := 17) (pc' := 22) rfl (hb hby d1_17) rfl ((if0 _ _).trans (flt (fun q => hc17_4 ((lw_gt _ _).mp q))).2.2.2) (by decide) (by decide) ?_
      show OwnS p e below s₁ (mkF m 22 #[rv r0, iv 0, iv 1] []) _
      refine XS.iinc X0.here hx rfl (hb hby d1_22) rfl (l' := #[rv r0, iv 0, iv ((1 : Int32) + (1 : Int32))]) rfl ?_
      show OwnS p e below s₁ (mkF m 25 #[rv r0, iv 0, iv ((1 : Int32) + (1 : Int32))] []) _
      refine XS.goto X0.here hx rfl (pc0 := 25) (pc' := 4) rfl (hb hby d1_25) (by decide) (by decide) ?_
      show OwnS p e below s₁ (mkF m 4 #[rv r0, iv 0, iv ((1 : Int32) + (1 : Int32))] []) _
      refine XS.iloadN X0.here hx rfl (hb hby d1_4) rfl ?_
      show OwnS p e below s₁ (mkF m 5 #[rv r0, iv 0, iv ((1 : Int32) + (1 : Int32))] [(.int 2)]) _
      refine XS.aloadN X0.here hx rfl (hb hby d1_5) rfl rfl ?_
      show OwnS p e below s₁ (mkF m 6 #[rv r0, iv 0, iv ((1 : Int32) + (1 : Int32))] [(.ref r0), (.int 2)]) _
      refine X0.arraylength hx (by rw [e0]; exact Ar_z1.1) (State.isArrayOf_alike hZ.alike Ar_z1.2.1) (g := (mkF m 6 #[rv r0, iv 0, iv ((1 : Int32) + (1 : Int32))] [(.ref r0), (.int 2)])) rfl rfl (hb hby d1_6) _ ?_
      rw [len_of S_z1 N_z1]
      show OwnS p e below s₁ (mkF m 7 #[rv r0, iv 0, iv ((1 : Int32) + (1 : Int32))] [(.int 4), (.int 2)]) _
      refine XS.icmpNo X0.here hx rfl (hb hby d1_7) rfl (tlt (by decide : (2 : Int32) < (4 : Int32))).2.1 ?_
      show OwnS p e below s₁ (mkF m 10 #[rv r0, iv 0, iv ((1 : Int32) + (1 : Int32))] []) _
      refine XS.aloadN X0.here hx rfl (hb hby d1_10) rfl rfl ?_
      show OwnS p e below s₁ (mkF m 11 #[rv r0, iv 0, iv ((1 : Int32) + (1 : Int32))] [(.ref r0)]) _
      refine XS.iloadN X0.here hx rfl (hb hby d1_11) rfl ?_
      show OwnS p e below s₁ (mkF m 12 #[rv r0, iv 0, iv ((1 : Int32) + (1 : Int32))] [(.int 2), (.ref r0)]) _
      refine X0.daload hx (j := (2 : Int32)) (v := (.double (FP.l2d d2))) (by rw [e0]; exact Ar_z1.1) (State.isArrayOf_alike hZ.alike Ar_z1.2.1) Ar_z1.2.2 hin18 (Has.at H_z1 hin18 rfl) (g := (mkF m 12 #[rv r0, iv 0, iv ((1 : Int32) + (1 : Int32))] [(.int 2), (.ref r0)])) rfl rfl (hb hby d1_12) _ ?_
      show OwnS p e below s₁ (mkF m 13 #[rv r0, iv 0, iv ((1 : Int32) + (1 : Int32))] [(.double (FP.l2d d2))]) _
      refine XS.aloadN X0.here hx rfl (hb hby d1_13) rfl rfl ?_
      show OwnS p e below s₁ (mkF m 14 #[rv r0, iv 0, iv ((1 : Int32) + (1 : Int32))] [(.ref r0), (.double (FP.l2d d2))]) _
      refine XS.iloadN X0.here hx rfl (hb hby d1_14) rfl ?_
      show OwnS p e below s₁ (mkF m 15 #[rv r0, iv 0, iv ((1 : Int32) + (1 : Int32))] [(.int 0), (.ref r0), (.double (FP.l2d d2))]) _
      refine X0.daload hx (j := (0 : Int32)) (v := (.double (FP.l2d d0))) (by rw [e0]; exact Ar_z1.1) (State.isArrayOf_alike hZ.alike Ar_z1.2.1) Ar_z1.2.2 hin19 (Has.at H_z1 hin19 rfl) (g := (mkF m 15 #[rv r0, iv 0, iv ((1 : Int32) + (1 : Int32))] [(.int 0), (.ref r0), (.double (FP.l2d d2))])) rfl rfl (hb hby d1_15) _ ?_
      show OwnS p e below s₁ (mkF m 16 #[rv r0, iv 0, iv ((1 : Int32) + (1 : Int32))] [(.double (FP.l2d d0)), (.double (FP.l2d d2))]) _
      refine XS.dcmpS X0.here hx rfl (hb hby d1_16) rfl (dcmpV_w b_d2 b_d0 _) ?_
      exact q
    by_cases hc17_20 : d0 < d2
    · have hin22 : ¬ ((3 : Int32) < 0 ∨ cl_z1.slots.size ≤ ((3 : Int32)).toNatClampNeg) := inb_of S_z1 ⟨by decide, by decide⟩
      have hin23 : ¬ ((2 : Int32) < 0 ∨ cl_z1.slots.size ≤ ((2 : Int32)).toNatClampNeg) := inb_of S_z1 ⟨by decide, by decide⟩
      have k25 : ∀ t, OwnS p e below s₁ (mkF m 17 #[rv r0, iv 2, iv (((1 : Int32) + (1 : Int32)) + (1 : Int32))] [(.int (lcmpW d3 d2))]) t → OwnS p e below s₁ (entryFrame m #[(.ref r0)] 3) t := fun t q => by
        refine k21 t ?_
        show OwnS p e below s₁ (mkF m 17 #[rv r0, iv 0, iv ((1 : Int32) + (1 : Int32))] [(.int (lcmpW d2 d0))]) _
        refine XS.ifNo X0.here hx rfl (hb hby d1_17) rfl ((if0 _ _).trans (tlt ((lw_gt _ _).mpr hc17_20)).2.2.2) ?_
        show OwnS p e below s₁ (mkF m 20 #[rv r0, iv 0, iv ((1 : Int32) + (1 : Int32))] []) _
        refine XS.iloadN X0.here hx rfl (hb hby d1_20) rfl ?_
        show OwnS p e below s₁ (mkF m 21 #[rv r0, iv 0, iv ((1 : Int32) + (1 : Int32))] [(.int 2)]) _
        refine XS.istoreN X0.here hx rfl (hb hby d1_21) rfl (l' := #[rv r0, iv 2, iv ((1 : Int32) + (1 : Int32))]) rfl ?_
        show OwnS p e below s₁ (mkF m 22 #[rv r0, iv 2, iv ((1 : Int32) + (1 : Int32))] []) _
        refine XS.iinc X0.here hx rfl (hb hby d1_22) rfl (l' := #[rv r0, iv 2, iv (((1 : Int32) + (1 : Int32)) + (1 : Int32))]) rfl ?_
        show OwnS p e below s₁ (mkF m 25 #[rv r0, iv 2, iv (((1 : Int32) + (1 : Int32)) + (1 : Int32))] []) _
        refine XS.goto X0.here hx rfl (pc0 := 25) (pc' := 4) rfl (hb hby d1_25) (by decide) (by decide) ?_
        show OwnS p e below s₁ (mkF m 4 #[rv r0, iv 2, iv (((1 : Int32) + (1 : Int32)) + (1 : Int32))] []) _
        refine XS.iloadN X0.here hx rfl (hb hby d1_4) rfl ?_
        show OwnS p e below s₁ (mkF m 5 #[rv r0, iv 2, iv (((1 : Int32) + (1 : Int32)) + (1 : Int32))] [(.int 3)]) _
        refine XS.aloadN X0.here hx rfl (hb hby d1_5) rfl rfl ?_
        show OwnS p e below s₁ (mkF m 6 #[rv r0, iv 2, iv (((1 : Int32) + (1 : Int32)) + (1 : Int32))] [(.ref r0), (.int 3)]) _
        refine X0.arraylength hx (by rw [e0]; exact Ar_z1.1) (State.isArrayOf_alike hZ.alike Ar_z1.2.1) (g := (mkF m 6 #[rv r0, iv 2, iv (((1 : Int32) + (1 : Int32)) + (1 : Int32))] [(.ref r0), (.int 3)])) rfl rfl (hb hby d1_6) _ ?_
        rw [len_of S_z1 N_z1]
        show OwnS p e below s₁ (mkF m 7 #[rv r0, iv 2, iv (((1 : Int32) + (1 : Int32)) + (1 : Int32))] [(.int 4), (.int 3)]) _
        refine XS.icmpNo X0.here hx rfl (hb hby d1_7) rfl (tlt (by decide : (3 : Int32) < (4 : Int32))).2.1 ?_
        show OwnS p e below s₁ (mkF m 10 #[rv r0, iv 2, iv (((1 : Int32) + (1 : Int32)) + (1 : Int32))] []) _
        refine XS.aloadN X0.here hx rfl (hb hby d1_10) rfl rfl ?_
        show OwnS p e below s₁ (mkF m 11 #[rv r0, iv 2, iv (((1 : Int32) + (1 : Int32)) + (1 : Int32))] [(.ref r0)]) _
        refine XS.iloadN X0.here hx rfl (hb hby d1_11) rfl ?_
        show OwnS p e below s₁ (mkF m 12 #[rv r0, iv 2, iv (((1 : Int32) + (1 : Int32)) + (1 : Int32))] [(.int 3), (.ref r0)]) _
        refine X0.daload hx (j := (3 : Int32)) (v := (.double (FP.l2d d3))) (by rw [e0]; exact Ar_z1.1) (State.isArrayOf_alike hZ.alike Ar_z1.2.1) Ar_z1.2.2 hin22 (Has.at H_z1 hin22 rfl) (g := (mkF m 12 #[rv r0, iv 2, iv (((1 : Int32) + (1 : Int32)) + (1 : Int32))] [(.int 3), (.ref r0)])) rfl rfl (hb hby d1_12) _ ?_
        show OwnS p e below s₁ (mkF m 13 #[rv r0, iv 2, iv (((1 : Int32) + (1 : Int32)) + (1 : Int32))] [(.double (FP.l2d d3))]) _
        refine XS.aloadN X0.here hx rfl (hb hby d1_13) rfl rfl ?_
        show OwnS p e below s₁ (mkF m 14 #[rv r0, iv 2, iv (((1 : Int32) + (1 : Int32)) + (1 : Int32))] [(.ref r0), (.double (FP.l2d d3))]) _
        refine XS.iloadN X0.here hx rfl (hb hby d1_14) rfl ?_
        show OwnS p e below s₁ (mkF m 15 #[rv r0, iv 2, iv (((1 : Int32) + (1 : Int32)) + (1 : Int32))] [(.int 2), (.ref r0), (.double (FP.l2d d3))]) _
        refine X0.daload hx (j := (2 : Int32)) (v := (.double (FP.l2d d2))) (by rw [e0]; exact Ar_z1.1) (State.isArrayOf_alike hZ.alike Ar_z1.2.1) Ar_z1.2.2 hin23 (Has.at H_z1 hin23 rfl) (g := (mkF m 15 #[rv r0, iv 2, iv (((1 : Int32) + (1 : Int32)) + (1 : Int32))] [(.int 2), (.ref r0), (.double (FP.l2d d3))])) rfl rfl (hb hby d1_15) _ ?_
        show OwnS p e below s₁ (mkF m 16 #[rv r0, iv 2, iv (((1 : Int32) + (1 : Int32)) + (1 : Int32))] [(.double (FP.l2d d2)), (.double (FP.l2d d3))]) _
        refine XS.dcmpS X0.here hx rfl (hb hby d1_16) rfl (dcmpV_w b_d3 b_d2 _) ?_
        exact q
      by_cases hc17_24 : d2 < d3
      · obtain ⟨fs, hr, hrun, hended, hW, hsame⟩ := X0.leave (v := some (.int 3)) (fun h => by rw [Bd.returns] at h; cases h)
        refine ⟨_, _, k25 _ ?_, hrun, hended, _, _, rfl, ?_, ⟨_, rfl⟩, hW, hsame.mono (by decide) (by decide)⟩
        · show OwnS p e below s₁ (mkF m 17 #[rv r0, iv 2, iv (((1 : Int32) + (1 : Int32)) + (1 : Int32))] [(.int (lcmpW d3 d2))]) _
          refine XS.ifNo X0.here hx rfl (hb hby d1_17) rfl ((if0 _ _).trans (tlt ((lw_gt _ _).mpr hc17_24)).2.2.2) ?_
          show OwnS p e below s₁ (mkF m 20 #[rv r0, iv 2, iv (((1 : Int32) + (1 : Int32)) + (1 : Int32))] []) _
          refine XS.iloadN X0.here hx rfl (hb hby d1_20) rfl ?_
          show OwnS p e below s₁ (mkF m 21 #[rv r0, iv 2, iv (((1 : Int32) + (1 : Int32)) + (1 : Int32))] [(.int 3)]) _
          refine XS.istoreN X0.here hx rfl (hb hby d1_21) rfl (l' := #[rv r0, iv 3, iv (((1 : Int32) + (1 : Int32)) + (1 : Int32))]) rfl ?_
          show OwnS p e below s₁ (mkF m 22 #[rv r0, iv 3, iv (((1 : Int32) + (1 : Int32)) + (1 : Int32))] []) _
          refine XS.iinc X0.here hx rfl (hb hby d1_22) rfl (l' := #[rv r0, iv 3, iv ((((1 : Int32) + (1 : Int32)) + (1 : Int32)) + (1 : Int32))]) rfl ?_
          show OwnS p e below s₁ (mkF m 25 #[rv r0, iv 3, iv ((((1 : Int32) + (1 : Int32)) + (1 : Int32)) + (1 : Int32))] []) _
          refine XS.goto X0.here hx rfl (pc0 := 25) (pc' := 4) rfl (hb hby d1_25) (by decide) (by decide) ?_
          show OwnS p e below s₁ (mkF m 4 #[rv r0, iv 3, iv ((((1 : Int32) + (1 : Int32)) + (1 : Int32)) + (1 : Int32))] []) _
          refine XS.iloadN X0.here hx rfl (hb hby d1_4) rfl ?_
          show OwnS p e below s₁ (mkF m 5 #[rv r0, iv 3, iv ((((1 : Int32) + (1 : Int32)) + (1 : Int32)) + (1 : Int32))] [(.int 4)]) _
          refine XS.aloadN X0.here hx rfl (hb hby d1_5) rfl rfl ?_
          show OwnS p e below s₁ (mkF m 6 #[rv r0, iv 3, iv ((((1 : Int32) + (1 : Int32)) + (1 : Int32)) + (1 : Int32))] [(.ref r0), (.int 4)]) _
          refine X0.arraylength hx (by rw [e0]; exact Ar_z1.1) (State.isArrayOf_alike hZ.alike Ar_z1.2.1) (g := (mkF m 6 #[rv r0, iv 3, iv ((((1 : Int32) + (1 : Int32)) + (1 : Int32)) + (1 : Int32))] [(.ref r0), (.int 4)])) rfl rfl (hb hby d1_6) _ ?_
          rw [len_of S_z1 N_z1]
          show OwnS p e below s₁ (mkF m 7 #[rv r0, iv 3, iv ((((1 : Int32) + (1 : Int32)) + (1 : Int32)) + (1 : Int32))] [(.int 4), (.int 4)]) _
          refine XS.icmpYes X0.here hx rfl (pc0 := 7) (pc' := 28) rfl (hb hby d1_7) rfl (flt (by decide : ¬ ((4 : Int32) < (4 : Int32)))).2.1 (by decide) (by decide) ?_
          show OwnS p e below s₁ (mkF m 28 #[rv r0, iv 3, iv ((((1 : Int32) + (1 : Int32)) + (1 : Int32)) + (1 : Int32))] []) _
          refine XS.iloadN X0.here hx rfl (hb hby d1_28) rfl ?_
          show OwnS p e below s₁ (mkF m 29 #[rv r0, iv 3, iv ((((1 : Int32) + (1 : Int32)) + (1 : Int32)) + (1 : Int32))] [(.int 3)]) _
          exact retI X0 hx Bd.returns (hb hby d1_29) hr
        · show Q_1_4 Z r0 kA d0 d1 d2 d3 h0 n0 _ s₁.heap _
          rw [e0]
          exact Or.inl (⟨rfl, N0, rfl, (by simp only [Int64.lt_iff_toInt_lt] at hc17_20 hc17_24 hc17_4 ⊢; omega), (by simp only [Int64.lt_iff_toInt_lt] at hc17_20 hc17_24 hc17_4 ⊢; omega), (own_asymm64 hc17_24), (by simp only [Int64.lt_iff_toInt_lt] at hc17_20 hc17_24 hc17_4 ⊢; omega), (by simp only [Int64.lt_iff_toInt_lt] at hc17_20 hc17_24 hc17_4 ⊢; omega), hc17_24⟩)
      · obtain ⟨fs, hr, hrun, hended, hW, hsame⟩ := X0.leave (v := some (.int 2)) (fun h => by rw [Bd.returns] at h; cases h)
        refine ⟨_, _, k25 _ ?_, hrun, hended, _, _, rfl, ?_, ⟨_, rfl⟩, hW, hsame.mono (by decide) (by decide)⟩
        · show OwnS p e below s₁ (mkF m 17 #[rv r0, iv 2, iv (((1 : Int32) + (1 : Int32)) + (1 : Int32))] [(.int (lcmpW d3 d2))]) _
          refine XS.ifYes X0.here hx rfl (pc0 := 17) (pc' := 22) rfl (hb hby d1_17) rfl ((if0 _ _).trans (flt (fun q => hc17_24 ((lw_gt _ _).mp q))).2.2.2) (by decide) (by decide) ?_
          show OwnS p e below s₁ (mkF m 22 #[rv r0, iv 2, iv (((1 : Int32) + (1 : Int32)) + (1 : Int32))] []) _
          refine XS.iinc X0.here hx rfl (hb hby d1_22) rfl (l' := #[rv r0, iv 2, iv ((((1 : Int32) + (1 : Int32)) + (1 : Int32)) + (1 : Int32))]) rfl ?_
          show OwnS p e below s₁ (mkF m 25 #[rv r0, iv 2, iv ((((1 : Int32) + (1 : Int32)) + (1 : Int32)) + (1 : Int32))] []) _
          refine XS.goto X0.here hx rfl (pc0 := 25) (pc' := 4) rfl (hb hby d1_25) (by decide) (by decide) ?_
          show OwnS p e below s₁ (mkF m 4 #[rv r0, iv 2, iv ((((1 : Int32) + (1 : Int32)) + (1 : Int32)) + (1 : Int32))] []) _
          refine XS.iloadN X0.here hx rfl (hb hby d1_4) rfl ?_
          show OwnS p e below s₁ (mkF m 5 #[rv r0, iv 2, iv ((((1 : Int32) + (1 : Int32)) + (1 : Int32)) + (1 : Int32))] [(.int 4)]) _
          refine XS.aloadN X0.here hx rfl (hb hby d1_5) rfl rfl ?_
          show OwnS p e below s₁ (mkF m 6 #[rv r0, iv 2, iv ((((1 : Int32) + (1 : Int32)) + (1 : Int32)) + (1 : Int32))] [(.ref r0), (.int 4)]) _
          refine X0.arraylength hx (by rw [e0]; exact Ar_z1.1) (State.isArrayOf_alike hZ.alike Ar_z1.2.1) (g := (mkF m 6 #[rv r0, iv 2, iv ((((1 : Int32) + (1 : Int32)) + (1 : Int32)) + (1 : Int32))] [(.ref r0), (.int 4)])) rfl rfl (hb hby d1_6) _ ?_
          rw [len_of S_z1 N_z1]
          show OwnS p e below s₁ (mkF m 7 #[rv r0, iv 2, iv ((((1 : Int32) + (1 : Int32)) + (1 : Int32)) + (1 : Int32))] [(.int 4), (.int 4)]) _
          refine XS.icmpYes X0.here hx rfl (pc0 := 7) (pc' := 28) rfl (hb hby d1_7) rfl (flt (by decide : ¬ ((4 : Int32) < (4 : Int32)))).2.1 (by decide) (by decide) ?_
          show OwnS p e below s₁ (mkF m 28 #[rv r0, iv 2, iv ((((1 : Int32) + (1 : Int32)) + (1 : Int32)) + (1 : Int32))] []) _
          refine XS.iloadN X0.here hx rfl (hb hby d1_28) rfl ?_
          show OwnS p e below s₁ (mkF m 29 #[rv r0, iv 2, iv ((((1 : Int32) + (1 : Int32)) + (1 : Int32)) + (1 : Int32))] [(.int 2)]) _
          exact retI X0 hx Bd.returns (hb hby d1_29) hr
        · show Q_1_4 Z r0 kA d0 d1 d2 d3 h0 n0 _ s₁.heap _
          rw [e0]
          exact Or.inr (Or.inl (⟨rfl, N0, rfl, (own_asymm64 hc17_20), (by simp only [Int64.lt_iff_toInt_lt] at hc17_20 hc17_24 hc17_4 ⊢; omega), hc17_24, hc17_20, (by simp only [Int64.lt_iff_toInt_lt] at hc17_20 hc17_24 hc17_4 ⊢; omega)⟩))
    · have hin26 : ¬ ((3 : Int32) < 0 ∨ cl_z1.slots.size ≤ ((3 : Int32)).toNatClampNeg) := inb_of S_z1 ⟨by decide, by decide⟩
      have hin27 : ¬ ((0 : Int32) < 0 ∨ cl_z1.slots.size ≤ ((0 : Int32)).toNatClampNeg) := inb_of S_z1 ⟨by decide, by decide⟩
      have k29 : ∀ t, OwnS p e below s₁ (mkF m 17 #[rv r0, iv 0, iv (((1 : Int32) + (1 : Int32)) + (1 : Int32))] [(.int (lcmpW d3 d0))]) t → OwnS p e below s₁ (entryFrame m #[(.ref r0)] 3) t := fun t q => by
        refine k21 t ?_
        show OwnS p e below s₁ (mkF m 17 #[rv r0, iv 0, iv ((1 : Int32) + (1 : Int32))] [(.int (lcmpW d2 d0))]) _
        refine XS.ifYes X0.here hx rfl (pc0 := 17) (pc' := 22) rfl (hb hby d1_17) rfl ((if0 _ _).trans (flt (fun q => hc17_20 ((lw_gt _ _).mp q))).2.2.2) (by decide) (by decide) ?_
        show OwnS p e below s₁ (mkF m 22 #[rv r0, iv 0, iv ((1 : Int32) + (1 : Int32))] []) _
        refine XS.iinc X0.here hx rfl (hb hby d1_22) rfl (l' := #[rv r0, iv 0, iv (((1 : Int32) + (1 : Int32)) + (1 : Int32))]) rfl ?_
        show OwnS p e below s₁ (mkF m 25 #[rv r0, iv 0, iv (((1 : Int32) + (1 : Int32)) + (1 : Int32))] []) _
        refine XS.goto X0.here hx rfl (pc0 := 25) (pc' := 4) rfl (hb hby d1_25) (by decide) (by decide) ?_
        show OwnS p e below s₁ (mkF m 4 #[rv r0, iv 0, iv (((1 : Int32) + (1 : Int32)) + (1 : Int32))] []) _
        refine XS.iloadN X0.here hx rfl (hb hby d1_4) rfl ?_
        show OwnS p e below s₁ (mkF m 5 #[rv r0, iv 0, iv (((1 : Int32) + (1 : Int32)) + (1 : Int32))] [(.int 3)]) _
        refine XS.aloadN X0.here hx rfl (hb hby d1_5) rfl rfl ?_
        show OwnS p e below s₁ (mkF m 6 #[rv r0, iv 0, iv (((1 : Int32) + (1 : Int32)) + (1 : Int32))] [(.ref r0), (.int 3)]) _
        refine X0.arraylength hx (by rw [e0]; exact Ar_z1.1) (State.isArrayOf_alike hZ.alike Ar_z1.2.1) (g := (mkF m 6 #[rv r0, iv 0, iv (((1 : Int32) + (1 : Int32)) + (1 : Int32))] [(.ref r0), (.int 3)])) rfl rfl (hb hby d1_6) _ ?_
        rw [len_of S_z1 N_z1]
        show OwnS p e below s₁ (mkF m 7 #[rv r0, iv 0, iv (((1 : Int32) + (1 : Int32)) + (1 : Int32))] [(.int 4), (.int 3)]) _
        refine XS.icmpNo X0.here hx rfl (hb hby d1_7) rfl (tlt (by decide : (3 : Int32) < (4 : Int32))).2.1 ?_
        show OwnS p e below s₁ (mkF m 10 #[rv r0, iv 0, iv (((1 : Int32) + (1 : Int32)) + (1 : Int32))] []) _
        refine XS.aloadN X0.here hx rfl (hb hby d1_10) rfl rfl ?_
        show OwnS p e below s₁ (mkF m 11 #[rv r0, iv 0, iv (((1 : Int32) + (1 : Int32)) + (1 : Int32))] [(.ref r0)]) _
        refine XS.iloadN X0.here hx rfl (hb hby d1_11) rfl ?_
        show OwnS p e below s₁ (mkF m 12 #[rv r0, iv 0, iv (((1 : Int32) + (1 : Int32)) + (1 : Int32))] [(.int 3), (.ref r0)]) _
        refine X0.daload hx (j := (3 : Int32)) (v := (.double (FP.l2d d3))) (by rw [e0]; exact Ar_z1.1) (State.isArrayOf_alike hZ.alike Ar_z1.2.1) Ar_z1.2.2 hin26 (Has.at H_z1 hin26 rfl) (g := (mkF m 12 #[rv r0, iv 0, iv (((1 : Int32) + (1 : Int32)) + (1 : Int32))] [(.int 3), (.ref r0)])) rfl rfl (hb hby d1_12) _ ?_
        show OwnS p e below s₁ (mkF m 13 #[rv r0, iv 0, iv (((1 : Int32) + (1 : Int32)) + (1 : Int32))] [(.double (FP.l2d d3))]) _
        refine XS.aloadN X0.here hx rfl (hb hby d1_13) rfl rfl ?_
        show OwnS p e below s₁ (mkF m 14 #[rv r0, iv 0, iv (((1 : Int32) + (1 : Int32)) + (1 : Int32))] [(.ref r0), (.double (FP.l2d d3))]) _
        refine XS.iloadN X0.here hx rfl (hb hby d1_14) rfl ?_
        show OwnS p e below s₁ (mkF m 15 #[rv r0, iv 0, iv (((1 : Int32) + (1 : Int32)) + (1 : Int32))] [(.int 0), (.ref r0), (.double (FP.l2d d3))]) _
        refine X0.daload hx (j := (0 : Int32)) (v := (.double (FP.l2d d0))) (by rw [e0]; exact Ar_z1.1) (State.isArrayOf_alike hZ.alike Ar_z1.2.1) Ar_z1.2.2 hin27 (Has.at H_z1 hin27 rfl) (g := (mkF m 15 #[rv r0, iv 0, iv (((1 : Int32) + (1 : Int32)) + (1 : Int32))] [(.int 0), (.ref r0), (.double (FP.l2d d3))])) rfl rfl (hb hby d1_15) _ ?_
        show OwnS p e below s₁ (mkF m 16 #[rv r0, iv 0, iv (((1 : Int32) + (1 : Int32)) + (1 : Int32))] [(.double (FP.l2d d0)), (.double (FP.l2d d3))]) _
        refine XS.dcmpS X0.here hx rfl (hb hby d1_16) rfl (dcmpV_w b_d3 b_d0 _) ?_
        exact q
      by_cases hc17_28 : d0 < d3
      · obtain ⟨fs, hr, hrun, hended, hW, hsame⟩ := X0.leave (v := some (.int 3)) (fun h => by rw [Bd.returns] at h; cases h)
        refine ⟨_, _, k29 _ ?_, hrun, hended, _, _, rfl, ?_, ⟨_, rfl⟩, hW, hsame.mono (by decide) (by decide)⟩
        · show OwnS p e below s₁ (mkF m 17 #[rv r0, iv 0, iv (((1 : Int32) + (1 : Int32)) + (1 : Int32))] [(.int (lcmpW d3 d0))]) _
          refine XS.ifNo X0.here hx rfl (hb hby d1_17) rfl ((if0 _ _).trans (tlt ((lw_gt _ _).mpr hc17_28)).2.2.2) ?_
          show OwnS p e below s₁ (mkF m 20 #[rv r0, iv 0, iv (((1 : Int32) + (1 : Int32)) + (1 : Int32))] []) _
          refine XS.iloadN X0.here hx rfl (hb hby d1_20) rfl ?_
          show OwnS p e below s₁ (mkF m 21 #[rv r0, iv 0, iv (((1 : Int32) + (1 : Int32)) + (1 : Int32))] [(.int 3)]) _
          refine XS.istoreN X0.here hx rfl (hb hby d1_21) rfl (l' := #[rv r0, iv 3, iv (((1 : Int32) + (1 : Int32)) + (1 : Int32))]) rfl ?_
          show OwnS p e below s₁ (mkF m 22 #[rv r0, iv 3, iv (((1 : Int32) + (1 : Int32)) + (1 : Int32))] []) _
          refine XS.iinc X0.here hx rfl (hb hby d1_22) rfl (l' := #[rv r0, iv 3, iv ((((1 : Int32) + (1 : Int32)) + (1 : Int32)) + (1 : Int32))]) rfl ?_
          show OwnS p e below s₁ (mkF m 25 #[rv r0, iv 3, iv ((((1 : Int32) + (1 : Int32)) + (1 : Int32)) + (1 : Int32))] []) _
          refine XS.goto X0.here hx rfl (pc0 := 25) (pc' := 4) rfl (hb hby d1_25) (by decide) (by decide) ?_
          show OwnS p e below s₁ (mkF m 4 #[rv r0, iv 3, iv ((((1 : Int32) + (1 : Int32)) + (1 : Int32)) + (1 : Int32))] []) _
          refine XS.iloadN X0.here hx rfl (hb hby d1_4) rfl ?_
          show OwnS p e below s₁ (mkF m 5 #[rv r0, iv 3, iv ((((1 : Int32) + (1 : Int32)) + (1 : Int32)) + (1 : Int32))] [(.int 4)]) _
          refine XS.aloadN X0.here hx rfl (hb hby d1_5) rfl rfl ?_
          show OwnS p e below s₁ (mkF m 6 #[rv r0, iv 3, iv ((((1 : Int32) + (1 : Int32)) + (1 : Int32)) + (1 : Int32))] [(.ref r0), (.int 4)]) _
          refine X0.arraylength hx (by rw [e0]; exact Ar_z1.1) (State.isArrayOf_alike hZ.alike Ar_z1.2.1) (g := (mkF m 6 #[rv r0, iv 3, iv ((((1 : Int32) + (1 : Int32)) + (1 : Int32)) + (1 : Int32))] [(.ref r0), (.int 4)])) rfl rfl (hb hby d1_6) _ ?_
          rw [len_of S_z1 N_z1]
          show OwnS p e below s₁ (mkF m 7 #[rv r0, iv 3, iv ((((1 : Int32) + (1 : Int32)) + (1 : Int32)) + (1 : Int32))] [(.int 4), (.int 4)]) _
          refine XS.icmpYes X0.here hx rfl (pc0 := 7) (pc' := 28) rfl (hb hby d1_7) rfl (flt (by decide : ¬ ((4 : Int32) < (4 : Int32)))).2.1 (by decide) (by decide) ?_
          show OwnS p e below s₁ (mkF m 28 #[rv r0, iv 3, iv ((((1 : Int32) + (1 : Int32)) + (1 : Int32)) + (1 : Int32))] []) _
          refine XS.iloadN X0.here hx rfl (hb hby d1_28) rfl ?_
          show OwnS p e below s₁ (mkF m 29 #[rv r0, iv 3, iv ((((1 : Int32) + (1 : Int32)) + (1 : Int32)) + (1 : Int32))] [(.int 3)]) _
          exact retI X0 hx Bd.returns (hb hby d1_29) hr
        · show Q_1_4 Z r0 kA d0 d1 d2 d3 h0 n0 _ s₁.heap _
          rw [e0]
          exact Or.inl (⟨rfl, N0, rfl, (own_asymm64 hc17_28), (by simp only [Int64.lt_iff_toInt_lt] at hc17_20 hc17_28 hc17_4 ⊢; omega), (by simp only [Int64.lt_iff_toInt_lt] at hc17_20 hc17_28 hc17_4 ⊢; omega), hc17_28, (by simp only [Int64.lt_iff_toInt_lt] at hc17_20 hc17_28 hc17_4 ⊢; omega), (by simp only [Int64.lt_iff_toInt_lt] at hc17_20 hc17_28 hc17_4 ⊢; omega)⟩)
      · obtain ⟨fs, hr, hrun, hended, hW, hsame⟩ := X0.leave (v := some (.int 0)) (fun h => by rw [Bd.returns] at h; cases h)
        refine ⟨_, _, k29 _ ?_, hrun, hended, _, _, rfl, ?_, ⟨_, rfl⟩, hW, hsame.mono (by decide) (by decide)⟩
        · show OwnS p e below s₁ (mkF m 17 #[rv r0, iv 0, iv (((1 : Int32) + (1 : Int32)) + (1 : Int32))] [(.int (lcmpW d3 d0))]) _
          refine XS.ifYes X0.here hx rfl (pc0 := 17) (pc' := 22) rfl (hb hby d1_17) rfl ((if0 _ _).trans (flt (fun q => hc17_28 ((lw_gt _ _).mp q))).2.2.2) (by decide) (by decide) ?_
          show OwnS p e below s₁ (mkF m 22 #[rv r0, iv 0, iv (((1 : Int32) + (1 : Int32)) + (1 : Int32))] []) _
          refine XS.iinc X0.here hx rfl (hb hby d1_22) rfl (l' := #[rv r0, iv 0, iv ((((1 : Int32) + (1 : Int32)) + (1 : Int32)) + (1 : Int32))]) rfl ?_
          show OwnS p e below s₁ (mkF m 25 #[rv r0, iv 0, iv ((((1 : Int32) + (1 : Int32)) + (1 : Int32)) + (1 : Int32))] []) _
          refine XS.goto X0.here hx rfl (pc0 := 25) (pc' := 4) rfl (hb hby d1_25) (by decide) (by decide) ?_
          show OwnS p e below s₁ (mkF m 4 #[rv r0, iv 0, iv ((((1 : Int32) + (1 : Int32)) + (1 : Int32)) + (1 : Int32))] []) _
          refine XS.iloadN X0.here hx rfl (hb hby d1_4) rfl ?_
          show OwnS p e below s₁ (mkF m 5 #[rv r0, iv 0, iv ((((1 : Int32) + (1 : Int32)) + (1 : Int32)) + (1 : Int32))] [(.int 4)]) _
          refine XS.aloadN X0.here hx rfl (hb hby d1_5) rfl rfl ?_
          show OwnS p e below s₁ (mkF m 6 #[rv r0, iv 0, iv ((((1 : Int32) + (1 : Int32)) + (1 : Int32)) + (1 : Int32))] [(.ref r0), (.int 4)]) _
          refine X0.arraylength hx (by rw [e0]; exact Ar_z1.1) (State.isArrayOf_alike hZ.alike Ar_z1.2.1) (g := (mkF m 6 #[rv r0, iv 0, iv ((((1 : Int32) + (1 : Int32)) + (1 : Int32)) + (1 : Int32))] [(.ref r0), (.int 4)])) rfl rfl (hb hby d1_6) _ ?_
          rw [len_of S_z1 N_z1]
          show OwnS p e below s₁ (mkF m 7 #[rv r0, iv 0, iv ((((1 : Int32) + (1 : Int32)) + (1 : Int32)) + (1 : Int32))] [(.int 4), (.int 4)]) _
          refine XS.icmpYes X0.here hx rfl (pc0 := 7) (pc' := 28) rfl (hb hby d1_7) rfl (flt (by decide : ¬ ((4 : Int32) < (4 : Int32)))).2.1 (by decide) (by decide) ?_
          show OwnS p e below s₁ (mkF m 28 #[rv r0, iv 0, iv ((((1 : Int32) + (1 : Int32)) + (1 : Int32)) + (1 : Int32))] []) _
          refine XS.iloadN X0.here hx rfl (hb hby d1_28) rfl ?_
          show OwnS p e below s₁ (mkF m 29 #[rv r0, iv 0, iv ((((1 : Int32) + (1 : Int32)) + (1 : Int32)) + (1 : Int32))] [(.int 0)]) _
          exact retI X0 hx Bd.returns (hb hby d1_29) hr
        · show Q_1_4 Z r0 kA d0 d1 d2 d3 h0 n0 _ s₁.heap _
          rw [e0]
          exact Or.inr (Or.inr (Or.inr ((⟨rfl, N0, rfl, hc17_4, hc17_20, hc17_28⟩))))
theorem d2_0 : decode method_3_code 0 = .ok (.iload_n 3, 1) := by decide +kernel
theorem d2_1 : decode method_3_code 1 = .ok (.iload_n 1, 1) := by decide +kernel
theorem d2_2 : decode method_3_code 2 = .ok (.if_icmp .lt 5, 3) := by decide +kernel
theorem d2_5 : decode method_3_code 5 = .ok (.iconst 1, 1) := by decide +kernel
theorem d2_6 : decode method_3_code 6 = .ok (.ireturn, 1) := by decide +kernel
theorem pn_com_example_driftline_driftline_core_LearnerBestClassPinLaw : plainName cS0 = true := by first | (simp [plainName, overriddenIn]; done) | decide +kernel
theorem ef_2 (m : MethodId) (x0 : Addr) (x1 : Int32) (x2 : Int32) (x3 : Int32) : entryFrame m #[(.ref x0), (.int x1), (.int x2), (.int x3)] 4 = mkF m 0 #[.val (.ref x0), .val (.int x1), .val (.int x2), .val (.int x3)] [] := by first | (simp [entryFrame, mkF, argsToLocals, Value.category]; done) | rfl
def Q_2_far (Z : State) (r0 : Addr) (p1 : Int32) (p2 : Int32) (p3 : Int32) (h0 : Heap) (n0 : Nat) (v : Option Value) (h : Heap) (L : List Loc) : Prop := v = some (.int 1) ∧ Fr n0 L ∧ h = h0
set_option maxRecDepth 65536 in
set_option maxHeartbeats 40000000 in
theorem rm2_far (l : Launch) (Z : State) (a0 : Array Value) (hw : ∀ d ∈ tables_1, d.before a0 Z = true) (ws : List Jvm.Cond) (r0 : Addr) (p1 : Int32) (p2 : Int32) (p3 : Int32) (h0 : Heap) (n0 : Nat) (Z0 : n0 ≤ h0.size) (hc2 : ¬ (p3 < p1)) :
    MetFree l (⟨cS0, "ok", "([DIII)Z"⟩ : MethodName) (head1 (Jvm.Cond.code (⟨cS0, "ok", "([DIII)Z"⟩ : MethodName) method_3_code 4 (some .boolean) :: ws) ({ frames := 0, cells := 0, slots := 0, locals := 0 } : Room)) (fun a U => a = #[(.ref r0), (.int p1), (.int p2), (.int p3)] ∧ Z.Warmed39 U.vm ∧ U.heap = h0) (fun _ _ _ _ _ => True) (fun _ U o U' => ∃ v L, o = .returned v ∧ Q_2_far Z r0 p1 p2 p3 h0 n0 v U'.heap L ∧ FrameEnd U o U' L ({ frames := 0, cells := 0, slots := 0, locals := 0 } : Room).cells ({ frames := 0, cells := 0, slots := 0, locals := 0 } : Room).slots) := by
  refine MetFree.of_bodySF (plainFor_of_name pn_com_example_driftline_driftline_core_LearnerBestClassPinLaw) hisR ?_
  intro p e s m args below meth c s₁ Bd hml0 hP hK
  obtain ⟨rfl, hZ, hh⟩ := hP
  have hx := Bd.exec
  have hby := Bd.bytes
  have hml : c.maxLocals = 4 := hml0
  have hown : s.vm.findClass cS0 = some m.cls := findClass_of_methodNamed Bd.named
  have hnm := (name_of_methodNamed Bd.named Bd.method).1
  have X0 : Stand p l e ({ frames := 0, cells := 0, slots := 0, locals := 0 } : Room) s m #[(.ref r0), (.int p1), (.int p2), (.int p3)] below meth c s₁ [] 0 0 := Stand.of_body Bd
  have e0 : s₁.heap = h0 := by rw [← hh, Bd.state]; rfl
  have N0 := Fr.nil n0
  have k0 : ∀ t, OwnS p e below s₁ (mkF m 0 #[rv r0, iv p1, iv p2, iv p3] []) t → OwnS p e below s₁ (entryFrame m #[(.ref r0), (.int p1), (.int p2), (.int p3)] 4) t := fun t k => castTop (ef_2 m r0 p1 p2 p3) k
  obtain ⟨fs, hr, hrun, hended, hW, hsame⟩ := X0.leave (v := some (.int 1)) (fun h => by rw [Bd.returns] at h; cases h)
  refine ⟨_, _, k0 _ ?_, hrun, hended, _, _, rfl, ?_, ⟨_, rfl⟩, hW, hsame.mono (by decide) (by decide)⟩
  · show OwnS p e below s₁ (mkF m 0 #[rv r0, iv p1, iv p2, iv p3] []) _
    refine XS.iloadN X0.here hx rfl (hb hby d2_0) rfl ?_
    show OwnS p e below s₁ (mkF m 1 #[rv r0, iv p1, iv p2, iv p3] [(.int p3)]) _
    refine XS.iloadN X0.here hx rfl (hb hby d2_1) rfl ?_
    show OwnS p e below s₁ (mkF m 2 #[rv r0, iv p1, iv p2, iv p3] [(.int p1), (.int p3)]) _
    refine XS.icmpNo X0.here hx rfl (hb hby d2_2) rfl (flt hc2).1 ?_
    show OwnS p e below s₁ (mkF m 5 #[rv r0, iv p1, iv p2, iv p3] []) _
    refine XS.iconst X0.here hx rfl (hb hby d2_5) ?_
    show OwnS p e below s₁ (mkF m 6 #[rv r0, iv p1, iv p2, iv p3] [(.int 1)]) _
    exact retN X0 hx (t := .boolean) Bd.returns (by simp) (hb hby d2_6) hr
  · show Q_2_far Z r0 p1 p2 p3 h0 n0 _ s₁.heap _
    rw [e0]
    exact ⟨rfl, N0, rfl⟩
theorem d2_7 : decode method_3_code 7 = .ok (.aload_n 0, 1) := by decide +kernel
theorem d2_8 : decode method_3_code 8 = .ok (.iload_n 2, 1) := by decide +kernel
theorem d2_9 : decode method_3_code 9 = .ok (.daload, 1) := by decide +kernel
theorem d2_10 : decode method_3_code 10 = .ok (.aload_n 0, 1) := by decide +kernel
theorem d2_11 : decode method_3_code 11 = .ok (.iload_n 3, 1) := by decide +kernel
theorem d2_12 : decode method_3_code 12 = .ok (.daload, 1) := by decide +kernel
theorem d2_13 : decode method_3_code 13 = .ok (.dcmp .l, 1) := by decide +kernel
theorem d2_14 : decode method_3_code 14 = .ok (.ifCond .ge 5, 3) := by decide +kernel
theorem d2_19 : decode method_3_code 19 = .ok (.iload_n 3, 1) := by decide +kernel
theorem d2_20 : decode method_3_code 20 = .ok (.iload_n 2, 1) := by decide +kernel
theorem d2_21 : decode method_3_code 21 = .ok (.if_icmp .ge 15, 3) := by decide +kernel
theorem d2_36 : decode method_3_code 36 = .ok (.iconst 1, 1) := by decide +kernel
theorem d2_37 : decode method_3_code 37 = .ok (.ireturn, 1) := by decide +kernel
def Q_2_00 (Z : State) (r0 : Addr) (p1 : Int32) (kA : ClassId) (d0 : Int64) (d1 : Int64) (d2 : Int64) (d3 : Int64) (h0 : Heap) (n0 : Nat) (v : Option Value) (h : Heap) (L : List Loc) : Prop := v = some (.int 1) ∧ Fr n0 L ∧ h = h0
set_option maxRecDepth 65536 in
set_option maxHeartbeats 40000000 in
theorem rm2_00 (l : Launch) (Z : State) (a0 : Array Value) (hw : ∀ d ∈ tables_1, d.before a0 Z = true) (ws : List Jvm.Cond) (r0 : Addr) (p1 : Int32) (kA : ClassId) (d0 : Int64) (d1 : Int64) (d2 : Int64) (d3 : Int64) (h0 : Heap) (n0 : Nat) (Z0 : n0 ≤ h0.size) (V_r0 : Arv Z h0 r0 kA .double (4 : Int32) [(.double (FP.l2d d0)), (.double (FP.l2d d1)), (.double (FP.l2d d2)), (.double (FP.l2d d3))] (.double (FP.l2d (0 : Int64)))) (b_d0 : B53 d0) (b_d1 : B53 d1) (b_d2 : B53 d2) (b_d3 : B53 d3) (hjn : (0 : Int32) < p1) :
    MetFree l (⟨cS0, "ok", "([DIII)Z"⟩ : MethodName) (head1 (Jvm.Cond.code (⟨cS0, "ok", "([DIII)Z"⟩ : MethodName) method_3_code 4 (some .boolean) :: ws) ({ frames := 0, cells := 0, slots := 0, locals := 0 } : Room)) (fun a U => a = #[(.ref r0), (.int p1), (.int 0), (.int 0)] ∧ Z.Warmed39 U.vm ∧ U.heap = h0) (fun _ _ _ _ _ => True) (fun _ U o U' => ∃ v L, o = .returned v ∧ Q_2_00 Z r0 p1 kA d0 d1 d2 d3 h0 n0 v U'.heap L ∧ FrameEnd U o U' L ({ frames := 0, cells := 0, slots := 0, locals := 0 } : Room).cells ({ frames := 0, cells := 0, slots := 0, locals := 0 } : Room).slots) := by
  refine MetFree.of_bodySF (plainFor_of_name pn_com_example_driftline_driftline_core_LearnerBestClassPinLaw) hisR ?_
  intro p e s m args below meth c s₁ Bd hml0 hP hK
  obtain ⟨rfl, hZ, hh⟩ := hP
  have hx := Bd.exec
  have hby := Bd.bytes
  have hml : c.maxLocals = 4 := hml0
  have hown : s.vm.findClass cS0 = some m.cls := findClass_of_methodNamed Bd.named
  have hnm := (name_of_methodNamed Bd.named Bd.method).1
  have X0 : Stand p l e ({ frames := 0, cells := 0, slots := 0, locals := 0 } : Room) s m #[(.ref r0), (.int p1), (.int 0), (.int 0)] below meth c s₁ [] 0 0 := Stand.of_body Bd
  have e0 : s₁.heap = h0 := by rw [← hh, Bd.state]; rfl
  have N0 := Fr.nil n0
  have k0 : ∀ t, OwnS p e below s₁ (mkF m 0 #[rv r0, iv p1, iv 0, iv 0] []) t → OwnS p e below s₁ (entryFrame m #[(.ref r0), (.int p1), (.int 0), (.int 0)] 4) t := fun t k => castTop (ef_2 m r0 p1 (0 : Int32) (0 : Int32)) k
  obtain ⟨cl_z1, Ar_z1, q_z1, S_z1, N_z1, H_z1, G_z1⟩ := id V_r0
  have hin2 : ¬ ((0 : Int32) < 0 ∨ cl_z1.slots.size ≤ ((0 : Int32)).toNatClampNeg) := inb_of S_z1 ⟨by decide, by decide⟩
  have hin3 : ¬ ((0 : Int32) < 0 ∨ cl_z1.slots.size ≤ ((0 : Int32)).toNatClampNeg) := inb_of S_z1 ⟨by decide, by decide⟩
  obtain ⟨fs, hr, hrun, hended, hW, hsame⟩ := X0.leave (v := some (.int 1)) (fun h => by rw [Bd.returns] at h; cases h)
  refine ⟨_, _, k0 _ ?_, hrun, hended, _, _, rfl, ?_, ⟨_, rfl⟩, hW, hsame.mono (by decide) (by decide)⟩
  · show OwnS p e below s₁ (mkF m 0 #[rv r0, iv p1, iv 0, iv 0] []) _
    refine XS.iloadN X0.here hx rfl (hb hby d2_0) rfl ?_
    show OwnS p e below s₁ (mkF m 1 #[rv r0, iv p1, iv 0, iv 0] [(.int 0)]) _
    refine XS.iloadN X0.here hx rfl (hb hby d2_1) rfl ?_
    show OwnS p e below s₁ (mkF m 2 #[rv r0, iv p1, iv 0, iv 0] [(.int p1), (.int 0)]) _
    refine XS.icmpYes X0.here hx rfl (pc0 := 2) (pc' := 7) rfl (hb hby d2_2) rfl (tlt hjn).1 (by decide) (by decide) ?_
    show OwnS p e below s₁ (mkF m 7 #[rv r0, iv p1, iv 0, iv 0] []) _
    refine XS.aloadN X0.here hx rfl (hb hby d2_7) rfl rfl ?_
    show OwnS p e below s₁ (mkF m 8 #[rv r0, iv p1, iv 0, iv 0] [(.ref r0)]) _
    refine XS.iloadN X0.here hx rfl (hb hby d2_8) rfl ?_
    show OwnS p e below s₁ (mkF m 9 #[rv r0, iv p1, iv 0, iv 0] [(.int 0), (.ref r0)]) _
    refine X0.daload hx (j := (0 : Int32)) (v := (.double (FP.l2d d0))) (by rw [e0]; exact Ar_z1.1) (State.isArrayOf_alike hZ.alike Ar_z1.2.1) Ar_z1.2.2 hin2 (Has.at H_z1 hin2 rfl) (g := (mkF m 9 #[rv r0, iv p1, iv 0, iv 0] [(.int 0), (.ref r0)])) rfl rfl (hb hby d2_9) _ ?_
    show OwnS p e below s₁ (mkF m 10 #[rv r0, iv p1, iv 0, iv 0] [(.double (FP.l2d d0))]) _
    refine XS.aloadN X0.here hx rfl (hb hby d2_10) rfl rfl ?_
    show OwnS p e below s₁ (mkF m 11 #[rv r0, iv p1, iv 0, iv 0] [(.ref r0), (.double (FP.l2d d0))]) _
    refine XS.iloadN X0.here hx rfl (hb hby d2_11) rfl ?_
    show OwnS p e below s₁ (mkF m 12 #[rv r0, iv p1, iv 0, iv 0] [(.int 0), (.ref r0), (.double (FP.l2d d0))]) _
    refine X0.daload hx (j := (0 : Int32)) (v := (.double (FP.l2d d0))) (by rw [e0]; exact Ar_z1.1) (State.isArrayOf_alike hZ.alike Ar_z1.2.1) Ar_z1.2.2 hin3 (Has.at H_z1 hin3 rfl) (g := (mkF m 12 #[rv r0, iv p1, iv 0, iv 0] [(.int 0), (.ref r0), (.double (FP.l2d d0))])) rfl rfl (hb hby d2_12) _ ?_
    show OwnS p e below s₁ (mkF m 13 #[rv r0, iv p1, iv 0, iv 0] [(.double (FP.l2d d0)), (.double (FP.l2d d0))]) _
    refine XS.dcmpS X0.here hx rfl (hb hby d2_13) rfl (dcmpV_w b_d0 b_d0 _) ?_
    show OwnS p e below s₁ (mkF m 14 #[rv r0, iv p1, iv 0, iv 0] [(.int (lcmpW d0 d0))]) _
    refine XS.ifYes X0.here hx rfl (pc0 := 14) (pc' := 19) rfl (hb hby d2_14) rfl ((if0 _ _).trans (flt (fun q => (own_irr64 _) ((lw_lt _ _).mp q))).2.1) (by decide) (by decide) ?_
    show OwnS p e below s₁ (mkF m 19 #[rv r0, iv p1, iv 0, iv 0] []) _
    refine XS.iloadN X0.here hx rfl (hb hby d2_19) rfl ?_
    show OwnS p e below s₁ (mkF m 20 #[rv r0, iv p1, iv 0, iv 0] [(.int 0)]) _
    refine XS.iloadN X0.here hx rfl (hb hby d2_20) rfl ?_
    show OwnS p e below s₁ (mkF m 21 #[rv r0, iv p1, iv 0, iv 0] [(.int 0), (.int 0)]) _
    refine XS.icmpYes X0.here hx rfl (pc0 := 21) (pc' := 36) rfl (hb hby d2_21) rfl (flt (by decide : ¬ ((0 : Int32) < (0 : Int32)))).2.1 (by decide) (by decide) ?_
    show OwnS p e below s₁ (mkF m 36 #[rv r0, iv p1, iv 0, iv 0] []) _
    refine XS.iconst X0.here hx rfl (hb hby d2_36) ?_
    show OwnS p e below s₁ (mkF m 37 #[rv r0, iv p1, iv 0, iv 0] [(.int 1)]) _
    exact retN X0 hx (t := .boolean) Bd.returns (by simp) (hb hby d2_37) hr
  · show Q_2_00 Z r0 p1 kA d0 d1 d2 d3 h0 n0 _ s₁.heap _
    rw [e0]
    exact ⟨rfl, N0, rfl⟩
def Q_2_01 (Z : State) (r0 : Addr) (p1 : Int32) (kA : ClassId) (d0 : Int64) (d1 : Int64) (d2 : Int64) (d3 : Int64) (h0 : Heap) (n0 : Nat) (v : Option Value) (h : Heap) (L : List Loc) : Prop := v = some (.int 1) ∧ Fr n0 L ∧ h = h0
set_option maxRecDepth 65536 in
set_option maxHeartbeats 40000000 in
theorem rm2_01 (l : Launch) (Z : State) (a0 : Array Value) (hw : ∀ d ∈ tables_1, d.before a0 Z = true) (ws : List Jvm.Cond) (r0 : Addr) (p1 : Int32) (kA : ClassId) (d0 : Int64) (d1 : Int64) (d2 : Int64) (d3 : Int64) (h0 : Heap) (n0 : Nat) (Z0 : n0 ≤ h0.size) (V_r0 : Arv Z h0 r0 kA .double (4 : Int32) [(.double (FP.l2d d0)), (.double (FP.l2d d1)), (.double (FP.l2d d2)), (.double (FP.l2d d3))] (.double (FP.l2d (0 : Int64)))) (b_d0 : B53 d0) (b_d1 : B53 d1) (b_d2 : B53 d2) (b_d3 : B53 d3) (hjn : (1 : Int32) < p1) (hge : ¬ (d0 < d1)) :
    MetFree l (⟨cS0, "ok", "([DIII)Z"⟩ : MethodName) (head1 (Jvm.Cond.code (⟨cS0, "ok", "([DIII)Z"⟩ : MethodName) method_3_code 4 (some .boolean) :: ws) ({ frames := 0, cells := 0, slots := 0, locals := 0 } : Room)) (fun a U => a = #[(.ref r0), (.int p1), (.int 0), (.int 1)] ∧ Z.Warmed39 U.vm ∧ U.heap = h0) (fun _ _ _ _ _ => True) (fun _ U o U' => ∃ v L, o = .returned v ∧ Q_2_01 Z r0 p1 kA d0 d1 d2 d3 h0 n0 v U'.heap L ∧ FrameEnd U o U' L ({ frames := 0, cells := 0, slots := 0, locals := 0 } : Room).cells ({ frames := 0, cells := 0, slots := 0, locals := 0 } : Room).slots) := by
  refine MetFree.of_bodySF (plainFor_of_name pn_com_example_driftline_driftline_core_LearnerBestClassPinLaw) hisR ?_
  intro p e s m args below meth c s₁ Bd hml0 hP hK
  obtain ⟨rfl, hZ, hh⟩ := hP
  have hx := Bd.exec
  have hby := Bd.bytes
  have hml : c.maxLocals = 4 := hml0
  have hown : s.vm.findClass cS0 = some m.cls := findClass_of_methodNamed Bd.named
  have hnm := (name_of_methodNamed Bd.named Bd.method).1
  have X0 : Stand p l e ({ frames := 0, cells := 0, slots := 0, locals := 0 } : Room) s m #[(.ref r0), (.int p1), (.int 0), (.int 1)] below meth c s₁ [] 0 0 := Stand.of_body Bd
  have e0 : s₁.heap = h0 := by rw [← hh, Bd.state]; rfl
  have N0 := Fr.nil n0
  have k0 : ∀ t, OwnS p e below s₁ (mkF m 0 #[rv r0, iv p1, iv 0, iv 1] []) t → OwnS p e below s₁ (entryFrame m #[(.ref r0), (.int p1), (.int 0), (.int 1)] 4) t := fun t k => castTop (ef_2 m r0 p1 (0 : Int32) (1 : Int32)) k
  obtain ⟨cl_z1, Ar_z1, q_z1, S_z1, N_z1, H_z1, G_z1⟩ := id V_r0
  have hin2 : ¬ ((0 : Int32) < 0 ∨ cl_z1.slots.size ≤ ((0 : Int32)).toNatClampNeg) := inb_of S_z1 ⟨by decide, by decide⟩
  have hin3 : ¬ ((1 : Int32) < 0 ∨ cl_z1.slots.size ≤ ((1 : Int32)).toNatClampNeg) := inb_of S_z1 ⟨by decide, by decide⟩
  obtain ⟨fs, hr, hrun, hended, hW, hsame⟩ := X0.leave (v := some (.int 1)) (fun h => by rw [Bd.returns] at h; cases h)
  refine ⟨_, _, k0 _ ?_, hrun, hended, _, _, rfl, ?_, ⟨_, rfl⟩, hW, hsame.mono (by decide) (by decide)⟩
  · show OwnS p e below s₁ (mkF m 0 #[rv r0, iv p1, iv 0, iv 1] []) _
    refine XS.iloadN X0.here hx rfl (hb hby d2_0) rfl ?_
    show OwnS p e below s₁ (mkF m 1 #[rv r0, iv p1, iv 0, iv 1] [(.int 1)]) _
    refine XS.iloadN X0.here hx rfl (hb hby d2_1) rfl ?_
    show OwnS p e below s₁ (mkF m 2 #[rv r0, iv p1, iv 0, iv 1] [(.int p1), (.int 1)]) _
    refine XS.icmpYes X0.here hx rfl (pc0 := 2) (pc' := 7) rfl (hb hby d2_2) rfl (tlt hjn).1 (by decide) (by decide) ?_
    show OwnS p e below s₁ (mkF m 7 #[rv r0, iv p1, iv 0, iv 1] []) _
    refine XS.aloadN X0.here hx rfl (hb hby d2_7) rfl rfl ?_
    show OwnS p e below s₁ (mkF m 8 #[rv r0, iv p1, iv 0, iv 1] [(.ref r0)]) _
    refine XS.iloadN X0.here hx rfl (hb hby d2_8) rfl ?_
    show OwnS p e below s₁ (mkF m 9 #[rv r0, iv p1, iv 0, iv 1] [(.int 0), (.ref r0)]) _
    refine X0.daload hx (j := (0 : Int32)) (v := (.double (FP.l2d d0))) (by rw [e0]; exact Ar_z1.1) (State.isArrayOf_alike hZ.alike Ar_z1.2.1) Ar_z1.2.2 hin2 (Has.at H_z1 hin2 rfl) (g := (mkF m 9 #[rv r0, iv p1, iv 0, iv 1] [(.int 0), (.ref r0)])) rfl rfl (hb hby d2_9) _ ?_
    show OwnS p e below s₁ (mkF m 10 #[rv r0, iv p1, iv 0, iv 1] [(.double (FP.l2d d0))]) _
    refine XS.aloadN X0.here hx rfl (hb hby d2_10) rfl rfl ?_
    show OwnS p e below s₁ (mkF m 11 #[rv r0, iv p1, iv 0, iv 1] [(.ref r0), (.double (FP.l2d d0))]) _
    refine XS.iloadN X0.here hx rfl (hb hby d2_11) rfl ?_
    show OwnS p e below s₁ (mkF m 12 #[rv r0, iv p1, iv 0, iv 1] [(.int 1), (.ref r0), (.double (FP.l2d d0))]) _
    refine X0.daload hx (j := (1 : Int32)) (v := (.double (FP.l2d d1))) (by rw [e0]; exact Ar_z1.1) (State.isArrayOf_alike hZ.alike Ar_z1.2.1) Ar_z1.2.2 hin3 (Has.at H_z1 hin3 rfl) (g := (mkF m 12 #[rv r0, iv p1, iv 0, iv 1] [(.int 1), (.ref r0), (.double (FP.l2d d0))])) rfl rfl (hb hby d2_12) _ ?_
    show OwnS p e below s₁ (mkF m 13 #[rv r0, iv p1, iv 0, iv 1] [(.double (FP.l2d d1)), (.double (FP.l2d d0))]) _
    refine XS.dcmpS X0.here hx rfl (hb hby d2_13) rfl (dcmpV_w b_d0 b_d1 _) ?_
    show OwnS p e below s₁ (mkF m 14 #[rv r0, iv p1, iv 0, iv 1] [(.int (lcmpW d0 d1))]) _
    refine XS.ifYes X0.here hx rfl (pc0 := 14) (pc' := 19) rfl (hb hby d2_14) rfl ((if0 _ _).trans (flt (fun q => hge ((lw_lt _ _).mp q))).2.1) (by decide) (by decide) ?_
    show OwnS p e below s₁ (mkF m 19 #[rv r0, iv p1, iv 0, iv 1] []) _
    refine XS.iloadN X0.here hx rfl (hb hby d2_19) rfl ?_
    show OwnS p e below s₁ (mkF m 20 #[rv r0, iv p1, iv 0, iv 1] [(.int 1)]) _
    refine XS.iloadN X0.here hx rfl (hb hby d2_20) rfl ?_
    show OwnS p e below s₁ (mkF m 21 #[rv r0, iv p1, iv 0, iv 1] [(.int 0), (.int 1)]) _
    refine XS.icmpYes X0.here hx rfl (pc0 := 21) (pc' := 36) rfl (hb hby d2_21) rfl (flt (by decide : ¬ ((1 : Int32) < (0 : Int32)))).2.1 (by decide) (by decide) ?_
    show OwnS p e below s₁ (mkF m 36 #[rv r0, iv p1, iv 0, iv 1] []) _
    refine XS.iconst X0.here hx rfl (hb hby d2_36) ?_
    show OwnS p e below s₁ (mkF m 37 #[rv r0, iv p1, iv 0, iv 1] [(.int 1)]) _
    exact retN X0 hx (t := .boolean) Bd.returns (by simp) (hb hby d2_37) hr
  · show Q_2_01 Z r0 p1 kA d0 d1 d2 d3 h0 n0 _ s₁.heap _
    rw [e0]
    exact ⟨rfl, N0, rfl⟩
def Q_2_02 (Z : State) (r0 : Addr) (p1 : Int32) (kA : ClassId) (d0 : Int64) (d1 : Int64) (d2 : Int64) (d3 : Int64) (h0 : Heap) (n0 : Nat) (v : Option Value) (h : Heap) (L : List Loc) : Prop := v = some (.int 1) ∧ Fr n0 L ∧ h = h0
set_option maxRecDepth 65536 in
set_option maxHeartbeats 40000000 in
theorem rm2_02 (l : Launch) (Z : State) (a0 : Array Value) (hw : ∀ d ∈ tables_1, d.before a0 Z = true) (ws : List Jvm.Cond) (r0 : Addr) (p1 : Int32) (kA : ClassId) (d0 : Int64) (d1 : Int64) (d2 : Int64) (d3 : Int64) (h0 : Heap) (n0 : Nat) (Z0 : n0 ≤ h0.size) (V_r0 : Arv Z h0 r0 kA .double (4 : Int32) [(.double (FP.l2d d0)), (.double (FP.l2d d1)), (.double (FP.l2d d2)), (.double (FP.l2d d3))] (.double (FP.l2d (0 : Int64)))) (b_d0 : B53 d0) (b_d1 : B53 d1) (b_d2 : B53 d2) (b_d3 : B53 d3) (hjn : (2 : Int32) < p1) (hge : ¬ (d0 < d2)) :
    MetFree l (⟨cS0, "ok", "([DIII)Z"⟩ : MethodName) (head1 (Jvm.Cond.code (⟨cS0, "ok", "([DIII)Z"⟩ : MethodName) method_3_code 4 (some .boolean) :: ws) ({ frames := 0, cells := 0, slots := 0, locals := 0 } : Room)) (fun a U => a = #[(.ref r0), (.int p1), (.int 0), (.int 2)] ∧ Z.Warmed39 U.vm ∧ U.heap = h0) (fun _ _ _ _ _ => True) (fun _ U o U' => ∃ v L, o = .returned v ∧ Q_2_02 Z r0 p1 kA d0 d1 d2 d3 h0 n0 v U'.heap L ∧ FrameEnd U o U' L ({ frames := 0, cells := 0, slots := 0, locals := 0 } : Room).cells ({ frames := 0, cells := 0, slots := 0, locals := 0 } : Room).slots) := by
  refine MetFree.of_bodySF (plainFor_of_name pn_com_example_driftline_driftline_core_LearnerBestClassPinLaw) hisR ?_
  intro p e s m args below meth c s₁ Bd hml0 hP hK
  obtain ⟨rfl, hZ, hh⟩ := hP
  have hx := Bd.exec
  have hby := Bd.bytes
  have hml : c.maxLocals = 4 := hml0
  have hown : s.vm.findClass cS0 = some m.cls := findClass_of_methodNamed Bd.named
  have hnm := (name_of_methodNamed Bd.named Bd.method).1
  have X0 : Stand p l e ({ frames := 0, cells := 0, slots := 0, locals := 0 } : Room) s m #[(.ref r0), (.int p1), (.int 0), (.int 2)] below meth c s₁ [] 0 0 := Stand.of_body Bd
  have e0 : s₁.heap = h0 := by rw [← hh, Bd.state]; rfl
  have N0 := Fr.nil n0
  have k0 : ∀ t, OwnS p e below s₁ (mkF m 0 #[rv r0, iv p1, iv 0, iv 2] []) t → OwnS p e below s₁ (entryFrame m #[(.ref r0), (.int p1), (.int 0), (.int 2)] 4) t := fun t k => castTop (ef_2 m r0 p1 (0 : Int32) (2 : Int32)) k
  obtain ⟨cl_z1, Ar_z1, q_z1, S_z1, N_z1, H_z1, G_z1⟩ := id V_r0
  have hin2 : ¬ ((0 : Int32) < 0 ∨ cl_z1.slots.size ≤ ((0 : Int32)).toNatClampNeg) := inb_of S_z1 ⟨by decide, by decide⟩
  have hin3 : ¬ ((2 : Int32) < 0 ∨ cl_z1.slots.size ≤ ((2 : Int32)).toNatClampNeg) := inb_of S_z1 ⟨by decide, by decide⟩
  obtain ⟨fs, hr, hrun, hended, hW, hsame⟩ := X0.leave (v := some (.int 1)) (fun h => by rw [Bd.returns] at h; cases h)
  refine ⟨_, _, k0 _ ?_, hrun, hended, _, _, rfl, ?_, ⟨_, rfl⟩, hW, hsame.mono (by decide) (by decide)⟩
  · show OwnS p e below s₁ (mkF m 0 #[rv r0, iv p1, iv 0, iv 2] []) _
    refine XS.iloadN X0.here hx rfl (hb hby d2_0) rfl ?_
    show OwnS p e below s₁ (mkF m 1 #[rv r0, iv p1, iv 0, iv 2] [(.int 2)]) _
    refine XS.iloadN X0.here hx rfl (hb hby d2_1) rfl ?_
    show OwnS p e below s₁ (mkF m 2 #[rv r0, iv p1, iv 0, iv 2] [(.int p1), (.int 2)]) _
    refine XS.icmpYes X0.here hx rfl (pc0 := 2) (pc' := 7) rfl (hb hby d2_2) rfl (tlt hjn).1 (by decide) (by decide) ?_
    show OwnS p e below s₁ (mkF m 7 #[rv r0, iv p1, iv 0, iv 2] []) _
    refine XS.aloadN X0.here hx rfl (hb hby d2_7) rfl rfl ?_
    show OwnS p e below s₁ (mkF m 8 #[rv r0, iv p1, iv 0, iv 2] [(.ref r0)]) _
    refine XS.iloadN X0.here hx rfl (hb hby d2_8) rfl ?_
    show OwnS p e below s₁ (mkF m 9 #[rv r0, iv p1, iv 0, iv 2] [(.int 0), (.ref r0)]) _
    refine X0.daload hx (j := (0 : Int32)) (v := (.double (FP.l2d d0))) (by rw [e0]; exact Ar_z1.1) (State.isArrayOf_alike hZ.alike Ar_z1.2.1) Ar_z1.2.2 hin2 (Has.at H_z1 hin2 rfl) (g := (mkF m 9 #[rv r0, iv p1, iv 0, iv 2] [(.int 0), (.ref r0)])) rfl rfl (hb hby d2_9) _ ?_
    show OwnS p e below s₁ (mkF m 10 #[rv r0, iv p1, iv 0, iv 2] [(.double (FP.l2d d0))]) _
    refine XS.aloadN X0.here hx rfl (hb hby d2_10) rfl rfl ?_
    show OwnS p e below s₁ (mkF m 11 #[rv r0, iv p1, iv 0, iv 2] [(.ref r0), (.double (FP.l2d d0))]) _
    refine XS.iloadN X0.here hx rfl (hb hby d2_11) rfl ?_
    show OwnS p e below s₁ (mkF m 12 #[rv r0, iv p1, iv 0, iv 2] [(.int 2), (.ref r0), (.double (FP.l2d d0))]) _
    refine X0.daload hx (j := (2 : Int32)) (v := (.double (FP.l2d d2))) (by rw [e0]; exact Ar_z1.1) (State.isArrayOf_alike hZ.alike Ar_z1.2.1) Ar_z1.2.2 hin3 (Has.at H_z1 hin3 rfl) (g := (mkF m 12 #[rv r0, iv p1, iv 0, iv 2] [(.int 2), (.ref r0), (.double (FP.l2d d0))])) rfl rfl (hb hby d2_12) _ ?_
    show OwnS p e below s₁ (mkF m 13 #[rv r0, iv p1, iv 0, iv 2] [(.double (FP.l2d d2)), (.double (FP.l2d d0))]) _
    refine XS.dcmpS X0.here hx rfl (hb hby d2_13) rfl (dcmpV_w b_d0 b_d2 _) ?_
    show OwnS p e below s₁ (mkF m 14 #[rv r0, iv p1, iv 0, iv 2] [(.int (lcmpW d0 d2))]) _
    refine XS.ifYes X0.here hx rfl (pc0 := 14) (pc' := 19) rfl (hb hby d2_14) rfl ((if0 _ _).trans (flt (fun q => hge ((lw_lt _ _).mp q))).2.1) (by decide) (by decide) ?_
    show OwnS p e below s₁ (mkF m 19 #[rv r0, iv p1, iv 0, iv 2] []) _
    refine XS.iloadN X0.here hx rfl (hb hby d2_19) rfl ?_
    show OwnS p e below s₁ (mkF m 20 #[rv r0, iv p1, iv 0, iv 2] [(.int 2)]) _
    refine XS.iloadN X0.here hx rfl (hb hby d2_20) rfl ?_
    show OwnS p e below s₁ (mkF m 21 #[rv r0, iv p1, iv 0, iv 2] [(.int 0), (.int 2)]) _
    refine XS.icmpYes X0.here hx rfl (pc0 := 21) (pc' := 36) rfl (hb hby d2_21) rfl (flt (by decide : ¬ ((2 : Int32) < (0 : Int32)))).2.1 (by decide) (by decide) ?_
    show OwnS p e below s₁ (mkF m 36 #[rv r0, iv p1, iv 0, iv 2] []) _
    refine XS.iconst X0.here hx rfl (hb hby d2_36) ?_
    show OwnS p e below s₁ (mkF m 37 #[rv r0, iv p1, iv 0, iv 2] [(.int 1)]) _
    exact retN X0 hx (t := .boolean) Bd.returns (by simp) (hb hby d2_37) hr
  · show Q_2_02 Z r0 p1 kA d0 d1 d2 d3 h0 n0 _ s₁.heap _
    rw [e0]
    exact ⟨rfl, N0, rfl⟩
def Q_2_03 (Z : State) (r0 : Addr) (p1 : Int32) (kA : ClassId) (d0 : Int64) (d1 : Int64) (d2 : Int64) (d3 : Int64) (h0 : Heap) (n0 : Nat) (v : Option Value) (h : Heap) (L : List Loc) : Prop := v = some (.int 1) ∧ Fr n0 L ∧ h = h0
set_option maxRecDepth 65536 in
set_option maxHeartbeats 40000000 in
theorem rm2_03 (l : Launch) (Z : State) (a0 : Array Value) (hw : ∀ d ∈ tables_1, d.before a0 Z = true) (ws : List Jvm.Cond) (r0 : Addr) (p1 : Int32) (kA : ClassId) (d0 : Int64) (d1 : Int64) (d2 : Int64) (d3 : Int64) (h0 : Heap) (n0 : Nat) (Z0 : n0 ≤ h0.size) (V_r0 : Arv Z h0 r0 kA .double (4 : Int32) [(.double (FP.l2d d0)), (.double (FP.l2d d1)), (.double (FP.l2d d2)), (.double (FP.l2d d3))] (.double (FP.l2d (0 : Int64)))) (b_d0 : B53 d0) (b_d1 : B53 d1) (b_d2 : B53 d2) (b_d3 : B53 d3) (hjn : (3 : Int32) < p1) (hge : ¬ (d0 < d3)) :
    MetFree l (⟨cS0, "ok", "([DIII)Z"⟩ : MethodName) (head1 (Jvm.Cond.code (⟨cS0, "ok", "([DIII)Z"⟩ : MethodName) method_3_code 4 (some .boolean) :: ws) ({ frames := 0, cells := 0, slots := 0, locals := 0 } : Room)) (fun a U => a = #[(.ref r0), (.int p1), (.int 0), (.int 3)] ∧ Z.Warmed39 U.vm ∧ U.heap = h0) (fun _ _ _ _ _ => True) (fun _ U o U' => ∃ v L, o = .returned v ∧ Q_2_03 Z r0 p1 kA d0 d1 d2 d3 h0 n0 v U'.heap L ∧ FrameEnd U o U' L ({ frames := 0, cells := 0, slots := 0, locals := 0 } : Room).cells ({ frames := 0, cells := 0, slots := 0, locals := 0 } : Room).slots) := by
  refine MetFree.of_bodySF (plainFor_of_name pn_com_example_driftline_driftline_core_LearnerBestClassPinLaw) hisR ?_
  intro p e s m args below meth c s₁ Bd hml0 hP hK
  obtain ⟨rfl, hZ, hh⟩ := hP
  have hx := Bd.exec
  have hby := Bd.bytes
  have hml : c.maxLocals = 4 := hml0
  have hown : s.vm.findClass cS0 = some m.cls := findClass_of_methodNamed Bd.named
  have hnm := (name_of_methodNamed Bd.named Bd.method).1
  have X0 : Stand p l e ({ frames := 0, cells := 0, slots := 0, locals := 0 } : Room) s m #[(.ref r0), (.int p1), (.int 0), (.int 3)] below meth c s₁ [] 0 0 := Stand.of_body Bd
  have e0 : s₁.heap = h0 := by rw [← hh, Bd.state]; rfl
  have N0 := Fr.nil n0
  have k0 : ∀ t, OwnS p e below s₁ (mkF m 0 #[rv r0, iv p1, iv 0, iv 3] []) t → OwnS p e below s₁ (entryFrame m #[(.ref r0), (.int p1), (.int 0), (.int 3)] 4) t := fun t k => castTop (ef_2 m r0 p1 (0 : Int32) (3 : Int32)) k
  obtain ⟨cl_z1, Ar_z1, q_z1, S_z1, N_z1, H_z1, G_z1⟩ := id V_r0
  have hin2 : ¬ ((0 : Int32) < 0 ∨ cl_z1.slots.size ≤ ((0 : Int32)).toNatClampNeg) := inb_of S_z1 ⟨by decide, by decide⟩
  have hin3 : ¬ ((3 : Int32) < 0 ∨ cl_z1.slots.size ≤ ((3 : Int32)).toNatClampNeg) := inb_of S_z1 ⟨by decide, by decide⟩
  obtain ⟨fs, hr, hrun, hended, hW, hsame⟩ := X0.leave (v := some (.int 1)) (fun h => by rw [Bd.returns] at h; cases h)
  refine ⟨_, _, k0 _ ?_, hrun, hended, _, _, rfl, ?_, ⟨_, rfl⟩, hW, hsame.mono (by decide) (by decide)⟩
  · show OwnS p e below s₁ (mkF m 0 #[rv r0, iv p1, iv 0, iv 3] []) _
    refine XS.iloadN X0.here hx rfl (hb hby d2_0) rfl ?_
    show OwnS p e below s₁ (mkF m 1 #[rv r0, iv p1, iv 0, iv 3] [(.int 3)]) _
    refine XS.iloadN X0.here hx rfl (hb hby d2_1) rfl ?_
    show OwnS p e below s₁ (mkF m 2 #[rv r0, iv p1, iv 0, iv 3] [(.int p1), (.int 3)]) _
    refine XS.icmpYes X0.here hx rfl (pc0 := 2) (pc' := 7) rfl (hb hby d2_2) rfl (tlt hjn).1 (by decide) (by decide) ?_
    show OwnS p e below s₁ (mkF m 7 #[rv r0, iv p1, iv 0, iv 3] []) _
    refine XS.aloadN X0.here hx rfl (hb hby d2_7) rfl rfl ?_
    show OwnS p e below s₁ (mkF m 8 #[rv r0, iv p1, iv 0, iv 3] [(.ref r0)]) _
    refine XS.iloadN X0.here hx rfl (hb hby d2_8) rfl ?_
    show OwnS p e below s₁ (mkF m 9 #[rv r0, iv p1, iv 0, iv 3] [(.int 0), (.ref r0)]) _
    refine X0.daload hx (j := (0 : Int32)) (v := (.double (FP.l2d d0))) (by rw [e0]; exact Ar_z1.1) (State.isArrayOf_alike hZ.alike Ar_z1.2.1) Ar_z1.2.2 hin2 (Has.at H_z1 hin2 rfl) (g := (mkF m 9 #[rv r0, iv p1, iv 0, iv 3] [(.int 0), (.ref r0)])) rfl rfl (hb hby d2_9) _ ?_
    show OwnS p e below s₁ (mkF m 10 #[rv r0, iv p1, iv 0, iv 3] [(.double (FP.l2d d0))]) _
    refine XS.aloadN X0.here hx rfl (hb hby d2_10) rfl rfl ?_
    show OwnS p e below s₁ (mkF m 11 #[rv r0, iv p1, iv 0, iv 3] [(.ref r0), (.double (FP.l2d d0))]) _
    refine XS.iloadN X0.here hx rfl (hb hby d2_11) rfl ?_
    show OwnS p e below s₁ (mkF m 12 #[rv r0, iv p1, iv 0, iv 3] [(.int 3), (.ref r0), (.double (FP.l2d d0))]) _
    refine X0.daload hx (j := (3 : Int32)) (v := (.double (FP.l2d d3))) (by rw [e0]; exact Ar_z1.1) (State.isArrayOf_alike hZ.alike Ar_z1.2.1) Ar_z1.2.2 hin3 (Has.at H_z1 hin3 rfl) (g := (mkF m 12 #[rv r0, iv p1, iv 0, iv 3] [(.int 3), (.ref r0), (.double (FP.l2d d0))])) rfl rfl (hb hby d2_12) _ ?_
    show OwnS p e below s₁ (mkF m 13 #[rv r0, iv p1, iv 0, iv 3] [(.double (FP.l2d d3)), (.double (FP.l2d d0))]) _
    refine XS.dcmpS X0.here hx rfl (hb hby d2_13) rfl (dcmpV_w b_d0 b_d3 _) ?_
    show OwnS p e below s₁ (mkF m 14 #[rv r0, iv p1, iv 0, iv 3] [(.int (lcmpW d0 d3))]) _
    refine XS.ifYes X0.here hx rfl (pc0 := 14) (pc' := 19) rfl (hb hby d2_14) rfl ((if0 _ _).trans (flt (fun q => hge ((lw_lt _ _).mp q))).2.1) (by decide) (by decide) ?_
    show OwnS p e below s₁ (mkF m 19 #[rv r0, iv p1, iv 0, iv 3] []) _
    refine XS.iloadN X0.here hx rfl (hb hby d2_19) rfl ?_
    show OwnS p e below s₁ (mkF m 20 #[rv r0, iv p1, iv 0, iv 3] [(.int 3)]) _
    refine XS.iloadN X0.here hx rfl (hb hby d2_20) rfl ?_
    show OwnS p e below s₁ (mkF m 21 #[rv r0, iv p1, iv 0, iv 3] [(.int 0), (.int 3)]) _
    refine XS.icmpYes X0.here hx rfl (pc0 := 21) (pc' := 36) rfl (hb hby d2_21) rfl (flt (by decide : ¬ ((3 : Int32) < (0 : Int32)))).2.1 (by decide) (by decide) ?_
    show OwnS p e below s₁ (mkF m 36 #[rv r0, iv p1, iv 0, iv 3] []) _
    refine XS.iconst X0.here hx rfl (hb hby d2_36) ?_
    show OwnS p e below s₁ (mkF m 37 #[rv r0, iv p1, iv 0, iv 3] [(.int 1)]) _
    exact retN X0 hx (t := .boolean) Bd.returns (by simp) (hb hby d2_37) hr
  · show Q_2_03 Z r0 p1 kA d0 d1 d2 d3 h0 n0 _ s₁.heap _
    rw [e0]
    exact ⟨rfl, N0, rfl⟩
theorem d2_24 : decode method_3_code 24 = .ok (.aload_n 0, 1) := by decide +kernel
theorem d2_25 : decode method_3_code 25 = .ok (.iload_n 3, 1) := by decide +kernel
theorem d2_26 : decode method_3_code 26 = .ok (.daload, 1) := by decide +kernel
theorem d2_27 : decode method_3_code 27 = .ok (.aload_n 0, 1) := by decide +kernel
theorem d2_28 : decode method_3_code 28 = .ok (.iload_n 2, 1) := by decide +kernel
theorem d2_29 : decode method_3_code 29 = .ok (.daload, 1) := by decide +kernel
theorem d2_30 : decode method_3_code 30 = .ok (.dcmp .g, 1) := by decide +kernel
theorem d2_31 : decode method_3_code 31 = .ok (.ifCond .lt 5, 3) := by decide +kernel
def Q_2_10 (Z : State) (r0 : Addr) (p1 : Int32) (kA : ClassId) (d0 : Int64) (d1 : Int64) (d2 : Int64) (d3 : Int64) (h0 : Heap) (n0 : Nat) (v : Option Value) (h : Heap) (L : List Loc) : Prop := v = some (.int 1) ∧ Fr n0 L ∧ h = h0
set_option maxRecDepth 65536 in
set_option maxHeartbeats 40000000 in
theorem rm2_10 (l : Launch) (Z : State) (a0 : Array Value) (hw : ∀ d ∈ tables_1, d.before a0 Z = true) (ws : List Jvm.Cond) (r0 : Addr) (p1 : Int32) (kA : ClassId) (d0 : Int64) (d1 : Int64) (d2 : Int64) (d3 : Int64) (h0 : Heap) (n0 : Nat) (Z0 : n0 ≤ h0.size) (V_r0 : Arv Z h0 r0 kA .double (4 : Int32) [(.double (FP.l2d d0)), (.double (FP.l2d d1)), (.double (FP.l2d d2)), (.double (FP.l2d d3))] (.double (FP.l2d (0 : Int64)))) (b_d0 : B53 d0) (b_d1 : B53 d1) (b_d2 : B53 d2) (b_d3 : B53 d3) (hjn : (0 : Int32) < p1) (hge : ¬ (d1 < d0)) (hlt : d0 < d1) :
    MetFree l (⟨cS0, "ok", "([DIII)Z"⟩ : MethodName) (head1 (Jvm.Cond.code (⟨cS0, "ok", "([DIII)Z"⟩ : MethodName) method_3_code 4 (some .boolean) :: ws) ({ frames := 0, cells := 0, slots := 0, locals := 0 } : Room)) (fun a U => a = #[(.ref r0), (.int p1), (.int 1), (.int 0)] ∧ Z.Warmed39 U.vm ∧ U.heap = h0) (fun _ _ _ _ _ => True) (fun _ U o U' => ∃ v L, o = .returned v ∧ Q_2_10 Z r0 p1 kA d0 d1 d2 d3 h0 n0 v U'.heap L ∧ FrameEnd U o U' L ({ frames := 0, cells := 0, slots := 0, locals := 0 } : Room).cells ({ frames := 0, cells := 0, slots := 0, locals := 0 } : Room).slots) := by
  refine MetFree.of_bodySF (plainFor_of_name pn_com_example_driftline_driftline_core_LearnerBestClassPinLaw) hisR ?_
  intro p e s m args below meth c s₁ Bd hml0 hP hK
  obtain ⟨rfl, hZ, hh⟩ := hP
  have hx := Bd.exec
  have hby := Bd.bytes
  have hml : c.maxLocals = 4 := hml0
  have hown : s.vm.findClass cS0 = some m.cls := findClass_of_methodNamed Bd.named
  have hnm := (name_of_methodNamed Bd.named Bd.method).1
  have X0 : Stand p l e ({ frames := 0, cells := 0, slots := 0, locals := 0 } : Room) s m #[(.ref r0), (.int p1), (.int 1), (.int 0)] below meth c s₁ [] 0 0 := Stand.of_body Bd
  have e0 : s₁.heap = h0 := by rw [← hh, Bd.state]; rfl
  have N0 := Fr.nil n0
  have k0 : ∀ t, OwnS p e below s₁ (mkF m 0 #[rv r0, iv p1, iv 1, iv 0] []) t → OwnS p e below s₁ (entryFrame m #[(.ref r0), (.int p1), (.int 1), (.int 0)] 4) t := fun t k => castTop (ef_2 m r0 p1 (1 : Int32) (0 : Int32)) k
  obtain ⟨cl_z1, Ar_z1, q_z1, S_z1, N_z1, H_z1, G_z1⟩ := id V_r0
  have hin2 : ¬ ((1 : Int32) < 0 ∨ cl_z1.slots.size ≤ ((1 : Int32)).toNatClampNeg) := inb_of S_z1 ⟨by decide, by decide⟩
  have hin3 : ¬ ((0 : Int32) < 0 ∨ cl_z1.slots.size ≤ ((0 : Int32)).toNatClampNeg) := inb_of S_z1 ⟨by decide, by decide⟩
  have hin4 : ¬ ((0 : Int32) < 0 ∨ cl_z1.slots.size ≤ ((0 : Int32)).toNatClampNeg) := inb_of S_z1 ⟨by decide, by decide⟩
  have hin5 : ¬ ((1 : Int32) < 0 ∨ cl_z1.slots.size ≤ ((1 : Int32)).toNatClampNeg) := inb_of S_z1 ⟨by decide, by decide⟩
  obtain ⟨fs, hr, hrun, hended, hW, hsame⟩ := X0.leave (v := some (.int 1)) (fun h => by rw [Bd.returns] at h; cases h)
  refine ⟨_, _, k0 _ ?_, hrun, hended, _, _, rfl, ?_, ⟨_, rfl⟩, hW, hsame.mono (by decide) (by decide)⟩
  · show OwnS p e below s₁ (mkF m 0 #[rv r0, iv p1, iv 1, iv 0] []) _
    refine XS.iloadN X0.here hx rfl (hb hby d2_0) rfl ?_
    show OwnS p e below s₁ (mkF m 1 #[rv r0, iv p1, iv 1, iv 0] [(.int 0)]) _
    refine XS.iloadN X0.here hx rfl (hb hby d2_1) rfl ?_
    show OwnS p e below s₁ (mkF m 2 #[rv r0, iv p1, iv 1, iv 0] [(.int p1), (.int 0)]) _
    refine XS.icmpYes X0.here hx rfl (pc0 := 2) (pc' := 7) rfl (hb hby d2_2) rfl (tlt hjn).1 (by decide) (by decide) ?_
    show OwnS p e below s₁ (mkF m 7 #[rv r0, iv p1, iv 1, iv 0] []) _
    refine XS.aloadN X0.here hx rfl (hb hby d2_7) rfl rfl ?_
    show OwnS p e below s₁ (mkF m 8 #[rv r0, iv p1, iv 1, iv 0] [(.ref r0)]) _
    refine XS.iloadN X0.here hx rfl (hb hby d2_8) rfl ?_
    show OwnS p e below s₁ (mkF m 9 #[rv r0, iv p1, iv 1, iv 0] [(.int 1), (.ref r0)]) _
    refine X0.daload hx (j := (1 : Int32)) (v := (.double (FP.l2d d1))) (by rw [e0]; exact Ar_z1.1) (State.isArrayOf_alike hZ.alike Ar_z1.2.1) Ar_z1.2.2 hin2 (Has.at H_z1 hin2 rfl) (g := (mkF m 9 #[rv r0, iv p1, iv 1, iv 0] [(.int 1), (.ref r0)])) rfl rfl (hb hby d2_9) _ ?_
    show OwnS p e below s₁ (mkF m 10 #[rv r0, iv p1, iv 1, iv 0] [(.double (FP.l2d d1))]) _
    refine XS.aloadN X0.here hx rfl (hb hby d2_10) rfl rfl ?_
    show OwnS p e below s₁ (mkF m 11 #[rv r0, iv p1, iv 1, iv 0] [(.ref r0), (.double (FP.l2d d1))]) _
    refine XS.iloadN X0.here hx rfl (hb hby d2_11) rfl ?_
    show OwnS p e below s₁ (mkF m 12 #[rv r0, iv p1, iv 1, iv 0] [(.int 0), (.ref r0), (.double (FP.l2d d1))]) _
    refine X0.daload hx (j := (0 : Int32)) (v := (.double (FP.l2d d0))) (by rw [e0]; exact Ar_z1.1) (State.isArrayOf_alike hZ.alike Ar_z1.2.1) Ar_z1.2.2 hin3 (Has.at H_z1 hin3 rfl) (g := (mkF m 12 #[rv r0, iv p1, iv 1, iv 0] [(.int 0), (.ref r0), (.double (FP.l2d d1))])) rfl rfl (hb hby d2_12) _ ?_
    show OwnS p e below s₁ (mkF m 13 #[rv r0, iv p1, iv 1, iv 0] [(.double (FP.l2d d0)), (.double (FP.l2d d1))]) _
    refine XS.dcmpS X0.here hx rfl (hb hby d2_13) rfl (dcmpV_w b_d1 b_d0 _) ?_
    show OwnS p e below s₁ (mkF m 14 #[rv r0, iv p1, iv 1, iv 0] [(.int (lcmpW d1 d0))]) _
    refine XS.ifYes X0.here hx rfl (pc0 := 14) (pc' := 19) rfl (hb hby d2_14) rfl ((if0 _ _).trans (flt (fun q => hge ((lw_lt _ _).mp q))).2.1) (by decide) (by decide) ?_
    show OwnS p e below s₁ (mkF m 19 #[rv r0, iv p1, iv 1, iv 0] []) _
    refine XS.iloadN X0.here hx rfl (hb hby d2_19) rfl ?_
    show OwnS p e below s₁ (mkF m 20 #[rv r0, iv p1, iv 1, iv 0] [(.int 0)]) _
    refine XS.iloadN X0.here hx rfl (hb hby d2_20) rfl ?_
    show OwnS p e below s₁ (mkF m 21 #[rv r0, iv p1, iv 1, iv 0] [(.int 1), (.int 0)]) _
    refine XS.icmpNo X0.here hx rfl (hb hby d2_21) rfl (tlt (by decide : (0 : Int32) < (1 : Int32))).2.1 ?_
    show OwnS p e below s₁ (mkF m 24 #[rv r0, iv p1, iv 1, iv 0] []) _
    refine XS.aloadN X0.here hx rfl (hb hby d2_24) rfl rfl ?_
    show OwnS p e below s₁ (mkF m 25 #[rv r0, iv p1, iv 1, iv 0] [(.ref r0)]) _
    refine XS.iloadN X0.here hx rfl (hb hby d2_25) rfl ?_
    show OwnS p e below s₁ (mkF m 26 #[rv r0, iv p1, iv 1, iv 0] [(.int 0), (.ref r0)]) _
    refine X0.daload hx (j := (0 : Int32)) (v := (.double (FP.l2d d0))) (by rw [e0]; exact Ar_z1.1) (State.isArrayOf_alike hZ.alike Ar_z1.2.1) Ar_z1.2.2 hin4 (Has.at H_z1 hin4 rfl) (g := (mkF m 26 #[rv r0, iv p1, iv 1, iv 0] [(.int 0), (.ref r0)])) rfl rfl (hb hby d2_26) _ ?_
    show OwnS p e below s₁ (mkF m 27 #[rv r0, iv p1, iv 1, iv 0] [(.double (FP.l2d d0))]) _
    refine XS.aloadN X0.here hx rfl (hb hby d2_27) rfl rfl ?_
    show OwnS p e below s₁ (mkF m 28 #[rv r0, iv p1, iv 1, iv 0] [(.ref r0), (.double (FP.l2d d0))]) _
    refine XS.iloadN X0.here hx rfl (hb hby d2_28) rfl ?_
    show OwnS p e below s₁ (mkF m 29 #[rv r0, iv p1, iv 1, iv 0] [(.int 1), (.ref r0), (.double (FP.l2d d0))]) _
    refine X0.daload hx (j := (1 : Int32)) (v := (.double (FP.l2d d1))) (by rw [e0]; exact Ar_z1.1) (State.isArrayOf_alike hZ.alike Ar_z1.2.1) Ar_z1.2.2 hin5 (Has.at H_z1 hin5 rfl) (g := (mkF m 29 #[rv r0, iv p1, iv 1, iv 0] [(.int 1), (.ref r0), (.double (FP.l2d d0))])) rfl rfl (hb hby d2_29) _ ?_
    show OwnS p e below s₁ (mkF m 30 #[rv r0, iv p1, iv 1, iv 0] [(.double (FP.l2d d1)), (.double (FP.l2d d0))]) _
    refine XS.dcmpS X0.here hx rfl (hb hby d2_30) rfl (dcmpV_w b_d0 b_d1 _) ?_
    show OwnS p e below s₁ (mkF m 31 #[rv r0, iv p1, iv 1, iv 0] [(.int (lcmpW d0 d1))]) _
    refine XS.ifYes X0.here hx rfl (pc0 := 31) (pc' := 36) rfl (hb hby d2_31) rfl ((if0 _ _).trans (tlt ((lw_lt _ _).mpr hlt)).1) (by decide) (by decide) ?_
    show OwnS p e below s₁ (mkF m 36 #[rv r0, iv p1, iv 1, iv 0] []) _
    refine XS.iconst X0.here hx rfl (hb hby d2_36) ?_
    show OwnS p e below s₁ (mkF m 37 #[rv r0, iv p1, iv 1, iv 0] [(.int 1)]) _
    exact retN X0 hx (t := .boolean) Bd.returns (by simp) (hb hby d2_37) hr
  · show Q_2_10 Z r0 p1 kA d0 d1 d2 d3 h0 n0 _ s₁.heap _
    rw [e0]
    exact ⟨rfl, N0, rfl⟩
def Q_2_11 (Z : State) (r0 : Addr) (p1 : Int32) (kA : ClassId) (d0 : Int64) (d1 : Int64) (d2 : Int64) (d3 : Int64) (h0 : Heap) (n0 : Nat) (v : Option Value) (h : Heap) (L : List Loc) : Prop := v = some (.int 1) ∧ Fr n0 L ∧ h = h0
set_option maxRecDepth 65536 in
set_option maxHeartbeats 40000000 in
theorem rm2_11 (l : Launch) (Z : State) (a0 : Array Value) (hw : ∀ d ∈ tables_1, d.before a0 Z = true) (ws : List Jvm.Cond) (r0 : Addr) (p1 : Int32) (kA : ClassId) (d0 : Int64) (d1 : Int64) (d2 : Int64) (d3 : Int64) (h0 : Heap) (n0 : Nat) (Z0 : n0 ≤ h0.size) (V_r0 : Arv Z h0 r0 kA .double (4 : Int32) [(.double (FP.l2d d0)), (.double (FP.l2d d1)), (.double (FP.l2d d2)), (.double (FP.l2d d3))] (.double (FP.l2d (0 : Int64)))) (b_d0 : B53 d0) (b_d1 : B53 d1) (b_d2 : B53 d2) (b_d3 : B53 d3) (hjn : (1 : Int32) < p1) :
    MetFree l (⟨cS0, "ok", "([DIII)Z"⟩ : MethodName) (head1 (Jvm.Cond.code (⟨cS0, "ok", "([DIII)Z"⟩ : MethodName) method_3_code 4 (some .boolean) :: ws) ({ frames := 0, cells := 0, slots := 0, locals := 0 } : Room)) (fun a U => a = #[(.ref r0), (.int p1), (.int 1), (.int 1)] ∧ Z.Warmed39 U.vm ∧ U.heap = h0) (fun _ _ _ _ _ => True) (fun _ U o U' => ∃ v L, o = .returned v ∧ Q_2_11 Z r0 p1 kA d0 d1 d2 d3 h0 n0 v U'.heap L ∧ FrameEnd U o U' L ({ frames := 0, cells := 0, slots := 0, locals := 0 } : Room).cells ({ frames := 0, cells := 0, slots := 0, locals := 0 } : Room).slots) := by
  refine MetFree.of_bodySF (plainFor_of_name pn_com_example_driftline_driftline_core_LearnerBestClassPinLaw) hisR ?_
  intro p e s m args below meth c s₁ Bd hml0 hP hK
  obtain ⟨rfl, hZ, hh⟩ := hP
  have hx := Bd.exec
  have hby := Bd.bytes
  have hml : c.maxLocals = 4 := hml0
  have hown : s.vm.findClass cS0 = some m.cls := findClass_of_methodNamed Bd.named
  have hnm := (name_of_methodNamed Bd.named Bd.method).1
  have X0 : Stand p l e ({ frames := 0, cells := 0, slots := 0, locals := 0 } : Room) s m #[(.ref r0), (.int p1), (.int 1), (.int 1)] below meth c s₁ [] 0 0 := Stand.of_body Bd
  have e0 : s₁.heap = h0 := by rw [← hh, Bd.state]; rfl
  have N0 := Fr.nil n0
  have k0 : ∀ t, OwnS p e below s₁ (mkF m 0 #[rv r0, iv p1, iv 1, iv 1] []) t → OwnS p e below s₁ (entryFrame m #[(.ref r0), (.int p1), (.int 1), (.int 1)] 4) t := fun t k => castTop (ef_2 m r0 p1 (1 : Int32) (1 : Int32)) k
  obtain ⟨cl_z1, Ar_z1, q_z1, S_z1, N_z1, H_z1, G_z1⟩ := id V_r0
  have hin2 : ¬ ((1 : Int32) < 0 ∨ cl_z1.slots.size ≤ ((1 : Int32)).toNatClampNeg) := inb_of S_z1 ⟨by decide, by decide⟩
  have hin3 : ¬ ((1 : Int32) < 0 ∨ cl_z1.slots.size ≤ ((1 : Int32)).toNatClampNeg) := inb_of S_z1 ⟨by decide, by decide⟩
  obtain ⟨fs, hr, hrun, hended, hW, hsame⟩ := X0.leave (v := some (.int 1)) (fun h => by rw [Bd.returns] at h; cases h)
  refine ⟨_, _, k0 _ ?_, hrun, hended, _, _, rfl, ?_, ⟨_, rfl⟩, hW, hsame.mono (by decide) (by decide)⟩
  · show OwnS p e below s₁ (mkF m 0 #[rv r0, iv p1, iv 1, iv 1] []) _
    refine XS.iloadN X0.here hx rfl (hb hby d2_0) rfl ?_
    show OwnS p e below s₁ (mkF m 1 #[rv r0, iv p1, iv 1, iv 1] [(.int 1)]) _
    refine XS.iloadN X0.here hx rfl (hb hby d2_1) rfl ?_
    show OwnS p e below s₁ (mkF m 2 #[rv r0, iv p1, iv 1, iv 1] [(.int p1), (.int 1)]) _
    refine XS.icmpYes X0.here hx rfl (pc0 := 2) (pc' := 7) rfl (hb hby d2_2) rfl (tlt hjn).1 (by decide) (by decide) ?_
    show OwnS p e below s₁ (mkF m 7 #[rv r0, iv p1, iv 1, iv 1] []) _
    refine XS.aloadN X0.here hx rfl (hb hby d2_7) rfl rfl ?_
    show OwnS p e below s₁ (mkF m 8 #[rv r0, iv p1, iv 1, iv 1] [(.ref r0)]) _
    refine XS.iloadN X0.here hx rfl (hb hby d2_8) rfl ?_
    show OwnS p e below s₁ (mkF m 9 #[rv r0, iv p1, iv 1, iv 1] [(.int 1), (.ref r0)]) _
    refine X0.daload hx (j := (1 : Int32)) (v := (.double (FP.l2d d1))) (by rw [e0]; exact Ar_z1.1) (State.isArrayOf_alike hZ.alike Ar_z1.2.1) Ar_z1.2.2 hin2 (Has.at H_z1 hin2 rfl) (g := (mkF m 9 #[rv r0, iv p1, iv 1, iv 1] [(.int 1), (.ref r0)])) rfl rfl (hb hby d2_9) _ ?_
    show OwnS p e below s₁ (mkF m 10 #[rv r0, iv p1, iv 1, iv 1] [(.double (FP.l2d d1))]) _
    refine XS.aloadN X0.here hx rfl (hb hby d2_10) rfl rfl ?_
    show OwnS p e below s₁ (mkF m 11 #[rv r0, iv p1, iv 1, iv 1] [(.ref r0), (.double (FP.l2d d1))]) _
    refine XS.iloadN X0.here hx rfl (hb hby d2_11) rfl ?_
    show OwnS p e below s₁ (mkF m 12 #[rv r0, iv p1, iv 1, iv 1] [(.int 1), (.ref r0), (.double (FP.l2d d1))]) _
    refine X0.daload hx (j := (1 : Int32)) (v := (.double (FP.l2d d1))) (by rw [e0]; exact Ar_z1.1) (State.isArrayOf_alike hZ.alike Ar_z1.2.1) Ar_z1.2.2 hin3 (Has.at H_z1 hin3 rfl) (g := (mkF m 12 #[rv r0, iv p1, iv 1, iv 1] [(.int 1), (.ref r0), (.double (FP.l2d d1))])) rfl rfl (hb hby d2_12) _ ?_
    show OwnS p e below s₁ (mkF m 13 #[rv r0, iv p1, iv 1, iv 1] [(.double (FP.l2d d1)), (.double (FP.l2d d1))]) _
    refine XS.dcmpS X0.here hx rfl (hb hby d2_13) rfl (dcmpV_w b_d1 b_d1 _) ?_
    show OwnS p e below s₁ (mkF m 14 #[rv r0, iv p1, iv 1, iv 1] [(.int (lcmpW d1 d1))]) _
    refine XS.ifYes X0.here hx rfl (pc0 := 14) (pc' := 19) rfl (hb hby d2_14) rfl ((if0 _ _).trans (flt (fun q => (own_irr64 _) ((lw_lt _ _).mp q))).2.1) (by decide) (by decide) ?_
    show OwnS p e below s₁ (mkF m 19 #[rv r0, iv p1, iv 1, iv 1] []) _
    refine XS.iloadN X0.here hx rfl (hb hby d2_19) rfl ?_
    show OwnS p e below s₁ (mkF m 20 #[rv r0, iv p1, iv 1, iv 1] [(.int 1)]) _
    refine XS.iloadN X0.here hx rfl (hb hby d2_20) rfl ?_
    show OwnS p e below s₁ (mkF m 21 #[rv r0, iv p1, iv 1, iv 1] [(.int 1), (.int 1)]) _
    refine XS.icmpYes X0.here hx rfl (pc0 := 21) (pc' := 36) rfl (hb hby d2_21) rfl (flt (by decide : ¬ ((1 : Int32) < (1 : Int32)))).2.1 (by decide) (by decide) ?_
    show OwnS p e below s₁ (mkF m 36 #[rv r0, iv p1, iv 1, iv 1] []) _
    refine XS.iconst X0.here hx rfl (hb hby d2_36) ?_
    show OwnS p e below s₁ (mkF m 37 #[rv r0, iv p1, iv 1, iv 1] [(.int 1)]) _
    exact retN X0 hx (t := .boolean) Bd.returns (by simp) (hb hby d2_37) hr
  · show Q_2_11 Z r0 p1 kA d0 d1 d2 d3 h0 n0 _ s₁.heap _
    rw [e0]
    exact ⟨rfl, N0, rfl⟩
def Q_2_12 (Z : State) (r0 : Addr) (p1 : Int32) (kA : ClassId) (d0 : Int64) (d1 : Int64) (d2 : Int64) (d3 : Int64) (h0 : Heap) (n0 : Nat) (v : Option Value) (h : Heap) (L : List Loc) : Prop := v = some (.int 1) ∧ Fr n0 L ∧ h = h0
set_option maxRecDepth 65536 in
set_option maxHeartbeats 40000000 in
theorem rm2_12 (l : Launch) (Z : State) (a0 : Array Value) (hw : ∀ d ∈ tables_1, d.before a0 Z = true) (ws : List Jvm.Cond) (r0 : Addr) (p1 : Int32) (kA : ClassId) (d0 : Int64) (d1 : Int64) (d2 : Int64) (d3 : Int64) (h0 : Heap) (n0 : Nat) (Z0 : n0 ≤ h0.size) (V_r0 : Arv Z h0 r0 kA .double (4 : Int32) [(.double (FP.l2d d0)), (.double (FP.l2d d1)), (.double (FP.l2d d2)), (.double (FP.l2d d3))] (.double (FP.l2d (0 : Int64)))) (b_d0 : B53 d0) (b_d1 : B53 d1) (b_d2 : B53 d2) (b_d3 : B53 d3) (hjn : (2 : Int32) < p1) (hge : ¬ (d1 < d2)) :
    MetFree l (⟨cS0, "ok", "([DIII)Z"⟩ : MethodName) (head1 (Jvm.Cond.code (⟨cS0, "ok", "([DIII)Z"⟩ : MethodName) method_3_code 4 (some .boolean) :: ws) ({ frames := 0, cells := 0, slots := 0, locals := 0 } : Room)) (fun a U => a = #[(.ref r0), (.int p1), (.int 1), (.int 2)] ∧ Z.Warmed39 U.vm ∧ U.heap = h0) (fun _ _ _ _ _ => True) (fun _ U o U' => ∃ v L, o = .returned v ∧ Q_2_12 Z r0 p1 kA d0 d1 d2 d3 h0 n0 v U'.heap L ∧ FrameEnd U o U' L ({ frames := 0, cells := 0, slots := 0, locals := 0 } : Room).cells ({ frames := 0, cells := 0, slots := 0, locals := 0 } : Room).slots) := by
  refine MetFree.of_bodySF (plainFor_of_name pn_com_example_driftline_driftline_core_LearnerBestClassPinLaw) hisR ?_
  intro p e s m args below meth c s₁ Bd hml0 hP hK
  obtain ⟨rfl, hZ, hh⟩ := hP
  have hx := Bd.exec
  have hby := Bd.bytes
  have hml : c.maxLocals = 4 := hml0
  have hown : s.vm.findClass cS0 = some m.cls := findClass_of_methodNamed Bd.named
  have hnm := (name_of_methodNamed Bd.named Bd.method).1
  have X0 : Stand p l e ({ frames := 0, cells := 0, slots := 0, locals := 0 } : Room) s m #[(.ref r0), (.int p1), (.int 1), (.int 2)] below meth c s₁ [] 0 0 := Stand.of_body Bd
  have e0 : s₁.heap = h0 := by rw [← hh, Bd.state]; rfl
  have N0 := Fr.nil n0
  have k0 : ∀ t, OwnS p e below s₁ (mkF m 0 #[rv r0, iv p1, iv 1, iv 2] []) t → OwnS p e below s₁ (entryFrame m #[(.ref r0), (.int p1), (.int 1), (.int 2)] 4) t := fun t k => castTop (ef_2 m r0 p1 (1 : Int32) (2 : Int32)) k
  obtain ⟨cl_z1, Ar_z1, q_z1, S_z1, N_z1, H_z1, G_z1⟩ := id V_r0
  have hin2 : ¬ ((1 : Int32) < 0 ∨ cl_z1.slots.size ≤ ((1 : Int32)).toNatClampNeg) := inb_of S_z1 ⟨by decide, by decide⟩
  have hin3 : ¬ ((2 : Int32) < 0 ∨ cl_z1.slots.size ≤ ((2 : Int32)).toNatClampNeg) := inb_of S_z1 ⟨by decide, by decide⟩
  obtain ⟨fs, hr, hrun, hended, hW, hsame⟩ := X0.leave (v := some (.int 1)) (fun h => by rw [Bd.returns] at h; cases h)
  refine ⟨_, _, k0 _ ?_, hrun, hended, _, _, rfl, ?_, ⟨_, rfl⟩, hW, hsame.mono (by decide) (by decide)⟩
  · show OwnS p e below s₁ (mkF m 0 #[rv r0, iv p1, iv 1, iv 2] []) _
    refine XS.iloadN X0.here hx rfl (hb hby d2_0) rfl ?_
    show OwnS p e below s₁ (mkF m 1 #[rv r0, iv p1, iv 1, iv 2] [(.int 2)]) _
    refine XS.iloadN X0.here hx rfl (hb hby d2_1) rfl ?_
    show OwnS p e below s₁ (mkF m 2 #[rv r0, iv p1, iv 1, iv 2] [(.int p1), (.int 2)]) _
    refine XS.icmpYes X0.here hx rfl (pc0 := 2) (pc' := 7) rfl (hb hby d2_2) rfl (tlt hjn).1 (by decide) (by decide) ?_
    show OwnS p e below s₁ (mkF m 7 #[rv r0, iv p1, iv 1, iv 2] []) _
    refine XS.aloadN X0.here hx rfl (hb hby d2_7) rfl rfl ?_
    show OwnS p e below s₁ (mkF m 8 #[rv r0, iv p1, iv 1, iv 2] [(.ref r0)]) _
    refine XS.iloadN X0.here hx rfl (hb hby d2_8) rfl ?_
    show OwnS p e below s₁ (mkF m 9 #[rv r0, iv p1, iv 1, iv 2] [(.int 1), (.ref r0)]) _
    refine X0.daload hx (j := (1 : Int32)) (v := (.double (FP.l2d d1))) (by rw [e0]; exact Ar_z1.1) (State.isArrayOf_alike hZ.alike Ar_z1.2.1) Ar_z1.2.2 hin2 (Has.at H_z1 hin2 rfl) (g := (mkF m 9 #[rv r0, iv p1, iv 1, iv 2] [(.int 1), (.ref r0)])) rfl rfl (hb hby d2_9) _ ?_
    show OwnS p e below s₁ (mkF m 10 #[rv r0, iv p1, iv 1, iv 2] [(.double (FP.l2d d1))]) _
    refine XS.aloadN X0.here hx rfl (hb hby d2_10) rfl rfl ?_
    show OwnS p e below s₁ (mkF m 11 #[rv r0, iv p1, iv 1, iv 2] [(.ref r0), (.double (FP.l2d d1))]) _
    refine XS.iloadN X0.here hx rfl (hb hby d2_11) rfl ?_
    show OwnS p e below s₁ (mkF m 12 #[rv r0, iv p1, iv 1, iv 2] [(.int 2), (.ref r0), (.double (FP.l2d d1))]) _
    refine X0.daload hx (j := (2 : Int32)) (v := (.double (FP.l2d d2))) (by rw [e0]; exact Ar_z1.1) (State.isArrayOf_alike hZ.alike Ar_z1.2.1) Ar_z1.2.2 hin3 (Has.at H_z1 hin3 rfl) (g := (mkF m 12 #[rv r0, iv p1, iv 1, iv 2] [(.int 2), (.ref r0), (.double (FP.l2d d1))])) rfl rfl (hb hby d2_12) _ ?_
    show OwnS p e below s₁ (mkF m 13 #[rv r0, iv p1, iv 1, iv 2] [(.double (FP.l2d d2)), (.double (FP.l2d d1))]) _
    refine XS.dcmpS X0.here hx rfl (hb hby d2_13) rfl (dcmpV_w b_d1 b_d2 _) ?_
    show OwnS p e below s₁ (mkF m 14 #[rv r0, iv p1, iv 1, iv 2] [(.int (lcmpW d1 d2))]) _
    refine XS.ifYes X0.here hx rfl (pc0 := 14) (pc' := 19) rfl (hb hby d2_14) rfl ((if0 _ _).trans (flt (fun q => hge ((lw_lt _ _).mp q))).2.1) (by decide) (by decide) ?_
    show OwnS p e below s₁ (mkF m 19 #[rv r0, iv p1, iv 1, iv 2] []) _
    refine XS.iloadN X0.here hx rfl (hb hby d2_19) rfl ?_
    show OwnS p e below s₁ (mkF m 20 #[rv r0, iv p1, iv 1, iv 2] [(.int 2)]) _
    refine XS.iloadN X0.here hx rfl (hb hby d2_20) rfl ?_
    show OwnS p e below s₁ (mkF m 21 #[rv r0, iv p1, iv 1, iv 2] [(.int 1), (.int 2)]) _
    refine XS.icmpYes X0.here hx rfl (pc0 := 21) (pc' := 36) rfl (hb hby d2_21) rfl (flt (by decide : ¬ ((2 : Int32) < (1 : Int32)))).2.1 (by decide) (by decide) ?_
    show OwnS p e below s₁ (mkF m 36 #[rv r0, iv p1, iv 1, iv 2] []) _
    refine XS.iconst X0.here hx rfl (hb hby d2_36) ?_
    show OwnS p e below s₁ (mkF m 37 #[rv r0, iv p1, iv 1, iv 2] [(.int 1)]) _
    exact retN X0 hx (t := .boolean) Bd.returns (by simp) (hb hby d2_37) hr
  · show Q_2_12 Z r0 p1 kA d0 d1 d2 d3 h0 n0 _ s₁.heap _
    rw [e0]
    exact ⟨rfl, N0, rfl⟩
def Q_2_13 (Z : State) (r0 : Addr) (p1 : Int32) (kA : ClassId) (d0 : Int64) (d1 : Int64) (d2 : Int64) (d3 : Int64) (h0 : Heap) (n0 : Nat) (v : Option Value) (h : Heap) (L : List Loc) : Prop := v = some (.int 1) ∧ Fr n0 L ∧ h = h0
set_option maxRecDepth 65536 in
set_option maxHeartbeats 40000000 in
theorem rm2_13 (l : Launch) (Z : State) (a0 : Array Value) (hw : ∀ d ∈ tables_1, d.before a0 Z = true) (ws : List Jvm.Cond) (r0 : Addr) (p1 : Int32) (kA : ClassId) (d0 : Int64) (d1 : Int64) (d2 : Int64) (d3 : Int64) (h0 : Heap) (n0 : Nat) (Z0 : n0 ≤ h0.size) (V_r0 : Arv Z h0 r0 kA .double (4 : Int32) [(.double (FP.l2d d0)), (.double (FP.l2d d1)), (.double (FP.l2d d2)), (.double (FP.l2d d3))] (.double (FP.l2d (0 : Int64)))) (b_d0 : B53 d0) (b_d1 : B53 d1) (b_d2 : B53 d2) (b_d3 : B53 d3) (hjn : (3 : Int32) < p1) (hge : ¬ (d1 < d3)) :
    MetFree l (⟨cS0, "ok", "([DIII)Z"⟩ : MethodName) (head1 (Jvm.Cond.code (⟨cS0, "ok", "([DIII)Z"⟩ : MethodName) method_3_code 4 (some .boolean) :: ws) ({ frames := 0, cells := 0, slots := 0, locals := 0 } : Room)) (fun a U => a = #[(.ref r0), (.int p1), (.int 1), (.int 3)] ∧ Z.Warmed39 U.vm ∧ U.heap = h0) (fun _ _ _ _ _ => True) (fun _ U o U' => ∃ v L, o = .returned v ∧ Q_2_13 Z r0 p1 kA d0 d1 d2 d3 h0 n0 v U'.heap L ∧ FrameEnd U o U' L ({ frames := 0, cells := 0, slots := 0, locals := 0 } : Room).cells ({ frames := 0, cells := 0, slots := 0, locals := 0 } : Room).slots) := by
  refine MetFree.of_bodySF (plainFor_of_name pn_com_example_driftline_driftline_core_LearnerBestClassPinLaw) hisR ?_
  intro p e s m args below meth c s₁ Bd hml0 hP hK
  obtain ⟨rfl, hZ, hh⟩ := hP
  have hx := Bd.exec
  have hby := Bd.bytes
  have hml : c.maxLocals = 4 := hml0
  have hown : s.vm.findClass cS0 = some m.cls := findClass_of_methodNamed Bd.named
  have hnm := (name_of_methodNamed Bd.named Bd.method).1
  have X0 : Stand p l e ({ frames := 0, cells := 0, slots := 0, locals := 0 } : Room) s m #[(.ref r0), (.int p1), (.int 1), (.int 3)] below meth c s₁ [] 0 0 := Stand.of_body Bd
  have e0 : s₁.heap = h0 := by rw [← hh, Bd.state]; rfl
  have N0 := Fr.nil n0
  have k0 : ∀ t, OwnS p e below s₁ (mkF m 0 #[rv r0, iv p1, iv 1, iv 3] []) t → OwnS p e below s₁ (entryFrame m #[(.ref r0), (.int p1), (.int 1), (.int 3)] 4) t := fun t k => castTop (ef_2 m r0 p1 (1 : Int32) (3 : Int32)) k
  obtain ⟨cl_z1, Ar_z1, q_z1, S_z1, N_z1, H_z1, G_z1⟩ := id V_r0
  have hin2 : ¬ ((1 : Int32) < 0 ∨ cl_z1.slots.size ≤ ((1 : Int32)).toNatClampNeg) := inb_of S_z1 ⟨by decide, by decide⟩
  have hin3 : ¬ ((3 : Int32) < 0 ∨ cl_z1.slots.size ≤ ((3 : Int32)).toNatClampNeg) := inb_of S_z1 ⟨by decide, by decide⟩
  obtain ⟨fs, hr, hrun, hended, hW, hsame⟩ := X0.leave (v := some (.int 1)) (fun h => by rw [Bd.returns] at h; cases h)
  refine ⟨_, _, k0 _ ?_, hrun, hended, _, _, rfl, ?_, ⟨_, rfl⟩, hW, hsame.mono (by decide) (by decide)⟩
  · show OwnS p e below s₁ (mkF m 0 #[rv r0, iv p1, iv 1, iv 3] []) _
    refine XS.iloadN X0.here hx rfl (hb hby d2_0) rfl ?_
    show OwnS p e below s₁ (mkF m 1 #[rv r0, iv p1, iv 1, iv 3] [(.int 3)]) _
    refine XS.iloadN X0.here hx rfl (hb hby d2_1) rfl ?_
    show OwnS p e below s₁ (mkF m 2 #[rv r0, iv p1, iv 1, iv 3] [(.int p1), (.int 3)]) _
    refine XS.icmpYes X0.here hx rfl (pc0 := 2) (pc' := 7) rfl (hb hby d2_2) rfl (tlt hjn).1 (by decide) (by decide) ?_
    show OwnS p e below s₁ (mkF m 7 #[rv r0, iv p1, iv 1, iv 3] []) _
    refine XS.aloadN X0.here hx rfl (hb hby d2_7) rfl rfl ?_
    show OwnS p e below s₁ (mkF m 8 #[rv r0, iv p1, iv 1, iv 3] [(.ref r0)]) _
    refine XS.iloadN X0.here hx rfl (hb hby d2_8) rfl ?_
    show OwnS p e below s₁ (mkF m 9 #[rv r0, iv p1, iv 1, iv 3] [(.int 1), (.ref r0)]) _
    refine X0.daload hx (j := (1 : Int32)) (v := (.double (FP.l2d d1))) (by rw [e0]; exact Ar_z1.1) (State.isArrayOf_alike hZ.alike Ar_z1.2.1) Ar_z1.2.2 hin2 (Has.at H_z1 hin2 rfl) (g := (mkF m 9 #[rv r0, iv p1, iv 1, iv 3] [(.int 1), (.ref r0)])) rfl rfl (hb hby d2_9) _ ?_
    show OwnS p e below s₁ (mkF m 10 #[rv r0, iv p1, iv 1, iv 3] [(.double (FP.l2d d1))]) _
    refine XS.aloadN X0.here hx rfl (hb hby d2_10) rfl rfl ?_
    show OwnS p e below s₁ (mkF m 11 #[rv r0, iv p1, iv 1, iv 3] [(.ref r0), (.double (FP.l2d d1))]) _
    refine XS.iloadN X0.here hx rfl (hb hby d2_11) rfl ?_
    show OwnS p e below s₁ (mkF m 12 #[rv r0, iv p1, iv 1, iv 3] [(.int 3), (.ref r0), (.double (FP.l2d d1))]) _
    refine X0.daload hx (j := (3 : Int32)) (v := (.double (FP.l2d d3))) (by rw [e0]; exact Ar_z1.1) (State.isArrayOf_alike hZ.alike Ar_z1.2.1) Ar_z1.2.2 hin3 (Has.at H_z1 hin3 rfl) (g := (mkF m 12 #[rv r0, iv p1, iv 1, iv 3] [(.int 3), (.ref r0), (.double (FP.l2d d1))])) rfl rfl (hb hby d2_12) _ ?_
    show OwnS p e below s₁ (mkF m 13 #[rv r0, iv p1, iv 1, iv 3] [(.double (FP.l2d d3)), (.double (FP.l2d d1))]) _
    refine XS.dcmpS X0.here hx rfl (hb hby d2_13) rfl (dcmpV_w b_d1 b_d3 _) ?_
    show OwnS p e below s₁ (mkF m 14 #[rv r0, iv p1, iv 1, iv 3] [(.int (lcmpW d1 d3))]) _
    refine XS.ifYes X0.here hx rfl (pc0 := 14) (pc' := 19) rfl (hb hby d2_14) rfl ((if0 _ _).trans (flt (fun q => hge ((lw_lt _ _).mp q))).2.1) (by decide) (by decide) ?_
    show OwnS p e below s₁ (mkF m 19 #[rv r0, iv p1, iv 1, iv 3] []) _
    refine XS.iloadN X0.here hx rfl (hb hby d2_19) rfl ?_
    show OwnS p e below s₁ (mkF m 20 #[rv r0, iv p1, iv 1, iv 3] [(.int 3)]) _
    refine XS.iloadN X0.here hx rfl (hb hby d2_20) rfl ?_
    show OwnS p e below s₁ (mkF m 21 #[rv r0, iv p1, iv 1, iv 3] [(.int 1), (.int 3)]) _
    refine XS.icmpYes X0.here hx rfl (pc0 := 21) (pc' := 36) rfl (hb hby d2_21) rfl (flt (by decide : ¬ ((3 : Int32) < (1 : Int32)))).2.1 (by decide) (by decide) ?_
    show OwnS p e below s₁ (mkF m 36 #[rv r0, iv p1, iv 1, iv 3] []) _
    refine XS.iconst X0.here hx rfl (hb hby d2_36) ?_
    show OwnS p e below s₁ (mkF m 37 #[rv r0, iv p1, iv 1, iv 3] [(.int 1)]) _
    exact retN X0 hx (t := .boolean) Bd.returns (by simp) (hb hby d2_37) hr
  · show Q_2_13 Z r0 p1 kA d0 d1 d2 d3 h0 n0 _ s₁.heap _
    rw [e0]
    exact ⟨rfl, N0, rfl⟩
def Q_2_20 (Z : State) (r0 : Addr) (p1 : Int32) (kA : ClassId) (d0 : Int64) (d1 : Int64) (d2 : Int64) (d3 : Int64) (h0 : Heap) (n0 : Nat) (v : Option Value) (h : Heap) (L : List Loc) : Prop := v = some (.int 1) ∧ Fr n0 L ∧ h = h0
set_option maxRecDepth 65536 in
set_option maxHeartbeats 40000000 in
theorem rm2_20 (l : Launch) (Z : State) (a0 : Array Value) (hw : ∀ d ∈ tables_1, d.before a0 Z = true) (ws : List Jvm.Cond) (r0 : Addr) (p1 : Int32) (kA : ClassId) (d0 : Int64) (d1 : Int64) (d2 : Int64) (d3 : Int64) (h0 : Heap) (n0 : Nat) (Z0 : n0 ≤ h0.size) (V_r0 : Arv Z h0 r0 kA .double (4 : Int32) [(.double (FP.l2d d0)), (.double (FP.l2d d1)), (.double (FP.l2d d2)), (.double (FP.l2d d3))] (.double (FP.l2d (0 : Int64)))) (b_d0 : B53 d0) (b_d1 : B53 d1) (b_d2 : B53 d2) (b_d3 : B53 d3) (hjn : (0 : Int32) < p1) (hge : ¬ (d2 < d0)) (hlt : d0 < d2) :
    MetFree l (⟨cS0, "ok", "([DIII)Z"⟩ : MethodName) (head1 (Jvm.Cond.code (⟨cS0, "ok", "([DIII)Z"⟩ : MethodName) method_3_code 4 (some .boolean) :: ws) ({ frames := 0, cells := 0, slots := 0, locals := 0 } : Room)) (fun a U => a = #[(.ref r0), (.int p1), (.int 2), (.int 0)] ∧ Z.Warmed39 U.vm ∧ U.heap = h0) (fun _ _ _ _ _ => True) (fun _ U o U' => ∃ v L, o = .returned v ∧ Q_2_20 Z r0 p1 kA d0 d1 d2 d3 h0 n0 v U'.heap L ∧ FrameEnd U o U' L ({ frames := 0, cells := 0, slots := 0, locals := 0 } : Room).cells ({ frames := 0, cells := 0, slots := 0, locals := 0 } : Room).slots) := by
  refine MetFree.of_bodySF (plainFor_of_name pn_com_example_driftline_driftline_core_LearnerBestClassPinLaw) hisR ?_
  intro p e s m args below meth c s₁ Bd hml0 hP hK
  obtain ⟨rfl, hZ, hh⟩ := hP
  have hx := Bd.exec
  have hby := Bd.bytes
  have hml : c.maxLocals = 4 := hml0
  have hown : s.vm.findClass cS0 = some m.cls := findClass_of_methodNamed Bd.named
  have hnm := (name_of_methodNamed Bd.named Bd.method).1
  have X0 : Stand p l e ({ frames := 0, cells := 0, slots := 0, locals := 0 } : Room) s m #[(.ref r0), (.int p1), (.int 2), (.int 0)] below meth c s₁ [] 0 0 := Stand.of_body Bd
  have e0 : s₁.heap = h0 := by rw [← hh, Bd.state]; rfl
  have N0 := Fr.nil n0
  have k0 : ∀ t, OwnS p e below s₁ (mkF m 0 #[rv r0, iv p1, iv 2, iv 0] []) t → OwnS p e below s₁ (entryFrame m #[(.ref r0), (.int p1), (.int 2), (.int 0)] 4) t := fun t k => castTop (ef_2 m r0 p1 (2 : Int32) (0 : Int32)) k
  obtain ⟨cl_z1, Ar_z1, q_z1, S_z1, N_z1, H_z1, G_z1⟩ := id V_r0
  have hin2 : ¬ ((2 : Int32) < 0 ∨ cl_z1.slots.size ≤ ((2 : Int32)).toNatClampNeg) := inb_of S_z1 ⟨by decide, by decide⟩
  have hin3 : ¬ ((0 : Int32) < 0 ∨ cl_z1.slots.size ≤ ((0 : Int32)).toNatClampNeg) := inb_of S_z1 ⟨by decide, by decide⟩
  have hin4 : ¬ ((0 : Int32) < 0 ∨ cl_z1.slots.size ≤ ((0 : Int32)).toNatClampNeg) := inb_of S_z1 ⟨by decide, by decide⟩
  have hin5 : ¬ ((2 : Int32) < 0 ∨ cl_z1.slots.size ≤ ((2 : Int32)).toNatClampNeg) := inb_of S_z1 ⟨by decide, by decide⟩
  obtain ⟨fs, hr, hrun, hended, hW, hsame⟩ := X0.leave (v := some (.int 1)) (fun h => by rw [Bd.returns] at h; cases h)
  refine ⟨_, _, k0 _ ?_, hrun, hended, _, _, rfl, ?_, ⟨_, rfl⟩, hW, hsame.mono (by decide) (by decide)⟩
  · show OwnS p e below s₁ (mkF m 0 #[rv r0, iv p1, iv 2, iv 0] []) _
    refine XS.iloadN X0.here hx rfl (hb hby d2_0) rfl ?_
    show OwnS p e below s₁ (mkF m 1 #[rv r0, iv p1, iv 2, iv 0] [(.int 0)]) _
    refine XS.iloadN X0.here hx rfl (hb hby d2_1) rfl ?_
    show OwnS p e below s₁ (mkF m 2 #[rv r0, iv p1, iv 2, iv 0] [(.int p1), (.int 0)]) _
    refine XS.icmpYes X0.here hx rfl (pc0 := 2) (pc' := 7) rfl (hb hby d2_2) rfl (tlt hjn).1 (by decide) (by decide) ?_
    show OwnS p e below s₁ (mkF m 7 #[rv r0, iv p1, iv 2, iv 0] []) _
    refine XS.aloadN X0.here hx rfl (hb hby d2_7) rfl rfl ?_
    show OwnS p e below s₁ (mkF m 8 #[rv r0, iv p1, iv 2, iv 0] [(.ref r0)]) _
    refine XS.iloadN X0.here hx rfl (hb hby d2_8) rfl ?_
    show OwnS p e below s₁ (mkF m 9 #[rv r0, iv p1, iv 2, iv 0] [(.int 2), (.ref r0)]) _
    refine X0.daload hx (j := (2 : Int32)) (v := (.double (FP.l2d d2))) (by rw [e0]; exact Ar_z1.1) (State.isArrayOf_alike hZ.alike Ar_z1.2.1) Ar_z1.2.2 hin2 (Has.at H_z1 hin2 rfl) (g := (mkF m 9 #[rv r0, iv p1, iv 2, iv 0] [(.int 2), (.ref r0)])) rfl rfl (hb hby d2_9) _ ?_
    show OwnS p e below s₁ (mkF m 10 #[rv r0, iv p1, iv 2, iv 0] [(.double (FP.l2d d2))]) _
    refine XS.aloadN X0.here hx rfl (hb hby d2_10) rfl rfl ?_
    show OwnS p e below s₁ (mkF m 11 #[rv r0, iv p1, iv 2, iv 0] [(.ref r0), (.double (FP.l2d d2))]) _
    refine XS.iloadN X0.here hx rfl (hb hby d2_11) rfl ?_
    show OwnS p e below s₁ (mkF m 12 #[rv r0, iv p1, iv 2, iv 0] [(.int 0), (.ref r0), (.double (FP.l2d d2))]) _
    refine X0.daload hx (j := (0 : Int32)) (v := (.double (FP.l2d d0))) (by rw [e0]; exact Ar_z1.1) (State.isArrayOf_alike hZ.alike Ar_z1.2.1) Ar_z1.2.2 hin3 (Has.at H_z1 hin3 rfl) (g := (mkF m 12 #[rv r0, iv p1, iv 2, iv 0] [(.int 0), (.ref r0), (.double (FP.l2d d2))])) rfl rfl (hb hby d2_12) _ ?_
    show OwnS p e below s₁ (mkF m 13 #[rv r0, iv p1, iv 2, iv 0] [(.double (FP.l2d d0)), (.double (FP.l2d d2))]) _
    refine XS.dcmpS X0.here hx rfl (hb hby d2_13) rfl (dcmpV_w b_d2 b_d0 _) ?_
    show OwnS p e below s₁ (mkF m 14 #[rv r0, iv p1, iv 2, iv 0] [(.int (lcmpW d2 d0))]) _
    refine XS.ifYes X0.here hx rfl (pc0 := 14) (pc' := 19) rfl (hb hby d2_14) rfl ((if0 _ _).trans (flt (fun q => hge ((lw_lt _ _).mp q))).2.1) (by decide) (by decide) ?_
    show OwnS p e below s₁ (mkF m 19 #[rv r0, iv p1, iv 2, iv 0] []) _
    refine XS.iloadN X0.here hx rfl (hb hby d2_19) rfl ?_
    show OwnS p e below s₁ (mkF m 20 #[rv r0, iv p1, iv 2, iv 0] [(.int 0)]) _
    refine XS.iloadN X0.here hx rfl (hb hby d2_20) rfl ?_
    show OwnS p e below s₁ (mkF m 21 #[rv r0, iv p1, iv 2, iv 0] [(.int 2), (.int 0)]) _
    refine XS.icmpNo X0.here hx rfl (hb hby d2_21) rfl (tlt (by decide : (0 : Int32) < (2 : Int32))).2.1 ?_
    show OwnS p e below s₁ (mkF m 24 #[rv r0, iv p1, iv 2, iv 0] []) _
    refine XS.aloadN X0.here hx rfl (hb hby d2_24) rfl rfl ?_
    show OwnS p e below s₁ (mkF m 25 #[rv r0, iv p1, iv 2, iv 0] [(.ref r0)]) _
    refine XS.iloadN X0.here hx rfl (hb hby d2_25) rfl ?_
    show OwnS p e below s₁ (mkF m 26 #[rv r0, iv p1, iv 2, iv 0] [(.int 0), (.ref r0)]) _
    refine X0.daload hx (j := (0 : Int32)) (v := (.double (FP.l2d d0))) (by rw [e0]; exact Ar_z1.1) (State.isArrayOf_alike hZ.alike Ar_z1.2.1) Ar_z1.2.2 hin4 (Has.at H_z1 hin4 rfl) (g := (mkF m 26 #[rv r0, iv p1, iv 2, iv 0] [(.int 0), (.ref r0)])) rfl rfl (hb hby d2_26) _ ?_
    show OwnS p e below s₁ (mkF m 27 #[rv r0, iv p1, iv 2, iv 0] [(.double (FP.l2d d0))]) _
    refine XS.aloadN X0.here hx rfl (hb hby d2_27) rfl rfl ?_
    show OwnS p e below s₁ (mkF m 28 #[rv r0, iv p1, iv 2, iv 0] [(.ref r0), (.double (FP.l2d d0))]) _
    refine XS.iloadN X0.here hx rfl (hb hby d2_28) rfl ?_
    show OwnS p e below s₁ (mkF m 29 #[rv r0, iv p1, iv 2, iv 0] [(.int 2), (.ref r0), (.double (FP.l2d d0))]) _
    refine X0.daload hx (j := (2 : Int32)) (v := (.double (FP.l2d d2))) (by rw [e0]; exact Ar_z1.1) (State.isArrayOf_alike hZ.alike Ar_z1.2.1) Ar_z1.2.2 hin5 (Has.at H_z1 hin5 rfl) (g := (mkF m 29 #[rv r0, iv p1, iv 2, iv 0] [(.int 2), (.ref r0), (.double (FP.l2d d0))])) rfl rfl (hb hby d2_29) _ ?_
    show OwnS p e below s₁ (mkF m 30 #[rv r0, iv p1, iv 2, iv 0] [(.double (FP.l2d d2)), (.double (FP.l2d d0))]) _
    refine XS.dcmpS X0.here hx rfl (hb hby d2_30) rfl (dcmpV_w b_d0 b_d2 _) ?_
    show OwnS p e below s₁ (mkF m 31 #[rv r0, iv p1, iv 2, iv 0] [(.int (lcmpW d0 d2))]) _
    refine XS.ifYes X0.here hx rfl (pc0 := 31) (pc' := 36) rfl (hb hby d2_31) rfl ((if0 _ _).trans (tlt ((lw_lt _ _).mpr hlt)).1) (by decide) (by decide) ?_
    show OwnS p e below s₁ (mkF m 36 #[rv r0, iv p1, iv 2, iv 0] []) _
    refine XS.iconst X0.here hx rfl (hb hby d2_36) ?_
    show OwnS p e below s₁ (mkF m 37 #[rv r0, iv p1, iv 2, iv 0] [(.int 1)]) _
    exact retN X0 hx (t := .boolean) Bd.returns (by simp) (hb hby d2_37) hr
  · show Q_2_20 Z r0 p1 kA d0 d1 d2 d3 h0 n0 _ s₁.heap _
    rw [e0]
    exact ⟨rfl, N0, rfl⟩
def Q_2_21 (Z : State) (r0 : Addr) (p1 : Int32) (kA : ClassId) (d0 : Int64) (d1 : Int64) (d2 : Int64) (d3 : Int64) (h0 : Heap) (n0 : Nat) (v : Option Value) (h : Heap) (L : List Loc) : Prop := v = some (.int 1) ∧ Fr n0 L ∧ h = h0
set_option maxRecDepth 65536 in
set_option maxHeartbeats 40000000 in
theorem rm2_21 (l : Launch) (Z : State) (a0 : Array Value) (hw : ∀ d ∈ tables_1, d.before a0 Z = true) (ws : List Jvm.Cond) (r0 : Addr) (p1 : Int32) (kA : ClassId) (d0 : Int64) (d1 : Int64) (d2 : Int64) (d3 : Int64) (h0 : Heap) (n0 : Nat) (Z0 : n0 ≤ h0.size) (V_r0 : Arv Z h0 r0 kA .double (4 : Int32) [(.double (FP.l2d d0)), (.double (FP.l2d d1)), (.double (FP.l2d d2)), (.double (FP.l2d d3))] (.double (FP.l2d (0 : Int64)))) (b_d0 : B53 d0) (b_d1 : B53 d1) (b_d2 : B53 d2) (b_d3 : B53 d3) (hjn : (1 : Int32) < p1) (hge : ¬ (d2 < d1)) (hlt : d1 < d2) :
    MetFree l (⟨cS0, "ok", "([DIII)Z"⟩ : MethodName) (head1 (Jvm.Cond.code (⟨cS0, "ok", "([DIII)Z"⟩ : MethodName) method_3_code 4 (some .boolean) :: ws) ({ frames := 0, cells := 0, slots := 0, locals := 0 } : Room)) (fun a U => a = #[(.ref r0), (.int p1), (.int 2), (.int 1)] ∧ Z.Warmed39 U.vm ∧ U.heap = h0) (fun _ _ _ _ _ => True) (fun _ U o U' => ∃ v L, o = .returned v ∧ Q_2_21 Z r0 p1 kA d0 d1 d2 d3 h0 n0 v U'.heap L ∧ FrameEnd U o U' L ({ frames := 0, cells := 0, slots := 0, locals := 0 } : Room).cells ({ frames := 0, cells := 0, slots := 0, locals := 0 } : Room).slots) := by
  refine MetFree.of_bodySF (plainFor_of_name pn_com_example_driftline_driftline_core_LearnerBestClassPinLaw) hisR ?_
  intro p e s m args below meth c s₁ Bd hml0 hP hK
  obtain ⟨rfl, hZ, hh⟩ := hP
  have hx := Bd.exec
  have hby := Bd.bytes
  have hml : c.maxLocals = 4 := hml0
  have hown : s.vm.findClass cS0 = some m.cls := findClass_of_methodNamed Bd.named
  have hnm := (name_of_methodNamed Bd.named Bd.method).1
  have X0 : Stand p l e ({ frames := 0, cells := 0, slots := 0, locals := 0 } : Room) s m #[(.ref r0), (.int p1), (.int 2), (.int 1)] below meth c s₁ [] 0 0 := Stand.of_body Bd
  have e0 : s₁.heap = h0 := by rw [← hh, Bd.state]; rfl
  have N0 := Fr.nil n0
  have k0 : ∀ t, OwnS p e below s₁ (mkF m 0 #[rv r0, iv p1, iv 2, iv 1] []) t → OwnS p e below s₁ (entryFrame m #[(.ref r0), (.int p1), (.int 2), (.int 1)] 4) t := fun t k => castTop (ef_2 m r0 p1 (2 : Int32) (1 : Int32)) k
  obtain ⟨cl_z1, Ar_z1, q_z1, S_z1, N_z1, H_z1, G_z1⟩ := id V_r0
  have hin2 : ¬ ((2 : Int32) < 0 ∨ cl_z1.slots.size ≤ ((2 : Int32)).toNatClampNeg) := inb_of S_z1 ⟨by decide, by decide⟩
  have hin3 : ¬ ((1 : Int32) < 0 ∨ cl_z1.slots.size ≤ ((1 : Int32)).toNatClampNeg) := inb_of S_z1 ⟨by decide, by decide⟩
  have hin4 : ¬ ((1 : Int32) < 0 ∨ cl_z1.slots.size ≤ ((1 : Int32)).toNatClampNeg) := inb_of S_z1 ⟨by decide, by decide⟩
  have hin5 : ¬ ((2 : Int32) < 0 ∨ cl_z1.slots.size ≤ ((2 : Int32)).toNatClampNeg) := inb_of S_z1 ⟨by decide, by decide⟩
  obtain ⟨fs, hr, hrun, hended, hW, hsame⟩ := X0.leave (v := some (.int 1)) (fun h => by rw [Bd.returns] at h; cases h)
  refine ⟨_, _, k0 _ ?_, hrun, hended, _, _, rfl, ?_, ⟨_, rfl⟩, hW, hsame.mono (by decide) (by decide)⟩
  · show OwnS p e below s₁ (mkF m 0 #[rv r0, iv p1, iv 2, iv 1] []) _
    refine XS.iloadN X0.here hx rfl (hb hby d2_0) rfl ?_
    show OwnS p e below s₁ (mkF m 1 #[rv r0, iv p1, iv 2, iv 1] [(.int 1)]) _
    refine XS.iloadN X0.here hx rfl (hb hby d2_1) rfl ?_
    show OwnS p e below s₁ (mkF m 2 #[rv r0, iv p1, iv 2, iv 1] [(.int p1), (.int 1)]) _
    refine XS.icmpYes X0.here hx rfl (pc0 := 2) (pc' := 7) rfl (hb hby d2_2) rfl (tlt hjn).1 (by decide) (by decide) ?_
    show OwnS p e below s₁ (mkF m 7 #[rv r0, iv p1, iv 2, iv 1] []) _
    refine XS.aloadN X0.here hx rfl (hb hby d2_7) rfl rfl ?_
    show OwnS p e below s₁ (mkF m 8 #[rv r0, iv p1, iv 2, iv 1] [(.ref r0)]) _
    refine XS.iloadN X0.here hx rfl (hb hby d2_8) rfl ?_
    show OwnS p e below s₁ (mkF m 9 #[rv r0, iv p1, iv 2, iv 1] [(.int 2), (.ref r0)]) _
    refine X0.daload hx (j := (2 : Int32)) (v := (.double (FP.l2d d2))) (by rw [e0]; exact Ar_z1.1) (State.isArrayOf_alike hZ.alike Ar_z1.2.1) Ar_z1.2.2 hin2 (Has.at H_z1 hin2 rfl) (g := (mkF m 9 #[rv r0, iv p1, iv 2, iv 1] [(.int 2), (.ref r0)])) rfl rfl (hb hby d2_9) _ ?_
    show OwnS p e below s₁ (mkF m 10 #[rv r0, iv p1, iv 2, iv 1] [(.double (FP.l2d d2))]) _
    refine XS.aloadN X0.here hx rfl (hb hby d2_10) rfl rfl ?_
    show OwnS p e below s₁ (mkF m 11 #[rv r0, iv p1, iv 2, iv 1] [(.ref r0), (.double (FP.l2d d2))]) _
    refine XS.iloadN X0.here hx rfl (hb hby d2_11) rfl ?_
    show OwnS p e below s₁ (mkF m 12 #[rv r0, iv p1, iv 2, iv 1] [(.int 1), (.ref r0), (.double (FP.l2d d2))]) _
    refine X0.daload hx (j := (1 : Int32)) (v := (.double (FP.l2d d1))) (by rw [e0]; exact Ar_z1.1) (State.isArrayOf_alike hZ.alike Ar_z1.2.1) Ar_z1.2.2 hin3 (Has.at H_z1 hin3 rfl) (g := (mkF m 12 #[rv r0, iv p1, iv 2, iv 1] [(.int 1), (.ref r0), (.double (FP.l2d d2))])) rfl rfl (hb hby d2_12) _ ?_
    show OwnS p e below s₁ (mkF m 13 #[rv r0, iv p1, iv 2, iv 1] [(.double (FP.l2d d1)), (.double (FP.l2d d2))]) _
    refine XS.dcmpS X0.here hx rfl (hb hby d2_13) rfl (dcmpV_w b_d2 b_d1 _) ?_
    show OwnS p e below s₁ (mkF m 14 #[rv r0, iv p1, iv 2, iv 1] [(.int (lcmpW d2 d1))]) _
    refine XS.ifYes X0.here hx rfl (pc0 := 14) (pc' := 19) rfl (hb hby d2_14) rfl ((if0 _ _).trans (flt (fun q => hge ((lw_lt _ _).mp q))).2.1) (by decide) (by decide) ?_
    show OwnS p e below s₁ (mkF m 19 #[rv r0, iv p1, iv 2, iv 1] []) _
    refine XS.iloadN X0.here hx rfl (hb hby d2_19) rfl ?_
    show OwnS p e below s₁ (mkF m 20 #[rv r0, iv p1, iv 2, iv 1] [(.int 1)]) _
    refine XS.iloadN X0.here hx rfl (hb hby d2_20) rfl ?_
    show OwnS p e below s₁ (mkF m 21 #[rv r0, iv p1, iv 2, iv 1] [(.int 2), (.int 1)]) _
    refine XS.icmpNo X0.here hx rfl (hb hby d2_21) rfl (tlt (by decide : (1 : Int32) < (2 : Int32))).2.1 ?_
    show OwnS p e below s₁ (mkF m 24 #[rv r0, iv p1, iv 2, iv 1] []) _
    refine XS.aloadN X0.here hx rfl (hb hby d2_24) rfl rfl ?_
    show OwnS p e below s₁ (mkF m 25 #[rv r0, iv p1, iv 2, iv 1] [(.ref r0)]) _
    refine XS.iloadN X0.here hx rfl (hb hby d2_25) rfl ?_
    show OwnS p e below s₁ (mkF m 26 #[rv r0, iv p1, iv 2, iv 1] [(.int 1), (.ref r0)]) _
    refine X0.daload hx (j := (1 : Int32)) (v := (.double (FP.l2d d1))) (by rw [e0]; exact Ar_z1.1) (State.isArrayOf_alike hZ.alike Ar_z1.2.1) Ar_z1.2.2 hin4 (Has.at H_z1 hin4 rfl) (g := (mkF m 26 #[rv r0, iv p1, iv 2, iv 1] [(.int 1), (.ref r0)])) rfl rfl (hb hby d2_26) _ ?_
    show OwnS p e below s₁ (mkF m 27 #[rv r0, iv p1, iv 2, iv 1] [(.double (FP.l2d d1))]) _
    refine XS.aloadN X0.here hx rfl (hb hby d2_27) rfl rfl ?_
    show OwnS p e below s₁ (mkF m 28 #[rv r0, iv p1, iv 2, iv 1] [(.ref r0), (.double (FP.l2d d1))]) _
    refine XS.iloadN X0.here hx rfl (hb hby d2_28) rfl ?_
    show OwnS p e below s₁ (mkF m 29 #[rv r0, iv p1, iv 2, iv 1] [(.int 2), (.ref r0), (.double (FP.l2d d1))]) _
    refine X0.daload hx (j := (2 : Int32)) (v := (.double (FP.l2d d2))) (by rw [e0]; exact Ar_z1.1) (State.isArrayOf_alike hZ.alike Ar_z1.2.1) Ar_z1.2.2 hin5 (Has.at H_z1 hin5 rfl) (g := (mkF m 29 #[rv r0, iv p1, iv 2, iv 1] [(.int 2), (.ref r0), (.double (FP.l2d d1))])) rfl rfl (hb hby d2_29) _ ?_
    show OwnS p e below s₁ (mkF m 30 #[rv r0, iv p1, iv 2, iv 1] [(.double (FP.l2d d2)), (.double (FP.l2d d1))]) _
    refine XS.dcmpS X0.here hx rfl (hb hby d2_30) rfl (dcmpV_w b_d1 b_d2 _) ?_
    show OwnS p e below s₁ (mkF m 31 #[rv r0, iv p1, iv 2, iv 1] [(.int (lcmpW d1 d2))]) _
    refine XS.ifYes X0.here hx rfl (pc0 := 31) (pc' := 36) rfl (hb hby d2_31) rfl ((if0 _ _).trans (tlt ((lw_lt _ _).mpr hlt)).1) (by decide) (by decide) ?_
    show OwnS p e below s₁ (mkF m 36 #[rv r0, iv p1, iv 2, iv 1] []) _
    refine XS.iconst X0.here hx rfl (hb hby d2_36) ?_
    show OwnS p e below s₁ (mkF m 37 #[rv r0, iv p1, iv 2, iv 1] [(.int 1)]) _
    exact retN X0 hx (t := .boolean) Bd.returns (by simp) (hb hby d2_37) hr
  · show Q_2_21 Z r0 p1 kA d0 d1 d2 d3 h0 n0 _ s₁.heap _
    rw [e0]
    exact ⟨rfl, N0, rfl⟩
def Q_2_22 (Z : State) (r0 : Addr) (p1 : Int32) (kA : ClassId) (d0 : Int64) (d1 : Int64) (d2 : Int64) (d3 : Int64) (h0 : Heap) (n0 : Nat) (v : Option Value) (h : Heap) (L : List Loc) : Prop := v = some (.int 1) ∧ Fr n0 L ∧ h = h0
set_option maxRecDepth 65536 in
set_option maxHeartbeats 40000000 in
theorem rm2_22 (l : Launch) (Z : State) (a0 : Array Value) (hw : ∀ d ∈ tables_1, d.before a0 Z = true) (ws : List Jvm.Cond) (r0 : Addr) (p1 : Int32) (kA : ClassId) (d0 : Int64) (d1 : Int64) (d2 : Int64) (d3 : Int64) (h0 : Heap) (n0 : Nat) (Z0 : n0 ≤ h0.size) (V_r0 : Arv Z h0 r0 kA .double (4 : Int32) [(.double (FP.l2d d0)), (.double (FP.l2d d1)), (.double (FP.l2d d2)), (.double (FP.l2d d3))] (.double (FP.l2d (0 : Int64)))) (b_d0 : B53 d0) (b_d1 : B53 d1) (b_d2 : B53 d2) (b_d3 : B53 d3) (hjn : (2 : Int32) < p1) :
    MetFree l (⟨cS0, "ok", "([DIII)Z"⟩ : MethodName) (head1 (Jvm.Cond.code (⟨cS0, "ok", "([DIII)Z"⟩ : MethodName) method_3_code 4 (some .boolean) :: ws) ({ frames := 0, cells := 0, slots := 0, locals := 0 } : Room)) (fun a U => a = #[(.ref r0), (.int p1), (.int 2), (.int 2)] ∧ Z.Warmed39 U.vm ∧ U.heap = h0) (fun _ _ _ _ _ => True) (fun _ U o U' => ∃ v L, o = .returned v ∧ Q_2_22 Z r0 p1 kA d0 d1 d2 d3 h0 n0 v U'.heap L ∧ FrameEnd U o U' L ({ frames := 0, cells := 0, slots := 0, locals := 0 } : Room).cells ({ frames := 0, cells := 0, slots := 0, locals := 0 } : Room).slots) := by
  refine MetFree.of_bodySF (plainFor_of_name pn_com_example_driftline_driftline_core_LearnerBestClassPinLaw) hisR ?_
  intro p e s m args below meth c s₁ Bd hml0 hP hK
  obtain ⟨rfl, hZ, hh⟩ := hP
  have hx := Bd.exec
  have hby := Bd.bytes
  have hml : c.maxLocals = 4 := hml0
  have hown : s.vm.findClass cS0 = some m.cls := findClass_of_methodNamed Bd.named
  have hnm := (name_of_methodNamed Bd.named Bd.method).1
  have X0 : Stand p l e ({ frames := 0, cells := 0, slots := 0, locals := 0 } : Room) s m #[(.ref r0), (.int p1), (.int 2), (.int 2)] below meth c s₁ [] 0 0 := Stand.of_body Bd
  have e0 : s₁.heap = h0 := by rw [← hh, Bd.state]; rfl
  have N0 := Fr.nil n0
  have k0 : ∀ t, OwnS p e below s₁ (mkF m 0 #[rv r0, iv p1, iv 2, iv 2] []) t → OwnS p e below s₁ (entryFrame m #[(.ref r0), (.int p1), (.int 2), (.int 2)] 4) t := fun t k => castTop (ef_2 m r0 p1 (2 : Int32) (2 : Int32)) k
  obtain ⟨cl_z1, Ar_z1, q_z1, S_z1, N_z1, H_z1, G_z1⟩ := id V_r0
  have hin2 : ¬ ((2 : Int32) < 0 ∨ cl_z1.slots.size ≤ ((2 : Int32)).toNatClampNeg) := inb_of S_z1 ⟨by decide, by decide⟩
  have hin3 : ¬ ((2 : Int32) < 0 ∨ cl_z1.slots.size ≤ ((2 : Int32)).toNatClampNeg) := inb_of S_z1 ⟨by decide, by decide⟩
  obtain ⟨fs, hr, hrun, hended, hW, hsame⟩ := X0.leave (v := some (.int 1)) (fun h => by rw [Bd.returns] at h; cases h)
  refine ⟨_, _, k0 _ ?_, hrun, hended, _, _, rfl, ?_, ⟨_, rfl⟩, hW, hsame.mono (by decide) (by decide)⟩
  · show OwnS p e below s₁ (mkF m 0 #[rv r0, iv p1, iv 2, iv 2] []) _
    refine XS.iloadN X0.here hx rfl (hb hby d2_0) rfl ?_
    show OwnS p e below s₁ (mkF m 1 #[rv r0, iv p1, iv 2, iv 2] [(.int 2)]) _
    refine XS.iloadN X0.here hx rfl (hb hby d2_1) rfl ?_
    show OwnS p e below s₁ (mkF m 2 #[rv r0, iv p1, iv 2, iv 2] [(.int p1), (.int 2)]) _
    refine XS.icmpYes X0.here hx rfl (pc0 := 2) (pc' := 7) rfl (hb hby d2_2) rfl (tlt hjn).1 (by decide) (by decide) ?_
    show OwnS p e below s₁ (mkF m 7 #[rv r0, iv p1, iv 2, iv 2] []) _
    refine XS.aloadN X0.here hx rfl (hb hby d2_7) rfl rfl ?_
    show OwnS p e below s₁ (mkF m 8 #[rv r0, iv p1, iv 2, iv 2] [(.ref r0)]) _
    refine XS.iloadN X0.here hx rfl (hb hby d2_8) rfl ?_
    show OwnS p e below s₁ (mkF m 9 #[rv r0, iv p1, iv 2, iv 2] [(.int 2), (.ref r0)]) _
    refine X0.daload hx (j := (2 : Int32)) (v := (.double (FP.l2d d2))) (by rw [e0]; exact Ar_z1.1) (State.isArrayOf_alike hZ.alike Ar_z1.2.1) Ar_z1.2.2 hin2 (Has.at H_z1 hin2 rfl) (g := (mkF m 9 #[rv r0, iv p1, iv 2, iv 2] [(.int 2), (.ref r0)])) rfl rfl (hb hby d2_9) _ ?_
    show OwnS p e below s₁ (mkF m 10 #[rv r0, iv p1, iv 2, iv 2] [(.double (FP.l2d d2))]) _
    refine XS.aloadN X0.here hx rfl (hb hby d2_10) rfl rfl ?_
    show OwnS p e below s₁ (mkF m 11 #[rv r0, iv p1, iv 2, iv 2] [(.ref r0), (.double (FP.l2d d2))]) _
    refine XS.iloadN X0.here hx rfl (hb hby d2_11) rfl ?_
    show OwnS p e below s₁ (mkF m 12 #[rv r0, iv p1, iv 2, iv 2] [(.int 2), (.ref r0), (.double (FP.l2d d2))]) _
    refine X0.daload hx (j := (2 : Int32)) (v := (.double (FP.l2d d2))) (by rw [e0]; exact Ar_z1.1) (State.isArrayOf_alike hZ.alike Ar_z1.2.1) Ar_z1.2.2 hin3 (Has.at H_z1 hin3 rfl) (g := (mkF m 12 #[rv r0, iv p1, iv 2, iv 2] [(.int 2), (.ref r0), (.double (FP.l2d d2))])) rfl rfl (hb hby d2_12) _ ?_
    show OwnS p e below s₁ (mkF m 13 #[rv r0, iv p1, iv 2, iv 2] [(.double (FP.l2d d2)), (.double (FP.l2d d2))]) _
    refine XS.dcmpS X0.here hx rfl (hb hby d2_13) rfl (dcmpV_w b_d2 b_d2 _) ?_
    show OwnS p e below s₁ (mkF m 14 #[rv r0, iv p1, iv 2, iv 2] [(.int (lcmpW d2 d2))]) _
    refine XS.ifYes X0.here hx rfl (pc0 := 14) (pc' := 19) rfl (hb hby d2_14) rfl ((if0 _ _).trans (flt (fun q => (own_irr64 _) ((lw_lt _ _).mp q))).2.1) (by decide) (by decide) ?_
    show OwnS p e below s₁ (mkF m 19 #[rv r0, iv p1, iv 2, iv 2] []) _
    refine XS.iloadN X0.here hx rfl (hb hby d2_19) rfl ?_
    show OwnS p e below s₁ (mkF m 20 #[rv r0, iv p1, iv 2, iv 2] [(.int 2)]) _
    refine XS.iloadN X0.here hx rfl (hb hby d2_20) rfl ?_
    show OwnS p e below s₁ (mkF m 21 #[rv r0, iv p1, iv 2, iv 2] [(.int 2), (.int 2)]) _
    refine XS.icmpYes X0.here hx rfl (pc0 := 21) (pc' := 36) rfl (hb hby d2_21) rfl (flt (by decide : ¬ ((2 : Int32) < (2 : Int32)))).2.1 (by decide) (by decide) ?_
    show OwnS p e below s₁ (mkF m 36 #[rv r0, iv p1, iv 2, iv 2] []) _
    refine XS.iconst X0.here hx rfl (hb hby d2_36) ?_
    show OwnS p e below s₁ (mkF m 37 #[rv r0, iv p1, iv 2, iv 2] [(.int 1)]) _
    exact retN X0 hx (t := .boolean) Bd.returns (by simp) (hb hby d2_37) hr
  · show Q_2_22 Z r0 p1 kA d0 d1 d2 d3 h0 n0 _ s₁.heap _
    rw [e0]
    exact ⟨rfl, N0, rfl⟩
def Q_2_23 (Z : State) (r0 : Addr) (p1 : Int32) (kA : ClassId) (d0 : Int64) (d1 : Int64) (d2 : Int64) (d3 : Int64) (h0 : Heap) (n0 : Nat) (v : Option Value) (h : Heap) (L : List Loc) : Prop := v = some (.int 1) ∧ Fr n0 L ∧ h = h0
set_option maxRecDepth 65536 in
set_option maxHeartbeats 40000000 in
theorem rm2_23 (l : Launch) (Z : State) (a0 : Array Value) (hw : ∀ d ∈ tables_1, d.before a0 Z = true) (ws : List Jvm.Cond) (r0 : Addr) (p1 : Int32) (kA : ClassId) (d0 : Int64) (d1 : Int64) (d2 : Int64) (d3 : Int64) (h0 : Heap) (n0 : Nat) (Z0 : n0 ≤ h0.size) (V_r0 : Arv Z h0 r0 kA .double (4 : Int32) [(.double (FP.l2d d0)), (.double (FP.l2d d1)), (.double (FP.l2d d2)), (.double (FP.l2d d3))] (.double (FP.l2d (0 : Int64)))) (b_d0 : B53 d0) (b_d1 : B53 d1) (b_d2 : B53 d2) (b_d3 : B53 d3) (hjn : (3 : Int32) < p1) (hge : ¬ (d2 < d3)) :
    MetFree l (⟨cS0, "ok", "([DIII)Z"⟩ : MethodName) (head1 (Jvm.Cond.code (⟨cS0, "ok", "([DIII)Z"⟩ : MethodName) method_3_code 4 (some .boolean) :: ws) ({ frames := 0, cells := 0, slots := 0, locals := 0 } : Room)) (fun a U => a = #[(.ref r0), (.int p1), (.int 2), (.int 3)] ∧ Z.Warmed39 U.vm ∧ U.heap = h0) (fun _ _ _ _ _ => True) (fun _ U o U' => ∃ v L, o = .returned v ∧ Q_2_23 Z r0 p1 kA d0 d1 d2 d3 h0 n0 v U'.heap L ∧ FrameEnd U o U' L ({ frames := 0, cells := 0, slots := 0, locals := 0 } : Room).cells ({ frames := 0, cells := 0, slots := 0, locals := 0 } : Room).slots) := by
  refine MetFree.of_bodySF (plainFor_of_name pn_com_example_driftline_driftline_core_LearnerBestClassPinLaw) hisR ?_
  intro p e s m args below meth c s₁ Bd hml0 hP hK
  obtain ⟨rfl, hZ, hh⟩ := hP
  have hx := Bd.exec
  have hby := Bd.bytes
  have hml : c.maxLocals = 4 := hml0
  have hown : s.vm.findClass cS0 = some m.cls := findClass_of_methodNamed Bd.named
  have hnm := (name_of_methodNamed Bd.named Bd.method).1
  have X0 : Stand p l e ({ frames := 0, cells := 0, slots := 0, locals := 0 } : Room) s m #[(.ref r0), (.int p1), (.int 2), (.int 3)] below meth c s₁ [] 0 0 := Stand.of_body Bd
  have e0 : s₁.heap = h0 := by rw [← hh, Bd.state]; rfl
  have N0 := Fr.nil n0
  have k0 : ∀ t, OwnS p e below s₁ (mkF m 0 #[rv r0, iv p1, iv 2, iv 3] []) t → OwnS p e below s₁ (entryFrame m #[(.ref r0), (.int p1), (.int 2), (.int 3)] 4) t := fun t k => castTop (ef_2 m r0 p1 (2 : Int32) (3 : Int32)) k
  obtain ⟨cl_z1, Ar_z1, q_z1, S_z1, N_z1, H_z1, G_z1⟩ := id V_r0
  have hin2 : ¬ ((2 : Int32) < 0 ∨ cl_z1.slots.size ≤ ((2 : Int32)).toNatClampNeg) := inb_of S_z1 ⟨by decide, by decide⟩
  have hin3 : ¬ ((3 : Int32) < 0 ∨ cl_z1.slots.size ≤ ((3 : Int32)).toNatClampNeg) := inb_of S_z1 ⟨by decide, by decide⟩
  obtain ⟨fs, hr, hrun, hended, hW, hsame⟩ := X0.leave (v := some (.int 1)) (fun h => by rw [Bd.returns] at h; cases h)
  refine ⟨_, _, k0 _ ?_, hrun, hended, _, _, rfl, ?_, ⟨_, rfl⟩, hW, hsame.mono (by decide) (by decide)⟩
  · show OwnS p e below s₁ (mkF m 0 #[rv r0, iv p1, iv 2, iv 3] []) _
    refine XS.iloadN X0.here hx rfl (hb hby d2_0) rfl ?_
    show OwnS p e below s₁ (mkF m 1 #[rv r0, iv p1, iv 2, iv 3] [(.int 3)]) _
    refine XS.iloadN X0.here hx rfl (hb hby d2_1) rfl ?_
    show OwnS p e below s₁ (mkF m 2 #[rv r0, iv p1, iv 2, iv 3] [(.int p1), (.int 3)]) _
    refine XS.icmpYes X0.here hx rfl (pc0 := 2) (pc' := 7) rfl (hb hby d2_2) rfl (tlt hjn).1 (by decide) (by decide) ?_
    show OwnS p e below s₁ (mkF m 7 #[rv r0, iv p1, iv 2, iv 3] []) _
    refine XS.aloadN X0.here hx rfl (hb hby d2_7) rfl rfl ?_
    show OwnS p e below s₁ (mkF m 8 #[rv r0, iv p1, iv 2, iv 3] [(.ref r0)]) _
    refine XS.iloadN X0.here hx rfl (hb hby d2_8) rfl ?_
    show OwnS p e below s₁ (mkF m 9 #[rv r0, iv p1, iv 2, iv 3] [(.int 2), (.ref r0)]) _
    refine X0.daload hx (j := (2 : Int32)) (v := (.double (FP.l2d d2))) (by rw [e0]; exact Ar_z1.1) (State.isArrayOf_alike hZ.alike Ar_z1.2.1) Ar_z1.2.2 hin2 (Has.at H_z1 hin2 rfl) (g := (mkF m 9 #[rv r0, iv p1, iv 2, iv 3] [(.int 2), (.ref r0)])) rfl rfl (hb hby d2_9) _ ?_
    show OwnS p e below s₁ (mkF m 10 #[rv r0, iv p1, iv 2, iv 3] [(.double (FP.l2d d2))]) _
    refine XS.aloadN X0.here hx rfl (hb hby d2_10) rfl rfl ?_
    show OwnS p e below s₁ (mkF m 11 #[rv r0, iv p1, iv 2, iv 3] [(.ref r0), (.double (FP.l2d d2))]) _
    refine XS.iloadN X0.here hx rfl (hb hby d2_11) rfl ?_
    show OwnS p e below s₁ (mkF m 12 #[rv r0, iv p1, iv 2, iv 3] [(.int 3), (.ref r0), (.double (FP.l2d d2))]) _
    refine X0.daload hx (j := (3 : Int32)) (v := (.double (FP.l2d d3))) (by rw [e0]; exact Ar_z1.1) (State.isArrayOf_alike hZ.alike Ar_z1.2.1) Ar_z1.2.2 hin3 (Has.at H_z1 hin3 rfl) (g := (mkF m 12 #[rv r0, iv p1, iv 2, iv 3] [(.int 3), (.ref r0), (.double (FP.l2d d2))])) rfl rfl (hb hby d2_12) _ ?_
    show OwnS p e below s₁ (mkF m 13 #[rv r0, iv p1, iv 2, iv 3] [(.double (FP.l2d d3)), (.double (FP.l2d d2))]) _
    refine XS.dcmpS X0.here hx rfl (hb hby d2_13) rfl (dcmpV_w b_d2 b_d3 _) ?_
    show OwnS p e below s₁ (mkF m 14 #[rv r0, iv p1, iv 2, iv 3] [(.int (lcmpW d2 d3))]) _
    refine XS.ifYes X0.here hx rfl (pc0 := 14) (pc' := 19) rfl (hb hby d2_14) rfl ((if0 _ _).trans (flt (fun q => hge ((lw_lt _ _).mp q))).2.1) (by decide) (by decide) ?_
    show OwnS p e below s₁ (mkF m 19 #[rv r0, iv p1, iv 2, iv 3] []) _
    refine XS.iloadN X0.here hx rfl (hb hby d2_19) rfl ?_
    show OwnS p e below s₁ (mkF m 20 #[rv r0, iv p1, iv 2, iv 3] [(.int 3)]) _
    refine XS.iloadN X0.here hx rfl (hb hby d2_20) rfl ?_
    show OwnS p e below s₁ (mkF m 21 #[rv r0, iv p1, iv 2, iv 3] [(.int 2), (.int 3)]) _
    refine XS.icmpYes X0.here hx rfl (pc0 := 21) (pc' := 36) rfl (hb hby d2_21) rfl (flt (by decide : ¬ ((3 : Int32) < (2 : Int32)))).2.1 (by decide) (by decide) ?_
    show OwnS p e below s₁ (mkF m 36 #[rv r0, iv p1, iv 2, iv 3] []) _
    refine XS.iconst X0.here hx rfl (hb hby d2_36) ?_
    show OwnS p e below s₁ (mkF m 37 #[rv r0, iv p1, iv 2, iv 3] [(.int 1)]) _
    exact retN X0 hx (t := .boolean) Bd.returns (by simp) (hb hby d2_37) hr
  · show Q_2_23 Z r0 p1 kA d0 d1 d2 d3 h0 n0 _ s₁.heap _
    rw [e0]
    exact ⟨rfl, N0, rfl⟩
def Q_2_30 (Z : State) (r0 : Addr) (p1 : Int32) (kA : ClassId) (d0 : Int64) (d1 : Int64) (d2 : Int64) (d3 : Int64) (h0 : Heap) (n0 : Nat) (v : Option Value) (h : Heap) (L : List Loc) : Prop := v = some (.int 1) ∧ Fr n0 L ∧ h = h0
set_option maxRecDepth 65536 in
set_option maxHeartbeats 40000000 in
theorem rm2_30 (l : Launch) (Z : State) (a0 : Array Value) (hw : ∀ d ∈ tables_1, d.before a0 Z = true) (ws : List Jvm.Cond) (r0 : Addr) (p1 : Int32) (kA : ClassId) (d0 : Int64) (d1 : Int64) (d2 : Int64) (d3 : Int64) (h0 : Heap) (n0 : Nat) (Z0 : n0 ≤ h0.size) (V_r0 : Arv Z h0 r0 kA .double (4 : Int32) [(.double (FP.l2d d0)), (.double (FP.l2d d1)), (.double (FP.l2d d2)), (.double (FP.l2d d3))] (.double (FP.l2d (0 : Int64)))) (b_d0 : B53 d0) (b_d1 : B53 d1) (b_d2 : B53 d2) (b_d3 : B53 d3) (hjn : (0 : Int32) < p1) (hge : ¬ (d3 < d0)) (hlt : d0 < d3) :
    MetFree l (⟨cS0, "ok", "([DIII)Z"⟩ : MethodName) (head1 (Jvm.Cond.code (⟨cS0, "ok", "([DIII)Z"⟩ : MethodName) method_3_code 4 (some .boolean) :: ws) ({ frames := 0, cells := 0, slots := 0, locals := 0 } : Room)) (fun a U => a = #[(.ref r0), (.int p1), (.int 3), (.int 0)] ∧ Z.Warmed39 U.vm ∧ U.heap = h0) (fun _ _ _ _ _ => True) (fun _ U o U' => ∃ v L, o = .returned v ∧ Q_2_30 Z r0 p1 kA d0 d1 d2 d3 h0 n0 v U'.heap L ∧ FrameEnd U o U' L ({ frames := 0, cells := 0, slots := 0, locals := 0 } : Room).cells ({ frames := 0, cells := 0, slots := 0, locals := 0 } : Room).slots) := by
  refine MetFree.of_bodySF (plainFor_of_name pn_com_example_driftline_driftline_core_LearnerBestClassPinLaw) hisR ?_
  intro p e s m args below meth c s₁ Bd hml0 hP hK
  obtain ⟨rfl, hZ, hh⟩ := hP
  have hx := Bd.exec
  have hby := Bd.bytes
  have hml : c.maxLocals = 4 := hml0
  have hown : s.vm.findClass cS0 = some m.cls := findClass_of_methodNamed Bd.named
  have hnm := (name_of_methodNamed Bd.named Bd.method).1
  have X0 : Stand p l e ({ frames := 0, cells := 0, slots := 0, locals := 0 } : Room) s m #[(.ref r0), (.int p1), (.int 3), (.int 0)] below meth c s₁ [] 0 0 := Stand.of_body Bd
  have e0 : s₁.heap = h0 := by rw [← hh, Bd.state]; rfl
  have N0 := Fr.nil n0
  have k0 : ∀ t, OwnS p e below s₁ (mkF m 0 #[rv r0, iv p1, iv 3, iv 0] []) t → OwnS p e below s₁ (entryFrame m #[(.ref r0), (.int p1), (.int 3), (.int 0)] 4) t := fun t k => castTop (ef_2 m r0 p1 (3 : Int32) (0 : Int32)) k
  obtain ⟨cl_z1, Ar_z1, q_z1, S_z1, N_z1, H_z1, G_z1⟩ := id V_r0
  have hin2 : ¬ ((3 : Int32) < 0 ∨ cl_z1.slots.size ≤ ((3 : Int32)).toNatClampNeg) := inb_of S_z1 ⟨by decide, by decide⟩
  have hin3 : ¬ ((0 : Int32) < 0 ∨ cl_z1.slots.size ≤ ((0 : Int32)).toNatClampNeg) := inb_of S_z1 ⟨by decide, by decide⟩
  have hin4 : ¬ ((0 : Int32) < 0 ∨ cl_z1.slots.size ≤ ((0 : Int32)).toNatClampNeg) := inb_of S_z1 ⟨by decide, by decide⟩
  have hin5 : ¬ ((3 : Int32) < 0 ∨ cl_z1.slots.size ≤ ((3 : Int32)).toNatClampNeg) := inb_of S_z1 ⟨by decide, by decide⟩
  obtain ⟨fs, hr, hrun, hended, hW, hsame⟩ := X0.leave (v := some (.int 1)) (fun h => by rw [Bd.returns] at h; cases h)
  refine ⟨_, _, k0 _ ?_, hrun, hended, _, _, rfl, ?_, ⟨_, rfl⟩, hW, hsame.mono (by decide) (by decide)⟩
  · show OwnS p e below s₁ (mkF m 0 #[rv r0, iv p1, iv 3, iv 0] []) _
    refine XS.iloadN X0.here hx rfl (hb hby d2_0) rfl ?_
    show OwnS p e below s₁ (mkF m 1 #[rv r0, iv p1, iv 3, iv 0] [(.int 0)]) _
    refine XS.iloadN X0.here hx rfl (hb hby d2_1) rfl ?_
    show OwnS p e below s₁ (mkF m 2 #[rv r0, iv p1, iv 3, iv 0] [(.int p1), (.int 0)]) _
    refine XS.icmpYes X0.here hx rfl (pc0 := 2) (pc' := 7) rfl (hb hby d2_2) rfl (tlt hjn).1 (by decide) (by decide) ?_
    show OwnS p e below s₁ (mkF m 7 #[rv r0, iv p1, iv 3, iv 0] []) _
    refine XS.aloadN X0.here hx rfl (hb hby d2_7) rfl rfl ?_
    show OwnS p e below s₁ (mkF m 8 #[rv r0, iv p1, iv 3, iv 0] [(.ref r0)]) _
    refine XS.iloadN X0.here hx rfl (hb hby d2_8) rfl ?_
    show OwnS p e below s₁ (mkF m 9 #[rv r0, iv p1, iv 3, iv 0] [(.int 3), (.ref r0)]) _
    refine X0.daload hx (j := (3 : Int32)) (v := (.double (FP.l2d d3))) (by rw [e0]; exact Ar_z1.1) (State.isArrayOf_alike hZ.alike Ar_z1.2.1) Ar_z1.2.2 hin2 (Has.at H_z1 hin2 rfl) (g := (mkF m 9 #[rv r0, iv p1, iv 3, iv 0] [(.int 3), (.ref r0)])) rfl rfl (hb hby d2_9) _ ?_
    show OwnS p e below s₁ (mkF m 10 #[rv r0, iv p1, iv 3, iv 0] [(.double (FP.l2d d3))]) _
    refine XS.aloadN X0.here hx rfl (hb hby d2_10) rfl rfl ?_
    show OwnS p e below s₁ (mkF m 11 #[rv r0, iv p1, iv 3, iv 0] [(.ref r0), (.double (FP.l2d d3))]) _
    refine XS.iloadN X0.here hx rfl (hb hby d2_11) rfl ?_
    show OwnS p e below s₁ (mkF m 12 #[rv r0, iv p1, iv 3, iv 0] [(.int 0), (.ref r0), (.double (FP.l2d d3))]) _
    refine X0.daload hx (j := (0 : Int32)) (v := (.double (FP.l2d d0))) (by rw [e0]; exact Ar_z1.1) (State.isArrayOf_alike hZ.alike Ar_z1.2.1) Ar_z1.2.2 hin3 (Has.at H_z1 hin3 rfl) (g := (mkF m 12 #[rv r0, iv p1, iv 3, iv 0] [(.int 0), (.ref r0), (.double (FP.l2d d3))])) rfl rfl (hb hby d2_12) _ ?_
    show OwnS p e below s₁ (mkF m 13 #[rv r0, iv p1, iv 3, iv 0] [(.double (FP.l2d d0)), (.double (FP.l2d d3))]) _
    refine XS.dcmpS X0.here hx rfl (hb hby d2_13) rfl (dcmpV_w b_d3 b_d0 _) ?_
    show OwnS p e below s₁ (mkF m 14 #[rv r0, iv p1, iv 3, iv 0] [(.int (lcmpW d3 d0))]) _
    refine XS.ifYes X0.here hx rfl (pc0 := 14) (pc' := 19) rfl (hb hby d2_14) rfl ((if0 _ _).trans (flt (fun q => hge ((lw_lt _ _).mp q))).2.1) (by decide) (by decide) ?_
    show OwnS p e below s₁ (mkF m 19 #[rv r0, iv p1, iv 3, iv 0] []) _
    refine XS.iloadN X0.here hx rfl (hb hby d2_19) rfl ?_
    show OwnS p e below s₁ (mkF m 20 #[rv r0, iv p1, iv 3, iv 0] [(.int 0)]) _
    refine XS.iloadN X0.here hx rfl (hb hby d2_20) rfl ?_
    show OwnS p e below s₁ (mkF m 21 #[rv r0, iv p1, iv 3, iv 0] [(.int 3), (.int 0)]) _
    refine XS.icmpNo X0.here hx rfl (hb hby d2_21) rfl (tlt (by decide : (0 : Int32) < (3 : Int32))).2.1 ?_
    show OwnS p e below s₁ (mkF m 24 #[rv r0, iv p1, iv 3, iv 0] []) _
    refine XS.aloadN X0.here hx rfl (hb hby d2_24) rfl rfl ?_
    show OwnS p e below s₁ (mkF m 25 #[rv r0, iv p1, iv 3, iv 0] [(.ref r0)]) _
    refine XS.iloadN X0.here hx rfl (hb hby d2_25) rfl ?_
    show OwnS p e below s₁ (mkF m 26 #[rv r0, iv p1, iv 3, iv 0] [(.int 0), (.ref r0)]) _
    refine X0.daload hx (j := (0 : Int32)) (v := (.double (FP.l2d d0))) (by rw [e0]; exact Ar_z1.1) (State.isArrayOf_alike hZ.alike Ar_z1.2.1) Ar_z1.2.2 hin4 (Has.at H_z1 hin4 rfl) (g := (mkF m 26 #[rv r0, iv p1, iv 3, iv 0] [(.int 0), (.ref r0)])) rfl rfl (hb hby d2_26) _ ?_
    show OwnS p e below s₁ (mkF m 27 #[rv r0, iv p1, iv 3, iv 0] [(.double (FP.l2d d0))]) _
    refine XS.aloadN X0.here hx rfl (hb hby d2_27) rfl rfl ?_
    show OwnS p e below s₁ (mkF m 28 #[rv r0, iv p1, iv 3, iv 0] [(.ref r0), (.double (FP.l2d d0))]) _
    refine XS.iloadN X0.here hx rfl (hb hby d2_28) rfl ?_
    show OwnS p e below s₁ (mkF m 29 #[rv r0, iv p1, iv 3, iv 0] [(.int 3), (.ref r0), (.double (FP.l2d d0))]) _
    refine X0.daload hx (j := (3 : Int32)) (v := (.double (FP.l2d d3))) (by rw [e0]; exact Ar_z1.1) (State.isArrayOf_alike hZ.alike Ar_z1.2.1) Ar_z1.2.2 hin5 (Has.at H_z1 hin5 rfl) (g := (mkF m 29 #[rv r0, iv p1, iv 3, iv 0] [(.int 3), (.ref r0), (.double (FP.l2d d0))])) rfl rfl (hb hby d2_29) _ ?_
    show OwnS p e below s₁ (mkF m 30 #[rv r0, iv p1, iv 3, iv 0] [(.double (FP.l2d d3)), (.double (FP.l2d d0))]) _
    refine XS.dcmpS X0.here hx rfl (hb hby d2_30) rfl (dcmpV_w b_d0 b_d3 _) ?_
    show OwnS p e below s₁ (mkF m 31 #[rv r0, iv p1, iv 3, iv 0] [(.int (lcmpW d0 d3))]) _
    refine XS.ifYes X0.here hx rfl (pc0 := 31) (pc' := 36) rfl (hb hby d2_31) rfl ((if0 _ _).trans (tlt ((lw_lt _ _).mpr hlt)).1) (by decide) (by decide) ?_
    show OwnS p e below s₁ (mkF m 36 #[rv r0, iv p1, iv 3, iv 0] []) _
    refine XS.iconst X0.here hx rfl (hb hby d2_36) ?_
    show OwnS p e below s₁ (mkF m 37 #[rv r0, iv p1, iv 3, iv 0] [(.int 1)]) _
    exact retN X0 hx (t := .boolean) Bd.returns (by simp) (hb hby d2_37) hr
  · show Q_2_30 Z r0 p1 kA d0 d1 d2 d3 h0 n0 _ s₁.heap _
    rw [e0]
    exact ⟨rfl, N0, rfl⟩
def Q_2_31 (Z : State) (r0 : Addr) (p1 : Int32) (kA : ClassId) (d0 : Int64) (d1 : Int64) (d2 : Int64) (d3 : Int64) (h0 : Heap) (n0 : Nat) (v : Option Value) (h : Heap) (L : List Loc) : Prop := v = some (.int 1) ∧ Fr n0 L ∧ h = h0
set_option maxRecDepth 65536 in
set_option maxHeartbeats 40000000 in
theorem rm2_31 (l : Launch) (Z : State) (a0 : Array Value) (hw : ∀ d ∈ tables_1, d.before a0 Z = true) (ws : List Jvm.Cond) (r0 : Addr) (p1 : Int32) (kA : ClassId) (d0 : Int64) (d1 : Int64) (d2 : Int64) (d3 : Int64) (h0 : Heap) (n0 : Nat) (Z0 : n0 ≤ h0.size) (V_r0 : Arv Z h0 r0 kA .double (4 : Int32) [(.double (FP.l2d d0)), (.double (FP.l2d d1)), (.double (FP.l2d d2)), (.double (FP.l2d d3))] (.double (FP.l2d (0 : Int64)))) (b_d0 : B53 d0) (b_d1 : B53 d1) (b_d2 : B53 d2) (b_d3 : B53 d3) (hjn : (1 : Int32) < p1) (hge : ¬ (d3 < d1)) (hlt : d1 < d3) :
    MetFree l (⟨cS0, "ok", "([DIII)Z"⟩ : MethodName) (head1 (Jvm.Cond.code (⟨cS0, "ok", "([DIII)Z"⟩ : MethodName) method_3_code 4 (some .boolean) :: ws) ({ frames := 0, cells := 0, slots := 0, locals := 0 } : Room)) (fun a U => a = #[(.ref r0), (.int p1), (.int 3), (.int 1)] ∧ Z.Warmed39 U.vm ∧ U.heap = h0) (fun _ _ _ _ _ => True) (fun _ U o U' => ∃ v L, o = .returned v ∧ Q_2_31 Z r0 p1 kA d0 d1 d2 d3 h0 n0 v U'.heap L ∧ FrameEnd U o U' L ({ frames := 0, cells := 0, slots := 0, locals := 0 } : Room).cells ({ frames := 0, cells := 0, slots := 0, locals := 0 } : Room).slots) := by
  refine MetFree.of_bodySF (plainFor_of_name pn_com_example_driftline_driftline_core_LearnerBestClassPinLaw) hisR ?_
  intro p e s m args below meth c s₁ Bd hml0 hP hK
  obtain ⟨rfl, hZ, hh⟩ := hP
  have hx := Bd.exec
  have hby := Bd.bytes
  have hml : c.maxLocals = 4 := hml0
  have hown : s.vm.findClass cS0 = some m.cls := findClass_of_methodNamed Bd.named
  have hnm := (name_of_methodNamed Bd.named Bd.method).1
  have X0 : Stand p l e ({ frames := 0, cells := 0, slots := 0, locals := 0 } : Room) s m #[(.ref r0), (.int p1), (.int 3), (.int 1)] below meth c s₁ [] 0 0 := Stand.of_body Bd
  have e0 : s₁.heap = h0 := by rw [← hh, Bd.state]; rfl
  have N0 := Fr.nil n0
  have k0 : ∀ t, OwnS p e below s₁ (mkF m 0 #[rv r0, iv p1, iv 3, iv 1] []) t → OwnS p e below s₁ (entryFrame m #[(.ref r0), (.int p1), (.int 3), (.int 1)] 4) t := fun t k => castTop (ef_2 m r0 p1 (3 : Int32) (1 : Int32)) k
  obtain ⟨cl_z1, Ar_z1, q_z1, S_z1, N_z1, H_z1, G_z1⟩ := id V_r0
  have hin2 : ¬ ((3 : Int32) < 0 ∨ cl_z1.slots.size ≤ ((3 : Int32)).toNatClampNeg) := inb_of S_z1 ⟨by decide, by decide⟩
  have hin3 : ¬ ((1 : Int32) < 0 ∨ cl_z1.slots.size ≤ ((1 : Int32)).toNatClampNeg) := inb_of S_z1 ⟨by decide, by decide⟩
  have hin4 : ¬ ((1 : Int32) < 0 ∨ cl_z1.slots.size ≤ ((1 : Int32)).toNatClampNeg) := inb_of S_z1 ⟨by decide, by decide⟩
  have hin5 : ¬ ((3 : Int32) < 0 ∨ cl_z1.slots.size ≤ ((3 : Int32)).toNatClampNeg) := inb_of S_z1 ⟨by decide, by decide⟩
  obtain ⟨fs, hr, hrun, hended, hW, hsame⟩ := X0.leave (v := some (.int 1)) (fun h => by rw [Bd.returns] at h; cases h)
  refine ⟨_, _, k0 _ ?_, hrun, hended, _, _, rfl, ?_, ⟨_, rfl⟩, hW, hsame.mono (by decide) (by decide)⟩
  · show OwnS p e below s₁ (mkF m 0 #[rv r0, iv p1, iv 3, iv 1] []) _
    refine XS.iloadN X0.here hx rfl (hb hby d2_0) rfl ?_
    show OwnS p e below s₁ (mkF m 1 #[rv r0, iv p1, iv 3, iv 1] [(.int 1)]) _
    refine XS.iloadN X0.here hx rfl (hb hby d2_1) rfl ?_
    show OwnS p e below s₁ (mkF m 2 #[rv r0, iv p1, iv 3, iv 1] [(.int p1), (.int 1)]) _
    refine XS.icmpYes X0.here hx rfl (pc0 := 2) (pc' := 7) rfl (hb hby d2_2) rfl (tlt hjn).1 (by decide) (by decide) ?_
    show OwnS p e below s₁ (mkF m 7 #[rv r0, iv p1, iv 3, iv 1] []) _
    refine XS.aloadN X0.here hx rfl (hb hby d2_7) rfl rfl ?_
    show OwnS p e below s₁ (mkF m 8 #[rv r0, iv p1, iv 3, iv 1] [(.ref r0)]) _
    refine XS.iloadN X0.here hx rfl (hb hby d2_8) rfl ?_
    show OwnS p e below s₁ (mkF m 9 #[rv r0, iv p1, iv 3, iv 1] [(.int 3), (.ref r0)]) _
    refine X0.daload hx (j := (3 : Int32)) (v := (.double (FP.l2d d3))) (by rw [e0]; exact Ar_z1.1) (State.isArrayOf_alike hZ.alike Ar_z1.2.1) Ar_z1.2.2 hin2 (Has.at H_z1 hin2 rfl) (g := (mkF m 9 #[rv r0, iv p1, iv 3, iv 1] [(.int 3), (.ref r0)])) rfl rfl (hb hby d2_9) _ ?_
    show OwnS p e below s₁ (mkF m 10 #[rv r0, iv p1, iv 3, iv 1] [(.double (FP.l2d d3))]) _
    refine XS.aloadN X0.here hx rfl (hb hby d2_10) rfl rfl ?_
    show OwnS p e below s₁ (mkF m 11 #[rv r0, iv p1, iv 3, iv 1] [(.ref r0), (.double (FP.l2d d3))]) _
    refine XS.iloadN X0.here hx rfl (hb hby d2_11) rfl ?_
    show OwnS p e below s₁ (mkF m 12 #[rv r0, iv p1, iv 3, iv 1] [(.int 1), (.ref r0), (.double (FP.l2d d3))]) _
    refine X0.daload hx (j := (1 : Int32)) (v := (.double (FP.l2d d1))) (by rw [e0]; exact Ar_z1.1) (State.isArrayOf_alike hZ.alike Ar_z1.2.1) Ar_z1.2.2 hin3 (Has.at H_z1 hin3 rfl) (g := (mkF m 12 #[rv r0, iv p1, iv 3, iv 1] [(.int 1), (.ref r0), (.double (FP.l2d d3))])) rfl rfl (hb hby d2_12) _ ?_
    show OwnS p e below s₁ (mkF m 13 #[rv r0, iv p1, iv 3, iv 1] [(.double (FP.l2d d1)), (.double (FP.l2d d3))]) _
    refine XS.dcmpS X0.here hx rfl (hb hby d2_13) rfl (dcmpV_w b_d3 b_d1 _) ?_
    show OwnS p e below s₁ (mkF m 14 #[rv r0, iv p1, iv 3, iv 1] [(.int (lcmpW d3 d1))]) _
    refine XS.ifYes X0.here hx rfl (pc0 := 14) (pc' := 19) rfl (hb hby d2_14) rfl ((if0 _ _).trans (flt (fun q => hge ((lw_lt _ _).mp q))).2.1) (by decide) (by decide) ?_
    show OwnS p e below s₁ (mkF m 19 #[rv r0, iv p1, iv 3, iv 1] []) _
    refine XS.iloadN X0.here hx rfl (hb hby d2_19) rfl ?_
    show OwnS p e below s₁ (mkF m 20 #[rv r0, iv p1, iv 3, iv 1] [(.int 1)]) _
    refine XS.iloadN X0.here hx rfl (hb hby d2_20) rfl ?_
    show OwnS p e below s₁ (mkF m 21 #[rv r0, iv p1, iv 3, iv 1] [(.int 3), (.int 1)]) _
    refine XS.icmpNo X0.here hx rfl (hb hby d2_21) rfl (tlt (by decide : (1 : Int32) < (3 : Int32))).2.1 ?_
    show OwnS p e below s₁ (mkF m 24 #[rv r0, iv p1, iv 3, iv 1] []) _
    refine XS.aloadN X0.here hx rfl (hb hby d2_24) rfl rfl ?_
    show OwnS p e below s₁ (mkF m 25 #[rv r0, iv p1, iv 3, iv 1] [(.ref r0)]) _
    refine XS.iloadN X0.here hx rfl (hb hby d2_25) rfl ?_
    show OwnS p e below s₁ (mkF m 26 #[rv r0, iv p1, iv 3, iv 1] [(.int 1), (.ref r0)]) _
    refine X0.daload hx (j := (1 : Int32)) (v := (.double (FP.l2d d1))) (by rw [e0]; exact Ar_z1.1) (State.isArrayOf_alike hZ.alike Ar_z1.2.1) Ar_z1.2.2 hin4 (Has.at H_z1 hin4 rfl) (g := (mkF m 26 #[rv r0, iv p1, iv 3, iv 1] [(.int 1), (.ref r0)])) rfl rfl (hb hby d2_26) _ ?_
    show OwnS p e below s₁ (mkF m 27 #[rv r0, iv p1, iv 3, iv 1] [(.double (FP.l2d d1))]) _
    refine XS.aloadN X0.here hx rfl (hb hby d2_27) rfl rfl ?_
    show OwnS p e below s₁ (mkF m 28 #[rv r0, iv p1, iv 3, iv 1] [(.ref r0), (.double (FP.l2d d1))]) _
    refine XS.iloadN X0.here hx rfl (hb hby d2_28) rfl ?_
    show OwnS p e below s₁ (mkF m 29 #[rv r0, iv p1, iv 3, iv 1] [(.int 3), (.ref r0), (.double (FP.l2d d1))]) _
    refine X0.daload hx (j := (3 : Int32)) (v := (.double (FP.l2d d3))) (by rw [e0]; exact Ar_z1.1) (State.isArrayOf_alike hZ.alike Ar_z1.2.1) Ar_z1.2.2 hin5 (Has.at H_z1 hin5 rfl) (g := (mkF m 29 #[rv r0, iv p1, iv 3, iv 1] [(.int 3), (.ref r0), (.double (FP.l2d d1))])) rfl rfl (hb hby d2_29) _ ?_
    show OwnS p e below s₁ (mkF m 30 #[rv r0, iv p1, iv 3, iv 1] [(.double (FP.l2d d3)), (.double (FP.l2d d1))]) _
    refine XS.dcmpS X0.here hx rfl (hb hby d2_30) rfl (dcmpV_w b_d1 b_d3 _) ?_
    show OwnS p e below s₁ (mkF m 31 #[rv r0, iv p1, iv 3, iv 1] [(.int (lcmpW d1 d3))]) _
    refine XS.ifYes X0.here hx rfl (pc0 := 31) (pc' := 36) rfl (hb hby d2_31) rfl ((if0 _ _).trans (tlt ((lw_lt _ _).mpr hlt)).1) (by decide) (by decide) ?_
    show OwnS p e below s₁ (mkF m 36 #[rv r0, iv p1, iv 3, iv 1] []) _
    refine XS.iconst X0.here hx rfl (hb hby d2_36) ?_
    show OwnS p e below s₁ (mkF m 37 #[rv r0, iv p1, iv 3, iv 1] [(.int 1)]) _
    exact retN X0 hx (t := .boolean) Bd.returns (by simp) (hb hby d2_37) hr
  · show Q_2_31 Z r0 p1 kA d0 d1 d2 d3 h0 n0 _ s₁.heap _
    rw [e0]
    exact ⟨rfl, N0, rfl⟩
def Q_2_32 (Z : State) (r0 : Addr) (p1 : Int32) (kA : ClassId) (d0 : Int64) (d1 : Int64) (d2 : Int64) (d3 : Int64) (h0 : Heap) (n0 : Nat) (v : Option Value) (h : Heap) (L : List Loc) : Prop := v = some (.int 1) ∧ Fr n0 L ∧ h = h0
set_option maxRecDepth 65536 in
set_option maxHeartbeats 40000000 in
theorem rm2_32 (l : Launch) (Z : State) (a0 : Array Value) (hw : ∀ d ∈ tables_1, d.before a0 Z = true) (ws : List Jvm.Cond) (r0 : Addr) (p1 : Int32) (kA : ClassId) (d0 : Int64) (d1 : Int64) (d2 : Int64) (d3 : Int64) (h0 : Heap) (n0 : Nat) (Z0 : n0 ≤ h0.size) (V_r0 : Arv Z h0 r0 kA .double (4 : Int32) [(.double (FP.l2d d0)), (.double (FP.l2d d1)), (.double (FP.l2d d2)), (.double (FP.l2d d3))] (.double (FP.l2d (0 : Int64)))) (b_d0 : B53 d0) (b_d1 : B53 d1) (b_d2 : B53 d2) (b_d3 : B53 d3) (hjn : (2 : Int32) < p1) (hge : ¬ (d3 < d2)) (hlt : d2 < d3) :
    MetFree l (⟨cS0, "ok", "([DIII)Z"⟩ : MethodName) (head1 (Jvm.Cond.code (⟨cS0, "ok", "([DIII)Z"⟩ : MethodName) method_3_code 4 (some .boolean) :: ws) ({ frames := 0, cells := 0, slots := 0, locals := 0 } : Room)) (fun a U => a = #[(.ref r0), (.int p1), (.int 3), (.int 2)] ∧ Z.Warmed39 U.vm ∧ U.heap = h0) (fun _ _ _ _ _ => True) (fun _ U o U' => ∃ v L, o = .returned v ∧ Q_2_32 Z r0 p1 kA d0 d1 d2 d3 h0 n0 v U'.heap L ∧ FrameEnd U o U' L ({ frames := 0, cells := 0, slots := 0, locals := 0 } : Room).cells ({ frames := 0, cells := 0, slots := 0, locals := 0 } : Room).slots) := by
  refine MetFree.of_bodySF (plainFor_of_name pn_com_example_driftline_driftline_core_LearnerBestClassPinLaw) hisR ?_
  intro p e s m args below meth c s₁ Bd hml0 hP hK
  obtain ⟨rfl, hZ, hh⟩ := hP
  have hx := Bd.exec
  have hby := Bd.bytes
  have hml : c.maxLocals = 4 := hml0
  have hown : s.vm.findClass cS0 = some m.cls := findClass_of_methodNamed Bd.named
  have hnm := (name_of_methodNamed Bd.named Bd.method).1
  have X0 : Stand p l e ({ frames := 0, cells := 0, slots := 0, locals := 0 } : Room) s m #[(.ref r0), (.int p1), (.int 3), (.int 2)] below meth c s₁ [] 0 0 := Stand.of_body Bd
  have e0 : s₁.heap = h0 := by rw [← hh, Bd.state]; rfl
  have N0 := Fr.nil n0
  have k0 : ∀ t, OwnS p e below s₁ (mkF m 0 #[rv r0, iv p1, iv 3, iv 2] []) t → OwnS p e below s₁ (entryFrame m #[(.ref r0), (.int p1), (.int 3), (.int 2)] 4) t := fun t k => castTop (ef_2 m r0 p1 (3 : Int32) (2 : Int32)) k
  obtain ⟨cl_z1, Ar_z1, q_z1, S_z1, N_z1, H_z1, G_z1⟩ := id V_r0
  have hin2 : ¬ ((3 : Int32) < 0 ∨ cl_z1.slots.size ≤ ((3 : Int32)).toNatClampNeg) := inb_of S_z1 ⟨by decide, by decide⟩
  have hin3 : ¬ ((2 : Int32) < 0 ∨ cl_z1.slots.size ≤ ((2 : Int32)).toNatClampNeg) := inb_of S_z1 ⟨by decide, by decide⟩
  have hin4 : ¬ ((2 : Int32) < 0 ∨ cl_z1.slots.size ≤ ((2 : Int32)).toNatClampNeg) := inb_of S_z1 ⟨by decide, by decide⟩
  have hin5 : ¬ ((3 : Int32) < 0 ∨ cl_z1.slots.size ≤ ((3 : Int32)).toNatClampNeg) := inb_of S_z1 ⟨by decide, by decide⟩
  obtain ⟨fs, hr, hrun, hended, hW, hsame⟩ := X0.leave (v := some (.int 1)) (fun h => by rw [Bd.returns] at h; cases h)
  refine ⟨_, _, k0 _ ?_, hrun, hended, _, _, rfl, ?_, ⟨_, rfl⟩, hW, hsame.mono (by decide) (by decide)⟩
  · show OwnS p e below s₁ (mkF m 0 #[rv r0, iv p1, iv 3, iv 2] []) _
    refine XS.iloadN X0.here hx rfl (hb hby d2_0) rfl ?_
    show OwnS p e below s₁ (mkF m 1 #[rv r0, iv p1, iv 3, iv 2] [(.int 2)]) _
    refine XS.iloadN X0.here hx rfl (hb hby d2_1) rfl ?_
    show OwnS p e below s₁ (mkF m 2 #[rv r0, iv p1, iv 3, iv 2] [(.int p1), (.int 2)]) _
    refine XS.icmpYes X0.here hx rfl (pc0 := 2) (pc' := 7) rfl (hb hby d2_2) rfl (tlt hjn).1 (by decide) (by decide) ?_
    show OwnS p e below s₁ (mkF m 7 #[rv r0, iv p1, iv 3, iv 2] []) _
    refine XS.aloadN X0.here hx rfl (hb hby d2_7) rfl rfl ?_
    show OwnS p e below s₁ (mkF m 8 #[rv r0, iv p1, iv 3, iv 2] [(.ref r0)]) _
    refine XS.iloadN X0.here hx rfl (hb hby d2_8) rfl ?_
    show OwnS p e below s₁ (mkF m 9 #[rv r0, iv p1, iv 3, iv 2] [(.int 3), (.ref r0)]) _
    refine X0.daload hx (j := (3 : Int32)) (v := (.double (FP.l2d d3))) (by rw [e0]; exact Ar_z1.1) (State.isArrayOf_alike hZ.alike Ar_z1.2.1) Ar_z1.2.2 hin2 (Has.at H_z1 hin2 rfl) (g := (mkF m 9 #[rv r0, iv p1, iv 3, iv 2] [(.int 3), (.ref r0)])) rfl rfl (hb hby d2_9) _ ?_
    show OwnS p e below s₁ (mkF m 10 #[rv r0, iv p1, iv 3, iv 2] [(.double (FP.l2d d3))]) _
    refine XS.aloadN X0.here hx rfl (hb hby d2_10) rfl rfl ?_
    show OwnS p e below s₁ (mkF m 11 #[rv r0, iv p1, iv 3, iv 2] [(.ref r0), (.double (FP.l2d d3))]) _
    refine XS.iloadN X0.here hx rfl (hb hby d2_11) rfl ?_
    show OwnS p e below s₁ (mkF m 12 #[rv r0, iv p1, iv 3, iv 2] [(.int 2), (.ref r0), (.double (FP.l2d d3))]) _
    refine X0.daload hx (j := (2 : Int32)) (v := (.double (FP.l2d d2))) (by rw [e0]; exact Ar_z1.1) (State.isArrayOf_alike hZ.alike Ar_z1.2.1) Ar_z1.2.2 hin3 (Has.at H_z1 hin3 rfl) (g := (mkF m 12 #[rv r0, iv p1, iv 3, iv 2] [(.int 2), (.ref r0), (.double (FP.l2d d3))])) rfl rfl (hb hby d2_12) _ ?_
    show OwnS p e below s₁ (mkF m 13 #[rv r0, iv p1, iv 3, iv 2] [(.double (FP.l2d d2)), (.double (FP.l2d d3))]) _
    refine XS.dcmpS X0.here hx rfl (hb hby d2_13) rfl (dcmpV_w b_d3 b_d2 _) ?_
    show OwnS p e below s₁ (mkF m 14 #[rv r0, iv p1, iv 3, iv 2] [(.int (lcmpW d3 d2))]) _
    refine XS.ifYes X0.here hx rfl (pc0 := 14) (pc' := 19) rfl (hb hby d2_14) rfl ((if0 _ _).trans (flt (fun q => hge ((lw_lt _ _).mp q))).2.1) (by decide) (by decide) ?_
    show OwnS p e below s₁ (mkF m 19 #[rv r0, iv p1, iv 3, iv 2] []) _
    refine XS.iloadN X0.here hx rfl (hb hby d2_19) rfl ?_
    show OwnS p e below s₁ (mkF m 20 #[rv r0, iv p1, iv 3, iv 2] [(.int 2)]) _
    refine XS.iloadN X0.here hx rfl (hb hby d2_20) rfl ?_
    show OwnS p e below s₁ (mkF m 21 #[rv r0, iv p1, iv 3, iv 2] [(.int 3), (.int 2)]) _
    refine XS.icmpNo X0.here hx rfl (hb hby d2_21) rfl (tlt (by decide : (2 : Int32) < (3 : Int32))).2.1 ?_
    show OwnS p e below s₁ (mkF m 24 #[rv r0, iv p1, iv 3, iv 2] []) _
    refine XS.aloadN X0.here hx rfl (hb hby d2_24) rfl rfl ?_
    show OwnS p e below s₁ (mkF m 25 #[rv r0, iv p1, iv 3, iv 2] [(.ref r0)]) _
    refine XS.iloadN X0.here hx rfl (hb hby d2_25) rfl ?_
    show OwnS p e below s₁ (mkF m 26 #[rv r0, iv p1, iv 3, iv 2] [(.int 2), (.ref r0)]) _
    refine X0.daload hx (j := (2 : Int32)) (v := (.double (FP.l2d d2))) (by rw [e0]; exact Ar_z1.1) (State.isArrayOf_alike hZ.alike Ar_z1.2.1) Ar_z1.2.2 hin4 (Has.at H_z1 hin4 rfl) (g := (mkF m 26 #[rv r0, iv p1, iv 3, iv 2] [(.int 2), (.ref r0)])) rfl rfl (hb hby d2_26) _ ?_
    show OwnS p e below s₁ (mkF m 27 #[rv r0, iv p1, iv 3, iv 2] [(.double (FP.l2d d2))]) _
    refine XS.aloadN X0.here hx rfl (hb hby d2_27) rfl rfl ?_
    show OwnS p e below s₁ (mkF m 28 #[rv r0, iv p1, iv 3, iv 2] [(.ref r0), (.double (FP.l2d d2))]) _
    refine XS.iloadN X0.here hx rfl (hb hby d2_28) rfl ?_
    show OwnS p e below s₁ (mkF m 29 #[rv r0, iv p1, iv 3, iv 2] [(.int 3), (.ref r0), (.double (FP.l2d d2))]) _
    refine X0.daload hx (j := (3 : Int32)) (v := (.double (FP.l2d d3))) (by rw [e0]; exact Ar_z1.1) (State.isArrayOf_alike hZ.alike Ar_z1.2.1) Ar_z1.2.2 hin5 (Has.at H_z1 hin5 rfl) (g := (mkF m 29 #[rv r0, iv p1, iv 3, iv 2] [(.int 3), (.ref r0), (.double (FP.l2d d2))])) rfl rfl (hb hby d2_29) _ ?_
    show OwnS p e below s₁ (mkF m 30 #[rv r0, iv p1, iv 3, iv 2] [(.double (FP.l2d d3)), (.double (FP.l2d d2))]) _
    refine XS.dcmpS X0.here hx rfl (hb hby d2_30) rfl (dcmpV_w b_d2 b_d3 _) ?_
    show OwnS p e below s₁ (mkF m 31 #[rv r0, iv p1, iv 3, iv 2] [(.int (lcmpW d2 d3))]) _
    refine XS.ifYes X0.here hx rfl (pc0 := 31) (pc' := 36) rfl (hb hby d2_31) rfl ((if0 _ _).trans (tlt ((lw_lt _ _).mpr hlt)).1) (by decide) (by decide) ?_
    show OwnS p e below s₁ (mkF m 36 #[rv r0, iv p1, iv 3, iv 2] []) _
    refine XS.iconst X0.here hx rfl (hb hby d2_36) ?_
    show OwnS p e below s₁ (mkF m 37 #[rv r0, iv p1, iv 3, iv 2] [(.int 1)]) _
    exact retN X0 hx (t := .boolean) Bd.returns (by simp) (hb hby d2_37) hr
  · show Q_2_32 Z r0 p1 kA d0 d1 d2 d3 h0 n0 _ s₁.heap _
    rw [e0]
    exact ⟨rfl, N0, rfl⟩
def Q_2_33 (Z : State) (r0 : Addr) (p1 : Int32) (kA : ClassId) (d0 : Int64) (d1 : Int64) (d2 : Int64) (d3 : Int64) (h0 : Heap) (n0 : Nat) (v : Option Value) (h : Heap) (L : List Loc) : Prop := v = some (.int 1) ∧ Fr n0 L ∧ h = h0
set_option maxRecDepth 65536 in
set_option maxHeartbeats 40000000 in
theorem rm2_33 (l : Launch) (Z : State) (a0 : Array Value) (hw : ∀ d ∈ tables_1, d.before a0 Z = true) (ws : List Jvm.Cond) (r0 : Addr) (p1 : Int32) (kA : ClassId) (d0 : Int64) (d1 : Int64) (d2 : Int64) (d3 : Int64) (h0 : Heap) (n0 : Nat) (Z0 : n0 ≤ h0.size) (V_r0 : Arv Z h0 r0 kA .double (4 : Int32) [(.double (FP.l2d d0)), (.double (FP.l2d d1)), (.double (FP.l2d d2)), (.double (FP.l2d d3))] (.double (FP.l2d (0 : Int64)))) (b_d0 : B53 d0) (b_d1 : B53 d1) (b_d2 : B53 d2) (b_d3 : B53 d3) (hjn : (3 : Int32) < p1) :
    MetFree l (⟨cS0, "ok", "([DIII)Z"⟩ : MethodName) (head1 (Jvm.Cond.code (⟨cS0, "ok", "([DIII)Z"⟩ : MethodName) method_3_code 4 (some .boolean) :: ws) ({ frames := 0, cells := 0, slots := 0, locals := 0 } : Room)) (fun a U => a = #[(.ref r0), (.int p1), (.int 3), (.int 3)] ∧ Z.Warmed39 U.vm ∧ U.heap = h0) (fun _ _ _ _ _ => True) (fun _ U o U' => ∃ v L, o = .returned v ∧ Q_2_33 Z r0 p1 kA d0 d1 d2 d3 h0 n0 v U'.heap L ∧ FrameEnd U o U' L ({ frames := 0, cells := 0, slots := 0, locals := 0 } : Room).cells ({ frames := 0, cells := 0, slots := 0, locals := 0 } : Room).slots) := by
  refine MetFree.of_bodySF (plainFor_of_name pn_com_example_driftline_driftline_core_LearnerBestClassPinLaw) hisR ?_
  intro p e s m args below meth c s₁ Bd hml0 hP hK
  obtain ⟨rfl, hZ, hh⟩ := hP
  have hx := Bd.exec
  have hby := Bd.bytes
  have hml : c.maxLocals = 4 := hml0
  have hown : s.vm.findClass cS0 = some m.cls := findClass_of_methodNamed Bd.named
  have hnm := (name_of_methodNamed Bd.named Bd.method).1
  have X0 : Stand p l e ({ frames := 0, cells := 0, slots := 0, locals := 0 } : Room) s m #[(.ref r0), (.int p1), (.int 3), (.int 3)] below meth c s₁ [] 0 0 := Stand.of_body Bd
  have e0 : s₁.heap = h0 := by rw [← hh, Bd.state]; rfl
  have N0 := Fr.nil n0
  have k0 : ∀ t, OwnS p e below s₁ (mkF m 0 #[rv r0, iv p1, iv 3, iv 3] []) t → OwnS p e below s₁ (entryFrame m #[(.ref r0), (.int p1), (.int 3), (.int 3)] 4) t := fun t k => castTop (ef_2 m r0 p1 (3 : Int32) (3 : Int32)) k
  obtain ⟨cl_z1, Ar_z1, q_z1, S_z1, N_z1, H_z1, G_z1⟩ := id V_r0
  have hin2 : ¬ ((3 : Int32) < 0 ∨ cl_z1.slots.size ≤ ((3 : Int32)).toNatClampNeg) := inb_of S_z1 ⟨by decide, by decide⟩
  have hin3 : ¬ ((3 : Int32) < 0 ∨ cl_z1.slots.size ≤ ((3 : Int32)).toNatClampNeg) := inb_of S_z1 ⟨by decide, by decide⟩
  obtain ⟨fs, hr, hrun, hended, hW, hsame⟩ := X0.leave (v := some (.int 1)) (fun h => by rw [Bd.returns] at h; cases h)
  refine ⟨_, _, k0 _ ?_, hrun, hended, _, _, rfl, ?_, ⟨_, rfl⟩, hW, hsame.mono (by decide) (by decide)⟩
  · show OwnS p e below s₁ (mkF m 0 #[rv r0, iv p1, iv 3, iv 3] []) _
    refine XS.iloadN X0.here hx rfl (hb hby d2_0) rfl ?_
    show OwnS p e below s₁ (mkF m 1 #[rv r0, iv p1, iv 3, iv 3] [(.int 3)]) _
    refine XS.iloadN X0.here hx rfl (hb hby d2_1) rfl ?_
    show OwnS p e below s₁ (mkF m 2 #[rv r0, iv p1, iv 3, iv 3] [(.int p1), (.int 3)]) _
    refine XS.icmpYes X0.here hx rfl (pc0 := 2) (pc' := 7) rfl (hb hby d2_2) rfl (tlt hjn).1 (by decide) (by decide) ?_
    show OwnS p e below s₁ (mkF m 7 #[rv r0, iv p1, iv 3, iv 3] []) _
    refine XS.aloadN X0.here hx rfl (hb hby d2_7) rfl rfl ?_
    show OwnS p e below s₁ (mkF m 8 #[rv r0, iv p1, iv 3, iv 3] [(.ref r0)]) _
    refine XS.iloadN X0.here hx rfl (hb hby d2_8) rfl ?_
    show OwnS p e below s₁ (mkF m 9 #[rv r0, iv p1, iv 3, iv 3] [(.int 3), (.ref r0)]) _
    refine X0.daload hx (j := (3 : Int32)) (v := (.double (FP.l2d d3))) (by rw [e0]; exact Ar_z1.1) (State.isArrayOf_alike hZ.alike Ar_z1.2.1) Ar_z1.2.2 hin2 (Has.at H_z1 hin2 rfl) (g := (mkF m 9 #[rv r0, iv p1, iv 3, iv 3] [(.int 3), (.ref r0)])) rfl rfl (hb hby d2_9) _ ?_
    show OwnS p e below s₁ (mkF m 10 #[rv r0, iv p1, iv 3, iv 3] [(.double (FP.l2d d3))]) _
    refine XS.aloadN X0.here hx rfl (hb hby d2_10) rfl rfl ?_
    show OwnS p e below s₁ (mkF m 11 #[rv r0, iv p1, iv 3, iv 3] [(.ref r0), (.double (FP.l2d d3))]) _
    refine XS.iloadN X0.here hx rfl (hb hby d2_11) rfl ?_
    show OwnS p e below s₁ (mkF m 12 #[rv r0, iv p1, iv 3, iv 3] [(.int 3), (.ref r0), (.double (FP.l2d d3))]) _
    refine X0.daload hx (j := (3 : Int32)) (v := (.double (FP.l2d d3))) (by rw [e0]; exact Ar_z1.1) (State.isArrayOf_alike hZ.alike Ar_z1.2.1) Ar_z1.2.2 hin3 (Has.at H_z1 hin3 rfl) (g := (mkF m 12 #[rv r0, iv p1, iv 3, iv 3] [(.int 3), (.ref r0), (.double (FP.l2d d3))])) rfl rfl (hb hby d2_12) _ ?_
    show OwnS p e below s₁ (mkF m 13 #[rv r0, iv p1, iv 3, iv 3] [(.double (FP.l2d d3)), (.double (FP.l2d d3))]) _
    refine XS.dcmpS X0.here hx rfl (hb hby d2_13) rfl (dcmpV_w b_d3 b_d3 _) ?_
    show OwnS p e below s₁ (mkF m 14 #[rv r0, iv p1, iv 3, iv 3] [(.int (lcmpW d3 d3))]) _
    refine XS.ifYes X0.here hx rfl (pc0 := 14) (pc' := 19) rfl (hb hby d2_14) rfl ((if0 _ _).trans (flt (fun q => (own_irr64 _) ((lw_lt _ _).mp q))).2.1) (by decide) (by decide) ?_
    show OwnS p e below s₁ (mkF m 19 #[rv r0, iv p1, iv 3, iv 3] []) _
    refine XS.iloadN X0.here hx rfl (hb hby d2_19) rfl ?_
    show OwnS p e below s₁ (mkF m 20 #[rv r0, iv p1, iv 3, iv 3] [(.int 3)]) _
    refine XS.iloadN X0.here hx rfl (hb hby d2_20) rfl ?_
    show OwnS p e below s₁ (mkF m 21 #[rv r0, iv p1, iv 3, iv 3] [(.int 3), (.int 3)]) _
    refine XS.icmpYes X0.here hx rfl (pc0 := 21) (pc' := 36) rfl (hb hby d2_21) rfl (flt (by decide : ¬ ((3 : Int32) < (3 : Int32)))).2.1 (by decide) (by decide) ?_
    show OwnS p e below s₁ (mkF m 36 #[rv r0, iv p1, iv 3, iv 3] []) _
    refine XS.iconst X0.here hx rfl (hb hby d2_36) ?_
    show OwnS p e below s₁ (mkF m 37 #[rv r0, iv p1, iv 3, iv 3] [(.int 1)]) _
    exact retN X0 hx (t := .boolean) Bd.returns (by simp) (hb hby d2_37) hr
  · show Q_2_33 Z r0 p1 kA d0 d1 d2 d3 h0 n0 _ s₁.heap _
    rw [e0]
    exact ⟨rfl, N0, rfl⟩
theorem pd_0 : parseMethodDescriptor "([D)I" = some ⟨[(.array .double)], some .int⟩ := by decide +kernel
theorem pd_1 : parseMethodDescriptor "([DIII)Z" = some ⟨[(.array .double), .int, .int, .int], some .boolean⟩ := by decide +kernel
theorem ef_0 (m : MethodId) (x0 : Int32) (x1 : Int32) (x2 : Int32) (x3 : Int32) (x4 : Int32) : entryFrame m #[(.int x0), (.int x1), (.int x2), (.int x3), (.int x4)] maxLocals = mkF m 0 #[.val (.int x0), .val (.int x1), .val (.int x2), .val (.int x3), .val (.int x4), .unset, .unset, .unset, .unset] [] := by first | (simp [entryFrame, mkF, argsToLocals, Value.category, maxLocals]; done) | rfl
def Q_0 (Z : State) (p0 : Int32) (p1 : Int32) (p2 : Int32) (p3 : Int32) (p4 : Int32) (h0 : Heap) (n0 : Nat) (v : Option Value) (h : Heap) (L : List Loc) : Prop := v = some (.int 1) ∧ Fr n0 L ∧ True
set_option maxRecDepth 65536 in
set_option maxHeartbeats 40000000 in
theorem rm0 (l : Launch) (Z : State) (a0 : Array Value) (hw : ∀ d ∈ tables_1, d.before a0 Z = true) (ws : List Jvm.Cond) (p0 : Int32) (p1 : Int32) (p2 : Int32) (p3 : Int32) (p4 : Int32) (h0 : Heap) (n0 : Nat) (Z0 : n0 ≤ h0.size) :
    MetFree l x (head1 (Jvm.Cond.code x code maxLocals ret :: ws) room_1) (fun a U => a = #[(.int p0), (.int p1), (.int p2), (.int p3), (.int p4)] ∧ Z.Warmed39 U.vm ∧ U.heap = h0) (fun _ _ _ _ _ => True) (fun _ U o U' => ∃ v L, o = .returned v ∧ Q_0 Z p0 p1 p2 p3 p4 h0 n0 v U'.heap L ∧ FrameEnd U o U' L room_1.cells room_1.slots) := by
  refine MetFree.of_bodySF (plainFor_of_name pn_com_example_driftline_driftline_core_LearnerBestClassPinLaw) hisR ?_
  intro p e s m args below meth c s₁ Bd hml0 hP hK
  obtain ⟨rfl, hZ, hh⟩ := hP
  have hx := Bd.exec
  have hby := Bd.bytes
  have hml : c.maxLocals = 9 := hml0
  have hown : s.vm.findClass cS0 = some m.cls := findClass_of_methodNamed Bd.named
  have hnm := (name_of_methodNamed Bd.named Bd.method).1
  have X0 : Stand p l e room_1 s m #[(.int p0), (.int p1), (.int p2), (.int p3), (.int p4)] below meth c s₁ [] 0 0 := Stand.of_body Bd
  have e0 : s₁.heap = h0 := by rw [← hh, Bd.state]; rfl
  have N0 := Fr.nil n0
  have k0 : ∀ t, OwnS p e below s₁ (mkF m 0 #[iv p0, iv p1, iv p2, iv p3, iv p4, .unset, .unset, .unset, .unset] []) t → OwnS p e below s₁ (entryFrame m #[(.int p0), (.int p1), (.int p2), (.int p3), (.int p4)] maxLocals) t := fun t k => castTop (ef_0 m p0 p1 p2 p3 p4) k
  have k1 : ∀ t, OwnS p e below s₁ (mkF m 6 #[iv p0, iv p1, iv p2, iv p3, iv p4, .unset, .unset, .unset, .unset] [(.int ((p0 &&& (2147483647 : Int32)) % (5 : Int32)))]) t → OwnS p e below s₁ (entryFrame m #[(.int p0), (.int p1), (.int p2), (.int p3), (.int p4)] maxLocals) t := fun t q => by
    refine k0 t ?_
    show OwnS p e below s₁ (mkF m 0 #[iv p0, iv p1, iv p2, iv p3, iv p4, .unset, .unset, .unset, .unset] []) _
    refine XS.iloadN X0.here hx rfl (hb hby at_0) rfl ?_
    show OwnS p e below s₁ (mkF m 1 #[iv p0, iv p1, iv p2, iv p3, iv p4, .unset, .unset, .unset, .unset] [(.int p0)]) _
    refine X0.ldcInt hx hown (mvT hZ (own_at hw 0 rfl)) (g := (mkF m 1 #[iv p0, iv p1, iv p2, iv p3, iv p4, .unset, .unset, .unset, .unset] [(.int p0)])) rfl (hb hby at_1) _ ?_
    show OwnS p e below s₁ (mkF m 3 #[iv p0, iv p1, iv p2, iv p3, iv p4, .unset, .unset, .unset, .unset] [(.int 2147483647), (.int p0)]) _
    refine XS.iand X0.here hx rfl (hb hby at_3) rfl ?_
    show OwnS p e below s₁ (mkF m 4 #[iv p0, iv p1, iv p2, iv p3, iv p4, .unset, .unset, .unset, .unset] [(.int (p0 &&& (2147483647 : Int32)))]) _
    refine XS.iconst X0.here hx rfl (hb hby at_4) ?_
    show OwnS p e below s₁ (mkF m 5 #[iv p0, iv p1, iv p2, iv p3, iv p4, .unset, .unset, .unset, .unset] [(.int 5), (.int (p0 &&& (2147483647 : Int32)))]) _
    refine iremM X0 hx (g := (mkF m 5 #[iv p0, iv p1, iv p2, iv p3, iv p4, .unset, .unset, .unset, .unset] [(.int 5), (.int (p0 &&& (2147483647 : Int32)))])) rfl (hb hby at_5) rfl (by decide) ?_
    exact q
  rcases own_mod5 p0 with hk | hk | hk | hk | hk
  · obtain ⟨T2, h2, k2, X2, e2, E2, A2, EA2, st2⟩ := newPE X0 hx hZ (own_at hw 1 rfl) e0 (g := (mkF m 9 #[iv p0, iv p1, iv p2, iv p3, iv p4, iv 0, .unset, .unset, .unset] [(.int 4)])) rfl (hb hby at_9) rfl (by decide) (cap := 4) (by decide) (by decide) (by decide) (by decide) (ad := "[D") (by decide)
    obtain ⟨b2, g2⟩ : ∃ z, z = h0.size := ⟨_, rfl⟩
    rw [← g2] at A2 EA2 st2
    have g_b2 : n0 ≤ b2 := Nat.le_trans Z0 (Nat.le_of_eq g2.symm)
    have sz_b2 : h0.size ≤ b2 := Nat.le_trans (Keep.refl h0 []).1 (Nat.le_of_eq g2.symm)
    have V_b2 : Arv Z h2 b2 k2 .double (4 : Int32) [(.double (FP.l2d (0 : Int64))), (.double (FP.l2d (0 : Int64))), (.double (FP.l2d (0 : Int64))), (.double (FP.l2d (0 : Int64)))] (.double (FP.l2d (0 : Int64))) := (Arv.newD A2 (by decide)).pad (pad_rep [] (.double (FP.l2d (0 : Int64))) 4)
    obtain ⟨cl_z3, Ar_z3, q_z3, S_z3, N_z3, H_z3, G_z3⟩ := id V_b2
    have hin4 : ¬ ((0 : Int32) < 0 ∨ cl_z3.slots.size ≤ ((0 : Int32)).toNatClampNeg) := inb_of S_z3 ⟨by decide, by decide⟩
    obtain ⟨T5, h5, X5, e5, W5, st5⟩ := stD X2 hx hZ e2 Ar_z3 (j := (0 : Int32)) hin4 (g := (mkF m 21 #[iv p0, iv p1, iv p2, iv p3, iv p4, iv 0, rv b2, .unset, .unset] [(.double (FP.l2d (p1 % (8 : Int32)).toInt64)), (.int 0), (.ref b2)])) rfl rfl (hb hby at_21)
    have V5 : Arv Z h5 b2 k2 .double (4 : Int32) [(.double (FP.l2d (p1 % (8 : Int32)).toInt64)), (.double (FP.l2d (0 : Int64))), (.double (FP.l2d (0 : Int64))), (.double (FP.l2d (0 : Int64)))] (.double (FP.l2d (0 : Int64))) := Arv.set Ar_z3 q_z3 S_z3 N_z3 H_z3 G_z3 rfl W5 0 rfl (Nat.le_of_ble_eq_true rfl)
    have N5 := Fr.snoc X5 N0 g_b2
    obtain ⟨cl_z6, Ar_z6, q_z6, S_z6, N_z6, H_z6, G_z6⟩ := id V5
    have hin7 : ¬ ((1 : Int32) < 0 ∨ cl_z6.slots.size ≤ ((1 : Int32)).toNatClampNeg) := inb_of S_z6 ⟨by decide, by decide⟩
    obtain ⟨T8, h8, X8, e8, W8, st8⟩ := stD X5 hx hZ e5 Ar_z6 (j := (1 : Int32)) hin7 (g := (mkF m 30 #[iv p0, iv p1, iv p2, iv p3, iv p4, iv 0, rv b2, .unset, .unset] [(.double (FP.l2d (p2 % (8 : Int32)).toInt64)), (.int 1), (.ref b2)])) rfl rfl (hb hby at_30)
    have V8 : Arv Z h8 b2 k2 .double (4 : Int32) [(.double (FP.l2d (p1 % (8 : Int32)).toInt64)), (.double (FP.l2d (p2 % (8 : Int32)).toInt64)), (.double (FP.l2d (0 : Int64))), (.double (FP.l2d (0 : Int64)))] (.double (FP.l2d (0 : Int64))) := Arv.set Ar_z6 q_z6 S_z6 N_z6 H_z6 G_z6 rfl W8 1 rfl (Nat.le_of_ble_eq_true rfl)
    have N8 := Fr.snoc X8 N5 g_b2
    obtain ⟨cl_z9, Ar_z9, q_z9, S_z9, N_z9, H_z9, G_z9⟩ := id V8
    have hin10 : ¬ ((2 : Int32) < 0 ∨ cl_z9.slots.size ≤ ((2 : Int32)).toNatClampNeg) := inb_of S_z9 ⟨by decide, by decide⟩
    obtain ⟨T11, h11, X11, e11, W11, st11⟩ := stD X8 hx hZ e8 Ar_z9 (j := (2 : Int32)) hin10 (g := (mkF m 39 #[iv p0, iv p1, iv p2, iv p3, iv p4, iv 0, rv b2, .unset, .unset] [(.double (FP.l2d (p3 % (8 : Int32)).toInt64)), (.int 2), (.ref b2)])) rfl rfl (hb hby at_39)
    have V11 : Arv Z h11 b2 k2 .double (4 : Int32) [(.double (FP.l2d (p1 % (8 : Int32)).toInt64)), (.double (FP.l2d (p2 % (8 : Int32)).toInt64)), (.double (FP.l2d (p3 % (8 : Int32)).toInt64)), (.double (FP.l2d (0 : Int64)))] (.double (FP.l2d (0 : Int64))) := Arv.set Ar_z9 q_z9 S_z9 N_z9 H_z9 G_z9 rfl W11 2 rfl (Nat.le_of_ble_eq_true rfl)
    have N11 := Fr.snoc X11 N8 g_b2
    obtain ⟨cl_z12, Ar_z12, q_z12, S_z12, N_z12, H_z12, G_z12⟩ := id V11
    have hin13 : ¬ ((3 : Int32) < 0 ∨ cl_z12.slots.size ≤ ((3 : Int32)).toNatClampNeg) := inb_of S_z12 ⟨by decide, by decide⟩
    obtain ⟨T14, h14, X14, e14, W14, st14⟩ := stD X11 hx hZ e11 Ar_z12 (j := (3 : Int32)) hin13 (g := (mkF m 49 #[iv p0, iv p1, iv p2, iv p3, iv p4, iv 0, rv b2, .unset, .unset] [(.double (FP.l2d (p4 % (8 : Int32)).toInt64)), (.int 3), (.ref b2)])) rfl rfl (hb hby at_49)
    have V14 : Arv Z h14 b2 k2 .double (4 : Int32) [(.double (FP.l2d (p1 % (8 : Int32)).toInt64)), (.double (FP.l2d (p2 % (8 : Int32)).toInt64)), (.double (FP.l2d (p3 % (8 : Int32)).toInt64)), (.double (FP.l2d (p4 % (8 : Int32)).toInt64))] (.double (FP.l2d (0 : Int64))) := Arv.set Ar_z12 q_z12 S_z12 N_z12 H_z12 G_z12 rfl W14 3 rfl (Nat.le_of_ble_eq_true rfl)
    have N14 := Fr.snoc X14 N11 g_b2
    have f15 := ((((EA2.wr W5).wr W8).wr W11).wr W14)
    obtain ⟨T16, h16, k16, X16, e16, E16, A16, EA16, st16⟩ := newPE X14 hx hZ (own_at hw 1 rfl) e14 (g := (mkF m 52 #[iv p0, iv p1, iv p2, iv p3, iv p4, iv 0, rv b2, .unset, .unset] [(.int 0)])) rfl (hb hby at_52) rfl (by decide) (cap := 0) (by decide) (by decide) (by decide) (by decide) (ad := "[D") (by decide)
    obtain ⟨b16, g16⟩ : ∃ z, z = h14.size := ⟨_, rfl⟩
    rw [← g16] at A16 EA16 st16
    have g_b16 : n0 ≤ b16 := Nat.le_trans (Nat.le_trans (Nat.le_trans (Nat.le_trans (Nat.le_trans (Nat.le_trans Z0 E2.1) (Keep.of_wr W5).1) (Keep.of_wr W8).1) (Keep.of_wr W11).1) (Keep.of_wr W14).1) (Nat.le_of_eq g16.symm)
    have sz_b16 : h0.size ≤ b16 := Nat.le_trans ((((((Keep.refl h0 []).ext E2).wr W5 (Or.inr sz_b2)).wr W8 (Or.inr sz_b2)).wr W11 (Or.inr sz_b2)).wr W14 (Or.inr sz_b2)).1 (Nat.le_of_eq g16.symm)
    have V_b16 : Arv Z h16 b16 k16 .double (0 : Int32) [] (.double (FP.l2d (0 : Int64))) := Arv.newD A16 (by decide)
    obtain ⟨_, _, ⟨T17, L17, j17, i17⟩, -, X17, ⟨Lc17, hQ17, l17, y17, z17⟩, st17⟩ := Jvm.LawKit.callS X16 hx (y := (⟨cS1, "bestClass", "([D)I"⟩ : MethodName)) hown (mvT hZ (own_at hw 2 rfl)) (mvT hZ (own_at hw 3 rfl)) (mvT hZ (own_at hw 4 rfl)) (mvT hZ (own_at hw 5 rfl)) (by decide) (backOf (W := 0) (rm1_0 l Z a0 hw [] b16 k16 h16 n0 (Nat.le_trans (Nat.le_trans (Nat.le_trans (Nat.le_trans (Nat.le_trans (Nat.le_trans Z0 E2.1) (Keep.of_wr W5).1) (Keep.of_wr W8).1) (Keep.of_wr W11).1) (Keep.of_wr W14).1) E16.1) V_b16) hZ (own_at hw 5 rfl) (own_at hw 4 rfl) (by decide) (by decide)) (g := (mkF m 113 #[iv p0, iv p1, iv p2, iv p3, iv p4, iv 0, rv b2, rv b16, .unset] [(.ref b16)])) rfl (by rw [hml]; rfl) (argsL := [(.ref b16)]) (rest := []) (lenOf pd_0 rfl) rfl (Nat.le_refl _) (hb hby at_113) (fun _ _ => ⟨rfl, e16, (by decide : 2 + 0 ≤ _), (by decide : 4 + 0 ≤ _)⟩)
    dsimp only [Pt.U, Pt.locs, Pt.cells, Pt.slots] at X17 l17 y17 z17 st17 hQ17
    subst l17 y17 z17
    obtain ⟨rfl, N17q, e17, -⟩ := hQ17
    have N17 := Fr.app N14 N17q
    obtain ⟨fs, hr, hrun, hended, hW, hsame⟩ := X17.leave (v := some (.int 1)) (fun h => by rw [Bd.returns] at h; cases h)
    refine ⟨_, _, k1 _ ?_, hrun, hended, _, _, rfl, ?_, ⟨_, rfl⟩, hW, hsame.mono (by decide) (by decide)⟩
    · rw [hk]
      show OwnS p e below s₁ (mkF m 6 #[iv p0, iv p1, iv p2, iv p3, iv p4, .unset, .unset, .unset, .unset] [(.int 0)]) _
      refine XS.istore X0.here hx rfl (hb hby at_6) rfl (l' := #[iv p0, iv p1, iv p2, iv p3, iv p4, iv 0, .unset, .unset, .unset]) rfl ?_
      show OwnS p e below s₁ (mkF m 8 #[iv p0, iv p1, iv p2, iv p3, iv p4, iv 0, .unset, .unset, .unset] []) _
      refine XS.iconst X0.here hx rfl (hb hby at_8) ?_
      show OwnS p e below s₁ (mkF m 9 #[iv p0, iv p1, iv p2, iv p3, iv p4, iv 0, .unset, .unset, .unset] [(.int 4)]) _
      refine st2 _ ?_
      show OwnS p e below T2 (mkF m 11 #[iv p0, iv p1, iv p2, iv p3, iv p4, iv 0, .unset, .unset, .unset] [(.ref b2)]) _
      refine XS.astore X2.here hx rfl (hb hby at_11) rfl rfl (l' := #[iv p0, iv p1, iv p2, iv p3, iv p4, iv 0, rv b2, .unset, .unset]) rfl ?_
      show OwnS p e below T2 (mkF m 13 #[iv p0, iv p1, iv p2, iv p3, iv p4, iv 0, rv b2, .unset, .unset] []) _
      refine XS.aload X2.here hx rfl (hb hby at_13) rfl rfl ?_
      show OwnS p e below T2 (mkF m 15 #[iv p0, iv p1, iv p2, iv p3, iv p4, iv 0, rv b2, .unset, .unset] [(.ref b2)]) _
      refine XS.iconst X2.here hx rfl (hb hby at_15) ?_
      show OwnS p e below T2 (mkF m 16 #[iv p0, iv p1, iv p2, iv p3, iv p4, iv 0, rv b2, .unset, .unset] [(.int 0), (.ref b2)]) _
      refine XS.iloadN X2.here hx rfl (hb hby at_16) rfl ?_
      show OwnS p e below T2 (mkF m 17 #[iv p0, iv p1, iv p2, iv p3, iv p4, iv 0, rv b2, .unset, .unset] [(.int p1), (.int 0), (.ref b2)]) _
      refine XS.bipush X2.here hx rfl (hb hby at_17) ?_
      show OwnS p e below T2 (mkF m 19 #[iv p0, iv p1, iv p2, iv p3, iv p4, iv 0, rv b2, .unset, .unset] [(.int 8), (.int p1), (.int 0), (.ref b2)]) _
      refine iremM X2 hx (g := (mkF m 19 #[iv p0, iv p1, iv p2, iv p3, iv p4, iv 0, rv b2, .unset, .unset] [(.int 8), (.int p1), (.int 0), (.ref b2)])) rfl (hb hby at_19) rfl (by decide) ?_
      show OwnS p e below T2 (mkF m 20 #[iv p0, iv p1, iv p2, iv p3, iv p4, iv 0, rv b2, .unset, .unset] [(.int (p1 % (8 : Int32))), (.int 0), (.ref b2)]) _
      refine XS.i2dS X2.here hx rfl (hb hby at_20) rfl (i2d_w _) ?_
      show OwnS p e below T2 (mkF m 21 #[iv p0, iv p1, iv p2, iv p3, iv p4, iv 0, rv b2, .unset, .unset] [(.double (FP.l2d (p1 % (8 : Int32)).toInt64)), (.int 0), (.ref b2)]) _
      refine st5 _ ?_
      show OwnS p e below T5 (mkF m 22 #[iv p0, iv p1, iv p2, iv p3, iv p4, iv 0, rv b2, .unset, .unset] []) _
      refine XS.aload X5.here hx rfl (hb hby at_22) rfl rfl ?_
      show OwnS p e below T5 (mkF m 24 #[iv p0, iv p1, iv p2, iv p3, iv p4, iv 0, rv b2, .unset, .unset] [(.ref b2)]) _
      refine XS.iconst X5.here hx rfl (hb hby at_24) ?_
      show OwnS p e below T5 (mkF m 25 #[iv p0, iv p1, iv p2, iv p3, iv p4, iv 0, rv b2, .unset, .unset] [(.int 1), (.ref b2)]) _
      refine XS.iloadN X5.here hx rfl (hb hby at_25) rfl ?_
      show OwnS p e below T5 (mkF m 26 #[iv p0, iv p1, iv p2, iv p3, iv p4, iv 0, rv b2, .unset, .unset] [(.int p2), (.int 1), (.ref b2)]) _
      refine XS.bipush X5.here hx rfl (hb hby at_26) ?_
      show OwnS p e below T5 (mkF m 28 #[iv p0, iv p1, iv p2, iv p3, iv p4, iv 0, rv b2, .unset, .unset] [(.int 8), (.int p2), (.int 1), (.ref b2)]) _
      refine iremM X5 hx (g := (mkF m 28 #[iv p0, iv p1, iv p2, iv p3, iv p4, iv 0, rv b2, .unset, .unset] [(.int 8), (.int p2), (.int 1), (.ref b2)])) rfl (hb hby at_28) rfl (by decide) ?_
      show OwnS p e below T5 (mkF m 29 #[iv p0, iv p1, iv p2, iv p3, iv p4, iv 0, rv b2, .unset, .unset] [(.int (p2 % (8 : Int32))), (.int 1), (.ref b2)]) _
      refine XS.i2dS X5.here hx rfl (hb hby at_29) rfl (i2d_w _) ?_
      show OwnS p e below T5 (mkF m 30 #[iv p0, iv p1, iv p2, iv p3, iv p4, iv 0, rv b2, .unset, .unset] [(.double (FP.l2d (p2 % (8 : Int32)).toInt64)), (.int 1), (.ref b2)]) _
      refine st8 _ ?_
      show OwnS p e below T8 (mkF m 31 #[iv p0, iv p1, iv p2, iv p3, iv p4, iv 0, rv b2, .unset, .unset] []) _
      refine XS.aload X8.here hx rfl (hb hby at_31) rfl rfl ?_
      show OwnS p e below T8 (mkF m 33 #[iv p0, iv p1, iv p2, iv p3, iv p4, iv 0, rv b2, .unset, .unset] [(.ref b2)]) _
      refine XS.iconst X8.here hx rfl (hb hby at_33) ?_
      show OwnS p e below T8 (mkF m 34 #[iv p0, iv p1, iv p2, iv p3, iv p4, iv 0, rv b2, .unset, .unset] [(.int 2), (.ref b2)]) _
      refine XS.iloadN X8.here hx rfl (hb hby at_34) rfl ?_
      show OwnS p e below T8 (mkF m 35 #[iv p0, iv p1, iv p2, iv p3, iv p4, iv 0, rv b2, .unset, .unset] [(.int p3), (.int 2), (.ref b2)]) _
      refine XS.bipush X8.here hx rfl (hb hby at_35) ?_
      show OwnS p e below T8 (mkF m 37 #[iv p0, iv p1, iv p2, iv p3, iv p4, iv 0, rv b2, .unset, .unset] [(.int 8), (.int p3), (.int 2), (.ref b2)]) _
      refine iremM X8 hx (g := (mkF m 37 #[iv p0, iv p1, iv p2, iv p3, iv p4, iv 0, rv b2, .unset, .unset] [(.int 8), (.int p3), (.int 2), (.ref b2)])) rfl (hb hby at_37) rfl (by decide) ?_
      show OwnS p e below T8 (mkF m 38 #[iv p0, iv p1, iv p2, iv p3, iv p4, iv 0, rv b2, .unset, .unset] [(.int (p3 % (8 : Int32))), (.int 2), (.ref b2)]) _
      refine XS.i2dS X8.here hx rfl (hb hby at_38) rfl (i2d_w _) ?_
      show OwnS p e below T8 (mkF m 39 #[iv p0, iv p1, iv p2, iv p3, iv p4, iv 0, rv b2, .unset, .unset] [(.double (FP.l2d (p3 % (8 : Int32)).toInt64)), (.int 2), (.ref b2)]) _
      refine st11 _ ?_
      show OwnS p e below T11 (mkF m 40 #[iv p0, iv p1, iv p2, iv p3, iv p4, iv 0, rv b2, .unset, .unset] []) _
      refine XS.aload X11.here hx rfl (hb hby at_40) rfl rfl ?_
      show OwnS p e below T11 (mkF m 42 #[iv p0, iv p1, iv p2, iv p3, iv p4, iv 0, rv b2, .unset, .unset] [(.ref b2)]) _
      refine XS.iconst X11.here hx rfl (hb hby at_42) ?_
      show OwnS p e below T11 (mkF m 43 #[iv p0, iv p1, iv p2, iv p3, iv p4, iv 0, rv b2, .unset, .unset] [(.int 3), (.ref b2)]) _
      refine XS.iload X11.here hx rfl (hb hby at_43) rfl ?_
      show OwnS p e below T11 (mkF m 45 #[iv p0, iv p1, iv p2, iv p3, iv p4, iv 0, rv b2, .unset, .unset] [(.int p4), (.int 3), (.ref b2)]) _
      refine XS.bipush X11.here hx rfl (hb hby at_45) ?_
      show OwnS p e below T11 (mkF m 47 #[iv p0, iv p1, iv p2, iv p3, iv p4, iv 0, rv b2, .unset, .unset] [(.int 8), (.int p4), (.int 3), (.ref b2)]) _
      refine iremM X11 hx (g := (mkF m 47 #[iv p0, iv p1, iv p2, iv p3, iv p4, iv 0, rv b2, .unset, .unset] [(.int 8), (.int p4), (.int 3), (.ref b2)])) rfl (hb hby at_47) rfl (by decide) ?_
      show OwnS p e below T11 (mkF m 48 #[iv p0, iv p1, iv p2, iv p3, iv p4, iv 0, rv b2, .unset, .unset] [(.int (p4 % (8 : Int32))), (.int 3), (.ref b2)]) _
      refine XS.i2dS X11.here hx rfl (hb hby at_48) rfl (i2d_w _) ?_
      show OwnS p e below T11 (mkF m 49 #[iv p0, iv p1, iv p2, iv p3, iv p4, iv 0, rv b2, .unset, .unset] [(.double (FP.l2d (p4 % (8 : Int32)).toInt64)), (.int 3), (.ref b2)]) _
      refine st14 _ ?_
      show OwnS p e below T14 (mkF m 50 #[iv p0, iv p1, iv p2, iv p3, iv p4, iv 0, rv b2, .unset, .unset] []) _
      refine XS.iload X14.here hx rfl (hb hby at_50) rfl ?_
      show OwnS p e below T14 (mkF m 52 #[iv p0, iv p1, iv p2, iv p3, iv p4, iv 0, rv b2, .unset, .unset] [(.int 0)]) _
      refine st16 _ ?_
      show OwnS p e below T16 (mkF m 54 #[iv p0, iv p1, iv p2, iv p3, iv p4, iv 0, rv b2, .unset, .unset] [(.ref b16)]) _
      refine XS.astore X16.here hx rfl (hb hby at_54) rfl rfl (l' := #[iv p0, iv p1, iv p2, iv p3, iv p4, iv 0, rv b2, rv b16, .unset]) rfl ?_
      show OwnS p e below T16 (mkF m 56 #[iv p0, iv p1, iv p2, iv p3, iv p4, iv 0, rv b2, rv b16, .unset] []) _
      refine XS.iload X16.here hx rfl (hb hby at_56) rfl ?_
      show OwnS p e below T16 (mkF m 58 #[iv p0, iv p1, iv p2, iv p3, iv p4, iv 0, rv b2, rv b16, .unset] [(.int 0)]) _
      refine XS.ifYes X16.here hx rfl (pc0 := 58) (pc' := 69) rfl (hb hby at_58) rfl ((if0 _ _).trans (flt (by decide : ¬ ((0 : Int32) < (0 : Int32)))).2.2.2) (by decide) (by decide) ?_
      show OwnS p e below T16 (mkF m 69 #[iv p0, iv p1, iv p2, iv p3, iv p4, iv 0, rv b2, rv b16, .unset] []) _
      refine XS.iload X16.here hx rfl (hb hby at_69) rfl ?_
      show OwnS p e below T16 (mkF m 71 #[iv p0, iv p1, iv p2, iv p3, iv p4, iv 0, rv b2, rv b16, .unset] [(.int 0)]) _
      refine XS.iconst X16.here hx rfl (hb hby at_71) ?_
      show OwnS p e below T16 (mkF m 72 #[iv p0, iv p1, iv p2, iv p3, iv p4, iv 0, rv b2, rv b16, .unset] [(.int 1), (.int 0)]) _
      refine XS.icmpYes X16.here hx rfl (pc0 := 72) (pc' := 83) rfl (hb hby at_72) rfl (flt (by decide : ¬ ((1 : Int32) < (0 : Int32)))).2.2.2 (by decide) (by decide) ?_
      show OwnS p e below T16 (mkF m 83 #[iv p0, iv p1, iv p2, iv p3, iv p4, iv 0, rv b2, rv b16, .unset] []) _
      refine XS.iload X16.here hx rfl (hb hby at_83) rfl ?_
      show OwnS p e below T16 (mkF m 85 #[iv p0, iv p1, iv p2, iv p3, iv p4, iv 0, rv b2, rv b16, .unset] [(.int 0)]) _
      refine XS.iconst X16.here hx rfl (hb hby at_85) ?_
      show OwnS p e below T16 (mkF m 86 #[iv p0, iv p1, iv p2, iv p3, iv p4, iv 0, rv b2, rv b16, .unset] [(.int 2), (.int 0)]) _
      refine XS.icmpYes X16.here hx rfl (pc0 := 86) (pc' := 97) rfl (hb hby at_86) rfl (flt (by decide : ¬ ((2 : Int32) < (0 : Int32)))).2.2.2 (by decide) (by decide) ?_
      show OwnS p e below T16 (mkF m 97 #[iv p0, iv p1, iv p2, iv p3, iv p4, iv 0, rv b2, rv b16, .unset] []) _
      refine XS.iload X16.here hx rfl (hb hby at_97) rfl ?_
      show OwnS p e below T16 (mkF m 99 #[iv p0, iv p1, iv p2, iv p3, iv p4, iv 0, rv b2, rv b16, .unset] [(.int 0)]) _
      refine XS.iconst X16.here hx rfl (hb hby at_99) ?_
      show OwnS p e below T16 (mkF m 100 #[iv p0, iv p1, iv p2, iv p3, iv p4, iv 0, rv b2, rv b16, .unset] [(.int 3), (.int 0)]) _
      refine XS.icmpYes X16.here hx rfl (pc0 := 100) (pc' := 111) rfl (hb hby at_100) rfl (flt (by decide : ¬ ((3 : Int32) < (0 : Int32)))).2.2.2 (by decide) (by decide) ?_
      show OwnS p e below T16 (mkF m 111 #[iv p0, iv p1, iv p2, iv p3, iv p4, iv 0, rv b2, rv b16, .unset] []) _
      refine XS.aload X16.here hx rfl (hb hby at_111) rfl rfl ?_
      show OwnS p e below T16 (mkF m 113 #[iv p0, iv p1, iv p2, iv p3, iv p4, iv 0, rv b2, rv b16, .unset] [(.ref b16)]) _
      refine st17 _ ?_
      show OwnS p e below T17 (mkF m 116 #[iv p0, iv p1, iv p2, iv p3, iv p4, iv 0, rv b2, rv b16, .unset] [(.int 0)]) _
      refine XS.istore X17.here hx rfl (hb hby at_116) rfl (l' := #[iv p0, iv p1, iv p2, iv p3, iv p4, iv 0, rv b2, rv b16, iv 0]) rfl ?_
      show OwnS p e below T17 (mkF m 118 #[iv p0, iv p1, iv p2, iv p3, iv p4, iv 0, rv b2, rv b16, iv 0] []) _
      refine XS.iload X17.here hx rfl (hb hby at_118) rfl ?_
      show OwnS p e below T17 (mkF m 120 #[iv p0, iv p1, iv p2, iv p3, iv p4, iv 0, rv b2, rv b16, iv 0] [(.int 0)]) _
      refine XS.ifNo X17.here hx rfl (hb hby at_120) rfl ((if0 _ _).trans (teq (by decide : (0 : Int32) = (0 : Int32))).2) ?_
      show OwnS p e below T17 (mkF m 123 #[iv p0, iv p1, iv p2, iv p3, iv p4, iv 0, rv b2, rv b16, iv 0] []) _
      refine XS.iload X17.here hx rfl (hb hby at_123) rfl ?_
      show OwnS p e below T17 (mkF m 125 #[iv p0, iv p1, iv p2, iv p3, iv p4, iv 0, rv b2, rv b16, iv 0] [(.int 0)]) _
      refine XS.ifNo X17.here hx rfl (hb hby at_125) rfl ((if0 _ _).trans (teq (by decide : (0 : Int32) = (0 : Int32))).2) ?_
      show OwnS p e below T17 (mkF m 128 #[iv p0, iv p1, iv p2, iv p3, iv p4, iv 0, rv b2, rv b16, iv 0] []) _
      refine XS.iconst X17.here hx rfl (hb hby at_128) ?_
      show OwnS p e below T17 (mkF m 129 #[iv p0, iv p1, iv p2, iv p3, iv p4, iv 0, rv b2, rv b16, iv 0] [(.int 1)]) _
      refine XS.goto X17.here hx rfl (pc0 := 129) (pc' := 133) rfl (hb hby at_129) (by decide) (by decide) ?_
      show OwnS p e below T17 (mkF m 133 #[iv p0, iv p1, iv p2, iv p3, iv p4, iv 0, rv b2, rv b16, iv 0] [(.int 1)]) _
      exact retN X17 hx (t := .boolean) Bd.returns (by simp) (hb hby at_133) hr
    · show Q_0 Z p0 p1 p2 p3 p4 h0 n0 _ T17.heap _
      rw [e17]
      exact ⟨rfl, N17, trivial⟩
  · obtain ⟨T18, h18, k18, X18, e18, E18, A18, EA18, st18⟩ := newPE X0 hx hZ (own_at hw 1 rfl) e0 (g := (mkF m 9 #[iv p0, iv p1, iv p2, iv p3, iv p4, iv 1, .unset, .unset, .unset] [(.int 4)])) rfl (hb hby at_9) rfl (by decide) (cap := 4) (by decide) (by decide) (by decide) (by decide) (ad := "[D") (by decide)
    obtain ⟨b18, g18⟩ : ∃ z, z = h0.size := ⟨_, rfl⟩
    rw [← g18] at A18 EA18 st18
    have g_b18 : n0 ≤ b18 := Nat.le_trans Z0 (Nat.le_of_eq g18.symm)
    have sz_b18 : h0.size ≤ b18 := Nat.le_trans (Keep.refl h0 []).1 (Nat.le_of_eq g18.symm)
    have V_b18 : Arv Z h18 b18 k18 .double (4 : Int32) [(.double (FP.l2d (0 : Int64))), (.double (FP.l2d (0 : Int64))), (.double (FP.l2d (0 : Int64))), (.double (FP.l2d (0 : Int64)))] (.double (FP.l2d (0 : Int64))) := (Arv.newD A18 (by decide)).pad (pad_rep [] (.double (FP.l2d (0 : Int64))) 4)
    obtain ⟨cl_z19, Ar_z19, q_z19, S_z19, N_z19, H_z19, G_z19⟩ := id V_b18
    have hin20 : ¬ ((0 : Int32) < 0 ∨ cl_z19.slots.size ≤ ((0 : Int32)).toNatClampNeg) := inb_of S_z19 ⟨by decide, by decide⟩
    obtain ⟨T21, h21, X21, e21, W21, st21⟩ := stD X18 hx hZ e18 Ar_z19 (j := (0 : Int32)) hin20 (g := (mkF m 21 #[iv p0, iv p1, iv p2, iv p3, iv p4, iv 1, rv b18, .unset, .unset] [(.double (FP.l2d (p1 % (8 : Int32)).toInt64)), (.int 0), (.ref b18)])) rfl rfl (hb hby at_21)
    have V21 : Arv Z h21 b18 k18 .double (4 : Int32) [(.double (FP.l2d (p1 % (8 : Int32)).toInt64)), (.double (FP.l2d (0 : Int64))), (.double (FP.l2d (0 : Int64))), (.double (FP.l2d (0 : Int64)))] (.double (FP.l2d (0 : Int64))) := Arv.set Ar_z19 q_z19 S_z19 N_z19 H_z19 G_z19 rfl W21 0 rfl (Nat.le_of_ble_eq_true rfl)
    have N21 := Fr.snoc X21 N0 g_b18
    obtain ⟨cl_z22, Ar_z22, q_z22, S_z22, N_z22, H_z22, G_z22⟩ := id V21
    have hin23 : ¬ ((1 : Int32) < 0 ∨ cl_z22.slots.size ≤ ((1 : Int32)).toNatClampNeg) := inb_of S_z22 ⟨by decide, by decide⟩
    obtain ⟨T24, h24, X24, e24, W24, st24⟩ := stD X21 hx hZ e21 Ar_z22 (j := (1 : Int32)) hin23 (g := (mkF m 30 #[iv p0, iv p1, iv p2, iv p3, iv p4, iv 1, rv b18, .unset, .unset] [(.double (FP.l2d (p2 % (8 : Int32)).toInt64)), (.int 1), (.ref b18)])) rfl rfl (hb hby at_30)
    have V24 : Arv Z h24 b18 k18 .double (4 : Int32) [(.double (FP.l2d (p1 % (8 : Int32)).toInt64)), (.double (FP.l2d (p2 % (8 : Int32)).toInt64)), (.double (FP.l2d (0 : Int64))), (.double (FP.l2d (0 : Int64)))] (.double (FP.l2d (0 : Int64))) := Arv.set Ar_z22 q_z22 S_z22 N_z22 H_z22 G_z22 rfl W24 1 rfl (Nat.le_of_ble_eq_true rfl)
    have N24 := Fr.snoc X24 N21 g_b18
    obtain ⟨cl_z25, Ar_z25, q_z25, S_z25, N_z25, H_z25, G_z25⟩ := id V24
    have hin26 : ¬ ((2 : Int32) < 0 ∨ cl_z25.slots.size ≤ ((2 : Int32)).toNatClampNeg) := inb_of S_z25 ⟨by decide, by decide⟩
    obtain ⟨T27, h27, X27, e27, W27, st27⟩ := stD X24 hx hZ e24 Ar_z25 (j := (2 : Int32)) hin26 (g := (mkF m 39 #[iv p0, iv p1, iv p2, iv p3, iv p4, iv 1, rv b18, .unset, .unset] [(.double (FP.l2d (p3 % (8 : Int32)).toInt64)), (.int 2), (.ref b18)])) rfl rfl (hb hby at_39)
    have V27 : Arv Z h27 b18 k18 .double (4 : Int32) [(.double (FP.l2d (p1 % (8 : Int32)).toInt64)), (.double (FP.l2d (p2 % (8 : Int32)).toInt64)), (.double (FP.l2d (p3 % (8 : Int32)).toInt64)), (.double (FP.l2d (0 : Int64)))] (.double (FP.l2d (0 : Int64))) := Arv.set Ar_z25 q_z25 S_z25 N_z25 H_z25 G_z25 rfl W27 2 rfl (Nat.le_of_ble_eq_true rfl)
    have N27 := Fr.snoc X27 N24 g_b18
    obtain ⟨cl_z28, Ar_z28, q_z28, S_z28, N_z28, H_z28, G_z28⟩ := id V27
    have hin29 : ¬ ((3 : Int32) < 0 ∨ cl_z28.slots.size ≤ ((3 : Int32)).toNatClampNeg) := inb_of S_z28 ⟨by decide, by decide⟩
    obtain ⟨T30, h30, X30, e30, W30, st30⟩ := stD X27 hx hZ e27 Ar_z28 (j := (3 : Int32)) hin29 (g := (mkF m 49 #[iv p0, iv p1, iv p2, iv p3, iv p4, iv 1, rv b18, .unset, .unset] [(.double (FP.l2d (p4 % (8 : Int32)).toInt64)), (.int 3), (.ref b18)])) rfl rfl (hb hby at_49)
    have V30 : Arv Z h30 b18 k18 .double (4 : Int32) [(.double (FP.l2d (p1 % (8 : Int32)).toInt64)), (.double (FP.l2d (p2 % (8 : Int32)).toInt64)), (.double (FP.l2d (p3 % (8 : Int32)).toInt64)), (.double (FP.l2d (p4 % (8 : Int32)).toInt64))] (.double (FP.l2d (0 : Int64))) := Arv.set Ar_z28 q_z28 S_z28 N_z28 H_z28 G_z28 rfl W30 3 rfl (Nat.le_of_ble_eq_true rfl)
    have N30 := Fr.snoc X30 N27 g_b18
    have f31 := ((((EA18.wr W21).wr W24).wr W27).wr W30)
    obtain ⟨T32, h32, k32, X32, e32, E32, A32, EA32, st32⟩ := newPE X30 hx hZ (own_at hw 1 rfl) e30 (g := (mkF m 52 #[iv p0, iv p1, iv p2, iv p3, iv p4, iv 1, rv b18, .unset, .unset] [(.int 1)])) rfl (hb hby at_52) rfl (by decide) (cap := 1) (by decide) (by decide) (by decide) (by decide) (ad := "[D") (by decide)
    obtain ⟨b32, g32⟩ : ∃ z, z = h30.size := ⟨_, rfl⟩
    rw [← g32] at A32 EA32 st32
    have g_b32 : n0 ≤ b32 := Nat.le_trans (Nat.le_trans (Nat.le_trans (Nat.le_trans (Nat.le_trans (Nat.le_trans Z0 E18.1) (Keep.of_wr W21).1) (Keep.of_wr W24).1) (Keep.of_wr W27).1) (Keep.of_wr W30).1) (Nat.le_of_eq g32.symm)
    have sz_b32 : h0.size ≤ b32 := Nat.le_trans ((((((Keep.refl h0 []).ext E18).wr W21 (Or.inr sz_b18)).wr W24 (Or.inr sz_b18)).wr W27 (Or.inr sz_b18)).wr W30 (Or.inr sz_b18)).1 (Nat.le_of_eq g32.symm)
    have V_b32 : Arv Z h32 b32 k32 .double (1 : Int32) [(.double (FP.l2d (0 : Int64)))] (.double (FP.l2d (0 : Int64))) := (Arv.newD A32 (by decide)).pad (pad_rep [] (.double (FP.l2d (0 : Int64))) 1)
    have f33 := (V30.ext E32)
    obtain ⟨cl_z34, Ar_z34, q_z34, S_z34, N_z34, H_z34, G_z34⟩ := id f33
    have hin35 : ¬ ((0 : Int32) < 0 ∨ cl_z34.slots.size ≤ ((0 : Int32)).toNatClampNeg) := inb_of S_z34 ⟨by decide, by decide⟩
    obtain ⟨cl_z36, Ar_z36, q_z36, S_z36, N_z36, H_z36, G_z36⟩ := id V_b32
    have hin37 : ¬ ((0 : Int32) < 0 ∨ cl_z36.slots.size ≤ ((0 : Int32)).toNatClampNeg) := inb_of S_z36 ⟨by decide, by decide⟩
    obtain ⟨T38, h38, X38, e38, W38, st38⟩ := stD X32 hx hZ e32 Ar_z36 (j := (0 : Int32)) hin37 (g := (mkF m 68 #[iv p0, iv p1, iv p2, iv p3, iv p4, iv 1, rv b18, rv b32, .unset] [(.double (FP.l2d (p1 % (8 : Int32)).toInt64)), (.int 0), (.ref b32)])) rfl rfl (hb hby at_68)
    have V38 : Arv Z h38 b32 k32 .double (1 : Int32) [(.double (FP.l2d (p1 % (8 : Int32)).toInt64))] (.double (FP.l2d (0 : Int64))) := Arv.set Ar_z36 q_z36 S_z36 N_z36 H_z36 G_z36 rfl W38 0 rfl (Nat.le_of_ble_eq_true rfl)
    have N38 := Fr.snoc X38 N30 g_b32
    obtain ⟨_, _, ⟨T39, L39, j39, i39⟩, -, X39, ⟨Lc39, hQ39, l39, y39, z39⟩, st39⟩ := Jvm.LawKit.callS X38 hx (y := (⟨cS1, "bestClass", "([D)I"⟩ : MethodName)) hown (mvT hZ (own_at hw 2 rfl)) (mvT hZ (own_at hw 3 rfl)) (mvT hZ (own_at hw 4 rfl)) (mvT hZ (own_at hw 5 rfl)) (by decide) (backOf (W := 0) (rm1_1 l Z a0 hw [] b32 k32 (p1 % (8 : Int32)).toInt64 h38 n0 (Nat.le_trans (Nat.le_trans (Nat.le_trans (Nat.le_trans (Nat.le_trans (Nat.le_trans (Nat.le_trans Z0 E18.1) (Keep.of_wr W21).1) (Keep.of_wr W24).1) (Keep.of_wr W27).1) (Keep.of_wr W30).1) E32.1) (Keep.of_wr W38).1) V38 (own_b8 p1)) hZ (own_at hw 5 rfl) (own_at hw 4 rfl) (by decide) (by decide)) (g := (mkF m 113 #[iv p0, iv p1, iv p2, iv p3, iv p4, iv 1, rv b18, rv b32, .unset] [(.ref b32)])) rfl (by rw [hml]; rfl) (argsL := [(.ref b32)]) (rest := []) (lenOf pd_0 rfl) rfl (Nat.le_refl _) (hb hby at_113) (fun _ _ => ⟨rfl, e38, (by decide : 2 + 0 ≤ _), (by decide : 5 + 0 ≤ _)⟩)
    dsimp only [Pt.U, Pt.locs, Pt.cells, Pt.slots] at X39 l39 y39 z39 st39 hQ39
    subst l39 y39 z39
    obtain ⟨rfl, N39q, e39, -⟩ := hQ39
    have N39 := Fr.app N38 N39q
    have f41 := (f33.other W38 (Nat.ne_of_lt (Nat.lt_of_lt_of_le f31.lt (Nat.le_of_eq g32.symm))))
    obtain ⟨_, _, ⟨T40, L40, j40, i40⟩, -, X40, ⟨Lc40, hQ40, l40, y40, z40⟩, st40⟩ := Jvm.LawKit.callS X39 hx (y := (⟨cS0, "ok", "([DIII)Z"⟩ : MethodName)) hown (mvT hZ (own_at hw 6 rfl)) (mvT hZ (own_at hw 7 rfl)) (mvT hZ (own_at hw 8 rfl)) (mvT hZ (own_at hw 9 rfl)) (by decide) (backOf (W := 0) (rm2_00 l Z a0 hw [] b18 (1 : Int32) k18 (p1 % (8 : Int32)).toInt64 (p2 % (8 : Int32)).toInt64 (p3 % (8 : Int32)).toInt64 (p4 % (8 : Int32)).toInt64 h38 n0 (Nat.le_trans (Nat.le_trans (Nat.le_trans (Nat.le_trans (Nat.le_trans (Nat.le_trans (Nat.le_trans Z0 E18.1) (Keep.of_wr W21).1) (Keep.of_wr W24).1) (Keep.of_wr W27).1) (Keep.of_wr W30).1) E32.1) (Keep.of_wr W38).1) f41 (own_b8 p1) (own_b8 p2) (own_b8 p3) (own_b8 p4) (by decide : (0 : Int32) < (1 : Int32))) hZ (own_at hw 9 rfl) (own_at hw 8 rfl) (by decide) (by decide)) (g := (mkF m 155 #[iv p0, iv p1, iv p2, iv p3, iv p4, iv 1, rv b18, rv b32, iv 0] [(.int 0), (.int 0), (.int 1), (.ref b18)])) rfl (by rw [hml]; rfl) (argsL := [(.ref b18), (.int 1), (.int 0), (.int 0)]) (rest := []) (lenOf pd_1 rfl) rfl (Nat.le_refl _) (hb hby at_155) (fun _ _ => ⟨rfl, e39, (by decide : 2 + 0 ≤ _), (by decide : 5 + 0 ≤ _)⟩)
    dsimp only [Pt.U, Pt.locs, Pt.cells, Pt.slots] at X40 l40 y40 z40 st40 hQ40
    subst l40 y40 z40
    obtain ⟨rfl, N40q, e40⟩ := hQ40
    have N40 := Fr.app N39 N40q
    obtain ⟨_, _, ⟨T42, L42, j42, i42⟩, -, X42, ⟨Lc42, hQ42, l42, y42, z42⟩, st42⟩ := Jvm.LawKit.callS X40 hx (y := (⟨cS0, "ok", "([DIII)Z"⟩ : MethodName)) hown (mvT hZ (own_at hw 6 rfl)) (mvT hZ (own_at hw 7 rfl)) (mvT hZ (own_at hw 8 rfl)) (mvT hZ (own_at hw 9 rfl)) (by decide) (backOf (W := 0) (rm2_far l Z a0 hw [] b18 (1 : Int32) (0 : Int32) (1 : Int32) h38 n0 (Nat.le_trans (Nat.le_trans (Nat.le_trans (Nat.le_trans (Nat.le_trans (Nat.le_trans (Nat.le_trans Z0 E18.1) (Keep.of_wr W21).1) (Keep.of_wr W24).1) (Keep.of_wr W27).1) (Keep.of_wr W30).1) E32.1) (Keep.of_wr W38).1) (by decide : ¬ ((1 : Int32) < (1 : Int32)))) hZ (own_at hw 9 rfl) (own_at hw 8 rfl) (by decide) (by decide)) (g := (mkF m 168 #[iv p0, iv p1, iv p2, iv p3, iv p4, iv 1, rv b18, rv b32, iv 0] [(.int 1), (.int 0), (.int 1), (.ref b18)])) rfl (by rw [hml]; rfl) (argsL := [(.ref b18), (.int 1), (.int 0), (.int 1)]) (rest := []) (lenOf pd_1 rfl) rfl (Nat.le_refl _) (hb hby at_168) (fun _ _ => ⟨rfl, e40, (by decide : 2 + 0 ≤ _), (by decide : 5 + 0 ≤ _)⟩)
    dsimp only [Pt.U, Pt.locs, Pt.cells, Pt.slots] at X42 l42 y42 z42 st42 hQ42
    subst l42 y42 z42
    obtain ⟨rfl, N42q, e42⟩ := hQ42
    have N42 := Fr.app N40 N42q
    obtain ⟨_, _, ⟨T43, L43, j43, i43⟩, -, X43, ⟨Lc43, hQ43, l43, y43, z43⟩, st43⟩ := Jvm.LawKit.callS X42 hx (y := (⟨cS0, "ok", "([DIII)Z"⟩ : MethodName)) hown (mvT hZ (own_at hw 6 rfl)) (mvT hZ (own_at hw 7 rfl)) (mvT hZ (own_at hw 8 rfl)) (mvT hZ (own_at hw 9 rfl)) (by decide) (backOf (W := 0) (rm2_far l Z a0 hw [] b18 (1 : Int32) (0 : Int32) (2 : Int32) h38 n0 (Nat.le_trans (Nat.le_trans (Nat.le_trans (Nat.le_trans (Nat.le_trans (Nat.le_trans (Nat.le_trans Z0 E18.1) (Keep.of_wr W21).1) (Keep.of_wr W24).1) (Keep.of_wr W27).1) (Keep.of_wr W30).1) E32.1) (Keep.of_wr W38).1) (by decide : ¬ ((2 : Int32) < (1 : Int32)))) hZ (own_at hw 9 rfl) (own_at hw 8 rfl) (by decide) (by decide)) (g := (mkF m 181 #[iv p0, iv p1, iv p2, iv p3, iv p4, iv 1, rv b18, rv b32, iv 0] [(.int 2), (.int 0), (.int 1), (.ref b18)])) rfl (by rw [hml]; rfl) (argsL := [(.ref b18), (.int 1), (.int 0), (.int 2)]) (rest := []) (lenOf pd_1 rfl) rfl (Nat.le_refl _) (hb hby at_181) (fun _ _ => ⟨rfl, e42, (by decide : 2 + 0 ≤ _), (by decide : 5 + 0 ≤ _)⟩)
    dsimp only [Pt.U, Pt.locs, Pt.cells, Pt.slots] at X43 l43 y43 z43 st43 hQ43
    subst l43 y43 z43
    obtain ⟨rfl, N43q, e43⟩ := hQ43
    have N43 := Fr.app N42 N43q
    obtain ⟨_, _, ⟨T44, L44, j44, i44⟩, -, X44, ⟨Lc44, hQ44, l44, y44, z44⟩, st44⟩ := Jvm.LawKit.callS X43 hx (y := (⟨cS0, "ok", "([DIII)Z"⟩ : MethodName)) hown (mvT hZ (own_at hw 6 rfl)) (mvT hZ (own_at hw 7 rfl)) (mvT hZ (own_at hw 8 rfl)) (mvT hZ (own_at hw 9 rfl)) (by decide) (backOf (W := 0) (rm2_far l Z a0 hw [] b18 (1 : Int32) (0 : Int32) (3 : Int32) h38 n0 (Nat.le_trans (Nat.le_trans (Nat.le_trans (Nat.le_trans (Nat.le_trans (Nat.le_trans (Nat.le_trans Z0 E18.1) (Keep.of_wr W21).1) (Keep.of_wr W24).1) (Keep.of_wr W27).1) (Keep.of_wr W30).1) E32.1) (Keep.of_wr W38).1) (by decide : ¬ ((3 : Int32) < (1 : Int32)))) hZ (own_at hw 9 rfl) (own_at hw 8 rfl) (by decide) (by decide)) (g := (mkF m 194 #[iv p0, iv p1, iv p2, iv p3, iv p4, iv 1, rv b18, rv b32, iv 0] [(.int 3), (.int 0), (.int 1), (.ref b18)])) rfl (by rw [hml]; rfl) (argsL := [(.ref b18), (.int 1), (.int 0), (.int 3)]) (rest := []) (lenOf pd_1 rfl) rfl (Nat.le_refl _) (hb hby at_194) (fun _ _ => ⟨rfl, e43, (by decide : 2 + 0 ≤ _), (by decide : 5 + 0 ≤ _)⟩)
    dsimp only [Pt.U, Pt.locs, Pt.cells, Pt.slots] at X44 l44 y44 z44 st44 hQ44
    subst l44 y44 z44
    obtain ⟨rfl, N44q, e44⟩ := hQ44
    have N44 := Fr.app N43 N44q
    obtain ⟨fs, hr, hrun, hended, hW, hsame⟩ := X44.leave (v := some (.int 1)) (fun h => by rw [Bd.returns] at h; cases h)
    refine ⟨_, _, k1 _ ?_, hrun, hended, _, _, rfl, ?_, ⟨_, rfl⟩, hW, hsame.mono (by decide) (by decide)⟩
    · rw [hk]
      show OwnS p e below s₁ (mkF m 6 #[iv p0, iv p1, iv p2, iv p3, iv p4, .unset, .unset, .unset, .unset] [(.int 1)]) _
      refine XS.istore X0.here hx rfl (hb hby at_6) rfl (l' := #[iv p0, iv p1, iv p2, iv p3, iv p4, iv 1, .unset, .unset, .unset]) rfl ?_
      show OwnS p e below s₁ (mkF m 8 #[iv p0, iv p1, iv p2, iv p3, iv p4, iv 1, .unset, .unset, .unset] []) _
      refine XS.iconst X0.here hx rfl (hb hby at_8) ?_
      show OwnS p e below s₁ (mkF m 9 #[iv p0, iv p1, iv p2, iv p3, iv p4, iv 1, .unset, .unset, .unset] [(.int 4)]) _
      refine st18 _ ?_
      show OwnS p e below T18 (mkF m 11 #[iv p0, iv p1, iv p2, iv p3, iv p4, iv 1, .unset, .unset, .unset] [(.ref b18)]) _
      refine XS.astore X18.here hx rfl (hb hby at_11) rfl rfl (l' := #[iv p0, iv p1, iv p2, iv p3, iv p4, iv 1, rv b18, .unset, .unset]) rfl ?_
      show OwnS p e below T18 (mkF m 13 #[iv p0, iv p1, iv p2, iv p3, iv p4, iv 1, rv b18, .unset, .unset] []) _
      refine XS.aload X18.here hx rfl (hb hby at_13) rfl rfl ?_
      show OwnS p e below T18 (mkF m 15 #[iv p0, iv p1, iv p2, iv p3, iv p4, iv 1, rv b18, .unset, .unset] [(.ref b18)]) _
      refine XS.iconst X18.here hx rfl (hb hby at_15) ?_
      show OwnS p e below T18 (mkF m 16 #[iv p0, iv p1, iv p2, iv p3, iv p4, iv 1, rv b18, .unset, .unset] [(.int 0), (.ref b18)]) _
      refine XS.iloadN X18.here hx rfl (hb hby at_16) rfl ?_
      show OwnS p e below T18 (mkF m 17 #[iv p0, iv p1, iv p2, iv p3, iv p4, iv 1, rv b18, .unset, .unset] [(.int p1), (.int 0), (.ref b18)]) _
      refine XS.bipush X18.here hx rfl (hb hby at_17) ?_
      show OwnS p e below T18 (mkF m 19 #[iv p0, iv p1, iv p2, iv p3, iv p4, iv 1, rv b18, .unset, .unset] [(.int 8), (.int p1), (.int 0), (.ref b18)]) _
      refine iremM X18 hx (g := (mkF m 19 #[iv p0, iv p1, iv p2, iv p3, iv p4, iv 1, rv b18, .unset, .unset] [(.int 8), (.int p1), (.int 0), (.ref b18)])) rfl (hb hby at_19) rfl (by decide) ?_
      show OwnS p e below T18 (mkF m 20 #[iv p0, iv p1, iv p2, iv p3, iv p4, iv 1, rv b18, .unset, .unset] [(.int (p1 % (8 : Int32))), (.int 0), (.ref b18)]) _
      refine XS.i2dS X18.here hx rfl (hb hby at_20) rfl (i2d_w _) ?_
      show OwnS p e below T18 (mkF m 21 #[iv p0, iv p1, iv p2, iv p3, iv p4, iv 1, rv b18, .unset, .unset] [(.double (FP.l2d (p1 % (8 : Int32)).toInt64)), (.int 0), (.ref b18)]) _
      refine st21 _ ?_
      show OwnS p e below T21 (mkF m 22 #[iv p0, iv p1, iv p2, iv p3, iv p4, iv 1, rv b18, .unset, .unset] []) _
      refine XS.aload X21.here hx rfl (hb hby at_22) rfl rfl ?_
      show OwnS p e below T21 (mkF m 24 #[iv p0, iv p1, iv p2, iv p3, iv p4, iv 1, rv b18, .unset, .unset] [(.ref b18)]) _
      refine XS.iconst X21.here hx rfl (hb hby at_24) ?_
      show OwnS p e below T21 (mkF m 25 #[iv p0, iv p1, iv p2, iv p3, iv p4, iv 1, rv b18, .unset, .unset] [(.int 1), (.ref b18)]) _
      refine XS.iloadN X21.here hx rfl (hb hby at_25) rfl ?_
      show OwnS p e below T21 (mkF m 26 #[iv p0, iv p1, iv p2, iv p3, iv p4, iv 1, rv b18, .unset, .unset] [(.int p2), (.int 1), (.ref b18)]) _
      refine XS.bipush X21.here hx rfl (hb hby at_26) ?_
      show OwnS p e below T21 (mkF m 28 #[iv p0, iv p1, iv p2, iv p3, iv p4, iv 1, rv b18, .unset, .unset] [(.int 8), (.int p2), (.int 1), (.ref b18)]) _
      refine iremM X21 hx (g := (mkF m 28 #[iv p0, iv p1, iv p2, iv p3, iv p4, iv 1, rv b18, .unset, .unset] [(.int 8), (.int p2), (.int 1), (.ref b18)])) rfl (hb hby at_28) rfl (by decide) ?_
      show OwnS p e below T21 (mkF m 29 #[iv p0, iv p1, iv p2, iv p3, iv p4, iv 1, rv b18, .unset, .unset] [(.int (p2 % (8 : Int32))), (.int 1), (.ref b18)]) _
      refine XS.i2dS X21.here hx rfl (hb hby at_29) rfl (i2d_w _) ?_
      show OwnS p e below T21 (mkF m 30 #[iv p0, iv p1, iv p2, iv p3, iv p4, iv 1, rv b18, .unset, .unset] [(.double (FP.l2d (p2 % (8 : Int32)).toInt64)), (.int 1), (.ref b18)]) _
      refine st24 _ ?_
      show OwnS p e below T24 (mkF m 31 #[iv p0, iv p1, iv p2, iv p3, iv p4, iv 1, rv b18, .unset, .unset] []) _
      refine XS.aload X24.here hx rfl (hb hby at_31) rfl rfl ?_
      show OwnS p e below T24 (mkF m 33 #[iv p0, iv p1, iv p2, iv p3, iv p4, iv 1, rv b18, .unset, .unset] [(.ref b18)]) _
      refine XS.iconst X24.here hx rfl (hb hby at_33) ?_
      show OwnS p e below T24 (mkF m 34 #[iv p0, iv p1, iv p2, iv p3, iv p4, iv 1, rv b18, .unset, .unset] [(.int 2), (.ref b18)]) _
      refine XS.iloadN X24.here hx rfl (hb hby at_34) rfl ?_
      show OwnS p e below T24 (mkF m 35 #[iv p0, iv p1, iv p2, iv p3, iv p4, iv 1, rv b18, .unset, .unset] [(.int p3), (.int 2), (.ref b18)]) _
      refine XS.bipush X24.here hx rfl (hb hby at_35) ?_
      show OwnS p e below T24 (mkF m 37 #[iv p0, iv p1, iv p2, iv p3, iv p4, iv 1, rv b18, .unset, .unset] [(.int 8), (.int p3), (.int 2), (.ref b18)]) _
      refine iremM X24 hx (g := (mkF m 37 #[iv p0, iv p1, iv p2, iv p3, iv p4, iv 1, rv b18, .unset, .unset] [(.int 8), (.int p3), (.int 2), (.ref b18)])) rfl (hb hby at_37) rfl (by decide) ?_
      show OwnS p e below T24 (mkF m 38 #[iv p0, iv p1, iv p2, iv p3, iv p4, iv 1, rv b18, .unset, .unset] [(.int (p3 % (8 : Int32))), (.int 2), (.ref b18)]) _
      refine XS.i2dS X24.here hx rfl (hb hby at_38) rfl (i2d_w _) ?_
      show OwnS p e below T24 (mkF m 39 #[iv p0, iv p1, iv p2, iv p3, iv p4, iv 1, rv b18, .unset, .unset] [(.double (FP.l2d (p3 % (8 : Int32)).toInt64)), (.int 2), (.ref b18)]) _
      refine st27 _ ?_
      show OwnS p e below T27 (mkF m 40 #[iv p0, iv p1, iv p2, iv p3, iv p4, iv 1, rv b18, .unset, .unset] []) _
      refine XS.aload X27.here hx rfl (hb hby at_40) rfl rfl ?_
      show OwnS p e below T27 (mkF m 42 #[iv p0, iv p1, iv p2, iv p3, iv p4, iv 1, rv b18, .unset, .unset] [(.ref b18)]) _
      refine XS.iconst X27.here hx rfl (hb hby at_42) ?_
      show OwnS p e below T27 (mkF m 43 #[iv p0, iv p1, iv p2, iv p3, iv p4, iv 1, rv b18, .unset, .unset] [(.int 3), (.ref b18)]) _
      refine XS.iload X27.here hx rfl (hb hby at_43) rfl ?_
      show OwnS p e below T27 (mkF m 45 #[iv p0, iv p1, iv p2, iv p3, iv p4, iv 1, rv b18, .unset, .unset] [(.int p4), (.int 3), (.ref b18)]) _
      refine XS.bipush X27.here hx rfl (hb hby at_45) ?_
      show OwnS p e below T27 (mkF m 47 #[iv p0, iv p1, iv p2, iv p3, iv p4, iv 1, rv b18, .unset, .unset] [(.int 8), (.int p4), (.int 3), (.ref b18)]) _
      refine iremM X27 hx (g := (mkF m 47 #[iv p0, iv p1, iv p2, iv p3, iv p4, iv 1, rv b18, .unset, .unset] [(.int 8), (.int p4), (.int 3), (.ref b18)])) rfl (hb hby at_47) rfl (by decide) ?_
      show OwnS p e below T27 (mkF m 48 #[iv p0, iv p1, iv p2, iv p3, iv p4, iv 1, rv b18, .unset, .unset] [(.int (p4 % (8 : Int32))), (.int 3), (.ref b18)]) _
      refine XS.i2dS X27.here hx rfl (hb hby at_48) rfl (i2d_w _) ?_
      show OwnS p e below T27 (mkF m 49 #[iv p0, iv p1, iv p2, iv p3, iv p4, iv 1, rv b18, .unset, .unset] [(.double (FP.l2d (p4 % (8 : Int32)).toInt64)), (.int 3), (.ref b18)]) _
      refine st30 _ ?_
      show OwnS p e below T30 (mkF m 50 #[iv p0, iv p1, iv p2, iv p3, iv p4, iv 1, rv b18, .unset, .unset] []) _
      refine XS.iload X30.here hx rfl (hb hby at_50) rfl ?_
      show OwnS p e below T30 (mkF m 52 #[iv p0, iv p1, iv p2, iv p3, iv p4, iv 1, rv b18, .unset, .unset] [(.int 1)]) _
      refine st32 _ ?_
      show OwnS p e below T32 (mkF m 54 #[iv p0, iv p1, iv p2, iv p3, iv p4, iv 1, rv b18, .unset, .unset] [(.ref b32)]) _
      refine XS.astore X32.here hx rfl (hb hby at_54) rfl rfl (l' := #[iv p0, iv p1, iv p2, iv p3, iv p4, iv 1, rv b18, rv b32, .unset]) rfl ?_
      show OwnS p e below T32 (mkF m 56 #[iv p0, iv p1, iv p2, iv p3, iv p4, iv 1, rv b18, rv b32, .unset] []) _
      refine XS.iload X32.here hx rfl (hb hby at_56) rfl ?_
      show OwnS p e below T32 (mkF m 58 #[iv p0, iv p1, iv p2, iv p3, iv p4, iv 1, rv b18, rv b32, .unset] [(.int 1)]) _
      refine XS.ifNo X32.here hx rfl (hb hby at_58) rfl ((if0 _ _).trans (tlt (by decide : (0 : Int32) < (1 : Int32))).2.2.2) ?_
      show OwnS p e below T32 (mkF m 61 #[iv p0, iv p1, iv p2, iv p3, iv p4, iv 1, rv b18, rv b32, .unset] []) _
      refine XS.aload X32.here hx rfl (hb hby at_61) rfl rfl ?_
      show OwnS p e below T32 (mkF m 63 #[iv p0, iv p1, iv p2, iv p3, iv p4, iv 1, rv b18, rv b32, .unset] [(.ref b32)]) _
      refine XS.iconst X32.here hx rfl (hb hby at_63) ?_
      show OwnS p e below T32 (mkF m 64 #[iv p0, iv p1, iv p2, iv p3, iv p4, iv 1, rv b18, rv b32, .unset] [(.int 0), (.ref b32)]) _
      refine XS.aload X32.here hx rfl (hb hby at_64) rfl rfl ?_
      show OwnS p e below T32 (mkF m 66 #[iv p0, iv p1, iv p2, iv p3, iv p4, iv 1, rv b18, rv b32, .unset] [(.ref b18), (.int 0), (.ref b32)]) _
      refine XS.iconst X32.here hx rfl (hb hby at_66) ?_
      show OwnS p e below T32 (mkF m 67 #[iv p0, iv p1, iv p2, iv p3, iv p4, iv 1, rv b18, rv b32, .unset] [(.int 0), (.ref b18), (.int 0), (.ref b32)]) _
      refine X32.daload hx (j := (0 : Int32)) (v := (.double (FP.l2d (p1 % (8 : Int32)).toInt64))) (by rw [e32]; exact Ar_z34.1) (State.isArrayOf_alike hZ.alike Ar_z34.2.1) Ar_z34.2.2 hin35 (Has.at H_z34 hin35 rfl) (g := (mkF m 67 #[iv p0, iv p1, iv p2, iv p3, iv p4, iv 1, rv b18, rv b32, .unset] [(.int 0), (.ref b18), (.int 0), (.ref b32)])) rfl rfl (hb hby at_67) _ ?_
      show OwnS p e below T32 (mkF m 68 #[iv p0, iv p1, iv p2, iv p3, iv p4, iv 1, rv b18, rv b32, .unset] [(.double (FP.l2d (p1 % (8 : Int32)).toInt64)), (.int 0), (.ref b32)]) _
      refine st38 _ ?_
      show OwnS p e below T38 (mkF m 69 #[iv p0, iv p1, iv p2, iv p3, iv p4, iv 1, rv b18, rv b32, .unset] []) _
      refine XS.iload X38.here hx rfl (hb hby at_69) rfl ?_
      show OwnS p e below T38 (mkF m 71 #[iv p0, iv p1, iv p2, iv p3, iv p4, iv 1, rv b18, rv b32, .unset] [(.int 1)]) _
      refine XS.iconst X38.here hx rfl (hb hby at_71) ?_
      show OwnS p e below T38 (mkF m 72 #[iv p0, iv p1, iv p2, iv p3, iv p4, iv 1, rv b18, rv b32, .unset] [(.int 1), (.int 1)]) _
      refine XS.icmpYes X38.here hx rfl (pc0 := 72) (pc' := 83) rfl (hb hby at_72) rfl (flt (by decide : ¬ ((1 : Int32) < (1 : Int32)))).2.2.2 (by decide) (by decide) ?_
      show OwnS p e below T38 (mkF m 83 #[iv p0, iv p1, iv p2, iv p3, iv p4, iv 1, rv b18, rv b32, .unset] []) _
      refine XS.iload X38.here hx rfl (hb hby at_83) rfl ?_
      show OwnS p e below T38 (mkF m 85 #[iv p0, iv p1, iv p2, iv p3, iv p4, iv 1, rv b18, rv b32, .unset] [(.int 1)]) _
      refine XS.iconst X38.here hx rfl (hb hby at_85) ?_
      show OwnS p e below T38 (mkF m 86 #[iv p0, iv p1, iv p2, iv p3, iv p4, iv 1, rv b18, rv b32, .unset] [(.int 2), (.int 1)]) _
      refine XS.icmpYes X38.here hx rfl (pc0 := 86) (pc' := 97) rfl (hb hby at_86) rfl (flt (by decide : ¬ ((2 : Int32) < (1 : Int32)))).2.2.2 (by decide) (by decide) ?_
      show OwnS p e below T38 (mkF m 97 #[iv p0, iv p1, iv p2, iv p3, iv p4, iv 1, rv b18, rv b32, .unset] []) _
      refine XS.iload X38.here hx rfl (hb hby at_97) rfl ?_
      show OwnS p e below T38 (mkF m 99 #[iv p0, iv p1, iv p2, iv p3, iv p4, iv 1, rv b18, rv b32, .unset] [(.int 1)]) _
      refine XS.iconst X38.here hx rfl (hb hby at_99) ?_
      show OwnS p e below T38 (mkF m 100 #[iv p0, iv p1, iv p2, iv p3, iv p4, iv 1, rv b18, rv b32, .unset] [(.int 3), (.int 1)]) _
      refine XS.icmpYes X38.here hx rfl (pc0 := 100) (pc' := 111) rfl (hb hby at_100) rfl (flt (by decide : ¬ ((3 : Int32) < (1 : Int32)))).2.2.2 (by decide) (by decide) ?_
      show OwnS p e below T38 (mkF m 111 #[iv p0, iv p1, iv p2, iv p3, iv p4, iv 1, rv b18, rv b32, .unset] []) _
      refine XS.aload X38.here hx rfl (hb hby at_111) rfl rfl ?_
      show OwnS p e below T38 (mkF m 113 #[iv p0, iv p1, iv p2, iv p3, iv p4, iv 1, rv b18, rv b32, .unset] [(.ref b32)]) _
      refine st39 _ ?_
      show OwnS p e below T39 (mkF m 116 #[iv p0, iv p1, iv p2, iv p3, iv p4, iv 1, rv b18, rv b32, .unset] [(.int 0)]) _
      refine XS.istore X39.here hx rfl (hb hby at_116) rfl (l' := #[iv p0, iv p1, iv p2, iv p3, iv p4, iv 1, rv b18, rv b32, iv 0]) rfl ?_
      show OwnS p e below T39 (mkF m 118 #[iv p0, iv p1, iv p2, iv p3, iv p4, iv 1, rv b18, rv b32, iv 0] []) _
      refine XS.iload X39.here hx rfl (hb hby at_118) rfl ?_
      show OwnS p e below T39 (mkF m 120 #[iv p0, iv p1, iv p2, iv p3, iv p4, iv 1, rv b18, rv b32, iv 0] [(.int 1)]) _
      refine XS.ifYes X39.here hx rfl (pc0 := 120) (pc' := 134) rfl (hb hby at_120) rfl ((if0 _ _).trans (feq (by decide : ¬ ((1 : Int32) = (0 : Int32)))).2) (by decide) (by decide) ?_
      show OwnS p e below T39 (mkF m 134 #[iv p0, iv p1, iv p2, iv p3, iv p4, iv 1, rv b18, rv b32, iv 0] []) _
      refine XS.iload X39.here hx rfl (hb hby at_134) rfl ?_
      show OwnS p e below T39 (mkF m 136 #[iv p0, iv p1, iv p2, iv p3, iv p4, iv 1, rv b18, rv b32, iv 0] [(.int 0)]) _
      refine XS.ifNo X39.here hx rfl (hb hby at_136) rfl ((if0 _ _).trans (flt (by decide : ¬ ((0 : Int32) < (0 : Int32)))).1) ?_
      show OwnS p e below T39 (mkF m 139 #[iv p0, iv p1, iv p2, iv p3, iv p4, iv 1, rv b18, rv b32, iv 0] []) _
      refine XS.iload X39.here hx rfl (hb hby at_139) rfl ?_
      show OwnS p e below T39 (mkF m 141 #[iv p0, iv p1, iv p2, iv p3, iv p4, iv 1, rv b18, rv b32, iv 0] [(.int 0)]) _
      refine XS.iload X39.here hx rfl (hb hby at_141) rfl ?_
      show OwnS p e below T39 (mkF m 143 #[iv p0, iv p1, iv p2, iv p3, iv p4, iv 1, rv b18, rv b32, iv 0] [(.int 1), (.int 0)]) _
      refine XS.icmpYes X39.here hx rfl (pc0 := 143) (pc' := 148) rfl (hb hby at_143) rfl (tlt (by decide : (0 : Int32) < (1 : Int32))).1 (by decide) (by decide) ?_
      show OwnS p e below T39 (mkF m 148 #[iv p0, iv p1, iv p2, iv p3, iv p4, iv 1, rv b18, rv b32, iv 0] []) _
      refine XS.aload X39.here hx rfl (hb hby at_148) rfl rfl ?_
      show OwnS p e below T39 (mkF m 150 #[iv p0, iv p1, iv p2, iv p3, iv p4, iv 1, rv b18, rv b32, iv 0] [(.ref b18)]) _
      refine XS.iload X39.here hx rfl (hb hby at_150) rfl ?_
      show OwnS p e below T39 (mkF m 152 #[iv p0, iv p1, iv p2, iv p3, iv p4, iv 1, rv b18, rv b32, iv 0] [(.int 1), (.ref b18)]) _
      refine XS.iload X39.here hx rfl (hb hby at_152) rfl ?_
      show OwnS p e below T39 (mkF m 154 #[iv p0, iv p1, iv p2, iv p3, iv p4, iv 1, rv b18, rv b32, iv 0] [(.int 0), (.int 1), (.ref b18)]) _
      refine XS.iconst X39.here hx rfl (hb hby at_154) ?_
      show OwnS p e below T39 (mkF m 155 #[iv p0, iv p1, iv p2, iv p3, iv p4, iv 1, rv b18, rv b32, iv 0] [(.int 0), (.int 0), (.int 1), (.ref b18)]) _
      refine st40 _ ?_
      show OwnS p e below T40 (mkF m 158 #[iv p0, iv p1, iv p2, iv p3, iv p4, iv 1, rv b18, rv b32, iv 0] [(.int 1)]) _
      refine XS.ifNo X40.here hx rfl (hb hby at_158) rfl ((if0 _ _).trans (feq (by decide : ¬ ((1 : Int32) = (0 : Int32)))).1) ?_
      show OwnS p e below T40 (mkF m 161 #[iv p0, iv p1, iv p2, iv p3, iv p4, iv 1, rv b18, rv b32, iv 0] []) _
      refine XS.aload X40.here hx rfl (hb hby at_161) rfl rfl ?_
      show OwnS p e below T40 (mkF m 163 #[iv p0, iv p1, iv p2, iv p3, iv p4, iv 1, rv b18, rv b32, iv 0] [(.ref b18)]) _
      refine XS.iload X40.here hx rfl (hb hby at_163) rfl ?_
      show OwnS p e below T40 (mkF m 165 #[iv p0, iv p1, iv p2, iv p3, iv p4, iv 1, rv b18, rv b32, iv 0] [(.int 1), (.ref b18)]) _
      refine XS.iload X40.here hx rfl (hb hby at_165) rfl ?_
      show OwnS p e below T40 (mkF m 167 #[iv p0, iv p1, iv p2, iv p3, iv p4, iv 1, rv b18, rv b32, iv 0] [(.int 0), (.int 1), (.ref b18)]) _
      refine XS.iconst X40.here hx rfl (hb hby at_167) ?_
      show OwnS p e below T40 (mkF m 168 #[iv p0, iv p1, iv p2, iv p3, iv p4, iv 1, rv b18, rv b32, iv 0] [(.int 1), (.int 0), (.int 1), (.ref b18)]) _
      refine st42 _ ?_
      show OwnS p e below T42 (mkF m 171 #[iv p0, iv p1, iv p2, iv p3, iv p4, iv 1, rv b18, rv b32, iv 0] [(.int 1)]) _
      refine XS.ifNo X42.here hx rfl (hb hby at_171) rfl ((if0 _ _).trans (feq (by decide : ¬ ((1 : Int32) = (0 : Int32)))).1) ?_
      show OwnS p e below T42 (mkF m 174 #[iv p0, iv p1, iv p2, iv p3, iv p4, iv 1, rv b18, rv b32, iv 0] []) _
      refine XS.aload X42.here hx rfl (hb hby at_174) rfl rfl ?_
      show OwnS p e below T42 (mkF m 176 #[iv p0, iv p1, iv p2, iv p3, iv p4, iv 1, rv b18, rv b32, iv 0] [(.ref b18)]) _
      refine XS.iload X42.here hx rfl (hb hby at_176) rfl ?_
      show OwnS p e below T42 (mkF m 178 #[iv p0, iv p1, iv p2, iv p3, iv p4, iv 1, rv b18, rv b32, iv 0] [(.int 1), (.ref b18)]) _
      refine XS.iload X42.here hx rfl (hb hby at_178) rfl ?_
      show OwnS p e below T42 (mkF m 180 #[iv p0, iv p1, iv p2, iv p3, iv p4, iv 1, rv b18, rv b32, iv 0] [(.int 0), (.int 1), (.ref b18)]) _
      refine XS.iconst X42.here hx rfl (hb hby at_180) ?_
      show OwnS p e below T42 (mkF m 181 #[iv p0, iv p1, iv p2, iv p3, iv p4, iv 1, rv b18, rv b32, iv 0] [(.int 2), (.int 0), (.int 1), (.ref b18)]) _
      refine st43 _ ?_
      show OwnS p e below T43 (mkF m 184 #[iv p0, iv p1, iv p2, iv p3, iv p4, iv 1, rv b18, rv b32, iv 0] [(.int 1)]) _
      refine XS.ifNo X43.here hx rfl (hb hby at_184) rfl ((if0 _ _).trans (feq (by decide : ¬ ((1 : Int32) = (0 : Int32)))).1) ?_
      show OwnS p e below T43 (mkF m 187 #[iv p0, iv p1, iv p2, iv p3, iv p4, iv 1, rv b18, rv b32, iv 0] []) _
      refine XS.aload X43.here hx rfl (hb hby at_187) rfl rfl ?_
      show OwnS p e below T43 (mkF m 189 #[iv p0, iv p1, iv p2, iv p3, iv p4, iv 1, rv b18, rv b32, iv 0] [(.ref b18)]) _
      refine XS.iload X43.here hx rfl (hb hby at_189) rfl ?_
      show OwnS p e below T43 (mkF m 191 #[iv p0, iv p1, iv p2, iv p3, iv p4, iv 1, rv b18, rv b32, iv 0] [(.int 1), (.ref b18)]) _
      refine XS.iload X43.here hx rfl (hb hby at_191) rfl ?_
      show OwnS p e below T43 (mkF m 193 #[iv p0, iv p1, iv p2, iv p3, iv p4, iv 1, rv b18, rv b32, iv 0] [(.int 0), (.int 1), (.ref b18)]) _
      refine XS.iconst X43.here hx rfl (hb hby at_193) ?_
      show OwnS p e below T43 (mkF m 194 #[iv p0, iv p1, iv p2, iv p3, iv p4, iv 1, rv b18, rv b32, iv 0] [(.int 3), (.int 0), (.int 1), (.ref b18)]) _
      refine st44 _ ?_
      show OwnS p e below T44 (mkF m 197 #[iv p0, iv p1, iv p2, iv p3, iv p4, iv 1, rv b18, rv b32, iv 0] [(.int 1)]) _
      refine XS.ifNo X44.here hx rfl (hb hby at_197) rfl ((if0 _ _).trans (feq (by decide : ¬ ((1 : Int32) = (0 : Int32)))).1) ?_
      show OwnS p e below T44 (mkF m 200 #[iv p0, iv p1, iv p2, iv p3, iv p4, iv 1, rv b18, rv b32, iv 0] []) _
      refine XS.iconst X44.here hx rfl (hb hby at_200) ?_
      show OwnS p e below T44 (mkF m 201 #[iv p0, iv p1, iv p2, iv p3, iv p4, iv 1, rv b18, rv b32, iv 0] [(.int 1)]) _
      refine XS.goto X44.here hx rfl (pc0 := 201) (pc' := 205) rfl (hb hby at_201) (by decide) (by decide) ?_
      show OwnS p e below T44 (mkF m 205 #[iv p0, iv p1, iv p2, iv p3, iv p4, iv 1, rv b18, rv b32, iv 0] [(.int 1)]) _
      exact retN X44 hx (t := .boolean) Bd.returns (by simp) (hb hby at_205) hr
    · show Q_0 Z p0 p1 p2 p3 p4 h0 n0 _ T44.heap _
      rw [e44]
      exact ⟨rfl, N44, trivial⟩
  · obtain ⟨T45, h45, k45, X45, e45, E45, A45, EA45, st45⟩ := newPE X0 hx hZ (own_at hw 1 rfl) e0 (g := (mkF m 9 #[iv p0, iv p1, iv p2, iv p3, iv p4, iv 2, .unset, .unset, .unset] [(.int 4)])) rfl (hb hby at_9) rfl (by decide) (cap := 4) (by decide) (by decide) (by decide) (by decide) (ad := "[D") (by decide)
    obtain ⟨b45, g45⟩ : ∃ z, z = h0.size := ⟨_, rfl⟩
    rw [← g45] at A45 EA45 st45
    have g_b45 : n0 ≤ b45 := Nat.le_trans Z0 (Nat.le_of_eq g45.symm)
    have sz_b45 : h0.size ≤ b45 := Nat.le_trans (Keep.refl h0 []).1 (Nat.le_of_eq g45.symm)
    have V_b45 : Arv Z h45 b45 k45 .double (4 : Int32) [(.double (FP.l2d (0 : Int64))), (.double (FP.l2d (0 : Int64))), (.double (FP.l2d (0 : Int64))), (.double (FP.l2d (0 : Int64)))] (.double (FP.l2d (0 : Int64))) := (Arv.newD A45 (by decide)).pad (pad_rep [] (.double (FP.l2d (0 : Int64))) 4)
    obtain ⟨cl_z46, Ar_z46, q_z46, S_z46, N_z46, H_z46, G_z46⟩ := id V_b45
    have hin47 : ¬ ((0 : Int32) < 0 ∨ cl_z46.slots.size ≤ ((0 : Int32)).toNatClampNeg) := inb_of S_z46 ⟨by decide, by decide⟩
    obtain ⟨T48, h48, X48, e48, W48, st48⟩ := stD X45 hx hZ e45 Ar_z46 (j := (0 : Int32)) hin47 (g := (mkF m 21 #[iv p0, iv p1, iv p2, iv p3, iv p4, iv 2, rv b45, .unset, .unset] [(.double (FP.l2d (p1 % (8 : Int32)).toInt64)), (.int 0), (.ref b45)])) rfl rfl (hb hby at_21)
    have V48 : Arv Z h48 b45 k45 .double (4 : Int32) [(.double (FP.l2d (p1 % (8 : Int32)).toInt64)), (.double (FP.l2d (0 : Int64))), (.double (FP.l2d (0 : Int64))), (.double (FP.l2d (0 : Int64)))] (.double (FP.l2d (0 : Int64))) := Arv.set Ar_z46 q_z46 S_z46 N_z46 H_z46 G_z46 rfl W48 0 rfl (Nat.le_of_ble_eq_true rfl)
    have N48 := Fr.snoc X48 N0 g_b45
    obtain ⟨cl_z49, Ar_z49, q_z49, S_z49, N_z49, H_z49, G_z49⟩ := id V48
    have hin50 : ¬ ((1 : Int32) < 0 ∨ cl_z49.slots.size ≤ ((1 : Int32)).toNatClampNeg) := inb_of S_z49 ⟨by decide, by decide⟩
    obtain ⟨T51, h51, X51, e51, W51, st51⟩ := stD X48 hx hZ e48 Ar_z49 (j := (1 : Int32)) hin50 (g := (mkF m 30 #[iv p0, iv p1, iv p2, iv p3, iv p4, iv 2, rv b45, .unset, .unset] [(.double (FP.l2d (p2 % (8 : Int32)).toInt64)), (.int 1), (.ref b45)])) rfl rfl (hb hby at_30)
    have V51 : Arv Z h51 b45 k45 .double (4 : Int32) [(.double (FP.l2d (p1 % (8 : Int32)).toInt64)), (.double (FP.l2d (p2 % (8 : Int32)).toInt64)), (.double (FP.l2d (0 : Int64))), (.double (FP.l2d (0 : Int64)))] (.double (FP.l2d (0 : Int64))) := Arv.set Ar_z49 q_z49 S_z49 N_z49 H_z49 G_z49 rfl W51 1 rfl (Nat.le_of_ble_eq_true rfl)
    have N51 := Fr.snoc X51 N48 g_b45
    obtain ⟨cl_z52, Ar_z52, q_z52, S_z52, N_z52, H_z52, G_z52⟩ := id V51
    have hin53 : ¬ ((2 : Int32) < 0 ∨ cl_z52.slots.size ≤ ((2 : Int32)).toNatClampNeg) := inb_of S_z52 ⟨by decide, by decide⟩
    obtain ⟨T54, h54, X54, e54, W54, st54⟩ := stD X51 hx hZ e51 Ar_z52 (j := (2 : Int32)) hin53 (g := (mkF m 39 #[iv p0, iv p1, iv p2, iv p3, iv p4, iv 2, rv b45, .unset, .unset] [(.double (FP.l2d (p3 % (8 : Int32)).toInt64)), (.int 2), (.ref b45)])) rfl rfl (hb hby at_39)
    have V54 : Arv Z h54 b45 k45 .double (4 : Int32) [(.double (FP.l2d (p1 % (8 : Int32)).toInt64)), (.double (FP.l2d (p2 % (8 : Int32)).toInt64)), (.double (FP.l2d (p3 % (8 : Int32)).toInt64)), (.double (FP.l2d (0 : Int64)))] (.double (FP.l2d (0 : Int64))) := Arv.set Ar_z52 q_z52 S_z52 N_z52 H_z52 G_z52 rfl W54 2 rfl (Nat.le_of_ble_eq_true rfl)
    have N54 := Fr.snoc X54 N51 g_b45
    obtain ⟨cl_z55, Ar_z55, q_z55, S_z55, N_z55, H_z55, G_z55⟩ := id V54
    have hin56 : ¬ ((3 : Int32) < 0 ∨ cl_z55.slots.size ≤ ((3 : Int32)).toNatClampNeg) := inb_of S_z55 ⟨by decide, by decide⟩
    obtain ⟨T57, h57, X57, e57, W57, st57⟩ := stD X54 hx hZ e54 Ar_z55 (j := (3 : Int32)) hin56 (g := (mkF m 49 #[iv p0, iv p1, iv p2, iv p3, iv p4, iv 2, rv b45, .unset, .unset] [(.double (FP.l2d (p4 % (8 : Int32)).toInt64)), (.int 3), (.ref b45)])) rfl rfl (hb hby at_49)
    have V57 : Arv Z h57 b45 k45 .double (4 : Int32) [(.double (FP.l2d (p1 % (8 : Int32)).toInt64)), (.double (FP.l2d (p2 % (8 : Int32)).toInt64)), (.double (FP.l2d (p3 % (8 : Int32)).toInt64)), (.double (FP.l2d (p4 % (8 : Int32)).toInt64))] (.double (FP.l2d (0 : Int64))) := Arv.set Ar_z55 q_z55 S_z55 N_z55 H_z55 G_z55 rfl W57 3 rfl (Nat.le_of_ble_eq_true rfl)
    have N57 := Fr.snoc X57 N54 g_b45
    have f58 := ((((EA45.wr W48).wr W51).wr W54).wr W57)
    obtain ⟨T59, h59, k59, X59, e59, E59, A59, EA59, st59⟩ := newPE X57 hx hZ (own_at hw 1 rfl) e57 (g := (mkF m 52 #[iv p0, iv p1, iv p2, iv p3, iv p4, iv 2, rv b45, .unset, .unset] [(.int 2)])) rfl (hb hby at_52) rfl (by decide) (cap := 2) (by decide) (by decide) (by decide) (by decide) (ad := "[D") (by decide)
    obtain ⟨b59, g59⟩ : ∃ z, z = h57.size := ⟨_, rfl⟩
    rw [← g59] at A59 EA59 st59
    have g_b59 : n0 ≤ b59 := Nat.le_trans (Nat.le_trans (Nat.le_trans (Nat.le_trans (Nat.le_trans (Nat.le_trans Z0 E45.1) (Keep.of_wr W48).1) (Keep.of_wr W51).1) (Keep.of_wr W54).1) (Keep.of_wr W57).1) (Nat.le_of_eq g59.symm)
    have sz_b59 : h0.size ≤ b59 := Nat.le_trans ((((((Keep.refl h0 []).ext E45).wr W48 (Or.inr sz_b45)).wr W51 (Or.inr sz_b45)).wr W54 (Or.inr sz_b45)).wr W57 (Or.inr sz_b45)).1 (Nat.le_of_eq g59.symm)
    have V_b59 : Arv Z h59 b59 k59 .double (2 : Int32) [(.double (FP.l2d (0 : Int64))), (.double (FP.l2d (0 : Int64)))] (.double (FP.l2d (0 : Int64))) := (Arv.newD A59 (by decide)).pad (pad_rep [] (.double (FP.l2d (0 : Int64))) 2)
    have f60 := (V57.ext E59)
    obtain ⟨cl_z61, Ar_z61, q_z61, S_z61, N_z61, H_z61, G_z61⟩ := id f60
    have hin62 : ¬ ((0 : Int32) < 0 ∨ cl_z61.slots.size ≤ ((0 : Int32)).toNatClampNeg) := inb_of S_z61 ⟨by decide, by decide⟩
    obtain ⟨cl_z63, Ar_z63, q_z63, S_z63, N_z63, H_z63, G_z63⟩ := id V_b59
    have hin64 : ¬ ((0 : Int32) < 0 ∨ cl_z63.slots.size ≤ ((0 : Int32)).toNatClampNeg) := inb_of S_z63 ⟨by decide, by decide⟩
    obtain ⟨T65, h65, X65, e65, W65, st65⟩ := stD X59 hx hZ e59 Ar_z63 (j := (0 : Int32)) hin64 (g := (mkF m 68 #[iv p0, iv p1, iv p2, iv p3, iv p4, iv 2, rv b45, rv b59, .unset] [(.double (FP.l2d (p1 % (8 : Int32)).toInt64)), (.int 0), (.ref b59)])) rfl rfl (hb hby at_68)
    have V65 : Arv Z h65 b59 k59 .double (2 : Int32) [(.double (FP.l2d (p1 % (8 : Int32)).toInt64)), (.double (FP.l2d (0 : Int64)))] (.double (FP.l2d (0 : Int64))) := Arv.set Ar_z63 q_z63 S_z63 N_z63 H_z63 G_z63 rfl W65 0 rfl (Nat.le_of_ble_eq_true rfl)
    have N65 := Fr.snoc X65 N57 g_b59
    have f66 := (f60.other W65 (Nat.ne_of_lt (Nat.lt_of_lt_of_le f58.lt (Nat.le_of_eq g59.symm))))
    obtain ⟨cl_z67, Ar_z67, q_z67, S_z67, N_z67, H_z67, G_z67⟩ := id f66
    have hin68 : ¬ ((1 : Int32) < 0 ∨ cl_z67.slots.size ≤ ((1 : Int32)).toNatClampNeg) := inb_of S_z67 ⟨by decide, by decide⟩
    obtain ⟨cl_z69, Ar_z69, q_z69, S_z69, N_z69, H_z69, G_z69⟩ := id V65
    have hin70 : ¬ ((1 : Int32) < 0 ∨ cl_z69.slots.size ≤ ((1 : Int32)).toNatClampNeg) := inb_of S_z69 ⟨by decide, by decide⟩
    obtain ⟨T71, h71, X71, e71, W71, st71⟩ := stD X65 hx hZ e65 Ar_z69 (j := (1 : Int32)) hin70 (g := (mkF m 82 #[iv p0, iv p1, iv p2, iv p3, iv p4, iv 2, rv b45, rv b59, .unset] [(.double (FP.l2d (p2 % (8 : Int32)).toInt64)), (.int 1), (.ref b59)])) rfl rfl (hb hby at_82)
    have V71 : Arv Z h71 b59 k59 .double (2 : Int32) [(.double (FP.l2d (p1 % (8 : Int32)).toInt64)), (.double (FP.l2d (p2 % (8 : Int32)).toInt64))] (.double (FP.l2d (0 : Int64))) := Arv.set Ar_z69 q_z69 S_z69 N_z69 H_z69 G_z69 rfl W71 1 rfl (Nat.le_of_ble_eq_true rfl)
    have N71 := Fr.snoc X71 N65 g_b59
    obtain ⟨_, _, ⟨T72, L72, j72, i72⟩, -, X72, ⟨Lc72, hQ72, l72, y72, z72⟩, st72⟩ := Jvm.LawKit.callS X71 hx (y := (⟨cS1, "bestClass", "([D)I"⟩ : MethodName)) hown (mvT hZ (own_at hw 2 rfl)) (mvT hZ (own_at hw 3 rfl)) (mvT hZ (own_at hw 4 rfl)) (mvT hZ (own_at hw 5 rfl)) (by decide) (backOf (W := 0) (rm1_2 l Z a0 hw [] b59 k59 (p1 % (8 : Int32)).toInt64 (p2 % (8 : Int32)).toInt64 h71 n0 (Nat.le_trans (Nat.le_trans (Nat.le_trans (Nat.le_trans (Nat.le_trans (Nat.le_trans (Nat.le_trans (Nat.le_trans Z0 E45.1) (Keep.of_wr W48).1) (Keep.of_wr W51).1) (Keep.of_wr W54).1) (Keep.of_wr W57).1) E59.1) (Keep.of_wr W65).1) (Keep.of_wr W71).1) V71 (own_b8 p1) (own_b8 p2)) hZ (own_at hw 5 rfl) (own_at hw 4 rfl) (by decide) (by decide)) (g := (mkF m 113 #[iv p0, iv p1, iv p2, iv p3, iv p4, iv 2, rv b45, rv b59, .unset] [(.ref b59)])) rfl (by rw [hml]; rfl) (argsL := [(.ref b59)]) (rest := []) (lenOf pd_0 rfl) rfl (Nat.le_refl _) (hb hby at_113) (fun _ _ => ⟨rfl, e71, (by decide : 2 + 0 ≤ _), (by decide : 6 + 0 ≤ _)⟩)
    dsimp only [Pt.U, Pt.locs, Pt.cells, Pt.slots] at X72 l72 y72 z72 st72 hQ72
    subst l72 y72 z72
    have k73 : ∀ t, OwnS p e below T71 (mkF m 113 #[iv p0, iv p1, iv p2, iv p3, iv p4, iv 2, rv b45, rv b59, .unset] [(.ref b59)]) t → OwnS p e below s₁ (entryFrame m #[(.int p0), (.int p1), (.int p2), (.int p3), (.int p4)] maxLocals) t := fun t q => by
      refine k1 t ?_
      rw [hk]
      show OwnS p e below s₁ (mkF m 6 #[iv p0, iv p1, iv p2, iv p3, iv p4, .unset, .unset, .unset, .unset] [(.int 2)]) _
      refine XS.istore X0.here hx rfl (hb hby at_6) rfl (l' := #[iv p0, iv p1, iv p2, iv p3, iv p4, iv 2, .unset, .unset, .unset]) rfl ?_
      show OwnS p e below s₁ (mkF m 8 #[iv p0, iv p1, iv p2, iv p3, iv p4, iv 2, .unset, .unset, .unset] []) _
      refine XS.iconst X0.here hx rfl (hb hby at_8) ?_
      show OwnS p e below s₁ (mkF m 9 #[iv p0, iv p1, iv p2, iv p3, iv p4, iv 2, .unset, .unset, .unset] [(.int 4)]) _
      refine st45 _ ?_
      show OwnS p e below T45 (mkF m 11 #[iv p0, iv p1, iv p2, iv p3, iv p4, iv 2, .unset, .unset, .unset] [(.ref b45)]) _
      refine XS.astore X45.here hx rfl (hb hby at_11) rfl rfl (l' := #[iv p0, iv p1, iv p2, iv p3, iv p4, iv 2, rv b45, .unset, .unset]) rfl ?_
      show OwnS p e below T45 (mkF m 13 #[iv p0, iv p1, iv p2, iv p3, iv p4, iv 2, rv b45, .unset, .unset] []) _
      refine XS.aload X45.here hx rfl (hb hby at_13) rfl rfl ?_
      show OwnS p e below T45 (mkF m 15 #[iv p0, iv p1, iv p2, iv p3, iv p4, iv 2, rv b45, .unset, .unset] [(.ref b45)]) _
      refine XS.iconst X45.here hx rfl (hb hby at_15) ?_
      show OwnS p e below T45 (mkF m 16 #[iv p0, iv p1, iv p2, iv p3, iv p4, iv 2, rv b45, .unset, .unset] [(.int 0), (.ref b45)]) _
      refine XS.iloadN X45.here hx rfl (hb hby at_16) rfl ?_
      show OwnS p e below T45 (mkF m 17 #[iv p0, iv p1, iv p2, iv p3, iv p4, iv 2, rv b45, .unset, .unset] [(.int p1), (.int 0), (.ref b45)]) _
      refine XS.bipush X45.here hx rfl (hb hby at_17) ?_
      show OwnS p e below T45 (mkF m 19 #[iv p0, iv p1, iv p2, iv p3, iv p4, iv 2, rv b45, .unset, .unset] [(.int 8), (.int p1), (.int 0), (.ref b45)]) _
      refine iremM X45 hx (g := (mkF m 19 #[iv p0, iv p1, iv p2, iv p3, iv p4, iv 2, rv b45, .unset, .unset] [(.int 8), (.int p1), (.int 0), (.ref b45)])) rfl (hb hby at_19) rfl (by decide) ?_
      show OwnS p e below T45 (mkF m 20 #[iv p0, iv p1, iv p2, iv p3, iv p4, iv 2, rv b45, .unset, .unset] [(.int (p1 % (8 : Int32))), (.int 0), (.ref b45)]) _
      refine XS.i2dS X45.here hx rfl (hb hby at_20) rfl (i2d_w _) ?_
      show OwnS p e below T45 (mkF m 21 #[iv p0, iv p1, iv p2, iv p3, iv p4, iv 2, rv b45, .unset, .unset] [(.double (FP.l2d (p1 % (8 : Int32)).toInt64)), (.int 0), (.ref b45)]) _
      refine st48 _ ?_
      show OwnS p e below T48 (mkF m 22 #[iv p0, iv p1, iv p2, iv p3, iv p4, iv 2, rv b45, .unset, .unset] []) _
      refine XS.aload X48.here hx rfl (hb hby at_22) rfl rfl ?_
      show OwnS p e below T48 (mkF m 24 #[iv p0, iv p1, iv p2, iv p3, iv p4, iv 2, rv b45, .unset, .unset] [(.ref b45)]) _
      refine XS.iconst X48.here hx rfl (hb hby at_24) ?_
      show OwnS p e below T48 (mkF m 25 #[iv p0, iv p1, iv p2, iv p3, iv p4, iv 2, rv b45, .unset, .unset] [(.int 1), (.ref b45)]) _
      refine XS.iloadN X48.here hx rfl (hb hby at_25) rfl ?_
      show OwnS p e below T48 (mkF m 26 #[iv p0, iv p1, iv p2, iv p3, iv p4, iv 2, rv b45, .unset, .unset] [(.int p2), (.int 1), (.ref b45)]) _
      refine XS.bipush X48.here hx rfl (hb hby at_26) ?_
      show OwnS p e below T48 (mkF m 28 #[iv p0, iv p1, iv p2, iv p3, iv p4, iv 2, rv b45, .unset, .unset] [(.int 8), (.int p2), (.int 1), (.ref b45)]) _
      refine iremM X48 hx (g := (mkF m 28 #[iv p0, iv p1, iv p2, iv p3, iv p4, iv 2, rv b45, .unset, .unset] [(.int 8), (.int p2), (.int 1), (.ref b45)])) rfl (hb hby at_28) rfl (by decide) ?_
      show OwnS p e below T48 (mkF m 29 #[iv p0, iv p1, iv p2, iv p3, iv p4, iv 2, rv b45, .unset, .unset] [(.int (p2 % (8 : Int32))), (.int 1), (.ref b45)]) _
      refine XS.i2dS X48.here hx rfl (hb hby at_29) rfl (i2d_w _) ?_
      show OwnS p e below T48 (mkF m 30 #[iv p0, iv p1, iv p2, iv p3, iv p4, iv 2, rv b45, .unset, .unset] [(.double (FP.l2d (p2 % (8 : Int32)).toInt64)), (.int 1), (.ref b45)]) _
      refine st51 _ ?_
      show OwnS p e below T51 (mkF m 31 #[iv p0, iv p1, iv p2, iv p3, iv p4, iv 2, rv b45, .unset, .unset] []) _
      refine XS.aload X51.here hx rfl (hb hby at_31) rfl rfl ?_
      show OwnS p e below T51 (mkF m 33 #[iv p0, iv p1, iv p2, iv p3, iv p4, iv 2, rv b45, .unset, .unset] [(.ref b45)]) _
      refine XS.iconst X51.here hx rfl (hb hby at_33) ?_
      show OwnS p e below T51 (mkF m 34 #[iv p0, iv p1, iv p2, iv p3, iv p4, iv 2, rv b45, .unset, .unset] [(.int 2), (.ref b45)]) _
      refine XS.iloadN X51.here hx rfl (hb hby at_34) rfl ?_
      show OwnS p e below T51 (mkF m 35 #[iv p0, iv p1, iv p2, iv p3, iv p4, iv 2, rv b45, .unset, .unset] [(.int p3), (.int 2), (.ref b45)]) _
      refine XS.bipush X51.here hx rfl (hb hby at_35) ?_
      show OwnS p e below T51 (mkF m 37 #[iv p0, iv p1, iv p2, iv p3, iv p4, iv 2, rv b45, .unset, .unset] [(.int 8), (.int p3), (.int 2), (.ref b45)]) _
      refine iremM X51 hx (g := (mkF m 37 #[iv p0, iv p1, iv p2, iv p3, iv p4, iv 2, rv b45, .unset, .unset] [(.int 8), (.int p3), (.int 2), (.ref b45)])) rfl (hb hby at_37) rfl (by decide) ?_
      show OwnS p e below T51 (mkF m 38 #[iv p0, iv p1, iv p2, iv p3, iv p4, iv 2, rv b45, .unset, .unset] [(.int (p3 % (8 : Int32))), (.int 2), (.ref b45)]) _
      refine XS.i2dS X51.here hx rfl (hb hby at_38) rfl (i2d_w _) ?_
      show OwnS p e below T51 (mkF m 39 #[iv p0, iv p1, iv p2, iv p3, iv p4, iv 2, rv b45, .unset, .unset] [(.double (FP.l2d (p3 % (8 : Int32)).toInt64)), (.int 2), (.ref b45)]) _
      refine st54 _ ?_
      show OwnS p e below T54 (mkF m 40 #[iv p0, iv p1, iv p2, iv p3, iv p4, iv 2, rv b45, .unset, .unset] []) _
      refine XS.aload X54.here hx rfl (hb hby at_40) rfl rfl ?_
      show OwnS p e below T54 (mkF m 42 #[iv p0, iv p1, iv p2, iv p3, iv p4, iv 2, rv b45, .unset, .unset] [(.ref b45)]) _
      refine XS.iconst X54.here hx rfl (hb hby at_42) ?_
      show OwnS p e below T54 (mkF m 43 #[iv p0, iv p1, iv p2, iv p3, iv p4, iv 2, rv b45, .unset, .unset] [(.int 3), (.ref b45)]) _
      refine XS.iload X54.here hx rfl (hb hby at_43) rfl ?_
      show OwnS p e below T54 (mkF m 45 #[iv p0, iv p1, iv p2, iv p3, iv p4, iv 2, rv b45, .unset, .unset] [(.int p4), (.int 3), (.ref b45)]) _
      refine XS.bipush X54.here hx rfl (hb hby at_45) ?_
      show OwnS p e below T54 (mkF m 47 #[iv p0, iv p1, iv p2, iv p3, iv p4, iv 2, rv b45, .unset, .unset] [(.int 8), (.int p4), (.int 3), (.ref b45)]) _
      refine iremM X54 hx (g := (mkF m 47 #[iv p0, iv p1, iv p2, iv p3, iv p4, iv 2, rv b45, .unset, .unset] [(.int 8), (.int p4), (.int 3), (.ref b45)])) rfl (hb hby at_47) rfl (by decide) ?_
      show OwnS p e below T54 (mkF m 48 #[iv p0, iv p1, iv p2, iv p3, iv p4, iv 2, rv b45, .unset, .unset] [(.int (p4 % (8 : Int32))), (.int 3), (.ref b45)]) _
      refine XS.i2dS X54.here hx rfl (hb hby at_48) rfl (i2d_w _) ?_
      show OwnS p e below T54 (mkF m 49 #[iv p0, iv p1, iv p2, iv p3, iv p4, iv 2, rv b45, .unset, .unset] [(.double (FP.l2d (p4 % (8 : Int32)).toInt64)), (.int 3), (.ref b45)]) _
      refine st57 _ ?_
      show OwnS p e below T57 (mkF m 50 #[iv p0, iv p1, iv p2, iv p3, iv p4, iv 2, rv b45, .unset, .unset] []) _
      refine XS.iload X57.here hx rfl (hb hby at_50) rfl ?_
      show OwnS p e below T57 (mkF m 52 #[iv p0, iv p1, iv p2, iv p3, iv p4, iv 2, rv b45, .unset, .unset] [(.int 2)]) _
      refine st59 _ ?_
      show OwnS p e below T59 (mkF m 54 #[iv p0, iv p1, iv p2, iv p3, iv p4, iv 2, rv b45, .unset, .unset] [(.ref b59)]) _
      refine XS.astore X59.here hx rfl (hb hby at_54) rfl rfl (l' := #[iv p0, iv p1, iv p2, iv p3, iv p4, iv 2, rv b45, rv b59, .unset]) rfl ?_
      show OwnS p e below T59 (mkF m 56 #[iv p0, iv p1, iv p2, iv p3, iv p4, iv 2, rv b45, rv b59, .unset] []) _
      refine XS.iload X59.here hx rfl (hb hby at_56) rfl ?_
      show OwnS p e below T59 (mkF m 58 #[iv p0, iv p1, iv p2, iv p3, iv p4, iv 2, rv b45, rv b59, .unset] [(.int 2)]) _
      refine XS.ifNo X59.here hx rfl (hb hby at_58) rfl ((if0 _ _).trans (tlt (by decide : (0 : Int32) < (2 : Int32))).2.2.2) ?_
      show OwnS p e below T59 (mkF m 61 #[iv p0, iv p1, iv p2, iv p3, iv p4, iv 2, rv b45, rv b59, .unset] []) _
      refine XS.aload X59.here hx rfl (hb hby at_61) rfl rfl ?_
      show OwnS p e below T59 (mkF m 63 #[iv p0, iv p1, iv p2, iv p3, iv p4, iv 2, rv b45, rv b59, .unset] [(.ref b59)]) _
      refine XS.iconst X59.here hx rfl (hb hby at_63) ?_
      show OwnS p e below T59 (mkF m 64 #[iv p0, iv p1, iv p2, iv p3, iv p4, iv 2, rv b45, rv b59, .unset] [(.int 0), (.ref b59)]) _
      refine XS.aload X59.here hx rfl (hb hby at_64) rfl rfl ?_
      show OwnS p e below T59 (mkF m 66 #[iv p0, iv p1, iv p2, iv p3, iv p4, iv 2, rv b45, rv b59, .unset] [(.ref b45), (.int 0), (.ref b59)]) _
      refine XS.iconst X59.here hx rfl (hb hby at_66) ?_
      show OwnS p e below T59 (mkF m 67 #[iv p0, iv p1, iv p2, iv p3, iv p4, iv 2, rv b45, rv b59, .unset] [(.int 0), (.ref b45), (.int 0), (.ref b59)]) _
      refine X59.daload hx (j := (0 : Int32)) (v := (.double (FP.l2d (p1 % (8 : Int32)).toInt64))) (by rw [e59]; exact Ar_z61.1) (State.isArrayOf_alike hZ.alike Ar_z61.2.1) Ar_z61.2.2 hin62 (Has.at H_z61 hin62 rfl) (g := (mkF m 67 #[iv p0, iv p1, iv p2, iv p3, iv p4, iv 2, rv b45, rv b59, .unset] [(.int 0), (.ref b45), (.int 0), (.ref b59)])) rfl rfl (hb hby at_67) _ ?_
      show OwnS p e below T59 (mkF m 68 #[iv p0, iv p1, iv p2, iv p3, iv p4, iv 2, rv b45, rv b59, .unset] [(.double (FP.l2d (p1 % (8 : Int32)).toInt64)), (.int 0), (.ref b59)]) _
      refine st65 _ ?_
      show OwnS p e below T65 (mkF m 69 #[iv p0, iv p1, iv p2, iv p3, iv p4, iv 2, rv b45, rv b59, .unset] []) _
      refine XS.iload X65.here hx rfl (hb hby at_69) rfl ?_
      show OwnS p e below T65 (mkF m 71 #[iv p0, iv p1, iv p2, iv p3, iv p4, iv 2, rv b45, rv b59, .unset] [(.int 2)]) _
      refine XS.iconst X65.here hx rfl (hb hby at_71) ?_
      show OwnS p e below T65 (mkF m 72 #[iv p0, iv p1, iv p2, iv p3, iv p4, iv 2, rv b45, rv b59, .unset] [(.int 1), (.int 2)]) _
      refine XS.icmpNo X65.here hx rfl (hb hby at_72) rfl (tlt (by decide : (1 : Int32) < (2 : Int32))).2.2.2 ?_
      show OwnS p e below T65 (mkF m 75 #[iv p0, iv p1, iv p2, iv p3, iv p4, iv 2, rv b45, rv b59, .unset] []) _
      refine XS.aload X65.here hx rfl (hb hby at_75) rfl rfl ?_
      show OwnS p e below T65 (mkF m 77 #[iv p0, iv p1, iv p2, iv p3, iv p4, iv 2, rv b45, rv b59, .unset] [(.ref b59)]) _
      refine XS.iconst X65.here hx rfl (hb hby at_77) ?_
      show OwnS p e below T65 (mkF m 78 #[iv p0, iv p1, iv p2, iv p3, iv p4, iv 2, rv b45, rv b59, .unset] [(.int 1), (.ref b59)]) _
      refine XS.aload X65.here hx rfl (hb hby at_78) rfl rfl ?_
      show OwnS p e below T65 (mkF m 80 #[iv p0, iv p1, iv p2, iv p3, iv p4, iv 2, rv b45, rv b59, .unset] [(.ref b45), (.int 1), (.ref b59)]) _
      refine XS.iconst X65.here hx rfl (hb hby at_80) ?_
      show OwnS p e below T65 (mkF m 81 #[iv p0, iv p1, iv p2, iv p3, iv p4, iv 2, rv b45, rv b59, .unset] [(.int 1), (.ref b45), (.int 1), (.ref b59)]) _
      refine X65.daload hx (j := (1 : Int32)) (v := (.double (FP.l2d (p2 % (8 : Int32)).toInt64))) (by rw [e65]; exact Ar_z67.1) (State.isArrayOf_alike hZ.alike Ar_z67.2.1) Ar_z67.2.2 hin68 (Has.at H_z67 hin68 rfl) (g := (mkF m 81 #[iv p0, iv p1, iv p2, iv p3, iv p4, iv 2, rv b45, rv b59, .unset] [(.int 1), (.ref b45), (.int 1), (.ref b59)])) rfl rfl (hb hby at_81) _ ?_
      show OwnS p e below T65 (mkF m 82 #[iv p0, iv p1, iv p2, iv p3, iv p4, iv 2, rv b45, rv b59, .unset] [(.double (FP.l2d (p2 % (8 : Int32)).toInt64)), (.int 1), (.ref b59)]) _
      refine st71 _ ?_
      show OwnS p e below T71 (mkF m 83 #[iv p0, iv p1, iv p2, iv p3, iv p4, iv 2, rv b45, rv b59, .unset] []) _
      refine XS.iload X71.here hx rfl (hb hby at_83) rfl ?_
      show OwnS p e below T71 (mkF m 85 #[iv p0, iv p1, iv p2, iv p3, iv p4, iv 2, rv b45, rv b59, .unset] [(.int 2)]) _
      refine XS.iconst X71.here hx rfl (hb hby at_85) ?_
      show OwnS p e below T71 (mkF m 86 #[iv p0, iv p1, iv p2, iv p3, iv p4, iv 2, rv b45, rv b59, .unset] [(.int 2), (.int 2)]) _
      refine XS.icmpYes X71.here hx rfl (pc0 := 86) (pc' := 97) rfl (hb hby at_86) rfl (flt (by decide : ¬ ((2 : Int32) < (2 : Int32)))).2.2.2 (by decide) (by decide) ?_
      show OwnS p e below T71 (mkF m 97 #[iv p0, iv p1, iv p2, iv p3, iv p4, iv 2, rv b45, rv b59, .unset] []) _
      refine XS.iload X71.here hx rfl (hb hby at_97) rfl ?_
      show OwnS p e below T71 (mkF m 99 #[iv p0, iv p1, iv p2, iv p3, iv p4, iv 2, rv b45, rv b59, .unset] [(.int 2)]) _
      refine XS.iconst X71.here hx rfl (hb hby at_99) ?_
      show OwnS p e below T71 (mkF m 100 #[iv p0, iv p1, iv p2, iv p3, iv p4, iv 2, rv b45, rv b59, .unset] [(.int 3), (.int 2)]) _
      refine XS.icmpYes X71.here hx rfl (pc0 := 100) (pc' := 111) rfl (hb hby at_100) rfl (flt (by decide : ¬ ((3 : Int32) < (2 : Int32)))).2.2.2 (by decide) (by decide) ?_
      show OwnS p e below T71 (mkF m 111 #[iv p0, iv p1, iv p2, iv p3, iv p4, iv 2, rv b45, rv b59, .unset] []) _
      refine XS.aload X71.here hx rfl (hb hby at_111) rfl rfl ?_
      show OwnS p e below T71 (mkF m 113 #[iv p0, iv p1, iv p2, iv p3, iv p4, iv 2, rv b45, rv b59, .unset] [(.ref b59)]) _
      exact q
    rcases hQ72 with ⟨rfl, N72q, e72, p72_0, p72_1⟩ | ⟨rfl, N72q, e72, p72_0⟩
    · have N72 := Fr.app N71 N72q
      have f75 := (f66.other W71 (Nat.ne_of_lt (Nat.lt_of_lt_of_le f58.lt (Nat.le_of_eq g59.symm))))
      obtain ⟨_, _, ⟨T74, L74, j74, i74⟩, -, X74, ⟨Lc74, hQ74, l74, y74, z74⟩, st74⟩ := Jvm.LawKit.callS X72 hx (y := (⟨cS0, "ok", "([DIII)Z"⟩ : MethodName)) hown (mvT hZ (own_at hw 6 rfl)) (mvT hZ (own_at hw 7 rfl)) (mvT hZ (own_at hw 8 rfl)) (mvT hZ (own_at hw 9 rfl)) (by decide) (backOf (W := 0) (rm2_10 l Z a0 hw [] b45 (2 : Int32) k45 (p1 % (8 : Int32)).toInt64 (p2 % (8 : Int32)).toInt64 (p3 % (8 : Int32)).toInt64 (p4 % (8 : Int32)).toInt64 h71 n0 (Nat.le_trans (Nat.le_trans (Nat.le_trans (Nat.le_trans (Nat.le_trans (Nat.le_trans (Nat.le_trans (Nat.le_trans Z0 E45.1) (Keep.of_wr W48).1) (Keep.of_wr W51).1) (Keep.of_wr W54).1) (Keep.of_wr W57).1) E59.1) (Keep.of_wr W65).1) (Keep.of_wr W71).1) f75 (own_b8 p1) (own_b8 p2) (own_b8 p3) (own_b8 p4) (by decide : (0 : Int32) < (2 : Int32)) p72_0 p72_1) hZ (own_at hw 9 rfl) (own_at hw 8 rfl) (by decide) (by decide)) (g := (mkF m 155 #[iv p0, iv p1, iv p2, iv p3, iv p4, iv 2, rv b45, rv b59, iv 1] [(.int 0), (.int 1), (.int 2), (.ref b45)])) rfl (by rw [hml]; rfl) (argsL := [(.ref b45), (.int 2), (.int 1), (.int 0)]) (rest := []) (lenOf pd_1 rfl) rfl (Nat.le_refl _) (hb hby at_155) (fun _ _ => ⟨rfl, e72, (by decide : 2 + 0 ≤ _), (by decide : 6 + 0 ≤ _)⟩)
      dsimp only [Pt.U, Pt.locs, Pt.cells, Pt.slots] at X74 l74 y74 z74 st74 hQ74
      subst l74 y74 z74
      obtain ⟨rfl, N74q, e74⟩ := hQ74
      have N74 := Fr.app N72 N74q
      obtain ⟨_, _, ⟨T76, L76, j76, i76⟩, -, X76, ⟨Lc76, hQ76, l76, y76, z76⟩, st76⟩ := Jvm.LawKit.callS X74 hx (y := (⟨cS0, "ok", "([DIII)Z"⟩ : MethodName)) hown (mvT hZ (own_at hw 6 rfl)) (mvT hZ (own_at hw 7 rfl)) (mvT hZ (own_at hw 8 rfl)) (mvT hZ (own_at hw 9 rfl)) (by decide) (backOf (W := 0) (rm2_11 l Z a0 hw [] b45 (2 : Int32) k45 (p1 % (8 : Int32)).toInt64 (p2 % (8 : Int32)).toInt64 (p3 % (8 : Int32)).toInt64 (p4 % (8 : Int32)).toInt64 h71 n0 (Nat.le_trans (Nat.le_trans (Nat.le_trans (Nat.le_trans (Nat.le_trans (Nat.le_trans (Nat.le_trans (Nat.le_trans Z0 E45.1) (Keep.of_wr W48).1) (Keep.of_wr W51).1) (Keep.of_wr W54).1) (Keep.of_wr W57).1) E59.1) (Keep.of_wr W65).1) (Keep.of_wr W71).1) f75 (own_b8 p1) (own_b8 p2) (own_b8 p3) (own_b8 p4) (by decide : (1 : Int32) < (2 : Int32))) hZ (own_at hw 9 rfl) (own_at hw 8 rfl) (by decide) (by decide)) (g := (mkF m 168 #[iv p0, iv p1, iv p2, iv p3, iv p4, iv 2, rv b45, rv b59, iv 1] [(.int 1), (.int 1), (.int 2), (.ref b45)])) rfl (by rw [hml]; rfl) (argsL := [(.ref b45), (.int 2), (.int 1), (.int 1)]) (rest := []) (lenOf pd_1 rfl) rfl (Nat.le_refl _) (hb hby at_168) (fun _ _ => ⟨rfl, e74, (by decide : 2 + 0 ≤ _), (by decide : 6 + 0 ≤ _)⟩)
      dsimp only [Pt.U, Pt.locs, Pt.cells, Pt.slots] at X76 l76 y76 z76 st76 hQ76
      subst l76 y76 z76
      obtain ⟨rfl, N76q, e76⟩ := hQ76
      have N76 := Fr.app N74 N76q
      obtain ⟨_, _, ⟨T77, L77, j77, i77⟩, -, X77, ⟨Lc77, hQ77, l77, y77, z77⟩, st77⟩ := Jvm.LawKit.callS X76 hx (y := (⟨cS0, "ok", "([DIII)Z"⟩ : MethodName)) hown (mvT hZ (own_at hw 6 rfl)) (mvT hZ (own_at hw 7 rfl)) (mvT hZ (own_at hw 8 rfl)) (mvT hZ (own_at hw 9 rfl)) (by decide) (backOf (W := 0) (rm2_far l Z a0 hw [] b45 (2 : Int32) (1 : Int32) (2 : Int32) h71 n0 (Nat.le_trans (Nat.le_trans (Nat.le_trans (Nat.le_trans (Nat.le_trans (Nat.le_trans (Nat.le_trans (Nat.le_trans Z0 E45.1) (Keep.of_wr W48).1) (Keep.of_wr W51).1) (Keep.of_wr W54).1) (Keep.of_wr W57).1) E59.1) (Keep.of_wr W65).1) (Keep.of_wr W71).1) (by decide : ¬ ((2 : Int32) < (2 : Int32)))) hZ (own_at hw 9 rfl) (own_at hw 8 rfl) (by decide) (by decide)) (g := (mkF m 181 #[iv p0, iv p1, iv p2, iv p3, iv p4, iv 2, rv b45, rv b59, iv 1] [(.int 2), (.int 1), (.int 2), (.ref b45)])) rfl (by rw [hml]; rfl) (argsL := [(.ref b45), (.int 2), (.int 1), (.int 2)]) (rest := []) (lenOf pd_1 rfl) rfl (Nat.le_refl _) (hb hby at_181) (fun _ _ => ⟨rfl, e76, (by decide : 2 + 0 ≤ _), (by decide : 6 + 0 ≤ _)⟩)
      dsimp only [Pt.U, Pt.locs, Pt.cells, Pt.slots] at X77 l77 y77 z77 st77 hQ77
      subst l77 y77 z77
      obtain ⟨rfl, N77q, e77⟩ := hQ77
      have N77 := Fr.app N76 N77q
      obtain ⟨_, _, ⟨T78, L78, j78, i78⟩, -, X78, ⟨Lc78, hQ78, l78, y78, z78⟩, st78⟩ := Jvm.LawKit.callS X77 hx (y := (⟨cS0, "ok", "([DIII)Z"⟩ : MethodName)) hown (mvT hZ (own_at hw 6 rfl)) (mvT hZ (own_at hw 7 rfl)) (mvT hZ (own_at hw 8 rfl)) (mvT hZ (own_at hw 9 rfl)) (by decide) (backOf (W := 0) (rm2_far l Z a0 hw [] b45 (2 : Int32) (1 : Int32) (3 : Int32) h71 n0 (Nat.le_trans (Nat.le_trans (Nat.le_trans (Nat.le_trans (Nat.le_trans (Nat.le_trans (Nat.le_trans (Nat.le_trans Z0 E45.1) (Keep.of_wr W48).1) (Keep.of_wr W51).1) (Keep.of_wr W54).1) (Keep.of_wr W57).1) E59.1) (Keep.of_wr W65).1) (Keep.of_wr W71).1) (by decide : ¬ ((3 : Int32) < (2 : Int32)))) hZ (own_at hw 9 rfl) (own_at hw 8 rfl) (by decide) (by decide)) (g := (mkF m 194 #[iv p0, iv p1, iv p2, iv p3, iv p4, iv 2, rv b45, rv b59, iv 1] [(.int 3), (.int 1), (.int 2), (.ref b45)])) rfl (by rw [hml]; rfl) (argsL := [(.ref b45), (.int 2), (.int 1), (.int 3)]) (rest := []) (lenOf pd_1 rfl) rfl (Nat.le_refl _) (hb hby at_194) (fun _ _ => ⟨rfl, e77, (by decide : 2 + 0 ≤ _), (by decide : 6 + 0 ≤ _)⟩)
      dsimp only [Pt.U, Pt.locs, Pt.cells, Pt.slots] at X78 l78 y78 z78 st78 hQ78
      subst l78 y78 z78
      obtain ⟨rfl, N78q, e78⟩ := hQ78
      have N78 := Fr.app N77 N78q
      obtain ⟨fs, hr, hrun, hended, hW, hsame⟩ := X78.leave (v := some (.int 1)) (fun h => by rw [Bd.returns] at h; cases h)
      refine ⟨_, _, k73 _ ?_, hrun, hended, _, _, rfl, ?_, ⟨_, rfl⟩, hW, hsame.mono (by decide) (by decide)⟩
      · refine st72 _ ?_
        show OwnS p e below T72 (mkF m 116 #[iv p0, iv p1, iv p2, iv p3, iv p4, iv 2, rv b45, rv b59, .unset] [(.int 1)]) _
        refine XS.istore X72.here hx rfl (hb hby at_116) rfl (l' := #[iv p0, iv p1, iv p2, iv p3, iv p4, iv 2, rv b45, rv b59, iv 1]) rfl ?_
        show OwnS p e below T72 (mkF m 118 #[iv p0, iv p1, iv p2, iv p3, iv p4, iv 2, rv b45, rv b59, iv 1] []) _
        refine XS.iload X72.here hx rfl (hb hby at_118) rfl ?_
        show OwnS p e below T72 (mkF m 120 #[iv p0, iv p1, iv p2, iv p3, iv p4, iv 2, rv b45, rv b59, iv 1] [(.int 2)]) _
        refine XS.ifYes X72.here hx rfl (pc0 := 120) (pc' := 134) rfl (hb hby at_120) rfl ((if0 _ _).trans (feq (by decide : ¬ ((2 : Int32) = (0 : Int32)))).2) (by decide) (by decide) ?_
        show OwnS p e below T72 (mkF m 134 #[iv p0, iv p1, iv p2, iv p3, iv p4, iv 2, rv b45, rv b59, iv 1] []) _
        refine XS.iload X72.here hx rfl (hb hby at_134) rfl ?_
        show OwnS p e below T72 (mkF m 136 #[iv p0, iv p1, iv p2, iv p3, iv p4, iv 2, rv b45, rv b59, iv 1] [(.int 1)]) _
        refine XS.ifNo X72.here hx rfl (hb hby at_136) rfl ((if0 _ _).trans (flt (by decide : ¬ ((1 : Int32) < (0 : Int32)))).1) ?_
        show OwnS p e below T72 (mkF m 139 #[iv p0, iv p1, iv p2, iv p3, iv p4, iv 2, rv b45, rv b59, iv 1] []) _
        refine XS.iload X72.here hx rfl (hb hby at_139) rfl ?_
        show OwnS p e below T72 (mkF m 141 #[iv p0, iv p1, iv p2, iv p3, iv p4, iv 2, rv b45, rv b59, iv 1] [(.int 1)]) _
        refine XS.iload X72.here hx rfl (hb hby at_141) rfl ?_
        show OwnS p e below T72 (mkF m 143 #[iv p0, iv p1, iv p2, iv p3, iv p4, iv 2, rv b45, rv b59, iv 1] [(.int 2), (.int 1)]) _
        refine XS.icmpYes X72.here hx rfl (pc0 := 143) (pc' := 148) rfl (hb hby at_143) rfl (tlt (by decide : (1 : Int32) < (2 : Int32))).1 (by decide) (by decide) ?_
        show OwnS p e below T72 (mkF m 148 #[iv p0, iv p1, iv p2, iv p3, iv p4, iv 2, rv b45, rv b59, iv 1] []) _
        refine XS.aload X72.here hx rfl (hb hby at_148) rfl rfl ?_
        show OwnS p e below T72 (mkF m 150 #[iv p0, iv p1, iv p2, iv p3, iv p4, iv 2, rv b45, rv b59, iv 1] [(.ref b45)]) _
        refine XS.iload X72.here hx rfl (hb hby at_150) rfl ?_
        show OwnS p e below T72 (mkF m 152 #[iv p0, iv p1, iv p2, iv p3, iv p4, iv 2, rv b45, rv b59, iv 1] [(.int 2), (.ref b45)]) _
        refine XS.iload X72.here hx rfl (hb hby at_152) rfl ?_
        show OwnS p e below T72 (mkF m 154 #[iv p0, iv p1, iv p2, iv p3, iv p4, iv 2, rv b45, rv b59, iv 1] [(.int 1), (.int 2), (.ref b45)]) _
        refine XS.iconst X72.here hx rfl (hb hby at_154) ?_
        show OwnS p e below T72 (mkF m 155 #[iv p0, iv p1, iv p2, iv p3, iv p4, iv 2, rv b45, rv b59, iv 1] [(.int 0), (.int 1), (.int 2), (.ref b45)]) _
        refine st74 _ ?_
        show OwnS p e below T74 (mkF m 158 #[iv p0, iv p1, iv p2, iv p3, iv p4, iv 2, rv b45, rv b59, iv 1] [(.int 1)]) _
        refine XS.ifNo X74.here hx rfl (hb hby at_158) rfl ((if0 _ _).trans (feq (by decide : ¬ ((1 : Int32) = (0 : Int32)))).1) ?_
        show OwnS p e below T74 (mkF m 161 #[iv p0, iv p1, iv p2, iv p3, iv p4, iv 2, rv b45, rv b59, iv 1] []) _
        refine XS.aload X74.here hx rfl (hb hby at_161) rfl rfl ?_
        show OwnS p e below T74 (mkF m 163 #[iv p0, iv p1, iv p2, iv p3, iv p4, iv 2, rv b45, rv b59, iv 1] [(.ref b45)]) _
        refine XS.iload X74.here hx rfl (hb hby at_163) rfl ?_
        show OwnS p e below T74 (mkF m 165 #[iv p0, iv p1, iv p2, iv p3, iv p4, iv 2, rv b45, rv b59, iv 1] [(.int 2), (.ref b45)]) _
        refine XS.iload X74.here hx rfl (hb hby at_165) rfl ?_
        show OwnS p e below T74 (mkF m 167 #[iv p0, iv p1, iv p2, iv p3, iv p4, iv 2, rv b45, rv b59, iv 1] [(.int 1), (.int 2), (.ref b45)]) _
        refine XS.iconst X74.here hx rfl (hb hby at_167) ?_
        show OwnS p e below T74 (mkF m 168 #[iv p0, iv p1, iv p2, iv p3, iv p4, iv 2, rv b45, rv b59, iv 1] [(.int 1), (.int 1), (.int 2), (.ref b45)]) _
        refine st76 _ ?_
        show OwnS p e below T76 (mkF m 171 #[iv p0, iv p1, iv p2, iv p3, iv p4, iv 2, rv b45, rv b59, iv 1] [(.int 1)]) _
        refine XS.ifNo X76.here hx rfl (hb hby at_171) rfl ((if0 _ _).trans (feq (by decide : ¬ ((1 : Int32) = (0 : Int32)))).1) ?_
        show OwnS p e below T76 (mkF m 174 #[iv p0, iv p1, iv p2, iv p3, iv p4, iv 2, rv b45, rv b59, iv 1] []) _
        refine XS.aload X76.here hx rfl (hb hby at_174) rfl rfl ?_
        show OwnS p e below T76 (mkF m 176 #[iv p0, iv p1, iv p2, iv p3, iv p4, iv 2, rv b45, rv b59, iv 1] [(.ref b45)]) _
        refine XS.iload X76.here hx rfl (hb hby at_176) rfl ?_
        show OwnS p e below T76 (mkF m 178 #[iv p0, iv p1, iv p2, iv p3, iv p4, iv 2, rv b45, rv b59, iv 1] [(.int 2), (.ref b45)]) _
        refine XS.iload X76.here hx rfl (hb hby at_178) rfl ?_
        show OwnS p e below T76 (mkF m 180 #[iv p0, iv p1, iv p2, iv p3, iv p4, iv 2, rv b45, rv b59, iv 1] [(.int 1), (.int 2), (.ref b45)]) _
        refine XS.iconst X76.here hx rfl (hb hby at_180) ?_
        show OwnS p e below T76 (mkF m 181 #[iv p0, iv p1, iv p2, iv p3, iv p4, iv 2, rv b45, rv b59, iv 1] [(.int 2), (.int 1), (.int 2), (.ref b45)]) _
        refine st77 _ ?_
        show OwnS p e below T77 (mkF m 184 #[iv p0, iv p1, iv p2, iv p3, iv p4, iv 2, rv b45, rv b59, iv 1] [(.int 1)]) _
        refine XS.ifNo X77.here hx rfl (hb hby at_184) rfl ((if0 _ _).trans (feq (by decide : ¬ ((1 : Int32) = (0 : Int32)))).1) ?_
        show OwnS p e below T77 (mkF m 187 #[iv p0, iv p1, iv p2, iv p3, iv p4, iv 2, rv b45, rv b59, iv 1] []) _
        refine XS.aload X77.here hx rfl (hb hby at_187) rfl rfl ?_
        show OwnS p e below T77 (mkF m 189 #[iv p0, iv p1, iv p2, iv p3, iv p4, iv 2, rv b45, rv b59, iv 1] [(.ref b45)]) _
        refine XS.iload X77.here hx rfl (hb hby at_189) rfl ?_
        show OwnS p e below T77 (mkF m 191 #[iv p0, iv p1, iv p2, iv p3, iv p4, iv 2, rv b45, rv b59, iv 1] [(.int 2), (.ref b45)]) _
        refine XS.iload X77.here hx rfl (hb hby at_191) rfl ?_
        show OwnS p e below T77 (mkF m 193 #[iv p0, iv p1, iv p2, iv p3, iv p4, iv 2, rv b45, rv b59, iv 1] [(.int 1), (.int 2), (.ref b45)]) _
        refine XS.iconst X77.here hx rfl (hb hby at_193) ?_
        show OwnS p e below T77 (mkF m 194 #[iv p0, iv p1, iv p2, iv p3, iv p4, iv 2, rv b45, rv b59, iv 1] [(.int 3), (.int 1), (.int 2), (.ref b45)]) _
        refine st78 _ ?_
        show OwnS p e below T78 (mkF m 197 #[iv p0, iv p1, iv p2, iv p3, iv p4, iv 2, rv b45, rv b59, iv 1] [(.int 1)]) _
        refine XS.ifNo X78.here hx rfl (hb hby at_197) rfl ((if0 _ _).trans (feq (by decide : ¬ ((1 : Int32) = (0 : Int32)))).1) ?_
        show OwnS p e below T78 (mkF m 200 #[iv p0, iv p1, iv p2, iv p3, iv p4, iv 2, rv b45, rv b59, iv 1] []) _
        refine XS.iconst X78.here hx rfl (hb hby at_200) ?_
        show OwnS p e below T78 (mkF m 201 #[iv p0, iv p1, iv p2, iv p3, iv p4, iv 2, rv b45, rv b59, iv 1] [(.int 1)]) _
        refine XS.goto X78.here hx rfl (pc0 := 201) (pc' := 205) rfl (hb hby at_201) (by decide) (by decide) ?_
        show OwnS p e below T78 (mkF m 205 #[iv p0, iv p1, iv p2, iv p3, iv p4, iv 2, rv b45, rv b59, iv 1] [(.int 1)]) _
        exact retN X78 hx (t := .boolean) Bd.returns (by simp) (hb hby at_205) hr
      · show Q_0 Z p0 p1 p2 p3 p4 h0 n0 _ T78.heap _
        rw [e78]
        exact ⟨rfl, N78, trivial⟩
    · have N72 := Fr.app N71 N72q
      have f80 := (f66.other W71 (Nat.ne_of_lt (Nat.lt_of_lt_of_le f58.lt (Nat.le_of_eq g59.symm))))
      obtain ⟨_, _, ⟨T79, L79, j79, i79⟩, -, X79, ⟨Lc79, hQ79, l79, y79, z79⟩, st79⟩ := Jvm.LawKit.callS X72 hx (y := (⟨cS0, "ok", "([DIII)Z"⟩ : MethodName)) hown (mvT hZ (own_at hw 6 rfl)) (mvT hZ (own_at hw 7 rfl)) (mvT hZ (own_at hw 8 rfl)) (mvT hZ (own_at hw 9 rfl)) (by decide) (backOf (W := 0) (rm2_00 l Z a0 hw [] b45 (2 : Int32) k45 (p1 % (8 : Int32)).toInt64 (p2 % (8 : Int32)).toInt64 (p3 % (8 : Int32)).toInt64 (p4 % (8 : Int32)).toInt64 h71 n0 (Nat.le_trans (Nat.le_trans (Nat.le_trans (Nat.le_trans (Nat.le_trans (Nat.le_trans (Nat.le_trans (Nat.le_trans Z0 E45.1) (Keep.of_wr W48).1) (Keep.of_wr W51).1) (Keep.of_wr W54).1) (Keep.of_wr W57).1) E59.1) (Keep.of_wr W65).1) (Keep.of_wr W71).1) f80 (own_b8 p1) (own_b8 p2) (own_b8 p3) (own_b8 p4) (by decide : (0 : Int32) < (2 : Int32))) hZ (own_at hw 9 rfl) (own_at hw 8 rfl) (by decide) (by decide)) (g := (mkF m 155 #[iv p0, iv p1, iv p2, iv p3, iv p4, iv 2, rv b45, rv b59, iv 0] [(.int 0), (.int 0), (.int 2), (.ref b45)])) rfl (by rw [hml]; rfl) (argsL := [(.ref b45), (.int 2), (.int 0), (.int 0)]) (rest := []) (lenOf pd_1 rfl) rfl (Nat.le_refl _) (hb hby at_155) (fun _ _ => ⟨rfl, e72, (by decide : 2 + 0 ≤ _), (by decide : 6 + 0 ≤ _)⟩)
      dsimp only [Pt.U, Pt.locs, Pt.cells, Pt.slots] at X79 l79 y79 z79 st79 hQ79
      subst l79 y79 z79
      obtain ⟨rfl, N79q, e79⟩ := hQ79
      have N79 := Fr.app N72 N79q
      obtain ⟨_, _, ⟨T81, L81, j81, i81⟩, -, X81, ⟨Lc81, hQ81, l81, y81, z81⟩, st81⟩ := Jvm.LawKit.callS X79 hx (y := (⟨cS0, "ok", "([DIII)Z"⟩ : MethodName)) hown (mvT hZ (own_at hw 6 rfl)) (mvT hZ (own_at hw 7 rfl)) (mvT hZ (own_at hw 8 rfl)) (mvT hZ (own_at hw 9 rfl)) (by decide) (backOf (W := 0) (rm2_01 l Z a0 hw [] b45 (2 : Int32) k45 (p1 % (8 : Int32)).toInt64 (p2 % (8 : Int32)).toInt64 (p3 % (8 : Int32)).toInt64 (p4 % (8 : Int32)).toInt64 h71 n0 (Nat.le_trans (Nat.le_trans (Nat.le_trans (Nat.le_trans (Nat.le_trans (Nat.le_trans (Nat.le_trans (Nat.le_trans Z0 E45.1) (Keep.of_wr W48).1) (Keep.of_wr W51).1) (Keep.of_wr W54).1) (Keep.of_wr W57).1) E59.1) (Keep.of_wr W65).1) (Keep.of_wr W71).1) f80 (own_b8 p1) (own_b8 p2) (own_b8 p3) (own_b8 p4) (by decide : (1 : Int32) < (2 : Int32)) p72_0) hZ (own_at hw 9 rfl) (own_at hw 8 rfl) (by decide) (by decide)) (g := (mkF m 168 #[iv p0, iv p1, iv p2, iv p3, iv p4, iv 2, rv b45, rv b59, iv 0] [(.int 1), (.int 0), (.int 2), (.ref b45)])) rfl (by rw [hml]; rfl) (argsL := [(.ref b45), (.int 2), (.int 0), (.int 1)]) (rest := []) (lenOf pd_1 rfl) rfl (Nat.le_refl _) (hb hby at_168) (fun _ _ => ⟨rfl, e79, (by decide : 2 + 0 ≤ _), (by decide : 6 + 0 ≤ _)⟩)
      dsimp only [Pt.U, Pt.locs, Pt.cells, Pt.slots] at X81 l81 y81 z81 st81 hQ81
      subst l81 y81 z81
      obtain ⟨rfl, N81q, e81⟩ := hQ81
      have N81 := Fr.app N79 N81q
      obtain ⟨_, _, ⟨T82, L82, j82, i82⟩, -, X82, ⟨Lc82, hQ82, l82, y82, z82⟩, st82⟩ := Jvm.LawKit.callS X81 hx (y := (⟨cS0, "ok", "([DIII)Z"⟩ : MethodName)) hown (mvT hZ (own_at hw 6 rfl)) (mvT hZ (own_at hw 7 rfl)) (mvT hZ (own_at hw 8 rfl)) (mvT hZ (own_at hw 9 rfl)) (by decide) (backOf (W := 0) (rm2_far l Z a0 hw [] b45 (2 : Int32) (0 : Int32) (2 : Int32) h71 n0 (Nat.le_trans (Nat.le_trans (Nat.le_trans (Nat.le_trans (Nat.le_trans (Nat.le_trans (Nat.le_trans (Nat.le_trans Z0 E45.1) (Keep.of_wr W48).1) (Keep.of_wr W51).1) (Keep.of_wr W54).1) (Keep.of_wr W57).1) E59.1) (Keep.of_wr W65).1) (Keep.of_wr W71).1) (by decide : ¬ ((2 : Int32) < (2 : Int32)))) hZ (own_at hw 9 rfl) (own_at hw 8 rfl) (by decide) (by decide)) (g := (mkF m 181 #[iv p0, iv p1, iv p2, iv p3, iv p4, iv 2, rv b45, rv b59, iv 0] [(.int 2), (.int 0), (.int 2), (.ref b45)])) rfl (by rw [hml]; rfl) (argsL := [(.ref b45), (.int 2), (.int 0), (.int 2)]) (rest := []) (lenOf pd_1 rfl) rfl (Nat.le_refl _) (hb hby at_181) (fun _ _ => ⟨rfl, e81, (by decide : 2 + 0 ≤ _), (by decide : 6 + 0 ≤ _)⟩)
      dsimp only [Pt.U, Pt.locs, Pt.cells, Pt.slots] at X82 l82 y82 z82 st82 hQ82
      subst l82 y82 z82
      obtain ⟨rfl, N82q, e82⟩ := hQ82
      have N82 := Fr.app N81 N82q
      obtain ⟨_, _, ⟨T83, L83, j83, i83⟩, -, X83, ⟨Lc83, hQ83, l83, y83, z83⟩, st83⟩ := Jvm.LawKit.callS X82 hx (y := (⟨cS0, "ok", "([DIII)Z"⟩ : MethodName)) hown (mvT hZ (own_at hw 6 rfl)) (mvT hZ (own_at hw 7 rfl)) (mvT hZ (own_at hw 8 rfl)) (mvT hZ (own_at hw 9 rfl)) (by decide) (backOf (W := 0) (rm2_far l Z a0 hw [] b45 (2 : Int32) (0 : Int32) (3 : Int32) h71 n0 (Nat.le_trans (Nat.le_trans (Nat.le_trans (Nat.le_trans (Nat.le_trans (Nat.le_trans (Nat.le_trans (Nat.le_trans Z0 E45.1) (Keep.of_wr W48).1) (Keep.of_wr W51).1) (Keep.of_wr W54).1) (Keep.of_wr W57).1) E59.1) (Keep.of_wr W65).1) (Keep.of_wr W71).1) (by decide : ¬ ((3 : Int32) < (2 : Int32)))) hZ (own_at hw 9 rfl) (own_at hw 8 rfl) (by decide) (by decide)) (g := (mkF m 194 #[iv p0, iv p1, iv p2, iv p3, iv p4, iv 2, rv b45, rv b59, iv 0] [(.int 3), (.int 0), (.int 2), (.ref b45)])) rfl (by rw [hml]; rfl) (argsL := [(.ref b45), (.int 2), (.int 0), (.int 3)]) (rest := []) (lenOf pd_1 rfl) rfl (Nat.le_refl _) (hb hby at_194) (fun _ _ => ⟨rfl, e82, (by decide : 2 + 0 ≤ _), (by decide : 6 + 0 ≤ _)⟩)
      dsimp only [Pt.U, Pt.locs, Pt.cells, Pt.slots] at X83 l83 y83 z83 st83 hQ83
      subst l83 y83 z83
      obtain ⟨rfl, N83q, e83⟩ := hQ83
      have N83 := Fr.app N82 N83q
      obtain ⟨fs, hr, hrun, hended, hW, hsame⟩ := X83.leave (v := some (.int 1)) (fun h => by rw [Bd.returns] at h; cases h)
      refine ⟨_, _, k73 _ ?_, hrun, hended, _, _, rfl, ?_, ⟨_, rfl⟩, hW, hsame.mono (by decide) (by decide)⟩
      · refine st72 _ ?_
        show OwnS p e below T72 (mkF m 116 #[iv p0, iv p1, iv p2, iv p3, iv p4, iv 2, rv b45, rv b59, .unset] [(.int 0)]) _
        refine XS.istore X72.here hx rfl (hb hby at_116) rfl (l' := #[iv p0, iv p1, iv p2, iv p3, iv p4, iv 2, rv b45, rv b59, iv 0]) rfl ?_
        show OwnS p e below T72 (mkF m 118 #[iv p0, iv p1, iv p2, iv p3, iv p4, iv 2, rv b45, rv b59, iv 0] []) _
        refine XS.iload X72.here hx rfl (hb hby at_118) rfl ?_
        show OwnS p e below T72 (mkF m 120 #[iv p0, iv p1, iv p2, iv p3, iv p4, iv 2, rv b45, rv b59, iv 0] [(.int 2)]) _
        refine XS.ifYes X72.here hx rfl (pc0 := 120) (pc' := 134) rfl (hb hby at_120) rfl ((if0 _ _).trans (feq (by decide : ¬ ((2 : Int32) = (0 : Int32)))).2) (by decide) (by decide) ?_
        show OwnS p e below T72 (mkF m 134 #[iv p0, iv p1, iv p2, iv p3, iv p4, iv 2, rv b45, rv b59, iv 0] []) _
        refine XS.iload X72.here hx rfl (hb hby at_134) rfl ?_
        show OwnS p e below T72 (mkF m 136 #[iv p0, iv p1, iv p2, iv p3, iv p4, iv 2, rv b45, rv b59, iv 0] [(.int 0)]) _
        refine XS.ifNo X72.here hx rfl (hb hby at_136) rfl ((if0 _ _).trans (flt (by decide : ¬ ((0 : Int32) < (0 : Int32)))).1) ?_
        show OwnS p e below T72 (mkF m 139 #[iv p0, iv p1, iv p2, iv p3, iv p4, iv 2, rv b45, rv b59, iv 0] []) _
        refine XS.iload X72.here hx rfl (hb hby at_139) rfl ?_
        show OwnS p e below T72 (mkF m 141 #[iv p0, iv p1, iv p2, iv p3, iv p4, iv 2, rv b45, rv b59, iv 0] [(.int 0)]) _
        refine XS.iload X72.here hx rfl (hb hby at_141) rfl ?_
        show OwnS p e below T72 (mkF m 143 #[iv p0, iv p1, iv p2, iv p3, iv p4, iv 2, rv b45, rv b59, iv 0] [(.int 2), (.int 0)]) _
        refine XS.icmpYes X72.here hx rfl (pc0 := 143) (pc' := 148) rfl (hb hby at_143) rfl (tlt (by decide : (0 : Int32) < (2 : Int32))).1 (by decide) (by decide) ?_
        show OwnS p e below T72 (mkF m 148 #[iv p0, iv p1, iv p2, iv p3, iv p4, iv 2, rv b45, rv b59, iv 0] []) _
        refine XS.aload X72.here hx rfl (hb hby at_148) rfl rfl ?_
        show OwnS p e below T72 (mkF m 150 #[iv p0, iv p1, iv p2, iv p3, iv p4, iv 2, rv b45, rv b59, iv 0] [(.ref b45)]) _
        refine XS.iload X72.here hx rfl (hb hby at_150) rfl ?_
        show OwnS p e below T72 (mkF m 152 #[iv p0, iv p1, iv p2, iv p3, iv p4, iv 2, rv b45, rv b59, iv 0] [(.int 2), (.ref b45)]) _
        refine XS.iload X72.here hx rfl (hb hby at_152) rfl ?_
        show OwnS p e below T72 (mkF m 154 #[iv p0, iv p1, iv p2, iv p3, iv p4, iv 2, rv b45, rv b59, iv 0] [(.int 0), (.int 2), (.ref b45)]) _
        refine XS.iconst X72.here hx rfl (hb hby at_154) ?_
        show OwnS p e below T72 (mkF m 155 #[iv p0, iv p1, iv p2, iv p3, iv p4, iv 2, rv b45, rv b59, iv 0] [(.int 0), (.int 0), (.int 2), (.ref b45)]) _
        refine st79 _ ?_
        show OwnS p e below T79 (mkF m 158 #[iv p0, iv p1, iv p2, iv p3, iv p4, iv 2, rv b45, rv b59, iv 0] [(.int 1)]) _
        refine XS.ifNo X79.here hx rfl (hb hby at_158) rfl ((if0 _ _).trans (feq (by decide : ¬ ((1 : Int32) = (0 : Int32)))).1) ?_
        show OwnS p e below T79 (mkF m 161 #[iv p0, iv p1, iv p2, iv p3, iv p4, iv 2, rv b45, rv b59, iv 0] []) _
        refine XS.aload X79.here hx rfl (hb hby at_161) rfl rfl ?_
        show OwnS p e below T79 (mkF m 163 #[iv p0, iv p1, iv p2, iv p3, iv p4, iv 2, rv b45, rv b59, iv 0] [(.ref b45)]) _
        refine XS.iload X79.here hx rfl (hb hby at_163) rfl ?_
        show OwnS p e below T79 (mkF m 165 #[iv p0, iv p1, iv p2, iv p3, iv p4, iv 2, rv b45, rv b59, iv 0] [(.int 2), (.ref b45)]) _
        refine XS.iload X79.here hx rfl (hb hby at_165) rfl ?_
        show OwnS p e below T79 (mkF m 167 #[iv p0, iv p1, iv p2, iv p3, iv p4, iv 2, rv b45, rv b59, iv 0] [(.int 0), (.int 2), (.ref b45)]) _
        refine XS.iconst X79.here hx rfl (hb hby at_167) ?_
        show OwnS p e below T79 (mkF m 168 #[iv p0, iv p1, iv p2, iv p3, iv p4, iv 2, rv b45, rv b59, iv 0] [(.int 1), (.int 0), (.int 2), (.ref b45)]) _
        refine st81 _ ?_
        show OwnS p e below T81 (mkF m 171 #[iv p0, iv p1, iv p2, iv p3, iv p4, iv 2, rv b45, rv b59, iv 0] [(.int 1)]) _
        refine XS.ifNo X81.here hx rfl (hb hby at_171) rfl ((if0 _ _).trans (feq (by decide : ¬ ((1 : Int32) = (0 : Int32)))).1) ?_
        show OwnS p e below T81 (mkF m 174 #[iv p0, iv p1, iv p2, iv p3, iv p4, iv 2, rv b45, rv b59, iv 0] []) _
        refine XS.aload X81.here hx rfl (hb hby at_174) rfl rfl ?_
        show OwnS p e below T81 (mkF m 176 #[iv p0, iv p1, iv p2, iv p3, iv p4, iv 2, rv b45, rv b59, iv 0] [(.ref b45)]) _
        refine XS.iload X81.here hx rfl (hb hby at_176) rfl ?_
        show OwnS p e below T81 (mkF m 178 #[iv p0, iv p1, iv p2, iv p3, iv p4, iv 2, rv b45, rv b59, iv 0] [(.int 2), (.ref b45)]) _
        refine XS.iload X81.here hx rfl (hb hby at_178) rfl ?_
        show OwnS p e below T81 (mkF m 180 #[iv p0, iv p1, iv p2, iv p3, iv p4, iv 2, rv b45, rv b59, iv 0] [(.int 0), (.int 2), (.ref b45)]) _
        refine XS.iconst X81.here hx rfl (hb hby at_180) ?_
        show OwnS p e below T81 (mkF m 181 #[iv p0, iv p1, iv p2, iv p3, iv p4, iv 2, rv b45, rv b59, iv 0] [(.int 2), (.int 0), (.int 2), (.ref b45)]) _
        refine st82 _ ?_
        show OwnS p e below T82 (mkF m 184 #[iv p0, iv p1, iv p2, iv p3, iv p4, iv 2, rv b45, rv b59, iv 0] [(.int 1)]) _
        refine XS.ifNo X82.here hx rfl (hb hby at_184) rfl ((if0 _ _).trans (feq (by decide : ¬ ((1 : Int32) = (0 : Int32)))).1) ?_
        show OwnS p e below T82 (mkF m 187 #[iv p0, iv p1, iv p2, iv p3, iv p4, iv 2, rv b45, rv b59, iv 0] []) _
        refine XS.aload X82.here hx rfl (hb hby at_187) rfl rfl ?_
        show OwnS p e below T82 (mkF m 189 #[iv p0, iv p1, iv p2, iv p3, iv p4, iv 2, rv b45, rv b59, iv 0] [(.ref b45)]) _
        refine XS.iload X82.here hx rfl (hb hby at_189) rfl ?_
        show OwnS p e below T82 (mkF m 191 #[iv p0, iv p1, iv p2, iv p3, iv p4, iv 2, rv b45, rv b59, iv 0] [(.int 2), (.ref b45)]) _
        refine XS.iload X82.here hx rfl (hb hby at_191) rfl ?_
        show OwnS p e below T82 (mkF m 193 #[iv p0, iv p1, iv p2, iv p3, iv p4, iv 2, rv b45, rv b59, iv 0] [(.int 0), (.int 2), (.ref b45)]) _
        refine XS.iconst X82.here hx rfl (hb hby at_193) ?_
        show OwnS p e below T82 (mkF m 194 #[iv p0, iv p1, iv p2, iv p3, iv p4, iv 2, rv b45, rv b59, iv 0] [(.int 3), (.int 0), (.int 2), (.ref b45)]) _
        refine st83 _ ?_
        show OwnS p e below T83 (mkF m 197 #[iv p0, iv p1, iv p2, iv p3, iv p4, iv 2, rv b45, rv b59, iv 0] [(.int 1)]) _
        refine XS.ifNo X83.here hx rfl (hb hby at_197) rfl ((if0 _ _).trans (feq (by decide : ¬ ((1 : Int32) = (0 : Int32)))).1) ?_
        show OwnS p e below T83 (mkF m 200 #[iv p0, iv p1, iv p2, iv p3, iv p4, iv 2, rv b45, rv b59, iv 0] []) _
        refine XS.iconst X83.here hx rfl (hb hby at_200) ?_
        show OwnS p e below T83 (mkF m 201 #[iv p0, iv p1, iv p2, iv p3, iv p4, iv 2, rv b45, rv b59, iv 0] [(.int 1)]) _
        refine XS.goto X83.here hx rfl (pc0 := 201) (pc' := 205) rfl (hb hby at_201) (by decide) (by decide) ?_
        show OwnS p e below T83 (mkF m 205 #[iv p0, iv p1, iv p2, iv p3, iv p4, iv 2, rv b45, rv b59, iv 0] [(.int 1)]) _
        exact retN X83 hx (t := .boolean) Bd.returns (by simp) (hb hby at_205) hr
      · show Q_0 Z p0 p1 p2 p3 p4 h0 n0 _ T83.heap _
        rw [e83]
        exact ⟨rfl, N83, trivial⟩
  · obtain ⟨T84, h84, k84, X84, e84, E84, A84, EA84, st84⟩ := newPE X0 hx hZ (own_at hw 1 rfl) e0 (g := (mkF m 9 #[iv p0, iv p1, iv p2, iv p3, iv p4, iv 3, .unset, .unset, .unset] [(.int 4)])) rfl (hb hby at_9) rfl (by decide) (cap := 4) (by decide) (by decide) (by decide) (by decide) (ad := "[D") (by decide)
    obtain ⟨b84, g84⟩ : ∃ z, z = h0.size := ⟨_, rfl⟩
    rw [← g84] at A84 EA84 st84
    have g_b84 : n0 ≤ b84 := Nat.le_trans Z0 (Nat.le_of_eq g84.symm)
    have sz_b84 : h0.size ≤ b84 := Nat.le_trans (Keep.refl h0 []).1 (Nat.le_of_eq g84.symm)
    have V_b84 : Arv Z h84 b84 k84 .double (4 : Int32) [(.double (FP.l2d (0 : Int64))), (.double (FP.l2d (0 : Int64))), (.double (FP.l2d (0 : Int64))), (.double (FP.l2d (0 : Int64)))] (.double (FP.l2d (0 : Int64))) := (Arv.newD A84 (by decide)).pad (pad_rep [] (.double (FP.l2d (0 : Int64))) 4)
    obtain ⟨cl_z85, Ar_z85, q_z85, S_z85, N_z85, H_z85, G_z85⟩ := id V_b84
    have hin86 : ¬ ((0 : Int32) < 0 ∨ cl_z85.slots.size ≤ ((0 : Int32)).toNatClampNeg) := inb_of S_z85 ⟨by decide, by decide⟩
    obtain ⟨T87, h87, X87, e87, W87, st87⟩ := stD X84 hx hZ e84 Ar_z85 (j := (0 : Int32)) hin86 (g := (mkF m 21 #[iv p0, iv p1, iv p2, iv p3, iv p4, iv 3, rv b84, .unset, .unset] [(.double (FP.l2d (p1 % (8 : Int32)).toInt64)), (.int 0), (.ref b84)])) rfl rfl (hb hby at_21)
    have V87 : Arv Z h87 b84 k84 .double (4 : Int32) [(.double (FP.l2d (p1 % (8 : Int32)).toInt64)), (.double (FP.l2d (0 : Int64))), (.double (FP.l2d (0 : Int64))), (.double (FP.l2d (0 : Int64)))] (.double (FP.l2d (0 : Int64))) := Arv.set Ar_z85 q_z85 S_z85 N_z85 H_z85 G_z85 rfl W87 0 rfl (Nat.le_of_ble_eq_true rfl)
    have N87 := Fr.snoc X87 N0 g_b84
    obtain ⟨cl_z88, Ar_z88, q_z88, S_z88, N_z88, H_z88, G_z88⟩ := id V87
    have hin89 : ¬ ((1 : Int32) < 0 ∨ cl_z88.slots.size ≤ ((1 : Int32)).toNatClampNeg) := inb_of S_z88 ⟨by decide, by decide⟩
    obtain ⟨T90, h90, X90, e90, W90, st90⟩ := stD X87 hx hZ e87 Ar_z88 (j := (1 : Int32)) hin89 (g := (mkF m 30 #[iv p0, iv p1, iv p2, iv p3, iv p4, iv 3, rv b84, .unset, .unset] [(.double (FP.l2d (p2 % (8 : Int32)).toInt64)), (.int 1), (.ref b84)])) rfl rfl (hb hby at_30)
    have V90 : Arv Z h90 b84 k84 .double (4 : Int32) [(.double (FP.l2d (p1 % (8 : Int32)).toInt64)), (.double (FP.l2d (p2 % (8 : Int32)).toInt64)), (.double (FP.l2d (0 : Int64))), (.double (FP.l2d (0 : Int64)))] (.double (FP.l2d (0 : Int64))) := Arv.set Ar_z88 q_z88 S_z88 N_z88 H_z88 G_z88 rfl W90 1 rfl (Nat.le_of_ble_eq_true rfl)
    have N90 := Fr.snoc X90 N87 g_b84
    obtain ⟨cl_z91, Ar_z91, q_z91, S_z91, N_z91, H_z91, G_z91⟩ := id V90
    have hin92 : ¬ ((2 : Int32) < 0 ∨ cl_z91.slots.size ≤ ((2 : Int32)).toNatClampNeg) := inb_of S_z91 ⟨by decide, by decide⟩
    obtain ⟨T93, h93, X93, e93, W93, st93⟩ := stD X90 hx hZ e90 Ar_z91 (j := (2 : Int32)) hin92 (g := (mkF m 39 #[iv p0, iv p1, iv p2, iv p3, iv p4, iv 3, rv b84, .unset, .unset] [(.double (FP.l2d (p3 % (8 : Int32)).toInt64)), (.int 2), (.ref b84)])) rfl rfl (hb hby at_39)
    have V93 : Arv Z h93 b84 k84 .double (4 : Int32) [(.double (FP.l2d (p1 % (8 : Int32)).toInt64)), (.double (FP.l2d (p2 % (8 : Int32)).toInt64)), (.double (FP.l2d (p3 % (8 : Int32)).toInt64)), (.double (FP.l2d (0 : Int64)))] (.double (FP.l2d (0 : Int64))) := Arv.set Ar_z91 q_z91 S_z91 N_z91 H_z91 G_z91 rfl W93 2 rfl (Nat.le_of_ble_eq_true rfl)
    have N93 := Fr.snoc X93 N90 g_b84
    obtain ⟨cl_z94, Ar_z94, q_z94, S_z94, N_z94, H_z94, G_z94⟩ := id V93
    have hin95 : ¬ ((3 : Int32) < 0 ∨ cl_z94.slots.size ≤ ((3 : Int32)).toNatClampNeg) := inb_of S_z94 ⟨by decide, by decide⟩
    obtain ⟨T96, h96, X96, e96, W96, st96⟩ := stD X93 hx hZ e93 Ar_z94 (j := (3 : Int32)) hin95 (g := (mkF m 49 #[iv p0, iv p1, iv p2, iv p3, iv p4, iv 3, rv b84, .unset, .unset] [(.double (FP.l2d (p4 % (8 : Int32)).toInt64)), (.int 3), (.ref b84)])) rfl rfl (hb hby at_49)
    have V96 : Arv Z h96 b84 k84 .double (4 : Int32) [(.double (FP.l2d (p1 % (8 : Int32)).toInt64)), (.double (FP.l2d (p2 % (8 : Int32)).toInt64)), (.double (FP.l2d (p3 % (8 : Int32)).toInt64)), (.double (FP.l2d (p4 % (8 : Int32)).toInt64))] (.double (FP.l2d (0 : Int64))) := Arv.set Ar_z94 q_z94 S_z94 N_z94 H_z94 G_z94 rfl W96 3 rfl (Nat.le_of_ble_eq_true rfl)
    have N96 := Fr.snoc X96 N93 g_b84
    have f97 := ((((EA84.wr W87).wr W90).wr W93).wr W96)
    obtain ⟨T98, h98, k98, X98, e98, E98, A98, EA98, st98⟩ := newPE X96 hx hZ (own_at hw 1 rfl) e96 (g := (mkF m 52 #[iv p0, iv p1, iv p2, iv p3, iv p4, iv 3, rv b84, .unset, .unset] [(.int 3)])) rfl (hb hby at_52) rfl (by decide) (cap := 3) (by decide) (by decide) (by decide) (by decide) (ad := "[D") (by decide)
    obtain ⟨b98, g98⟩ : ∃ z, z = h96.size := ⟨_, rfl⟩
    rw [← g98] at A98 EA98 st98
    have g_b98 : n0 ≤ b98 := Nat.le_trans (Nat.le_trans (Nat.le_trans (Nat.le_trans (Nat.le_trans (Nat.le_trans Z0 E84.1) (Keep.of_wr W87).1) (Keep.of_wr W90).1) (Keep.of_wr W93).1) (Keep.of_wr W96).1) (Nat.le_of_eq g98.symm)
    have sz_b98 : h0.size ≤ b98 := Nat.le_trans ((((((Keep.refl h0 []).ext E84).wr W87 (Or.inr sz_b84)).wr W90 (Or.inr sz_b84)).wr W93 (Or.inr sz_b84)).wr W96 (Or.inr sz_b84)).1 (Nat.le_of_eq g98.symm)
    have V_b98 : Arv Z h98 b98 k98 .double (3 : Int32) [(.double (FP.l2d (0 : Int64))), (.double (FP.l2d (0 : Int64))), (.double (FP.l2d (0 : Int64)))] (.double (FP.l2d (0 : Int64))) := (Arv.newD A98 (by decide)).pad (pad_rep [] (.double (FP.l2d (0 : Int64))) 3)
    have f99 := (V96.ext E98)
    obtain ⟨cl_z100, Ar_z100, q_z100, S_z100, N_z100, H_z100, G_z100⟩ := id f99
    have hin101 : ¬ ((0 : Int32) < 0 ∨ cl_z100.slots.size ≤ ((0 : Int32)).toNatClampNeg) := inb_of S_z100 ⟨by decide, by decide⟩
    obtain ⟨cl_z102, Ar_z102, q_z102, S_z102, N_z102, H_z102, G_z102⟩ := id V_b98
    have hin103 : ¬ ((0 : Int32) < 0 ∨ cl_z102.slots.size ≤ ((0 : Int32)).toNatClampNeg) := inb_of S_z102 ⟨by decide, by decide⟩
    obtain ⟨T104, h104, X104, e104, W104, st104⟩ := stD X98 hx hZ e98 Ar_z102 (j := (0 : Int32)) hin103 (g := (mkF m 68 #[iv p0, iv p1, iv p2, iv p3, iv p4, iv 3, rv b84, rv b98, .unset] [(.double (FP.l2d (p1 % (8 : Int32)).toInt64)), (.int 0), (.ref b98)])) rfl rfl (hb hby at_68)
    have V104 : Arv Z h104 b98 k98 .double (3 : Int32) [(.double (FP.l2d (p1 % (8 : Int32)).toInt64)), (.double (FP.l2d (0 : Int64))), (.double (FP.l2d (0 : Int64)))] (.double (FP.l2d (0 : Int64))) := Arv.set Ar_z102 q_z102 S_z102 N_z102 H_z102 G_z102 rfl W104 0 rfl (Nat.le_of_ble_eq_true rfl)
    have N104 := Fr.snoc X104 N96 g_b98
    have f105 := (f99.other W104 (Nat.ne_of_lt (Nat.lt_of_lt_of_le f97.lt (Nat.le_of_eq g98.symm))))
    obtain ⟨cl_z106, Ar_z106, q_z106, S_z106, N_z106, H_z106, G_z106⟩ := id f105
    have hin107 : ¬ ((1 : Int32) < 0 ∨ cl_z106.slots.size ≤ ((1 : Int32)).toNatClampNeg) := inb_of S_z106 ⟨by decide, by decide⟩
    obtain ⟨cl_z108, Ar_z108, q_z108, S_z108, N_z108, H_z108, G_z108⟩ := id V104
    have hin109 : ¬ ((1 : Int32) < 0 ∨ cl_z108.slots.size ≤ ((1 : Int32)).toNatClampNeg) := inb_of S_z108 ⟨by decide, by decide⟩
    obtain ⟨T110, h110, X110, e110, W110, st110⟩ := stD X104 hx hZ e104 Ar_z108 (j := (1 : Int32)) hin109 (g := (mkF m 82 #[iv p0, iv p1, iv p2, iv p3, iv p4, iv 3, rv b84, rv b98, .unset] [(.double (FP.l2d (p2 % (8 : Int32)).toInt64)), (.int 1), (.ref b98)])) rfl rfl (hb hby at_82)
    have V110 : Arv Z h110 b98 k98 .double (3 : Int32) [(.double (FP.l2d (p1 % (8 : Int32)).toInt64)), (.double (FP.l2d (p2 % (8 : Int32)).toInt64)), (.double (FP.l2d (0 : Int64)))] (.double (FP.l2d (0 : Int64))) := Arv.set Ar_z108 q_z108 S_z108 N_z108 H_z108 G_z108 rfl W110 1 rfl (Nat.le_of_ble_eq_true rfl)
    have N110 := Fr.snoc X110 N104 g_b98
    have f111 := (f105.other W110 (Nat.ne_of_lt (Nat.lt_of_lt_of_le f97.lt (Nat.le_of_eq g98.symm))))
    obtain ⟨cl_z112, Ar_z112, q_z112, S_z112, N_z112, H_z112, G_z112⟩ := id f111
    have hin113 : ¬ ((2 : Int32) < 0 ∨ cl_z112.slots.size ≤ ((2 : Int32)).toNatClampNeg) := inb_of S_z112 ⟨by decide, by decide⟩
    obtain ⟨cl_z114, Ar_z114, q_z114, S_z114, N_z114, H_z114, G_z114⟩ := id V110
    have hin115 : ¬ ((2 : Int32) < 0 ∨ cl_z114.slots.size ≤ ((2 : Int32)).toNatClampNeg) := inb_of S_z114 ⟨by decide, by decide⟩
    obtain ⟨T116, h116, X116, e116, W116, st116⟩ := stD X110 hx hZ e110 Ar_z114 (j := (2 : Int32)) hin115 (g := (mkF m 96 #[iv p0, iv p1, iv p2, iv p3, iv p4, iv 3, rv b84, rv b98, .unset] [(.double (FP.l2d (p3 % (8 : Int32)).toInt64)), (.int 2), (.ref b98)])) rfl rfl (hb hby at_96)
    have V116 : Arv Z h116 b98 k98 .double (3 : Int32) [(.double (FP.l2d (p1 % (8 : Int32)).toInt64)), (.double (FP.l2d (p2 % (8 : Int32)).toInt64)), (.double (FP.l2d (p3 % (8 : Int32)).toInt64))] (.double (FP.l2d (0 : Int64))) := Arv.set Ar_z114 q_z114 S_z114 N_z114 H_z114 G_z114 rfl W116 2 rfl (Nat.le_of_ble_eq_true rfl)
    have N116 := Fr.snoc X116 N110 g_b98
    obtain ⟨_, _, ⟨T117, L117, j117, i117⟩, -, X117, ⟨Lc117, hQ117, l117, y117, z117⟩, st117⟩ := Jvm.LawKit.callS X116 hx (y := (⟨cS1, "bestClass", "([D)I"⟩ : MethodName)) hown (mvT hZ (own_at hw 2 rfl)) (mvT hZ (own_at hw 3 rfl)) (mvT hZ (own_at hw 4 rfl)) (mvT hZ (own_at hw 5 rfl)) (by decide) (backOf (W := 0) (rm1_3 l Z a0 hw [] b98 k98 (p1 % (8 : Int32)).toInt64 (p2 % (8 : Int32)).toInt64 (p3 % (8 : Int32)).toInt64 h116 n0 (Nat.le_trans (Nat.le_trans (Nat.le_trans (Nat.le_trans (Nat.le_trans (Nat.le_trans (Nat.le_trans (Nat.le_trans (Nat.le_trans Z0 E84.1) (Keep.of_wr W87).1) (Keep.of_wr W90).1) (Keep.of_wr W93).1) (Keep.of_wr W96).1) E98.1) (Keep.of_wr W104).1) (Keep.of_wr W110).1) (Keep.of_wr W116).1) V116 (own_b8 p1) (own_b8 p2) (own_b8 p3)) hZ (own_at hw 5 rfl) (own_at hw 4 rfl) (by decide) (by decide)) (g := (mkF m 113 #[iv p0, iv p1, iv p2, iv p3, iv p4, iv 3, rv b84, rv b98, .unset] [(.ref b98)])) rfl (by rw [hml]; rfl) (argsL := [(.ref b98)]) (rest := []) (lenOf pd_0 rfl) rfl (Nat.le_refl _) (hb hby at_113) (fun _ _ => ⟨rfl, e116, (by decide : 2 + 0 ≤ _), (by decide : 7 + 0 ≤ _)⟩)
    dsimp only [Pt.U, Pt.locs, Pt.cells, Pt.slots] at X117 l117 y117 z117 st117 hQ117
    subst l117 y117 z117
    have k118 : ∀ t, OwnS p e below T116 (mkF m 113 #[iv p0, iv p1, iv p2, iv p3, iv p4, iv 3, rv b84, rv b98, .unset] [(.ref b98)]) t → OwnS p e below s₁ (entryFrame m #[(.int p0), (.int p1), (.int p2), (.int p3), (.int p4)] maxLocals) t := fun t q => by
      refine k1 t ?_
      rw [hk]
      show OwnS p e below s₁ (mkF m 6 #[iv p0, iv p1, iv p2, iv p3, iv p4, .unset, .unset, .unset, .unset] [(.int 3)]) _
      refine XS.istore X0.here hx rfl (hb hby at_6) rfl (l' := #[iv p0, iv p1, iv p2, iv p3, iv p4, iv 3, .unset, .unset, .unset]) rfl ?_
      show OwnS p e below s₁ (mkF m 8 #[iv p0, iv p1, iv p2, iv p3, iv p4, iv 3, .unset, .unset, .unset] []) _
      refine XS.iconst X0.here hx rfl (hb hby at_8) ?_
      show OwnS p e below s₁ (mkF m 9 #[iv p0, iv p1, iv p2, iv p3, iv p4, iv 3, .unset, .unset, .unset] [(.int 4)]) _
      refine st84 _ ?_
      show OwnS p e below T84 (mkF m 11 #[iv p0, iv p1, iv p2, iv p3, iv p4, iv 3, .unset, .unset, .unset] [(.ref b84)]) _
      refine XS.astore X84.here hx rfl (hb hby at_11) rfl rfl (l' := #[iv p0, iv p1, iv p2, iv p3, iv p4, iv 3, rv b84, .unset, .unset]) rfl ?_
      show OwnS p e below T84 (mkF m 13 #[iv p0, iv p1, iv p2, iv p3, iv p4, iv 3, rv b84, .unset, .unset] []) _
      refine XS.aload X84.here hx rfl (hb hby at_13) rfl rfl ?_
      show OwnS p e below T84 (mkF m 15 #[iv p0, iv p1, iv p2, iv p3, iv p4, iv 3, rv b84, .unset, .unset] [(.ref b84)]) _
      refine XS.iconst X84.here hx rfl (hb hby at_15) ?_
      show OwnS p e below T84 (mkF m 16 #[iv p0, iv p1, iv p2, iv p3, iv p4, iv 3, rv b84, .unset, .unset] [(.int 0), (.ref b84)]) _
      refine XS.iloadN X84.here hx rfl (hb hby at_16) rfl ?_
      show OwnS p e below T84 (mkF m 17 #[iv p0, iv p1, iv p2, iv p3, iv p4, iv 3, rv b84, .unset, .unset] [(.int p1), (.int 0), (.ref b84)]) _
      refine XS.bipush X84.here hx rfl (hb hby at_17) ?_
      show OwnS p e below T84 (mkF m 19 #[iv p0, iv p1, iv p2, iv p3, iv p4, iv 3, rv b84, .unset, .unset] [(.int 8), (.int p1), (.int 0), (.ref b84)]) _
      refine iremM X84 hx (g := (mkF m 19 #[iv p0, iv p1, iv p2, iv p3, iv p4, iv 3, rv b84, .unset, .unset] [(.int 8), (.int p1), (.int 0), (.ref b84)])) rfl (hb hby at_19) rfl (by decide) ?_
      show OwnS p e below T84 (mkF m 20 #[iv p0, iv p1, iv p2, iv p3, iv p4, iv 3, rv b84, .unset, .unset] [(.int (p1 % (8 : Int32))), (.int 0), (.ref b84)]) _
      refine XS.i2dS X84.here hx rfl (hb hby at_20) rfl (i2d_w _) ?_
      show OwnS p e below T84 (mkF m 21 #[iv p0, iv p1, iv p2, iv p3, iv p4, iv 3, rv b84, .unset, .unset] [(.double (FP.l2d (p1 % (8 : Int32)).toInt64)), (.int 0), (.ref b84)]) _
      refine st87 _ ?_
      show OwnS p e below T87 (mkF m 22 #[iv p0, iv p1, iv p2, iv p3, iv p4, iv 3, rv b84, .unset, .unset] []) _
      refine XS.aload X87.here hx rfl (hb hby at_22) rfl rfl ?_
      show OwnS p e below T87 (mkF m 24 #[iv p0, iv p1, iv p2, iv p3, iv p4, iv 3, rv b84, .unset, .unset] [(.ref b84)]) _
      refine XS.iconst X87.here hx rfl (hb hby at_24) ?_
      show OwnS p e below T87 (mkF m 25 #[iv p0, iv p1, iv p2, iv p3, iv p4, iv 3, rv b84, .unset, .unset] [(.int 1), (.ref b84)]) _
      refine XS.iloadN X87.here hx rfl (hb hby at_25) rfl ?_
      show OwnS p e below T87 (mkF m 26 #[iv p0, iv p1, iv p2, iv p3, iv p4, iv 3, rv b84, .unset, .unset] [(.int p2), (.int 1), (.ref b84)]) _
      refine XS.bipush X87.here hx rfl (hb hby at_26) ?_
      show OwnS p e below T87 (mkF m 28 #[iv p0, iv p1, iv p2, iv p3, iv p4, iv 3, rv b84, .unset, .unset] [(.int 8), (.int p2), (.int 1), (.ref b84)]) _
      refine iremM X87 hx (g := (mkF m 28 #[iv p0, iv p1, iv p2, iv p3, iv p4, iv 3, rv b84, .unset, .unset] [(.int 8), (.int p2), (.int 1), (.ref b84)])) rfl (hb hby at_28) rfl (by decide) ?_
      show OwnS p e below T87 (mkF m 29 #[iv p0, iv p1, iv p2, iv p3, iv p4, iv 3, rv b84, .unset, .unset] [(.int (p2 % (8 : Int32))), (.int 1), (.ref b84)]) _
      refine XS.i2dS X87.here hx rfl (hb hby at_29) rfl (i2d_w _) ?_
      show OwnS p e below T87 (mkF m 30 #[iv p0, iv p1, iv p2, iv p3, iv p4, iv 3, rv b84, .unset, .unset] [(.double (FP.l2d (p2 % (8 : Int32)).toInt64)), (.int 1), (.ref b84)]) _
      refine st90 _ ?_
      show OwnS p e below T90 (mkF m 31 #[iv p0, iv p1, iv p2, iv p3, iv p4, iv 3, rv b84, .unset, .unset] []) _
      refine XS.aload X90.here hx rfl (hb hby at_31) rfl rfl ?_
      show OwnS p e below T90 (mkF m 33 #[iv p0, iv p1, iv p2, iv p3, iv p4, iv 3, rv b84, .unset, .unset] [(.ref b84)]) _
      refine XS.iconst X90.here hx rfl (hb hby at_33) ?_
      show OwnS p e below T90 (mkF m 34 #[iv p0, iv p1, iv p2, iv p3, iv p4, iv 3, rv b84, .unset, .unset] [(.int 2), (.ref b84)]) _
      refine XS.iloadN X90.here hx rfl (hb hby at_34) rfl ?_
      show OwnS p e below T90 (mkF m 35 #[iv p0, iv p1, iv p2, iv p3, iv p4, iv 3, rv b84, .unset, .unset] [(.int p3), (.int 2), (.ref b84)]) _
      refine XS.bipush X90.here hx rfl (hb hby at_35) ?_
      show OwnS p e below T90 (mkF m 37 #[iv p0, iv p1, iv p2, iv p3, iv p4, iv 3, rv b84, .unset, .unset] [(.int 8), (.int p3), (.int 2), (.ref b84)]) _
      refine iremM X90 hx (g := (mkF m 37 #[iv p0, iv p1, iv p2, iv p3, iv p4, iv 3, rv b84, .unset, .unset] [(.int 8), (.int p3), (.int 2), (.ref b84)])) rfl (hb hby at_37) rfl (by decide) ?_
      show OwnS p e below T90 (mkF m 38 #[iv p0, iv p1, iv p2, iv p3, iv p4, iv 3, rv b84, .unset, .unset] [(.int (p3 % (8 : Int32))), (.int 2), (.ref b84)]) _
      refine XS.i2dS X90.here hx rfl (hb hby at_38) rfl (i2d_w _) ?_
      show OwnS p e below T90 (mkF m 39 #[iv p0, iv p1, iv p2, iv p3, iv p4, iv 3, rv b84, .unset, .unset] [(.double (FP.l2d (p3 % (8 : Int32)).toInt64)), (.int 2), (.ref b84)]) _
      refine st93 _ ?_
      show OwnS p e below T93 (mkF m 40 #[iv p0, iv p1, iv p2, iv p3, iv p4, iv 3, rv b84, .unset, .unset] []) _
      refine XS.aload X93.here hx rfl (hb hby at_40) rfl rfl ?_
      show OwnS p e below T93 (mkF m 42 #[iv p0, iv p1, iv p2, iv p3, iv p4, iv 3, rv b84, .unset, .unset] [(.ref b84)]) _
      refine XS.iconst X93.here hx rfl (hb hby at_42) ?_
      show OwnS p e below T93 (mkF m 43 #[iv p0, iv p1, iv p2, iv p3, iv p4, iv 3, rv b84, .unset, .unset] [(.int 3), (.ref b84)]) _
      refine XS.iload X93.here hx rfl (hb hby at_43) rfl ?_
      show OwnS p e below T93 (mkF m 45 #[iv p0, iv p1, iv p2, iv p3, iv p4, iv 3, rv b84, .unset, .unset] [(.int p4), (.int 3), (.ref b84)]) _
      refine XS.bipush X93.here hx rfl (hb hby at_45) ?_
      show OwnS p e below T93 (mkF m 47 #[iv p0, iv p1, iv p2, iv p3, iv p4, iv 3, rv b84, .unset, .unset] [(.int 8), (.int p4), (.int 3), (.ref b84)]) _
      refine iremM X93 hx (g := (mkF m 47 #[iv p0, iv p1, iv p2, iv p3, iv p4, iv 3, rv b84, .unset, .unset] [(.int 8), (.int p4), (.int 3), (.ref b84)])) rfl (hb hby at_47) rfl (by decide) ?_
      show OwnS p e below T93 (mkF m 48 #[iv p0, iv p1, iv p2, iv p3, iv p4, iv 3, rv b84, .unset, .unset] [(.int (p4 % (8 : Int32))), (.int 3), (.ref b84)]) _
      refine XS.i2dS X93.here hx rfl (hb hby at_48) rfl (i2d_w _) ?_
      show OwnS p e below T93 (mkF m 49 #[iv p0, iv p1, iv p2, iv p3, iv p4, iv 3, rv b84, .unset, .unset] [(.double (FP.l2d (p4 % (8 : Int32)).toInt64)), (.int 3), (.ref b84)]) _
      refine st96 _ ?_
      show OwnS p e below T96 (mkF m 50 #[iv p0, iv p1, iv p2, iv p3, iv p4, iv 3, rv b84, .unset, .unset] []) _
      refine XS.iload X96.here hx rfl (hb hby at_50) rfl ?_
      show OwnS p e below T96 (mkF m 52 #[iv p0, iv p1, iv p2, iv p3, iv p4, iv 3, rv b84, .unset, .unset] [(.int 3)]) _
      refine st98 _ ?_
      show OwnS p e below T98 (mkF m 54 #[iv p0, iv p1, iv p2, iv p3, iv p4, iv 3, rv b84, .unset, .unset] [(.ref b98)]) _
      refine XS.astore X98.here hx rfl (hb hby at_54) rfl rfl (l' := #[iv p0, iv p1, iv p2, iv p3, iv p4, iv 3, rv b84, rv b98, .unset]) rfl ?_
      show OwnS p e below T98 (mkF m 56 #[iv p0, iv p1, iv p2, iv p3, iv p4, iv 3, rv b84, rv b98, .unset] []) _
      refine XS.iload X98.here hx rfl (hb hby at_56) rfl ?_
      show OwnS p e below T98 (mkF m 58 #[iv p0, iv p1, iv p2, iv p3, iv p4, iv 3, rv b84, rv b98, .unset] [(.int 3)]) _
      refine XS.ifNo X98.here hx rfl (hb hby at_58) rfl ((if0 _ _).trans (tlt (by decide : (0 : Int32) < (3 : Int32))).2.2.2) ?_
      show OwnS p e below T98 (mkF m 61 #[iv p0, iv p1, iv p2, iv p3, iv p4, iv 3, rv b84, rv b98, .unset] []) _
      refine XS.aload X98.here hx rfl (hb hby at_61) rfl rfl ?_
      show OwnS p e below T98 (mkF m 63 #[iv p0, iv p1, iv p2, iv p3, iv p4, iv 3, rv b84, rv b98, .unset] [(.ref b98)]) _
      refine XS.iconst X98.here hx rfl (hb hby at_63) ?_
      show OwnS p e below T98 (mkF m 64 #[iv p0, iv p1, iv p2, iv p3, iv p4, iv 3, rv b84, rv b98, .unset] [(.int 0), (.ref b98)]) _
      refine XS.aload X98.here hx rfl (hb hby at_64) rfl rfl ?_
      show OwnS p e below T98 (mkF m 66 #[iv p0, iv p1, iv p2, iv p3, iv p4, iv 3, rv b84, rv b98, .unset] [(.ref b84), (.int 0), (.ref b98)]) _
      refine XS.iconst X98.here hx rfl (hb hby at_66) ?_
      show OwnS p e below T98 (mkF m 67 #[iv p0, iv p1, iv p2, iv p3, iv p4, iv 3, rv b84, rv b98, .unset] [(.int 0), (.ref b84), (.int 0), (.ref b98)]) _
      refine X98.daload hx (j := (0 : Int32)) (v := (.double (FP.l2d (p1 % (8 : Int32)).toInt64))) (by rw [e98]; exact Ar_z100.1) (State.isArrayOf_alike hZ.alike Ar_z100.2.1) Ar_z100.2.2 hin101 (Has.at H_z100 hin101 rfl) (g := (mkF m 67 #[iv p0, iv p1, iv p2, iv p3, iv p4, iv 3, rv b84, rv b98, .unset] [(.int 0), (.ref b84), (.int 0), (.ref b98)])) rfl rfl (hb hby at_67) _ ?_
      show OwnS p e below T98 (mkF m 68 #[iv p0, iv p1, iv p2, iv p3, iv p4, iv 3, rv b84, rv b98, .unset] [(.double (FP.l2d (p1 % (8 : Int32)).toInt64)), (.int 0), (.ref b98)]) _
      refine st104 _ ?_
      show OwnS p e below T104 (mkF m 69 #[iv p0, iv p1, iv p2, iv p3, iv p4, iv 3, rv b84, rv b98, .unset] []) _
      refine XS.iload X104.here hx rfl (hb hby at_69) rfl ?_
      show OwnS p e below T104 (mkF m 71 #[iv p0, iv p1, iv p2, iv p3, iv p4, iv 3, rv b84, rv b98, .unset] [(.int 3)]) _
      refine XS.iconst X104.here hx rfl (hb hby at_71) ?_
      show OwnS p e below T104 (mkF m 72 #[iv p0, iv p1, iv p2, iv p3, iv p4, iv 3, rv b84, rv b98, .unset] [(.int 1), (.int 3)]) _
      refine XS.icmpNo X104.here hx rfl (hb hby at_72) rfl (tlt (by decide : (1 : Int32) < (3 : Int32))).2.2.2 ?_
      show OwnS p e below T104 (mkF m 75 #[iv p0, iv p1, iv p2, iv p3, iv p4, iv 3, rv b84, rv b98, .unset] []) _
      refine XS.aload X104.here hx rfl (hb hby at_75) rfl rfl ?_
      show OwnS p e below T104 (mkF m 77 #[iv p0, iv p1, iv p2, iv p3, iv p4, iv 3, rv b84, rv b98, .unset] [(.ref b98)]) _
      refine XS.iconst X104.here hx rfl (hb hby at_77) ?_
      show OwnS p e below T104 (mkF m 78 #[iv p0, iv p1, iv p2, iv p3, iv p4, iv 3, rv b84, rv b98, .unset] [(.int 1), (.ref b98)]) _
      refine XS.aload X104.here hx rfl (hb hby at_78) rfl rfl ?_
      show OwnS p e below T104 (mkF m 80 #[iv p0, iv p1, iv p2, iv p3, iv p4, iv 3, rv b84, rv b98, .unset] [(.ref b84), (.int 1), (.ref b98)]) _
      refine XS.iconst X104.here hx rfl (hb hby at_80) ?_
      show OwnS p e below T104 (mkF m 81 #[iv p0, iv p1, iv p2, iv p3, iv p4, iv 3, rv b84, rv b98, .unset] [(.int 1), (.ref b84), (.int 1), (.ref b98)]) _
      refine X104.daload hx (j := (1 : Int32)) (v := (.double (FP.l2d (p2 % (8 : Int32)).toInt64))) (by rw [e104]; exact Ar_z106.1) (State.isArrayOf_alike hZ.alike Ar_z106.2.1) Ar_z106.2.2 hin107 (Has.at H_z106 hin107 rfl) (g := (mkF m 81 #[iv p0, iv p1, iv p2, iv p3, iv p4, iv 3, rv b84, rv b98, .unset] [(.int 1), (.ref b84), (.int 1), (.ref b98)])) rfl rfl (hb hby at_81) _ ?_
      show OwnS p e below T104 (mkF m 82 #[iv p0, iv p1, iv p2, iv p3, iv p4, iv 3, rv b84, rv b98, .unset] [(.double (FP.l2d (p2 % (8 : Int32)).toInt64)), (.int 1), (.ref b98)]) _
      refine st110 _ ?_
      show OwnS p e below T110 (mkF m 83 #[iv p0, iv p1, iv p2, iv p3, iv p4, iv 3, rv b84, rv b98, .unset] []) _
      refine XS.iload X110.here hx rfl (hb hby at_83) rfl ?_
      show OwnS p e below T110 (mkF m 85 #[iv p0, iv p1, iv p2, iv p3, iv p4, iv 3, rv b84, rv b98, .unset] [(.int 3)]) _
      refine XS.iconst X110.here hx rfl (hb hby at_85) ?_
      show OwnS p e below T110 (mkF m 86 #[iv p0, iv p1, iv p2, iv p3, iv p4, iv 3, rv b84, rv b98, .unset] [(.int 2), (.int 3)]) _
      refine XS.icmpNo X110.here hx rfl (hb hby at_86) rfl (tlt (by decide : (2 : Int32) < (3 : Int32))).2.2.2 ?_
      show OwnS p e below T110 (mkF m 89 #[iv p0, iv p1, iv p2, iv p3, iv p4, iv 3, rv b84, rv b98, .unset] []) _
      refine XS.aload X110.here hx rfl (hb hby at_89) rfl rfl ?_
      show OwnS p e below T110 (mkF m 91 #[iv p0, iv p1, iv p2, iv p3, iv p4, iv 3, rv b84, rv b98, .unset] [(.ref b98)]) _
      refine XS.iconst X110.here hx rfl (hb hby at_91) ?_
      show OwnS p e below T110 (mkF m 92 #[iv p0, iv p1, iv p2, iv p3, iv p4, iv 3, rv b84, rv b98, .unset] [(.int 2), (.ref b98)]) _
      refine XS.aload X110.here hx rfl (hb hby at_92) rfl rfl ?_
      show OwnS p e below T110 (mkF m 94 #[iv p0, iv p1, iv p2, iv p3, iv p4, iv 3, rv b84, rv b98, .unset] [(.ref b84), (.int 2), (.ref b98)]) _
      refine XS.iconst X110.here hx rfl (hb hby at_94) ?_
      show OwnS p e below T110 (mkF m 95 #[iv p0, iv p1, iv p2, iv p3, iv p4, iv 3, rv b84, rv b98, .unset] [(.int 2), (.ref b84), (.int 2), (.ref b98)]) _
      refine X110.daload hx (j := (2 : Int32)) (v := (.double (FP.l2d (p3 % (8 : Int32)).toInt64))) (by rw [e110]; exact Ar_z112.1) (State.isArrayOf_alike hZ.alike Ar_z112.2.1) Ar_z112.2.2 hin113 (Has.at H_z112 hin113 rfl) (g := (mkF m 95 #[iv p0, iv p1, iv p2, iv p3, iv p4, iv 3, rv b84, rv b98, .unset] [(.int 2), (.ref b84), (.int 2), (.ref b98)])) rfl rfl (hb hby at_95) _ ?_
      show OwnS p e below T110 (mkF m 96 #[iv p0, iv p1, iv p2, iv p3, iv p4, iv 3, rv b84, rv b98, .unset] [(.double (FP.l2d (p3 % (8 : Int32)).toInt64)), (.int 2), (.ref b98)]) _
      refine st116 _ ?_
      show OwnS p e below T116 (mkF m 97 #[iv p0, iv p1, iv p2, iv p3, iv p4, iv 3, rv b84, rv b98, .unset] []) _
      refine XS.iload X116.here hx rfl (hb hby at_97) rfl ?_
      show OwnS p e below T116 (mkF m 99 #[iv p0, iv p1, iv p2, iv p3, iv p4, iv 3, rv b84, rv b98, .unset] [(.int 3)]) _
      refine XS.iconst X116.here hx rfl (hb hby at_99) ?_
      show OwnS p e below T116 (mkF m 100 #[iv p0, iv p1, iv p2, iv p3, iv p4, iv 3, rv b84, rv b98, .unset] [(.int 3), (.int 3)]) _
      refine XS.icmpYes X116.here hx rfl (pc0 := 100) (pc' := 111) rfl (hb hby at_100) rfl (flt (by decide : ¬ ((3 : Int32) < (3 : Int32)))).2.2.2 (by decide) (by decide) ?_
      show OwnS p e below T116 (mkF m 111 #[iv p0, iv p1, iv p2, iv p3, iv p4, iv 3, rv b84, rv b98, .unset] []) _
      refine XS.aload X116.here hx rfl (hb hby at_111) rfl rfl ?_
      show OwnS p e below T116 (mkF m 113 #[iv p0, iv p1, iv p2, iv p3, iv p4, iv 3, rv b84, rv b98, .unset] [(.ref b98)]) _
      exact q
    rcases hQ117 with ⟨rfl, N117q, e117, p117_0, p117_1, p117_2, p117_3⟩ | ⟨rfl, N117q, e117, p117_0, p117_1, p117_2⟩ | ⟨rfl, N117q, e117, p117_0, p117_1⟩
    · have N117 := Fr.app N116 N117q
      have f120 := (f111.other W116 (Nat.ne_of_lt (Nat.lt_of_lt_of_le f97.lt (Nat.le_of_eq g98.symm))))
      obtain ⟨_, _, ⟨T119, L119, j119, i119⟩, -, X119, ⟨Lc119, hQ119, l119, y119, z119⟩, st119⟩ := Jvm.LawKit.callS X117 hx (y := (⟨cS0, "ok", "([DIII)Z"⟩ : MethodName)) hown (mvT hZ (own_at hw 6 rfl)) (mvT hZ (own_at hw 7 rfl)) (mvT hZ (own_at hw 8 rfl)) (mvT hZ (own_at hw 9 rfl)) (by decide) (backOf (W := 0) (rm2_20 l Z a0 hw [] b84 (3 : Int32) k84 (p1 % (8 : Int32)).toInt64 (p2 % (8 : Int32)).toInt64 (p3 % (8 : Int32)).toInt64 (p4 % (8 : Int32)).toInt64 h116 n0 (Nat.le_trans (Nat.le_trans (Nat.le_trans (Nat.le_trans (Nat.le_trans (Nat.le_trans (Nat.le_trans (Nat.le_trans (Nat.le_trans Z0 E84.1) (Keep.of_wr W87).1) (Keep.of_wr W90).1) (Keep.of_wr W93).1) (Keep.of_wr W96).1) E98.1) (Keep.of_wr W104).1) (Keep.of_wr W110).1) (Keep.of_wr W116).1) f120 (own_b8 p1) (own_b8 p2) (own_b8 p3) (own_b8 p4) (by decide : (0 : Int32) < (3 : Int32)) p117_0 p117_2) hZ (own_at hw 9 rfl) (own_at hw 8 rfl) (by decide) (by decide)) (g := (mkF m 155 #[iv p0, iv p1, iv p2, iv p3, iv p4, iv 3, rv b84, rv b98, iv 2] [(.int 0), (.int 2), (.int 3), (.ref b84)])) rfl (by rw [hml]; rfl) (argsL := [(.ref b84), (.int 3), (.int 2), (.int 0)]) (rest := []) (lenOf pd_1 rfl) rfl (Nat.le_refl _) (hb hby at_155) (fun _ _ => ⟨rfl, e117, (by decide : 2 + 0 ≤ _), (by decide : 7 + 0 ≤ _)⟩)
      dsimp only [Pt.U, Pt.locs, Pt.cells, Pt.slots] at X119 l119 y119 z119 st119 hQ119
      subst l119 y119 z119
      obtain ⟨rfl, N119q, e119⟩ := hQ119
      have N119 := Fr.app N117 N119q
      obtain ⟨_, _, ⟨T121, L121, j121, i121⟩, -, X121, ⟨Lc121, hQ121, l121, y121, z121⟩, st121⟩ := Jvm.LawKit.callS X119 hx (y := (⟨cS0, "ok", "([DIII)Z"⟩ : MethodName)) hown (mvT hZ (own_at hw 6 rfl)) (mvT hZ (own_at hw 7 rfl)) (mvT hZ (own_at hw 8 rfl)) (mvT hZ (own_at hw 9 rfl)) (by decide) (backOf (W := 0) (rm2_21 l Z a0 hw [] b84 (3 : Int32) k84 (p1 % (8 : Int32)).toInt64 (p2 % (8 : Int32)).toInt64 (p3 % (8 : Int32)).toInt64 (p4 % (8 : Int32)).toInt64 h116 n0 (Nat.le_trans (Nat.le_trans (Nat.le_trans (Nat.le_trans (Nat.le_trans (Nat.le_trans (Nat.le_trans (Nat.le_trans (Nat.le_trans Z0 E84.1) (Keep.of_wr W87).1) (Keep.of_wr W90).1) (Keep.of_wr W93).1) (Keep.of_wr W96).1) E98.1) (Keep.of_wr W104).1) (Keep.of_wr W110).1) (Keep.of_wr W116).1) f120 (own_b8 p1) (own_b8 p2) (own_b8 p3) (own_b8 p4) (by decide : (1 : Int32) < (3 : Int32)) p117_1 p117_3) hZ (own_at hw 9 rfl) (own_at hw 8 rfl) (by decide) (by decide)) (g := (mkF m 168 #[iv p0, iv p1, iv p2, iv p3, iv p4, iv 3, rv b84, rv b98, iv 2] [(.int 1), (.int 2), (.int 3), (.ref b84)])) rfl (by rw [hml]; rfl) (argsL := [(.ref b84), (.int 3), (.int 2), (.int 1)]) (rest := []) (lenOf pd_1 rfl) rfl (Nat.le_refl _) (hb hby at_168) (fun _ _ => ⟨rfl, e119, (by decide : 2 + 0 ≤ _), (by decide : 7 + 0 ≤ _)⟩)
      dsimp only [Pt.U, Pt.locs, Pt.cells, Pt.slots] at X121 l121 y121 z121 st121 hQ121
      subst l121 y121 z121
      obtain ⟨rfl, N121q, e121⟩ := hQ121
      have N121 := Fr.app N119 N121q
      obtain ⟨_, _, ⟨T122, L122, j122, i122⟩, -, X122, ⟨Lc122, hQ122, l122, y122, z122⟩, st122⟩ := Jvm.LawKit.callS X121 hx (y := (⟨cS0, "ok", "([DIII)Z"⟩ : MethodName)) hown (mvT hZ (own_at hw 6 rfl)) (mvT hZ (own_at hw 7 rfl)) (mvT hZ (own_at hw 8 rfl)) (mvT hZ (own_at hw 9 rfl)) (by decide) (backOf (W := 0) (rm2_22 l Z a0 hw [] b84 (3 : Int32) k84 (p1 % (8 : Int32)).toInt64 (p2 % (8 : Int32)).toInt64 (p3 % (8 : Int32)).toInt64 (p4 % (8 : Int32)).toInt64 h116 n0 (Nat.le_trans (Nat.le_trans (Nat.le_trans (Nat.le_trans (Nat.le_trans (Nat.le_trans (Nat.le_trans (Nat.le_trans (Nat.le_trans Z0 E84.1) (Keep.of_wr W87).1) (Keep.of_wr W90).1) (Keep.of_wr W93).1) (Keep.of_wr W96).1) E98.1) (Keep.of_wr W104).1) (Keep.of_wr W110).1) (Keep.of_wr W116).1) f120 (own_b8 p1) (own_b8 p2) (own_b8 p3) (own_b8 p4) (by decide : (2 : Int32) < (3 : Int32))) hZ (own_at hw 9 rfl) (own_at hw 8 rfl) (by decide) (by decide)) (g := (mkF m 181 #[iv p0, iv p1, iv p2, iv p3, iv p4, iv 3, rv b84, rv b98, iv 2] [(.int 2), (.int 2), (.int 3), (.ref b84)])) rfl (by rw [hml]; rfl) (argsL := [(.ref b84), (.int 3), (.int 2), (.int 2)]) (rest := []) (lenOf pd_1 rfl) rfl (Nat.le_refl _) (hb hby at_181) (fun _ _ => ⟨rfl, e121, (by decide : 2 + 0 ≤ _), (by decide : 7 + 0 ≤ _)⟩)
      dsimp only [Pt.U, Pt.locs, Pt.cells, Pt.slots] at X122 l122 y122 z122 st122 hQ122
      subst l122 y122 z122
      obtain ⟨rfl, N122q, e122⟩ := hQ122
      have N122 := Fr.app N121 N122q
      obtain ⟨_, _, ⟨T123, L123, j123, i123⟩, -, X123, ⟨Lc123, hQ123, l123, y123, z123⟩, st123⟩ := Jvm.LawKit.callS X122 hx (y := (⟨cS0, "ok", "([DIII)Z"⟩ : MethodName)) hown (mvT hZ (own_at hw 6 rfl)) (mvT hZ (own_at hw 7 rfl)) (mvT hZ (own_at hw 8 rfl)) (mvT hZ (own_at hw 9 rfl)) (by decide) (backOf (W := 0) (rm2_far l Z a0 hw [] b84 (3 : Int32) (2 : Int32) (3 : Int32) h116 n0 (Nat.le_trans (Nat.le_trans (Nat.le_trans (Nat.le_trans (Nat.le_trans (Nat.le_trans (Nat.le_trans (Nat.le_trans (Nat.le_trans Z0 E84.1) (Keep.of_wr W87).1) (Keep.of_wr W90).1) (Keep.of_wr W93).1) (Keep.of_wr W96).1) E98.1) (Keep.of_wr W104).1) (Keep.of_wr W110).1) (Keep.of_wr W116).1) (by decide : ¬ ((3 : Int32) < (3 : Int32)))) hZ (own_at hw 9 rfl) (own_at hw 8 rfl) (by decide) (by decide)) (g := (mkF m 194 #[iv p0, iv p1, iv p2, iv p3, iv p4, iv 3, rv b84, rv b98, iv 2] [(.int 3), (.int 2), (.int 3), (.ref b84)])) rfl (by rw [hml]; rfl) (argsL := [(.ref b84), (.int 3), (.int 2), (.int 3)]) (rest := []) (lenOf pd_1 rfl) rfl (Nat.le_refl _) (hb hby at_194) (fun _ _ => ⟨rfl, e122, (by decide : 2 + 0 ≤ _), (by decide : 7 + 0 ≤ _)⟩)
      dsimp only [Pt.U, Pt.locs, Pt.cells, Pt.slots] at X123 l123 y123 z123 st123 hQ123
      subst l123 y123 z123
      obtain ⟨rfl, N123q, e123⟩ := hQ123
      have N123 := Fr.app N122 N123q
      obtain ⟨fs, hr, hrun, hended, hW, hsame⟩ := X123.leave (v := some (.int 1)) (fun h => by rw [Bd.returns] at h; cases h)
      refine ⟨_, _, k118 _ ?_, hrun, hended, _, _, rfl, ?_, ⟨_, rfl⟩, hW, hsame.mono (by decide) (by decide)⟩
      · refine st117 _ ?_
        show OwnS p e below T117 (mkF m 116 #[iv p0, iv p1, iv p2, iv p3, iv p4, iv 3, rv b84, rv b98, .unset] [(.int 2)]) _
        refine XS.istore X117.here hx rfl (hb hby at_116) rfl (l' := #[iv p0, iv p1, iv p2, iv p3, iv p4, iv 3, rv b84, rv b98, iv 2]) rfl ?_
        show OwnS p e below T117 (mkF m 118 #[iv p0, iv p1, iv p2, iv p3, iv p4, iv 3, rv b84, rv b98, iv 2] []) _
        refine XS.iload X117.here hx rfl (hb hby at_118) rfl ?_
        show OwnS p e below T117 (mkF m 120 #[iv p0, iv p1, iv p2, iv p3, iv p4, iv 3, rv b84, rv b98, iv 2] [(.int 3)]) _
        refine XS.ifYes X117.here hx rfl (pc0 := 120) (pc' := 134) rfl (hb hby at_120) rfl ((if0 _ _).trans (feq (by decide : ¬ ((3 : Int32) = (0 : Int32)))).2) (by decide) (by decide) ?_
        show OwnS p e below T117 (mkF m 134 #[iv p0, iv p1, iv p2, iv p3, iv p4, iv 3, rv b84, rv b98, iv 2] []) _
        refine XS.iload X117.here hx rfl (hb hby at_134) rfl ?_
        show OwnS p e below T117 (mkF m 136 #[iv p0, iv p1, iv p2, iv p3, iv p4, iv 3, rv b84, rv b98, iv 2] [(.int 2)]) _
        refine XS.ifNo X117.here hx rfl (hb hby at_136) rfl ((if0 _ _).trans (flt (by decide : ¬ ((2 : Int32) < (0 : Int32)))).1) ?_
        show OwnS p e below T117 (mkF m 139 #[iv p0, iv p1, iv p2, iv p3, iv p4, iv 3, rv b84, rv b98, iv 2] []) _
        refine XS.iload X117.here hx rfl (hb hby at_139) rfl ?_
        show OwnS p e below T117 (mkF m 141 #[iv p0, iv p1, iv p2, iv p3, iv p4, iv 3, rv b84, rv b98, iv 2] [(.int 2)]) _
        refine XS.iload X117.here hx rfl (hb hby at_141) rfl ?_
        show OwnS p e below T117 (mkF m 143 #[iv p0, iv p1, iv p2, iv p3, iv p4, iv 3, rv b84, rv b98, iv 2] [(.int 3), (.int 2)]) _
        refine XS.icmpYes X117.here hx rfl (pc0 := 143) (pc' := 148) rfl (hb hby at_143) rfl (tlt (by decide : (2 : Int32) < (3 : Int32))).1 (by decide) (by decide) ?_
        show OwnS p e below T117 (mkF m 148 #[iv p0, iv p1, iv p2, iv p3, iv p4, iv 3, rv b84, rv b98, iv 2] []) _
        refine XS.aload X117.here hx rfl (hb hby at_148) rfl rfl ?_
        show OwnS p e below T117 (mkF m 150 #[iv p0, iv p1, iv p2, iv p3, iv p4, iv 3, rv b84, rv b98, iv 2] [(.ref b84)]) _
        refine XS.iload X117.here hx rfl (hb hby at_150) rfl ?_
        show OwnS p e below T117 (mkF m 152 #[iv p0, iv p1, iv p2, iv p3, iv p4, iv 3, rv b84, rv b98, iv 2] [(.int 3), (.ref b84)]) _
        refine XS.iload X117.here hx rfl (hb hby at_152) rfl ?_
        show OwnS p e below T117 (mkF m 154 #[iv p0, iv p1, iv p2, iv p3, iv p4, iv 3, rv b84, rv b98, iv 2] [(.int 2), (.int 3), (.ref b84)]) _
        refine XS.iconst X117.here hx rfl (hb hby at_154) ?_
        show OwnS p e below T117 (mkF m 155 #[iv p0, iv p1, iv p2, iv p3, iv p4, iv 3, rv b84, rv b98, iv 2] [(.int 0), (.int 2), (.int 3), (.ref b84)]) _
        refine st119 _ ?_
        show OwnS p e below T119 (mkF m 158 #[iv p0, iv p1, iv p2, iv p3, iv p4, iv 3, rv b84, rv b98, iv 2] [(.int 1)]) _
        refine XS.ifNo X119.here hx rfl (hb hby at_158) rfl ((if0 _ _).trans (feq (by decide : ¬ ((1 : Int32) = (0 : Int32)))).1) ?_
        show OwnS p e below T119 (mkF m 161 #[iv p0, iv p1, iv p2, iv p3, iv p4, iv 3, rv b84, rv b98, iv 2] []) _
        refine XS.aload X119.here hx rfl (hb hby at_161) rfl rfl ?_
        show OwnS p e below T119 (mkF m 163 #[iv p0, iv p1, iv p2, iv p3, iv p4, iv 3, rv b84, rv b98, iv 2] [(.ref b84)]) _
        refine XS.iload X119.here hx rfl (hb hby at_163) rfl ?_
        show OwnS p e below T119 (mkF m 165 #[iv p0, iv p1, iv p2, iv p3, iv p4, iv 3, rv b84, rv b98, iv 2] [(.int 3), (.ref b84)]) _
        refine XS.iload X119.here hx rfl (hb hby at_165) rfl ?_
        show OwnS p e below T119 (mkF m 167 #[iv p0, iv p1, iv p2, iv p3, iv p4, iv 3, rv b84, rv b98, iv 2] [(.int 2), (.int 3), (.ref b84)]) _
        refine XS.iconst X119.here hx rfl (hb hby at_167) ?_
        show OwnS p e below T119 (mkF m 168 #[iv p0, iv p1, iv p2, iv p3, iv p4, iv 3, rv b84, rv b98, iv 2] [(.int 1), (.int 2), (.int 3), (.ref b84)]) _
        refine st121 _ ?_
        show OwnS p e below T121 (mkF m 171 #[iv p0, iv p1, iv p2, iv p3, iv p4, iv 3, rv b84, rv b98, iv 2] [(.int 1)]) _
        refine XS.ifNo X121.here hx rfl (hb hby at_171) rfl ((if0 _ _).trans (feq (by decide : ¬ ((1 : Int32) = (0 : Int32)))).1) ?_
        show OwnS p e below T121 (mkF m 174 #[iv p0, iv p1, iv p2, iv p3, iv p4, iv 3, rv b84, rv b98, iv 2] []) _
        refine XS.aload X121.here hx rfl (hb hby at_174) rfl rfl ?_
        show OwnS p e below T121 (mkF m 176 #[iv p0, iv p1, iv p2, iv p3, iv p4, iv 3, rv b84, rv b98, iv 2] [(.ref b84)]) _
        refine XS.iload X121.here hx rfl (hb hby at_176) rfl ?_
        show OwnS p e below T121 (mkF m 178 #[iv p0, iv p1, iv p2, iv p3, iv p4, iv 3, rv b84, rv b98, iv 2] [(.int 3), (.ref b84)]) _
        refine XS.iload X121.here hx rfl (hb hby at_178) rfl ?_
        show OwnS p e below T121 (mkF m 180 #[iv p0, iv p1, iv p2, iv p3, iv p4, iv 3, rv b84, rv b98, iv 2] [(.int 2), (.int 3), (.ref b84)]) _
        refine XS.iconst X121.here hx rfl (hb hby at_180) ?_
        show OwnS p e below T121 (mkF m 181 #[iv p0, iv p1, iv p2, iv p3, iv p4, iv 3, rv b84, rv b98, iv 2] [(.int 2), (.int 2), (.int 3), (.ref b84)]) _
        refine st122 _ ?_
        show OwnS p e below T122 (mkF m 184 #[iv p0, iv p1, iv p2, iv p3, iv p4, iv 3, rv b84, rv b98, iv 2] [(.int 1)]) _
        refine XS.ifNo X122.here hx rfl (hb hby at_184) rfl ((if0 _ _).trans (feq (by decide : ¬ ((1 : Int32) = (0 : Int32)))).1) ?_
        show OwnS p e below T122 (mkF m 187 #[iv p0, iv p1, iv p2, iv p3, iv p4, iv 3, rv b84, rv b98, iv 2] []) _
        refine XS.aload X122.here hx rfl (hb hby at_187) rfl rfl ?_
        show OwnS p e below T122 (mkF m 189 #[iv p0, iv p1, iv p2, iv p3, iv p4, iv 3, rv b84, rv b98, iv 2] [(.ref b84)]) _
        refine XS.iload X122.here hx rfl (hb hby at_189) rfl ?_
        show OwnS p e below T122 (mkF m 191 #[iv p0, iv p1, iv p2, iv p3, iv p4, iv 3, rv b84, rv b98, iv 2] [(.int 3), (.ref b84)]) _
        refine XS.iload X122.here hx rfl (hb hby at_191) rfl ?_
        show OwnS p e below T122 (mkF m 193 #[iv p0, iv p1, iv p2, iv p3, iv p4, iv 3, rv b84, rv b98, iv 2] [(.int 2), (.int 3), (.ref b84)]) _
        refine XS.iconst X122.here hx rfl (hb hby at_193) ?_
        show OwnS p e below T122 (mkF m 194 #[iv p0, iv p1, iv p2, iv p3, iv p4, iv 3, rv b84, rv b98, iv 2] [(.int 3), (.int 2), (.int 3), (.ref b84)]) _
        refine st123 _ ?_
        show OwnS p e below T123 (mkF m 197 #[iv p0, iv p1, iv p2, iv p3, iv p4, iv 3, rv b84, rv b98, iv 2] [(.int 1)]) _
        refine XS.ifNo X123.here hx rfl (hb hby at_197) rfl ((if0 _ _).trans (feq (by decide : ¬ ((1 : Int32) = (0 : Int32)))).1) ?_
        show OwnS p e below T123 (mkF m 200 #[iv p0, iv p1, iv p2, iv p3, iv p4, iv 3, rv b84, rv b98, iv 2] []) _
        refine XS.iconst X123.here hx rfl (hb hby at_200) ?_
        show OwnS p e below T123 (mkF m 201 #[iv p0, iv p1, iv p2, iv p3, iv p4, iv 3, rv b84, rv b98, iv 2] [(.int 1)]) _
        refine XS.goto X123.here hx rfl (pc0 := 201) (pc' := 205) rfl (hb hby at_201) (by decide) (by decide) ?_
        show OwnS p e below T123 (mkF m 205 #[iv p0, iv p1, iv p2, iv p3, iv p4, iv 3, rv b84, rv b98, iv 2] [(.int 1)]) _
        exact retN X123 hx (t := .boolean) Bd.returns (by simp) (hb hby at_205) hr
      · show Q_0 Z p0 p1 p2 p3 p4 h0 n0 _ T123.heap _
        rw [e123]
        exact ⟨rfl, N123, trivial⟩
    · have N117 := Fr.app N116 N117q
      have f125 := (f111.other W116 (Nat.ne_of_lt (Nat.lt_of_lt_of_le f97.lt (Nat.le_of_eq g98.symm))))
      obtain ⟨_, _, ⟨T124, L124, j124, i124⟩, -, X124, ⟨Lc124, hQ124, l124, y124, z124⟩, st124⟩ := Jvm.LawKit.callS X117 hx (y := (⟨cS0, "ok", "([DIII)Z"⟩ : MethodName)) hown (mvT hZ (own_at hw 6 rfl)) (mvT hZ (own_at hw 7 rfl)) (mvT hZ (own_at hw 8 rfl)) (mvT hZ (own_at hw 9 rfl)) (by decide) (backOf (W := 0) (rm2_10 l Z a0 hw [] b84 (3 : Int32) k84 (p1 % (8 : Int32)).toInt64 (p2 % (8 : Int32)).toInt64 (p3 % (8 : Int32)).toInt64 (p4 % (8 : Int32)).toInt64 h116 n0 (Nat.le_trans (Nat.le_trans (Nat.le_trans (Nat.le_trans (Nat.le_trans (Nat.le_trans (Nat.le_trans (Nat.le_trans (Nat.le_trans Z0 E84.1) (Keep.of_wr W87).1) (Keep.of_wr W90).1) (Keep.of_wr W93).1) (Keep.of_wr W96).1) E98.1) (Keep.of_wr W104).1) (Keep.of_wr W110).1) (Keep.of_wr W116).1) f125 (own_b8 p1) (own_b8 p2) (own_b8 p3) (own_b8 p4) (by decide : (0 : Int32) < (3 : Int32)) p117_0 p117_2) hZ (own_at hw 9 rfl) (own_at hw 8 rfl) (by decide) (by decide)) (g := (mkF m 155 #[iv p0, iv p1, iv p2, iv p3, iv p4, iv 3, rv b84, rv b98, iv 1] [(.int 0), (.int 1), (.int 3), (.ref b84)])) rfl (by rw [hml]; rfl) (argsL := [(.ref b84), (.int 3), (.int 1), (.int 0)]) (rest := []) (lenOf pd_1 rfl) rfl (Nat.le_refl _) (hb hby at_155) (fun _ _ => ⟨rfl, e117, (by decide : 2 + 0 ≤ _), (by decide : 7 + 0 ≤ _)⟩)
      dsimp only [Pt.U, Pt.locs, Pt.cells, Pt.slots] at X124 l124 y124 z124 st124 hQ124
      subst l124 y124 z124
      obtain ⟨rfl, N124q, e124⟩ := hQ124
      have N124 := Fr.app N117 N124q
      obtain ⟨_, _, ⟨T126, L126, j126, i126⟩, -, X126, ⟨Lc126, hQ126, l126, y126, z126⟩, st126⟩ := Jvm.LawKit.callS X124 hx (y := (⟨cS0, "ok", "([DIII)Z"⟩ : MethodName)) hown (mvT hZ (own_at hw 6 rfl)) (mvT hZ (own_at hw 7 rfl)) (mvT hZ (own_at hw 8 rfl)) (mvT hZ (own_at hw 9 rfl)) (by decide) (backOf (W := 0) (rm2_11 l Z a0 hw [] b84 (3 : Int32) k84 (p1 % (8 : Int32)).toInt64 (p2 % (8 : Int32)).toInt64 (p3 % (8 : Int32)).toInt64 (p4 % (8 : Int32)).toInt64 h116 n0 (Nat.le_trans (Nat.le_trans (Nat.le_trans (Nat.le_trans (Nat.le_trans (Nat.le_trans (Nat.le_trans (Nat.le_trans (Nat.le_trans Z0 E84.1) (Keep.of_wr W87).1) (Keep.of_wr W90).1) (Keep.of_wr W93).1) (Keep.of_wr W96).1) E98.1) (Keep.of_wr W104).1) (Keep.of_wr W110).1) (Keep.of_wr W116).1) f125 (own_b8 p1) (own_b8 p2) (own_b8 p3) (own_b8 p4) (by decide : (1 : Int32) < (3 : Int32))) hZ (own_at hw 9 rfl) (own_at hw 8 rfl) (by decide) (by decide)) (g := (mkF m 168 #[iv p0, iv p1, iv p2, iv p3, iv p4, iv 3, rv b84, rv b98, iv 1] [(.int 1), (.int 1), (.int 3), (.ref b84)])) rfl (by rw [hml]; rfl) (argsL := [(.ref b84), (.int 3), (.int 1), (.int 1)]) (rest := []) (lenOf pd_1 rfl) rfl (Nat.le_refl _) (hb hby at_168) (fun _ _ => ⟨rfl, e124, (by decide : 2 + 0 ≤ _), (by decide : 7 + 0 ≤ _)⟩)
      dsimp only [Pt.U, Pt.locs, Pt.cells, Pt.slots] at X126 l126 y126 z126 st126 hQ126
      subst l126 y126 z126
      obtain ⟨rfl, N126q, e126⟩ := hQ126
      have N126 := Fr.app N124 N126q
      obtain ⟨_, _, ⟨T127, L127, j127, i127⟩, -, X127, ⟨Lc127, hQ127, l127, y127, z127⟩, st127⟩ := Jvm.LawKit.callS X126 hx (y := (⟨cS0, "ok", "([DIII)Z"⟩ : MethodName)) hown (mvT hZ (own_at hw 6 rfl)) (mvT hZ (own_at hw 7 rfl)) (mvT hZ (own_at hw 8 rfl)) (mvT hZ (own_at hw 9 rfl)) (by decide) (backOf (W := 0) (rm2_12 l Z a0 hw [] b84 (3 : Int32) k84 (p1 % (8 : Int32)).toInt64 (p2 % (8 : Int32)).toInt64 (p3 % (8 : Int32)).toInt64 (p4 % (8 : Int32)).toInt64 h116 n0 (Nat.le_trans (Nat.le_trans (Nat.le_trans (Nat.le_trans (Nat.le_trans (Nat.le_trans (Nat.le_trans (Nat.le_trans (Nat.le_trans Z0 E84.1) (Keep.of_wr W87).1) (Keep.of_wr W90).1) (Keep.of_wr W93).1) (Keep.of_wr W96).1) E98.1) (Keep.of_wr W104).1) (Keep.of_wr W110).1) (Keep.of_wr W116).1) f125 (own_b8 p1) (own_b8 p2) (own_b8 p3) (own_b8 p4) (by decide : (2 : Int32) < (3 : Int32)) p117_1) hZ (own_at hw 9 rfl) (own_at hw 8 rfl) (by decide) (by decide)) (g := (mkF m 181 #[iv p0, iv p1, iv p2, iv p3, iv p4, iv 3, rv b84, rv b98, iv 1] [(.int 2), (.int 1), (.int 3), (.ref b84)])) rfl (by rw [hml]; rfl) (argsL := [(.ref b84), (.int 3), (.int 1), (.int 2)]) (rest := []) (lenOf pd_1 rfl) rfl (Nat.le_refl _) (hb hby at_181) (fun _ _ => ⟨rfl, e126, (by decide : 2 + 0 ≤ _), (by decide : 7 + 0 ≤ _)⟩)
      dsimp only [Pt.U, Pt.locs, Pt.cells, Pt.slots] at X127 l127 y127 z127 st127 hQ127
      subst l127 y127 z127
      obtain ⟨rfl, N127q, e127⟩ := hQ127
      have N127 := Fr.app N126 N127q
      obtain ⟨_, _, ⟨T128, L128, j128, i128⟩, -, X128, ⟨Lc128, hQ128, l128, y128, z128⟩, st128⟩ := Jvm.LawKit.callS X127 hx (y := (⟨cS0, "ok", "([DIII)Z"⟩ : MethodName)) hown (mvT hZ (own_at hw 6 rfl)) (mvT hZ (own_at hw 7 rfl)) (mvT hZ (own_at hw 8 rfl)) (mvT hZ (own_at hw 9 rfl)) (by decide) (backOf (W := 0) (rm2_far l Z a0 hw [] b84 (3 : Int32) (1 : Int32) (3 : Int32) h116 n0 (Nat.le_trans (Nat.le_trans (Nat.le_trans (Nat.le_trans (Nat.le_trans (Nat.le_trans (Nat.le_trans (Nat.le_trans (Nat.le_trans Z0 E84.1) (Keep.of_wr W87).1) (Keep.of_wr W90).1) (Keep.of_wr W93).1) (Keep.of_wr W96).1) E98.1) (Keep.of_wr W104).1) (Keep.of_wr W110).1) (Keep.of_wr W116).1) (by decide : ¬ ((3 : Int32) < (3 : Int32)))) hZ (own_at hw 9 rfl) (own_at hw 8 rfl) (by decide) (by decide)) (g := (mkF m 194 #[iv p0, iv p1, iv p2, iv p3, iv p4, iv 3, rv b84, rv b98, iv 1] [(.int 3), (.int 1), (.int 3), (.ref b84)])) rfl (by rw [hml]; rfl) (argsL := [(.ref b84), (.int 3), (.int 1), (.int 3)]) (rest := []) (lenOf pd_1 rfl) rfl (Nat.le_refl _) (hb hby at_194) (fun _ _ => ⟨rfl, e127, (by decide : 2 + 0 ≤ _), (by decide : 7 + 0 ≤ _)⟩)
      dsimp only [Pt.U, Pt.locs, Pt.cells, Pt.slots] at X128 l128 y128 z128 st128 hQ128
      subst l128 y128 z128
      obtain ⟨rfl, N128q, e128⟩ := hQ128
      have N128 := Fr.app N127 N128q
      obtain ⟨fs, hr, hrun, hended, hW, hsame⟩ := X128.leave (v := some (.int 1)) (fun h => by rw [Bd.returns] at h; cases h)
      refine ⟨_, _, k118 _ ?_, hrun, hended, _, _, rfl, ?_, ⟨_, rfl⟩, hW, hsame.mono (by decide) (by decide)⟩
      · refine st117 _ ?_
        show OwnS p e below T117 (mkF m 116 #[iv p0, iv p1, iv p2, iv p3, iv p4, iv 3, rv b84, rv b98, .unset] [(.int 1)]) _
        refine XS.istore X117.here hx rfl (hb hby at_116) rfl (l' := #[iv p0, iv p1, iv p2, iv p3, iv p4, iv 3, rv b84, rv b98, iv 1]) rfl ?_
        show OwnS p e below T117 (mkF m 118 #[iv p0, iv p1, iv p2, iv p3, iv p4, iv 3, rv b84, rv b98, iv 1] []) _
        refine XS.iload X117.here hx rfl (hb hby at_118) rfl ?_
        show OwnS p e below T117 (mkF m 120 #[iv p0, iv p1, iv p2, iv p3, iv p4, iv 3, rv b84, rv b98, iv 1] [(.int 3)]) _
        refine XS.ifYes X117.here hx rfl (pc0 := 120) (pc' := 134) rfl (hb hby at_120) rfl ((if0 _ _).trans (feq (by decide : ¬ ((3 : Int32) = (0 : Int32)))).2) (by decide) (by decide) ?_
        show OwnS p e below T117 (mkF m 134 #[iv p0, iv p1, iv p2, iv p3, iv p4, iv 3, rv b84, rv b98, iv 1] []) _
        refine XS.iload X117.here hx rfl (hb hby at_134) rfl ?_
        show OwnS p e below T117 (mkF m 136 #[iv p0, iv p1, iv p2, iv p3, iv p4, iv 3, rv b84, rv b98, iv 1] [(.int 1)]) _
        refine XS.ifNo X117.here hx rfl (hb hby at_136) rfl ((if0 _ _).trans (flt (by decide : ¬ ((1 : Int32) < (0 : Int32)))).1) ?_
        show OwnS p e below T117 (mkF m 139 #[iv p0, iv p1, iv p2, iv p3, iv p4, iv 3, rv b84, rv b98, iv 1] []) _
        refine XS.iload X117.here hx rfl (hb hby at_139) rfl ?_
        show OwnS p e below T117 (mkF m 141 #[iv p0, iv p1, iv p2, iv p3, iv p4, iv 3, rv b84, rv b98, iv 1] [(.int 1)]) _
        refine XS.iload X117.here hx rfl (hb hby at_141) rfl ?_
        show OwnS p e below T117 (mkF m 143 #[iv p0, iv p1, iv p2, iv p3, iv p4, iv 3, rv b84, rv b98, iv 1] [(.int 3), (.int 1)]) _
        refine XS.icmpYes X117.here hx rfl (pc0 := 143) (pc' := 148) rfl (hb hby at_143) rfl (tlt (by decide : (1 : Int32) < (3 : Int32))).1 (by decide) (by decide) ?_
        show OwnS p e below T117 (mkF m 148 #[iv p0, iv p1, iv p2, iv p3, iv p4, iv 3, rv b84, rv b98, iv 1] []) _
        refine XS.aload X117.here hx rfl (hb hby at_148) rfl rfl ?_
        show OwnS p e below T117 (mkF m 150 #[iv p0, iv p1, iv p2, iv p3, iv p4, iv 3, rv b84, rv b98, iv 1] [(.ref b84)]) _
        refine XS.iload X117.here hx rfl (hb hby at_150) rfl ?_
        show OwnS p e below T117 (mkF m 152 #[iv p0, iv p1, iv p2, iv p3, iv p4, iv 3, rv b84, rv b98, iv 1] [(.int 3), (.ref b84)]) _
        refine XS.iload X117.here hx rfl (hb hby at_152) rfl ?_
        show OwnS p e below T117 (mkF m 154 #[iv p0, iv p1, iv p2, iv p3, iv p4, iv 3, rv b84, rv b98, iv 1] [(.int 1), (.int 3), (.ref b84)]) _
        refine XS.iconst X117.here hx rfl (hb hby at_154) ?_
        show OwnS p e below T117 (mkF m 155 #[iv p0, iv p1, iv p2, iv p3, iv p4, iv 3, rv b84, rv b98, iv 1] [(.int 0), (.int 1), (.int 3), (.ref b84)]) _
        refine st124 _ ?_
        show OwnS p e below T124 (mkF m 158 #[iv p0, iv p1, iv p2, iv p3, iv p4, iv 3, rv b84, rv b98, iv 1] [(.int 1)]) _
        refine XS.ifNo X124.here hx rfl (hb hby at_158) rfl ((if0 _ _).trans (feq (by decide : ¬ ((1 : Int32) = (0 : Int32)))).1) ?_
        show OwnS p e below T124 (mkF m 161 #[iv p0, iv p1, iv p2, iv p3, iv p4, iv 3, rv b84, rv b98, iv 1] []) _
        refine XS.aload X124.here hx rfl (hb hby at_161) rfl rfl ?_
        show OwnS p e below T124 (mkF m 163 #[iv p0, iv p1, iv p2, iv p3, iv p4, iv 3, rv b84, rv b98, iv 1] [(.ref b84)]) _
        refine XS.iload X124.here hx rfl (hb hby at_163) rfl ?_
        show OwnS p e below T124 (mkF m 165 #[iv p0, iv p1, iv p2, iv p3, iv p4, iv 3, rv b84, rv b98, iv 1] [(.int 3), (.ref b84)]) _
        refine XS.iload X124.here hx rfl (hb hby at_165) rfl ?_
        show OwnS p e below T124 (mkF m 167 #[iv p0, iv p1, iv p2, iv p3, iv p4, iv 3, rv b84, rv b98, iv 1] [(.int 1), (.int 3), (.ref b84)]) _
        refine XS.iconst X124.here hx rfl (hb hby at_167) ?_
        show OwnS p e below T124 (mkF m 168 #[iv p0, iv p1, iv p2, iv p3, iv p4, iv 3, rv b84, rv b98, iv 1] [(.int 1), (.int 1), (.int 3), (.ref b84)]) _
        refine st126 _ ?_
        show OwnS p e below T126 (mkF m 171 #[iv p0, iv p1, iv p2, iv p3, iv p4, iv 3, rv b84, rv b98, iv 1] [(.int 1)]) _
        refine XS.ifNo X126.here hx rfl (hb hby at_171) rfl ((if0 _ _).trans (feq (by decide : ¬ ((1 : Int32) = (0 : Int32)))).1) ?_
        show OwnS p e below T126 (mkF m 174 #[iv p0, iv p1, iv p2, iv p3, iv p4, iv 3, rv b84, rv b98, iv 1] []) _
        refine XS.aload X126.here hx rfl (hb hby at_174) rfl rfl ?_
        show OwnS p e below T126 (mkF m 176 #[iv p0, iv p1, iv p2, iv p3, iv p4, iv 3, rv b84, rv b98, iv 1] [(.ref b84)]) _
        refine XS.iload X126.here hx rfl (hb hby at_176) rfl ?_
        show OwnS p e below T126 (mkF m 178 #[iv p0, iv p1, iv p2, iv p3, iv p4, iv 3, rv b84, rv b98, iv 1] [(.int 3), (.ref b84)]) _
        refine XS.iload X126.here hx rfl (hb hby at_178) rfl ?_
        show OwnS p e below T126 (mkF m 180 #[iv p0, iv p1, iv p2, iv p3, iv p4, iv 3, rv b84, rv b98, iv 1] [(.int 1), (.int 3), (.ref b84)]) _
        refine XS.iconst X126.here hx rfl (hb hby at_180) ?_
        show OwnS p e below T126 (mkF m 181 #[iv p0, iv p1, iv p2, iv p3, iv p4, iv 3, rv b84, rv b98, iv 1] [(.int 2), (.int 1), (.int 3), (.ref b84)]) _
        refine st127 _ ?_
        show OwnS p e below T127 (mkF m 184 #[iv p0, iv p1, iv p2, iv p3, iv p4, iv 3, rv b84, rv b98, iv 1] [(.int 1)]) _
        refine XS.ifNo X127.here hx rfl (hb hby at_184) rfl ((if0 _ _).trans (feq (by decide : ¬ ((1 : Int32) = (0 : Int32)))).1) ?_
        show OwnS p e below T127 (mkF m 187 #[iv p0, iv p1, iv p2, iv p3, iv p4, iv 3, rv b84, rv b98, iv 1] []) _
        refine XS.aload X127.here hx rfl (hb hby at_187) rfl rfl ?_
        show OwnS p e below T127 (mkF m 189 #[iv p0, iv p1, iv p2, iv p3, iv p4, iv 3, rv b84, rv b98, iv 1] [(.ref b84)]) _
        refine XS.iload X127.here hx rfl (hb hby at_189) rfl ?_
        show OwnS p e below T127 (mkF m 191 #[iv p0, iv p1, iv p2, iv p3, iv p4, iv 3, rv b84, rv b98, iv 1] [(.int 3), (.ref b84)]) _
        refine XS.iload X127.here hx rfl (hb hby at_191) rfl ?_
        show OwnS p e below T127 (mkF m 193 #[iv p0, iv p1, iv p2, iv p3, iv p4, iv 3, rv b84, rv b98, iv 1] [(.int 1), (.int 3), (.ref b84)]) _
        refine XS.iconst X127.here hx rfl (hb hby at_193) ?_
        show OwnS p e below T127 (mkF m 194 #[iv p0, iv p1, iv p2, iv p3, iv p4, iv 3, rv b84, rv b98, iv 1] [(.int 3), (.int 1), (.int 3), (.ref b84)]) _
        refine st128 _ ?_
        show OwnS p e below T128 (mkF m 197 #[iv p0, iv p1, iv p2, iv p3, iv p4, iv 3, rv b84, rv b98, iv 1] [(.int 1)]) _
        refine XS.ifNo X128.here hx rfl (hb hby at_197) rfl ((if0 _ _).trans (feq (by decide : ¬ ((1 : Int32) = (0 : Int32)))).1) ?_
        show OwnS p e below T128 (mkF m 200 #[iv p0, iv p1, iv p2, iv p3, iv p4, iv 3, rv b84, rv b98, iv 1] []) _
        refine XS.iconst X128.here hx rfl (hb hby at_200) ?_
        show OwnS p e below T128 (mkF m 201 #[iv p0, iv p1, iv p2, iv p3, iv p4, iv 3, rv b84, rv b98, iv 1] [(.int 1)]) _
        refine XS.goto X128.here hx rfl (pc0 := 201) (pc' := 205) rfl (hb hby at_201) (by decide) (by decide) ?_
        show OwnS p e below T128 (mkF m 205 #[iv p0, iv p1, iv p2, iv p3, iv p4, iv 3, rv b84, rv b98, iv 1] [(.int 1)]) _
        exact retN X128 hx (t := .boolean) Bd.returns (by simp) (hb hby at_205) hr
      · show Q_0 Z p0 p1 p2 p3 p4 h0 n0 _ T128.heap _
        rw [e128]
        exact ⟨rfl, N128, trivial⟩
    · have N117 := Fr.app N116 N117q
      have f130 := (f111.other W116 (Nat.ne_of_lt (Nat.lt_of_lt_of_le f97.lt (Nat.le_of_eq g98.symm))))
      obtain ⟨_, _, ⟨T129, L129, j129, i129⟩, -, X129, ⟨Lc129, hQ129, l129, y129, z129⟩, st129⟩ := Jvm.LawKit.callS X117 hx (y := (⟨cS0, "ok", "([DIII)Z"⟩ : MethodName)) hown (mvT hZ (own_at hw 6 rfl)) (mvT hZ (own_at hw 7 rfl)) (mvT hZ (own_at hw 8 rfl)) (mvT hZ (own_at hw 9 rfl)) (by decide) (backOf (W := 0) (rm2_00 l Z a0 hw [] b84 (3 : Int32) k84 (p1 % (8 : Int32)).toInt64 (p2 % (8 : Int32)).toInt64 (p3 % (8 : Int32)).toInt64 (p4 % (8 : Int32)).toInt64 h116 n0 (Nat.le_trans (Nat.le_trans (Nat.le_trans (Nat.le_trans (Nat.le_trans (Nat.le_trans (Nat.le_trans (Nat.le_trans (Nat.le_trans Z0 E84.1) (Keep.of_wr W87).1) (Keep.of_wr W90).1) (Keep.of_wr W93).1) (Keep.of_wr W96).1) E98.1) (Keep.of_wr W104).1) (Keep.of_wr W110).1) (Keep.of_wr W116).1) f130 (own_b8 p1) (own_b8 p2) (own_b8 p3) (own_b8 p4) (by decide : (0 : Int32) < (3 : Int32))) hZ (own_at hw 9 rfl) (own_at hw 8 rfl) (by decide) (by decide)) (g := (mkF m 155 #[iv p0, iv p1, iv p2, iv p3, iv p4, iv 3, rv b84, rv b98, iv 0] [(.int 0), (.int 0), (.int 3), (.ref b84)])) rfl (by rw [hml]; rfl) (argsL := [(.ref b84), (.int 3), (.int 0), (.int 0)]) (rest := []) (lenOf pd_1 rfl) rfl (Nat.le_refl _) (hb hby at_155) (fun _ _ => ⟨rfl, e117, (by decide : 2 + 0 ≤ _), (by decide : 7 + 0 ≤ _)⟩)
      dsimp only [Pt.U, Pt.locs, Pt.cells, Pt.slots] at X129 l129 y129 z129 st129 hQ129
      subst l129 y129 z129
      obtain ⟨rfl, N129q, e129⟩ := hQ129
      have N129 := Fr.app N117 N129q
      obtain ⟨_, _, ⟨T131, L131, j131, i131⟩, -, X131, ⟨Lc131, hQ131, l131, y131, z131⟩, st131⟩ := Jvm.LawKit.callS X129 hx (y := (⟨cS0, "ok", "([DIII)Z"⟩ : MethodName)) hown (mvT hZ (own_at hw 6 rfl)) (mvT hZ (own_at hw 7 rfl)) (mvT hZ (own_at hw 8 rfl)) (mvT hZ (own_at hw 9 rfl)) (by decide) (backOf (W := 0) (rm2_01 l Z a0 hw [] b84 (3 : Int32) k84 (p1 % (8 : Int32)).toInt64 (p2 % (8 : Int32)).toInt64 (p3 % (8 : Int32)).toInt64 (p4 % (8 : Int32)).toInt64 h116 n0 (Nat.le_trans (Nat.le_trans (Nat.le_trans (Nat.le_trans (Nat.le_trans (Nat.le_trans (Nat.le_trans (Nat.le_trans (Nat.le_trans Z0 E84.1) (Keep.of_wr W87).1) (Keep.of_wr W90).1) (Keep.of_wr W93).1) (Keep.of_wr W96).1) E98.1) (Keep.of_wr W104).1) (Keep.of_wr W110).1) (Keep.of_wr W116).1) f130 (own_b8 p1) (own_b8 p2) (own_b8 p3) (own_b8 p4) (by decide : (1 : Int32) < (3 : Int32)) p117_0) hZ (own_at hw 9 rfl) (own_at hw 8 rfl) (by decide) (by decide)) (g := (mkF m 168 #[iv p0, iv p1, iv p2, iv p3, iv p4, iv 3, rv b84, rv b98, iv 0] [(.int 1), (.int 0), (.int 3), (.ref b84)])) rfl (by rw [hml]; rfl) (argsL := [(.ref b84), (.int 3), (.int 0), (.int 1)]) (rest := []) (lenOf pd_1 rfl) rfl (Nat.le_refl _) (hb hby at_168) (fun _ _ => ⟨rfl, e129, (by decide : 2 + 0 ≤ _), (by decide : 7 + 0 ≤ _)⟩)
      dsimp only [Pt.U, Pt.locs, Pt.cells, Pt.slots] at X131 l131 y131 z131 st131 hQ131
      subst l131 y131 z131
      obtain ⟨rfl, N131q, e131⟩ := hQ131
      have N131 := Fr.app N129 N131q
      obtain ⟨_, _, ⟨T132, L132, j132, i132⟩, -, X132, ⟨Lc132, hQ132, l132, y132, z132⟩, st132⟩ := Jvm.LawKit.callS X131 hx (y := (⟨cS0, "ok", "([DIII)Z"⟩ : MethodName)) hown (mvT hZ (own_at hw 6 rfl)) (mvT hZ (own_at hw 7 rfl)) (mvT hZ (own_at hw 8 rfl)) (mvT hZ (own_at hw 9 rfl)) (by decide) (backOf (W := 0) (rm2_02 l Z a0 hw [] b84 (3 : Int32) k84 (p1 % (8 : Int32)).toInt64 (p2 % (8 : Int32)).toInt64 (p3 % (8 : Int32)).toInt64 (p4 % (8 : Int32)).toInt64 h116 n0 (Nat.le_trans (Nat.le_trans (Nat.le_trans (Nat.le_trans (Nat.le_trans (Nat.le_trans (Nat.le_trans (Nat.le_trans (Nat.le_trans Z0 E84.1) (Keep.of_wr W87).1) (Keep.of_wr W90).1) (Keep.of_wr W93).1) (Keep.of_wr W96).1) E98.1) (Keep.of_wr W104).1) (Keep.of_wr W110).1) (Keep.of_wr W116).1) f130 (own_b8 p1) (own_b8 p2) (own_b8 p3) (own_b8 p4) (by decide : (2 : Int32) < (3 : Int32)) p117_1) hZ (own_at hw 9 rfl) (own_at hw 8 rfl) (by decide) (by decide)) (g := (mkF m 181 #[iv p0, iv p1, iv p2, iv p3, iv p4, iv 3, rv b84, rv b98, iv 0] [(.int 2), (.int 0), (.int 3), (.ref b84)])) rfl (by rw [hml]; rfl) (argsL := [(.ref b84), (.int 3), (.int 0), (.int 2)]) (rest := []) (lenOf pd_1 rfl) rfl (Nat.le_refl _) (hb hby at_181) (fun _ _ => ⟨rfl, e131, (by decide : 2 + 0 ≤ _), (by decide : 7 + 0 ≤ _)⟩)
      dsimp only [Pt.U, Pt.locs, Pt.cells, Pt.slots] at X132 l132 y132 z132 st132 hQ132
      subst l132 y132 z132
      obtain ⟨rfl, N132q, e132⟩ := hQ132
      have N132 := Fr.app N131 N132q
      obtain ⟨_, _, ⟨T133, L133, j133, i133⟩, -, X133, ⟨Lc133, hQ133, l133, y133, z133⟩, st133⟩ := Jvm.LawKit.callS X132 hx (y := (⟨cS0, "ok", "([DIII)Z"⟩ : MethodName)) hown (mvT hZ (own_at hw 6 rfl)) (mvT hZ (own_at hw 7 rfl)) (mvT hZ (own_at hw 8 rfl)) (mvT hZ (own_at hw 9 rfl)) (by decide) (backOf (W := 0) (rm2_far l Z a0 hw [] b84 (3 : Int32) (0 : Int32) (3 : Int32) h116 n0 (Nat.le_trans (Nat.le_trans (Nat.le_trans (Nat.le_trans (Nat.le_trans (Nat.le_trans (Nat.le_trans (Nat.le_trans (Nat.le_trans Z0 E84.1) (Keep.of_wr W87).1) (Keep.of_wr W90).1) (Keep.of_wr W93).1) (Keep.of_wr W96).1) E98.1) (Keep.of_wr W104).1) (Keep.of_wr W110).1) (Keep.of_wr W116).1) (by decide : ¬ ((3 : Int32) < (3 : Int32)))) hZ (own_at hw 9 rfl) (own_at hw 8 rfl) (by decide) (by decide)) (g := (mkF m 194 #[iv p0, iv p1, iv p2, iv p3, iv p4, iv 3, rv b84, rv b98, iv 0] [(.int 3), (.int 0), (.int 3), (.ref b84)])) rfl (by rw [hml]; rfl) (argsL := [(.ref b84), (.int 3), (.int 0), (.int 3)]) (rest := []) (lenOf pd_1 rfl) rfl (Nat.le_refl _) (hb hby at_194) (fun _ _ => ⟨rfl, e132, (by decide : 2 + 0 ≤ _), (by decide : 7 + 0 ≤ _)⟩)
      dsimp only [Pt.U, Pt.locs, Pt.cells, Pt.slots] at X133 l133 y133 z133 st133 hQ133
      subst l133 y133 z133
      obtain ⟨rfl, N133q, e133⟩ := hQ133
      have N133 := Fr.app N132 N133q
      obtain ⟨fs, hr, hrun, hended, hW, hsame⟩ := X133.leave (v := some (.int 1)) (fun h => by rw [Bd.returns] at h; cases h)
      refine ⟨_, _, k118 _ ?_, hrun, hended, _, _, rfl, ?_, ⟨_, rfl⟩, hW, hsame.mono (by decide) (by decide)⟩
      · refine st117 _ ?_
        show OwnS p e below T117 (mkF m 116 #[iv p0, iv p1, iv p2, iv p3, iv p4, iv 3, rv b84, rv b98, .unset] [(.int 0)]) _
        refine XS.istore X117.here hx rfl (hb hby at_116) rfl (l' := #[iv p0, iv p1, iv p2, iv p3, iv p4, iv 3, rv b84, rv b98, iv 0]) rfl ?_
        show OwnS p e below T117 (mkF m 118 #[iv p0, iv p1, iv p2, iv p3, iv p4, iv 3, rv b84, rv b98, iv 0] []) _
        refine XS.iload X117.here hx rfl (hb hby at_118) rfl ?_
        show OwnS p e below T117 (mkF m 120 #[iv p0, iv p1, iv p2, iv p3, iv p4, iv 3, rv b84, rv b98, iv 0] [(.int 3)]) _
        refine XS.ifYes X117.here hx rfl (pc0 := 120) (pc' := 134) rfl (hb hby at_120) rfl ((if0 _ _).trans (feq (by decide : ¬ ((3 : Int32) = (0 : Int32)))).2) (by decide) (by decide) ?_
        show OwnS p e below T117 (mkF m 134 #[iv p0, iv p1, iv p2, iv p3, iv p4, iv 3, rv b84, rv b98, iv 0] []) _
        refine XS.iload X117.here hx rfl (hb hby at_134) rfl ?_
        show OwnS p e below T117 (mkF m 136 #[iv p0, iv p1, iv p2, iv p3, iv p4, iv 3, rv b84, rv b98, iv 0] [(.int 0)]) _
        refine XS.ifNo X117.here hx rfl (hb hby at_136) rfl ((if0 _ _).trans (flt (by decide : ¬ ((0 : Int32) < (0 : Int32)))).1) ?_
        show OwnS p e below T117 (mkF m 139 #[iv p0, iv p1, iv p2, iv p3, iv p4, iv 3, rv b84, rv b98, iv 0] []) _
        refine XS.iload X117.here hx rfl (hb hby at_139) rfl ?_
        show OwnS p e below T117 (mkF m 141 #[iv p0, iv p1, iv p2, iv p3, iv p4, iv 3, rv b84, rv b98, iv 0] [(.int 0)]) _
        refine XS.iload X117.here hx rfl (hb hby at_141) rfl ?_
        show OwnS p e below T117 (mkF m 143 #[iv p0, iv p1, iv p2, iv p3, iv p4, iv 3, rv b84, rv b98, iv 0] [(.int 3), (.int 0)]) _
        refine XS.icmpYes X117.here hx rfl (pc0 := 143) (pc' := 148) rfl (hb hby at_143) rfl (tlt (by decide : (0 : Int32) < (3 : Int32))).1 (by decide) (by decide) ?_
        show OwnS p e below T117 (mkF m 148 #[iv p0, iv p1, iv p2, iv p3, iv p4, iv 3, rv b84, rv b98, iv 0] []) _
        refine XS.aload X117.here hx rfl (hb hby at_148) rfl rfl ?_
        show OwnS p e below T117 (mkF m 150 #[iv p0, iv p1, iv p2, iv p3, iv p4, iv 3, rv b84, rv b98, iv 0] [(.ref b84)]) _
        refine XS.iload X117.here hx rfl (hb hby at_150) rfl ?_
        show OwnS p e below T117 (mkF m 152 #[iv p0, iv p1, iv p2, iv p3, iv p4, iv 3, rv b84, rv b98, iv 0] [(.int 3), (.ref b84)]) _
        refine XS.iload X117.here hx rfl (hb hby at_152) rfl ?_
        show OwnS p e below T117 (mkF m 154 #[iv p0, iv p1, iv p2, iv p3, iv p4, iv 3, rv b84, rv b98, iv 0] [(.int 0), (.int 3), (.ref b84)]) _
        refine XS.iconst X117.here hx rfl (hb hby at_154) ?_
        show OwnS p e below T117 (mkF m 155 #[iv p0, iv p1, iv p2, iv p3, iv p4, iv 3, rv b84, rv b98, iv 0] [(.int 0), (.int 0), (.int 3), (.ref b84)]) _
        refine st129 _ ?_
        show OwnS p e below T129 (mkF m 158 #[iv p0, iv p1, iv p2, iv p3, iv p4, iv 3, rv b84, rv b98, iv 0] [(.int 1)]) _
        refine XS.ifNo X129.here hx rfl (hb hby at_158) rfl ((if0 _ _).trans (feq (by decide : ¬ ((1 : Int32) = (0 : Int32)))).1) ?_
        show OwnS p e below T129 (mkF m 161 #[iv p0, iv p1, iv p2, iv p3, iv p4, iv 3, rv b84, rv b98, iv 0] []) _
        refine XS.aload X129.here hx rfl (hb hby at_161) rfl rfl ?_
        show OwnS p e below T129 (mkF m 163 #[iv p0, iv p1, iv p2, iv p3, iv p4, iv 3, rv b84, rv b98, iv 0] [(.ref b84)]) _
        refine XS.iload X129.here hx rfl (hb hby at_163) rfl ?_
        show OwnS p e below T129 (mkF m 165 #[iv p0, iv p1, iv p2, iv p3, iv p4, iv 3, rv b84, rv b98, iv 0] [(.int 3), (.ref b84)]) _
        refine XS.iload X129.here hx rfl (hb hby at_165) rfl ?_
        show OwnS p e below T129 (mkF m 167 #[iv p0, iv p1, iv p2, iv p3, iv p4, iv 3, rv b84, rv b98, iv 0] [(.int 0), (.int 3), (.ref b84)]) _
        refine XS.iconst X129.here hx rfl (hb hby at_167) ?_
        show OwnS p e below T129 (mkF m 168 #[iv p0, iv p1, iv p2, iv p3, iv p4, iv 3, rv b84, rv b98, iv 0] [(.int 1), (.int 0), (.int 3), (.ref b84)]) _
        refine st131 _ ?_
        show OwnS p e below T131 (mkF m 171 #[iv p0, iv p1, iv p2, iv p3, iv p4, iv 3, rv b84, rv b98, iv 0] [(.int 1)]) _
        refine XS.ifNo X131.here hx rfl (hb hby at_171) rfl ((if0 _ _).trans (feq (by decide : ¬ ((1 : Int32) = (0 : Int32)))).1) ?_
        show OwnS p e below T131 (mkF m 174 #[iv p0, iv p1, iv p2, iv p3, iv p4, iv 3, rv b84, rv b98, iv 0] []) _
        refine XS.aload X131.here hx rfl (hb hby at_174) rfl rfl ?_
        show OwnS p e below T131 (mkF m 176 #[iv p0, iv p1, iv p2, iv p3, iv p4, iv 3, rv b84, rv b98, iv 0] [(.ref b84)]) _
        refine XS.iload X131.here hx rfl (hb hby at_176) rfl ?_
        show OwnS p e below T131 (mkF m 178 #[iv p0, iv p1, iv p2, iv p3, iv p4, iv 3, rv b84, rv b98, iv 0] [(.int 3), (.ref b84)]) _
        refine XS.iload X131.here hx rfl (hb hby at_178) rfl ?_
        show OwnS p e below T131 (mkF m 180 #[iv p0, iv p1, iv p2, iv p3, iv p4, iv 3, rv b84, rv b98, iv 0] [(.int 0), (.int 3), (.ref b84)]) _
        refine XS.iconst X131.here hx rfl (hb hby at_180) ?_
        show OwnS p e below T131 (mkF m 181 #[iv p0, iv p1, iv p2, iv p3, iv p4, iv 3, rv b84, rv b98, iv 0] [(.int 2), (.int 0), (.int 3), (.ref b84)]) _
        refine st132 _ ?_
        show OwnS p e below T132 (mkF m 184 #[iv p0, iv p1, iv p2, iv p3, iv p4, iv 3, rv b84, rv b98, iv 0] [(.int 1)]) _
        refine XS.ifNo X132.here hx rfl (hb hby at_184) rfl ((if0 _ _).trans (feq (by decide : ¬ ((1 : Int32) = (0 : Int32)))).1) ?_
        show OwnS p e below T132 (mkF m 187 #[iv p0, iv p1, iv p2, iv p3, iv p4, iv 3, rv b84, rv b98, iv 0] []) _
        refine XS.aload X132.here hx rfl (hb hby at_187) rfl rfl ?_
        show OwnS p e below T132 (mkF m 189 #[iv p0, iv p1, iv p2, iv p3, iv p4, iv 3, rv b84, rv b98, iv 0] [(.ref b84)]) _
        refine XS.iload X132.here hx rfl (hb hby at_189) rfl ?_
        show OwnS p e below T132 (mkF m 191 #[iv p0, iv p1, iv p2, iv p3, iv p4, iv 3, rv b84, rv b98, iv 0] [(.int 3), (.ref b84)]) _
        refine XS.iload X132.here hx rfl (hb hby at_191) rfl ?_
        show OwnS p e below T132 (mkF m 193 #[iv p0, iv p1, iv p2, iv p3, iv p4, iv 3, rv b84, rv b98, iv 0] [(.int 0), (.int 3), (.ref b84)]) _
        refine XS.iconst X132.here hx rfl (hb hby at_193) ?_
        show OwnS p e below T132 (mkF m 194 #[iv p0, iv p1, iv p2, iv p3, iv p4, iv 3, rv b84, rv b98, iv 0] [(.int 3), (.int 0), (.int 3), (.ref b84)]) _
        refine st133 _ ?_
        show OwnS p e below T133 (mkF m 197 #[iv p0, iv p1, iv p2, iv p3, iv p4, iv 3, rv b84, rv b98, iv 0] [(.int 1)]) _
        refine XS.ifNo X133.here hx rfl (hb hby at_197) rfl ((if0 _ _).trans (feq (by decide : ¬ ((1 : Int32) = (0 : Int32)))).1) ?_
        show OwnS p e below T133 (mkF m 200 #[iv p0, iv p1, iv p2, iv p3, iv p4, iv 3, rv b84, rv b98, iv 0] []) _
        refine XS.iconst X133.here hx rfl (hb hby at_200) ?_
        show OwnS p e below T133 (mkF m 201 #[iv p0, iv p1, iv p2, iv p3, iv p4, iv 3, rv b84, rv b98, iv 0] [(.int 1)]) _
        refine XS.goto X133.here hx rfl (pc0 := 201) (pc' := 205) rfl (hb hby at_201) (by decide) (by decide) ?_
        show OwnS p e below T133 (mkF m 205 #[iv p0, iv p1, iv p2, iv p3, iv p4, iv 3, rv b84, rv b98, iv 0] [(.int 1)]) _
        exact retN X133 hx (t := .boolean) Bd.returns (by simp) (hb hby at_205) hr
      · show Q_0 Z p0 p1 p2 p3 p4 h0 n0 _ T133.heap _
        rw [e133]
        exact ⟨rfl, N133, trivial⟩
  · obtain ⟨T134, h134, k134, X134, e134, E134, A134, EA134, st134⟩ := newPE X0 hx hZ (own_at hw 1 rfl) e0 (g := (mkF m 9 #[iv p0, iv p1, iv p2, iv p3, iv p4, iv 4, .unset, .unset, .unset] [(.int 4)])) rfl (hb hby at_9) rfl (by decide) (cap := 4) (by decide) (by decide) (by decide) (by decide) (ad := "[D") (by decide)
    obtain ⟨b134, g134⟩ : ∃ z, z = h0.size := ⟨_, rfl⟩
    rw [← g134] at A134 EA134 st134
    have g_b134 : n0 ≤ b134 := Nat.le_trans Z0 (Nat.le_of_eq g134.symm)
    have sz_b134 : h0.size ≤ b134 := Nat.le_trans (Keep.refl h0 []).1 (Nat.le_of_eq g134.symm)
    have V_b134 : Arv Z h134 b134 k134 .double (4 : Int32) [(.double (FP.l2d (0 : Int64))), (.double (FP.l2d (0 : Int64))), (.double (FP.l2d (0 : Int64))), (.double (FP.l2d (0 : Int64)))] (.double (FP.l2d (0 : Int64))) := (Arv.newD A134 (by decide)).pad (pad_rep [] (.double (FP.l2d (0 : Int64))) 4)
    obtain ⟨cl_z135, Ar_z135, q_z135, S_z135, N_z135, H_z135, G_z135⟩ := id V_b134
    have hin136 : ¬ ((0 : Int32) < 0 ∨ cl_z135.slots.size ≤ ((0 : Int32)).toNatClampNeg) := inb_of S_z135 ⟨by decide, by decide⟩
    obtain ⟨T137, h137, X137, e137, W137, st137⟩ := stD X134 hx hZ e134 Ar_z135 (j := (0 : Int32)) hin136 (g := (mkF m 21 #[iv p0, iv p1, iv p2, iv p3, iv p4, iv 4, rv b134, .unset, .unset] [(.double (FP.l2d (p1 % (8 : Int32)).toInt64)), (.int 0), (.ref b134)])) rfl rfl (hb hby at_21)
    have V137 : Arv Z h137 b134 k134 .double (4 : Int32) [(.double (FP.l2d (p1 % (8 : Int32)).toInt64)), (.double (FP.l2d (0 : Int64))), (.double (FP.l2d (0 : Int64))), (.double (FP.l2d (0 : Int64)))] (.double (FP.l2d (0 : Int64))) := Arv.set Ar_z135 q_z135 S_z135 N_z135 H_z135 G_z135 rfl W137 0 rfl (Nat.le_of_ble_eq_true rfl)
    have N137 := Fr.snoc X137 N0 g_b134
    obtain ⟨cl_z138, Ar_z138, q_z138, S_z138, N_z138, H_z138, G_z138⟩ := id V137
    have hin139 : ¬ ((1 : Int32) < 0 ∨ cl_z138.slots.size ≤ ((1 : Int32)).toNatClampNeg) := inb_of S_z138 ⟨by decide, by decide⟩
    obtain ⟨T140, h140, X140, e140, W140, st140⟩ := stD X137 hx hZ e137 Ar_z138 (j := (1 : Int32)) hin139 (g := (mkF m 30 #[iv p0, iv p1, iv p2, iv p3, iv p4, iv 4, rv b134, .unset, .unset] [(.double (FP.l2d (p2 % (8 : Int32)).toInt64)), (.int 1), (.ref b134)])) rfl rfl (hb hby at_30)
    have V140 : Arv Z h140 b134 k134 .double (4 : Int32) [(.double (FP.l2d (p1 % (8 : Int32)).toInt64)), (.double (FP.l2d (p2 % (8 : Int32)).toInt64)), (.double (FP.l2d (0 : Int64))), (.double (FP.l2d (0 : Int64)))] (.double (FP.l2d (0 : Int64))) := Arv.set Ar_z138 q_z138 S_z138 N_z138 H_z138 G_z138 rfl W140 1 rfl (Nat.le_of_ble_eq_true rfl)
    have N140 := Fr.snoc X140 N137 g_b134
    obtain ⟨cl_z141, Ar_z141, q_z141, S_z141, N_z141, H_z141, G_z141⟩ := id V140
    have hin142 : ¬ ((2 : Int32) < 0 ∨ cl_z141.slots.size ≤ ((2 : Int32)).toNatClampNeg) := inb_of S_z141 ⟨by decide, by decide⟩
    obtain ⟨T143, h143, X143, e143, W143, st143⟩ := stD X140 hx hZ e140 Ar_z141 (j := (2 : Int32)) hin142 (g := (mkF m 39 #[iv p0, iv p1, iv p2, iv p3, iv p4, iv 4, rv b134, .unset, .unset] [(.double (FP.l2d (p3 % (8 : Int32)).toInt64)), (.int 2), (.ref b134)])) rfl rfl (hb hby at_39)
    have V143 : Arv Z h143 b134 k134 .double (4 : Int32) [(.double (FP.l2d (p1 % (8 : Int32)).toInt64)), (.double (FP.l2d (p2 % (8 : Int32)).toInt64)), (.double (FP.l2d (p3 % (8 : Int32)).toInt64)), (.double (FP.l2d (0 : Int64)))] (.double (FP.l2d (0 : Int64))) := Arv.set Ar_z141 q_z141 S_z141 N_z141 H_z141 G_z141 rfl W143 2 rfl (Nat.le_of_ble_eq_true rfl)
    have N143 := Fr.snoc X143 N140 g_b134
    obtain ⟨cl_z144, Ar_z144, q_z144, S_z144, N_z144, H_z144, G_z144⟩ := id V143
    have hin145 : ¬ ((3 : Int32) < 0 ∨ cl_z144.slots.size ≤ ((3 : Int32)).toNatClampNeg) := inb_of S_z144 ⟨by decide, by decide⟩
    obtain ⟨T146, h146, X146, e146, W146, st146⟩ := stD X143 hx hZ e143 Ar_z144 (j := (3 : Int32)) hin145 (g := (mkF m 49 #[iv p0, iv p1, iv p2, iv p3, iv p4, iv 4, rv b134, .unset, .unset] [(.double (FP.l2d (p4 % (8 : Int32)).toInt64)), (.int 3), (.ref b134)])) rfl rfl (hb hby at_49)
    have V146 : Arv Z h146 b134 k134 .double (4 : Int32) [(.double (FP.l2d (p1 % (8 : Int32)).toInt64)), (.double (FP.l2d (p2 % (8 : Int32)).toInt64)), (.double (FP.l2d (p3 % (8 : Int32)).toInt64)), (.double (FP.l2d (p4 % (8 : Int32)).toInt64))] (.double (FP.l2d (0 : Int64))) := Arv.set Ar_z144 q_z144 S_z144 N_z144 H_z144 G_z144 rfl W146 3 rfl (Nat.le_of_ble_eq_true rfl)
    have N146 := Fr.snoc X146 N143 g_b134
    have f147 := ((((EA134.wr W137).wr W140).wr W143).wr W146)
    obtain ⟨T148, h148, k148, X148, e148, E148, A148, EA148, st148⟩ := newPE X146 hx hZ (own_at hw 1 rfl) e146 (g := (mkF m 52 #[iv p0, iv p1, iv p2, iv p3, iv p4, iv 4, rv b134, .unset, .unset] [(.int 4)])) rfl (hb hby at_52) rfl (by decide) (cap := 4) (by decide) (by decide) (by decide) (by decide) (ad := "[D") (by decide)
    obtain ⟨b148, g148⟩ : ∃ z, z = h146.size := ⟨_, rfl⟩
    rw [← g148] at A148 EA148 st148
    have g_b148 : n0 ≤ b148 := Nat.le_trans (Nat.le_trans (Nat.le_trans (Nat.le_trans (Nat.le_trans (Nat.le_trans Z0 E134.1) (Keep.of_wr W137).1) (Keep.of_wr W140).1) (Keep.of_wr W143).1) (Keep.of_wr W146).1) (Nat.le_of_eq g148.symm)
    have sz_b148 : h0.size ≤ b148 := Nat.le_trans ((((((Keep.refl h0 []).ext E134).wr W137 (Or.inr sz_b134)).wr W140 (Or.inr sz_b134)).wr W143 (Or.inr sz_b134)).wr W146 (Or.inr sz_b134)).1 (Nat.le_of_eq g148.symm)
    have V_b148 : Arv Z h148 b148 k148 .double (4 : Int32) [(.double (FP.l2d (0 : Int64))), (.double (FP.l2d (0 : Int64))), (.double (FP.l2d (0 : Int64))), (.double (FP.l2d (0 : Int64)))] (.double (FP.l2d (0 : Int64))) := (Arv.newD A148 (by decide)).pad (pad_rep [] (.double (FP.l2d (0 : Int64))) 4)
    have f149 := (V146.ext E148)
    obtain ⟨cl_z150, Ar_z150, q_z150, S_z150, N_z150, H_z150, G_z150⟩ := id f149
    have hin151 : ¬ ((0 : Int32) < 0 ∨ cl_z150.slots.size ≤ ((0 : Int32)).toNatClampNeg) := inb_of S_z150 ⟨by decide, by decide⟩
    obtain ⟨cl_z152, Ar_z152, q_z152, S_z152, N_z152, H_z152, G_z152⟩ := id V_b148
    have hin153 : ¬ ((0 : Int32) < 0 ∨ cl_z152.slots.size ≤ ((0 : Int32)).toNatClampNeg) := inb_of S_z152 ⟨by decide, by decide⟩
    obtain ⟨T154, h154, X154, e154, W154, st154⟩ := stD X148 hx hZ e148 Ar_z152 (j := (0 : Int32)) hin153 (g := (mkF m 68 #[iv p0, iv p1, iv p2, iv p3, iv p4, iv 4, rv b134, rv b148, .unset] [(.double (FP.l2d (p1 % (8 : Int32)).toInt64)), (.int 0), (.ref b148)])) rfl rfl (hb hby at_68)
    have V154 : Arv Z h154 b148 k148 .double (4 : Int32) [(.double (FP.l2d (p1 % (8 : Int32)).toInt64)), (.double (FP.l2d (0 : Int64))), (.double (FP.l2d (0 : Int64))), (.double (FP.l2d (0 : Int64)))] (.double (FP.l2d (0 : Int64))) := Arv.set Ar_z152 q_z152 S_z152 N_z152 H_z152 G_z152 rfl W154 0 rfl (Nat.le_of_ble_eq_true rfl)
    have N154 := Fr.snoc X154 N146 g_b148
    have f155 := (f149.other W154 (Nat.ne_of_lt (Nat.lt_of_lt_of_le f147.lt (Nat.le_of_eq g148.symm))))
    obtain ⟨cl_z156, Ar_z156, q_z156, S_z156, N_z156, H_z156, G_z156⟩ := id f155
    have hin157 : ¬ ((1 : Int32) < 0 ∨ cl_z156.slots.size ≤ ((1 : Int32)).toNatClampNeg) := inb_of S_z156 ⟨by decide, by decide⟩
    obtain ⟨cl_z158, Ar_z158, q_z158, S_z158, N_z158, H_z158, G_z158⟩ := id V154
    have hin159 : ¬ ((1 : Int32) < 0 ∨ cl_z158.slots.size ≤ ((1 : Int32)).toNatClampNeg) := inb_of S_z158 ⟨by decide, by decide⟩
    obtain ⟨T160, h160, X160, e160, W160, st160⟩ := stD X154 hx hZ e154 Ar_z158 (j := (1 : Int32)) hin159 (g := (mkF m 82 #[iv p0, iv p1, iv p2, iv p3, iv p4, iv 4, rv b134, rv b148, .unset] [(.double (FP.l2d (p2 % (8 : Int32)).toInt64)), (.int 1), (.ref b148)])) rfl rfl (hb hby at_82)
    have V160 : Arv Z h160 b148 k148 .double (4 : Int32) [(.double (FP.l2d (p1 % (8 : Int32)).toInt64)), (.double (FP.l2d (p2 % (8 : Int32)).toInt64)), (.double (FP.l2d (0 : Int64))), (.double (FP.l2d (0 : Int64)))] (.double (FP.l2d (0 : Int64))) := Arv.set Ar_z158 q_z158 S_z158 N_z158 H_z158 G_z158 rfl W160 1 rfl (Nat.le_of_ble_eq_true rfl)
    have N160 := Fr.snoc X160 N154 g_b148
    have f161 := (f155.other W160 (Nat.ne_of_lt (Nat.lt_of_lt_of_le f147.lt (Nat.le_of_eq g148.symm))))
    obtain ⟨cl_z162, Ar_z162, q_z162, S_z162, N_z162, H_z162, G_z162⟩ := id f161
    have hin163 : ¬ ((2 : Int32) < 0 ∨ cl_z162.slots.size ≤ ((2 : Int32)).toNatClampNeg) := inb_of S_z162 ⟨by decide, by decide⟩
    obtain ⟨cl_z164, Ar_z164, q_z164, S_z164, N_z164, H_z164, G_z164⟩ := id V160
    have hin165 : ¬ ((2 : Int32) < 0 ∨ cl_z164.slots.size ≤ ((2 : Int32)).toNatClampNeg) := inb_of S_z164 ⟨by decide, by decide⟩
    obtain ⟨T166, h166, X166, e166, W166, st166⟩ := stD X160 hx hZ e160 Ar_z164 (j := (2 : Int32)) hin165 (g := (mkF m 96 #[iv p0, iv p1, iv p2, iv p3, iv p4, iv 4, rv b134, rv b148, .unset] [(.double (FP.l2d (p3 % (8 : Int32)).toInt64)), (.int 2), (.ref b148)])) rfl rfl (hb hby at_96)
    have V166 : Arv Z h166 b148 k148 .double (4 : Int32) [(.double (FP.l2d (p1 % (8 : Int32)).toInt64)), (.double (FP.l2d (p2 % (8 : Int32)).toInt64)), (.double (FP.l2d (p3 % (8 : Int32)).toInt64)), (.double (FP.l2d (0 : Int64)))] (.double (FP.l2d (0 : Int64))) := Arv.set Ar_z164 q_z164 S_z164 N_z164 H_z164 G_z164 rfl W166 2 rfl (Nat.le_of_ble_eq_true rfl)
    have N166 := Fr.snoc X166 N160 g_b148
    have f167 := (f161.other W166 (Nat.ne_of_lt (Nat.lt_of_lt_of_le f147.lt (Nat.le_of_eq g148.symm))))
    obtain ⟨cl_z168, Ar_z168, q_z168, S_z168, N_z168, H_z168, G_z168⟩ := id f167
    have hin169 : ¬ ((3 : Int32) < 0 ∨ cl_z168.slots.size ≤ ((3 : Int32)).toNatClampNeg) := inb_of S_z168 ⟨by decide, by decide⟩
    obtain ⟨cl_z170, Ar_z170, q_z170, S_z170, N_z170, H_z170, G_z170⟩ := id V166
    have hin171 : ¬ ((3 : Int32) < 0 ∨ cl_z170.slots.size ≤ ((3 : Int32)).toNatClampNeg) := inb_of S_z170 ⟨by decide, by decide⟩
    obtain ⟨T172, h172, X172, e172, W172, st172⟩ := stD X166 hx hZ e166 Ar_z170 (j := (3 : Int32)) hin171 (g := (mkF m 110 #[iv p0, iv p1, iv p2, iv p3, iv p4, iv 4, rv b134, rv b148, .unset] [(.double (FP.l2d (p4 % (8 : Int32)).toInt64)), (.int 3), (.ref b148)])) rfl rfl (hb hby at_110)
    have V172 : Arv Z h172 b148 k148 .double (4 : Int32) [(.double (FP.l2d (p1 % (8 : Int32)).toInt64)), (.double (FP.l2d (p2 % (8 : Int32)).toInt64)), (.double (FP.l2d (p3 % (8 : Int32)).toInt64)), (.double (FP.l2d (p4 % (8 : Int32)).toInt64))] (.double (FP.l2d (0 : Int64))) := Arv.set Ar_z170 q_z170 S_z170 N_z170 H_z170 G_z170 rfl W172 3 rfl (Nat.le_of_ble_eq_true rfl)
    have N172 := Fr.snoc X172 N166 g_b148
    obtain ⟨_, _, ⟨T173, L173, j173, i173⟩, -, X173, ⟨Lc173, hQ173, l173, y173, z173⟩, st173⟩ := Jvm.LawKit.callS X172 hx (y := (⟨cS1, "bestClass", "([D)I"⟩ : MethodName)) hown (mvT hZ (own_at hw 2 rfl)) (mvT hZ (own_at hw 3 rfl)) (mvT hZ (own_at hw 4 rfl)) (mvT hZ (own_at hw 5 rfl)) (by decide) (backOf (W := 0) (rm1_4 l Z a0 hw [] b148 k148 (p1 % (8 : Int32)).toInt64 (p2 % (8 : Int32)).toInt64 (p3 % (8 : Int32)).toInt64 (p4 % (8 : Int32)).toInt64 h172 n0 (Nat.le_trans (Nat.le_trans (Nat.le_trans (Nat.le_trans (Nat.le_trans (Nat.le_trans (Nat.le_trans (Nat.le_trans (Nat.le_trans (Nat.le_trans Z0 E134.1) (Keep.of_wr W137).1) (Keep.of_wr W140).1) (Keep.of_wr W143).1) (Keep.of_wr W146).1) E148.1) (Keep.of_wr W154).1) (Keep.of_wr W160).1) (Keep.of_wr W166).1) (Keep.of_wr W172).1) V172 (own_b8 p1) (own_b8 p2) (own_b8 p3) (own_b8 p4)) hZ (own_at hw 5 rfl) (own_at hw 4 rfl) (by decide) (by decide)) (g := (mkF m 113 #[iv p0, iv p1, iv p2, iv p3, iv p4, iv 4, rv b134, rv b148, .unset] [(.ref b148)])) rfl (by rw [hml]; rfl) (argsL := [(.ref b148)]) (rest := []) (lenOf pd_0 rfl) rfl (Nat.le_refl _) (hb hby at_113) (fun _ _ => ⟨rfl, e172, (by decide : 2 + 0 ≤ _), (by decide : 8 + 0 ≤ _)⟩)
    dsimp only [Pt.U, Pt.locs, Pt.cells, Pt.slots] at X173 l173 y173 z173 st173 hQ173
    subst l173 y173 z173
    have k174 : ∀ t, OwnS p e below T172 (mkF m 113 #[iv p0, iv p1, iv p2, iv p3, iv p4, iv 4, rv b134, rv b148, .unset] [(.ref b148)]) t → OwnS p e below s₁ (entryFrame m #[(.int p0), (.int p1), (.int p2), (.int p3), (.int p4)] maxLocals) t := fun t q => by
      refine k1 t ?_
      rw [hk]
      show OwnS p e below s₁ (mkF m 6 #[iv p0, iv p1, iv p2, iv p3, iv p4, .unset, .unset, .unset, .unset] [(.int 4)]) _
      refine XS.istore X0.here hx rfl (hb hby at_6) rfl (l' := #[iv p0, iv p1, iv p2, iv p3, iv p4, iv 4, .unset, .unset, .unset]) rfl ?_
      show OwnS p e below s₁ (mkF m 8 #[iv p0, iv p1, iv p2, iv p3, iv p4, iv 4, .unset, .unset, .unset] []) _
      refine XS.iconst X0.here hx rfl (hb hby at_8) ?_
      show OwnS p e below s₁ (mkF m 9 #[iv p0, iv p1, iv p2, iv p3, iv p4, iv 4, .unset, .unset, .unset] [(.int 4)]) _
      refine st134 _ ?_
      show OwnS p e below T134 (mkF m 11 #[iv p0, iv p1, iv p2, iv p3, iv p4, iv 4, .unset, .unset, .unset] [(.ref b134)]) _
      refine XS.astore X134.here hx rfl (hb hby at_11) rfl rfl (l' := #[iv p0, iv p1, iv p2, iv p3, iv p4, iv 4, rv b134, .unset, .unset]) rfl ?_
      show OwnS p e below T134 (mkF m 13 #[iv p0, iv p1, iv p2, iv p3, iv p4, iv 4, rv b134, .unset, .unset] []) _
      refine XS.aload X134.here hx rfl (hb hby at_13) rfl rfl ?_
      show OwnS p e below T134 (mkF m 15 #[iv p0, iv p1, iv p2, iv p3, iv p4, iv 4, rv b134, .unset, .unset] [(.ref b134)]) _
      refine XS.iconst X134.here hx rfl (hb hby at_15) ?_
      show OwnS p e below T134 (mkF m 16 #[iv p0, iv p1, iv p2, iv p3, iv p4, iv 4, rv b134, .unset, .unset] [(.int 0), (.ref b134)]) _
      refine XS.iloadN X134.here hx rfl (hb hby at_16) rfl ?_
      show OwnS p e below T134 (mkF m 17 #[iv p0, iv p1, iv p2, iv p3, iv p4, iv 4, rv b134, .unset, .unset] [(.int p1), (.int 0), (.ref b134)]) _
      refine XS.bipush X134.here hx rfl (hb hby at_17) ?_
      show OwnS p e below T134 (mkF m 19 #[iv p0, iv p1, iv p2, iv p3, iv p4, iv 4, rv b134, .unset, .unset] [(.int 8), (.int p1), (.int 0), (.ref b134)]) _
      refine iremM X134 hx (g := (mkF m 19 #[iv p0, iv p1, iv p2, iv p3, iv p4, iv 4, rv b134, .unset, .unset] [(.int 8), (.int p1), (.int 0), (.ref b134)])) rfl (hb hby at_19) rfl (by decide) ?_
      show OwnS p e below T134 (mkF m 20 #[iv p0, iv p1, iv p2, iv p3, iv p4, iv 4, rv b134, .unset, .unset] [(.int (p1 % (8 : Int32))), (.int 0), (.ref b134)]) _
      refine XS.i2dS X134.here hx rfl (hb hby at_20) rfl (i2d_w _) ?_
      show OwnS p e below T134 (mkF m 21 #[iv p0, iv p1, iv p2, iv p3, iv p4, iv 4, rv b134, .unset, .unset] [(.double (FP.l2d (p1 % (8 : Int32)).toInt64)), (.int 0), (.ref b134)]) _
      refine st137 _ ?_
      show OwnS p e below T137 (mkF m 22 #[iv p0, iv p1, iv p2, iv p3, iv p4, iv 4, rv b134, .unset, .unset] []) _
      refine XS.aload X137.here hx rfl (hb hby at_22) rfl rfl ?_
      show OwnS p e below T137 (mkF m 24 #[iv p0, iv p1, iv p2, iv p3, iv p4, iv 4, rv b134, .unset, .unset] [(.ref b134)]) _
      refine XS.iconst X137.here hx rfl (hb hby at_24) ?_
      show OwnS p e below T137 (mkF m 25 #[iv p0, iv p1, iv p2, iv p3, iv p4, iv 4, rv b134, .unset, .unset] [(.int 1), (.ref b134)]) _
      refine XS.iloadN X137.here hx rfl (hb hby at_25) rfl ?_
      show OwnS p e below T137 (mkF m 26 #[iv p0, iv p1, iv p2, iv p3, iv p4, iv 4, rv b134, .unset, .unset] [(.int p2), (.int 1), (.ref b134)]) _
      refine XS.bipush X137.here hx rfl (hb hby at_26) ?_
      show OwnS p e below T137 (mkF m 28 #[iv p0, iv p1, iv p2, iv p3, iv p4, iv 4, rv b134, .unset, .unset] [(.int 8), (.int p2), (.int 1), (.ref b134)]) _
      refine iremM X137 hx (g := (mkF m 28 #[iv p0, iv p1, iv p2, iv p3, iv p4, iv 4, rv b134, .unset, .unset] [(.int 8), (.int p2), (.int 1), (.ref b134)])) rfl (hb hby at_28) rfl (by decide) ?_
      show OwnS p e below T137 (mkF m 29 #[iv p0, iv p1, iv p2, iv p3, iv p4, iv 4, rv b134, .unset, .unset] [(.int (p2 % (8 : Int32))), (.int 1), (.ref b134)]) _
      refine XS.i2dS X137.here hx rfl (hb hby at_29) rfl (i2d_w _) ?_
      show OwnS p e below T137 (mkF m 30 #[iv p0, iv p1, iv p2, iv p3, iv p4, iv 4, rv b134, .unset, .unset] [(.double (FP.l2d (p2 % (8 : Int32)).toInt64)), (.int 1), (.ref b134)]) _
      refine st140 _ ?_
      show OwnS p e below T140 (mkF m 31 #[iv p0, iv p1, iv p2, iv p3, iv p4, iv 4, rv b134, .unset, .unset] []) _
      refine XS.aload X140.here hx rfl (hb hby at_31) rfl rfl ?_
      show OwnS p e below T140 (mkF m 33 #[iv p0, iv p1, iv p2, iv p3, iv p4, iv 4, rv b134, .unset, .unset] [(.ref b134)]) _
      refine XS.iconst X140.here hx rfl (hb hby at_33) ?_
      show OwnS p e below T140 (mkF m 34 #[iv p0, iv p1, iv p2, iv p3, iv p4, iv 4, rv b134, .unset, .unset] [(.int 2), (.ref b134)]) _
      refine XS.iloadN X140.here hx rfl (hb hby at_34) rfl ?_
      show OwnS p e below T140 (mkF m 35 #[iv p0, iv p1, iv p2, iv p3, iv p4, iv 4, rv b134, .unset, .unset] [(.int p3), (.int 2), (.ref b134)]) _
      refine XS.bipush X140.here hx rfl (hb hby at_35) ?_
      show OwnS p e below T140 (mkF m 37 #[iv p0, iv p1, iv p2, iv p3, iv p4, iv 4, rv b134, .unset, .unset] [(.int 8), (.int p3), (.int 2), (.ref b134)]) _
      refine iremM X140 hx (g := (mkF m 37 #[iv p0, iv p1, iv p2, iv p3, iv p4, iv 4, rv b134, .unset, .unset] [(.int 8), (.int p3), (.int 2), (.ref b134)])) rfl (hb hby at_37) rfl (by decide) ?_
      show OwnS p e below T140 (mkF m 38 #[iv p0, iv p1, iv p2, iv p3, iv p4, iv 4, rv b134, .unset, .unset] [(.int (p3 % (8 : Int32))), (.int 2), (.ref b134)]) _
      refine XS.i2dS X140.here hx rfl (hb hby at_38) rfl (i2d_w _) ?_
      show OwnS p e below T140 (mkF m 39 #[iv p0, iv p1, iv p2, iv p3, iv p4, iv 4, rv b134, .unset, .unset] [(.double (FP.l2d (p3 % (8 : Int32)).toInt64)), (.int 2), (.ref b134)]) _
      refine st143 _ ?_
      show OwnS p e below T143 (mkF m 40 #[iv p0, iv p1, iv p2, iv p3, iv p4, iv 4, rv b134, .unset, .unset] []) _
      refine XS.aload X143.here hx rfl (hb hby at_40) rfl rfl ?_
      show OwnS p e below T143 (mkF m 42 #[iv p0, iv p1, iv p2, iv p3, iv p4, iv 4, rv b134, .unset, .unset] [(.ref b134)]) _
      refine XS.iconst X143.here hx rfl (hb hby at_42) ?_
      show OwnS p e below T143 (mkF m 43 #[iv p0, iv p1, iv p2, iv p3, iv p4, iv 4, rv b134, .unset, .unset] [(.int 3), (.ref b134)]) _
      refine XS.iload X143.here hx rfl (hb hby at_43) rfl ?_
      show OwnS p e below T143 (mkF m 45 #[iv p0, iv p1, iv p2, iv p3, iv p4, iv 4, rv b134, .unset, .unset] [(.int p4), (.int 3), (.ref b134)]) _
      refine XS.bipush X143.here hx rfl (hb hby at_45) ?_
      show OwnS p e below T143 (mkF m 47 #[iv p0, iv p1, iv p2, iv p3, iv p4, iv 4, rv b134, .unset, .unset] [(.int 8), (.int p4), (.int 3), (.ref b134)]) _
      refine iremM X143 hx (g := (mkF m 47 #[iv p0, iv p1, iv p2, iv p3, iv p4, iv 4, rv b134, .unset, .unset] [(.int 8), (.int p4), (.int 3), (.ref b134)])) rfl (hb hby at_47) rfl (by decide) ?_
      show OwnS p e below T143 (mkF m 48 #[iv p0, iv p1, iv p2, iv p3, iv p4, iv 4, rv b134, .unset, .unset] [(.int (p4 % (8 : Int32))), (.int 3), (.ref b134)]) _
      refine XS.i2dS X143.here hx rfl (hb hby at_48) rfl (i2d_w _) ?_
      show OwnS p e below T143 (mkF m 49 #[iv p0, iv p1, iv p2, iv p3, iv p4, iv 4, rv b134, .unset, .unset] [(.double (FP.l2d (p4 % (8 : Int32)).toInt64)), (.int 3), (.ref b134)]) _
      refine st146 _ ?_
      show OwnS p e below T146 (mkF m 50 #[iv p0, iv p1, iv p2, iv p3, iv p4, iv 4, rv b134, .unset, .unset] []) _
      refine XS.iload X146.here hx rfl (hb hby at_50) rfl ?_
      show OwnS p e below T146 (mkF m 52 #[iv p0, iv p1, iv p2, iv p3, iv p4, iv 4, rv b134, .unset, .unset] [(.int 4)]) _
      refine st148 _ ?_
      show OwnS p e below T148 (mkF m 54 #[iv p0, iv p1, iv p2, iv p3, iv p4, iv 4, rv b134, .unset, .unset] [(.ref b148)]) _
      refine XS.astore X148.here hx rfl (hb hby at_54) rfl rfl (l' := #[iv p0, iv p1, iv p2, iv p3, iv p4, iv 4, rv b134, rv b148, .unset]) rfl ?_
      show OwnS p e below T148 (mkF m 56 #[iv p0, iv p1, iv p2, iv p3, iv p4, iv 4, rv b134, rv b148, .unset] []) _
      refine XS.iload X148.here hx rfl (hb hby at_56) rfl ?_
      show OwnS p e below T148 (mkF m 58 #[iv p0, iv p1, iv p2, iv p3, iv p4, iv 4, rv b134, rv b148, .unset] [(.int 4)]) _
      refine XS.ifNo X148.here hx rfl (hb hby at_58) rfl ((if0 _ _).trans (tlt (by decide : (0 : Int32) < (4 : Int32))).2.2.2) ?_
      show OwnS p e below T148 (mkF m 61 #[iv p0, iv p1, iv p2, iv p3, iv p4, iv 4, rv b134, rv b148, .unset] []) _
      refine XS.aload X148.here hx rfl (hb hby at_61) rfl rfl ?_
      show OwnS p e below T148 (mkF m 63 #[iv p0, iv p1, iv p2, iv p3, iv p4, iv 4, rv b134, rv b148, .unset] [(.ref b148)]) _
      refine XS.iconst X148.here hx rfl (hb hby at_63) ?_
      show OwnS p e below T148 (mkF m 64 #[iv p0, iv p1, iv p2, iv p3, iv p4, iv 4, rv b134, rv b148, .unset] [(.int 0), (.ref b148)]) _
      refine XS.aload X148.here hx rfl (hb hby at_64) rfl rfl ?_
      show OwnS p e below T148 (mkF m 66 #[iv p0, iv p1, iv p2, iv p3, iv p4, iv 4, rv b134, rv b148, .unset] [(.ref b134), (.int 0), (.ref b148)]) _
      refine XS.iconst X148.here hx rfl (hb hby at_66) ?_
      show OwnS p e below T148 (mkF m 67 #[iv p0, iv p1, iv p2, iv p3, iv p4, iv 4, rv b134, rv b148, .unset] [(.int 0), (.ref b134), (.int 0), (.ref b148)]) _
      refine X148.daload hx (j := (0 : Int32)) (v := (.double (FP.l2d (p1 % (8 : Int32)).toInt64))) (by rw [e148]; exact Ar_z150.1) (State.isArrayOf_alike hZ.alike Ar_z150.2.1) Ar_z150.2.2 hin151 (Has.at H_z150 hin151 rfl) (g := (mkF m 67 #[iv p0, iv p1, iv p2, iv p3, iv p4, iv 4, rv b134, rv b148, .unset] [(.int 0), (.ref b134), (.int 0), (.ref b148)])) rfl rfl (hb hby at_67) _ ?_
      show OwnS p e below T148 (mkF m 68 #[iv p0, iv p1, iv p2, iv p3, iv p4, iv 4, rv b134, rv b148, .unset] [(.double (FP.l2d (p1 % (8 : Int32)).toInt64)), (.int 0), (.ref b148)]) _
      refine st154 _ ?_
      show OwnS p e below T154 (mkF m 69 #[iv p0, iv p1, iv p2, iv p3, iv p4, iv 4, rv b134, rv b148, .unset] []) _
      refine XS.iload X154.here hx rfl (hb hby at_69) rfl ?_
      show OwnS p e below T154 (mkF m 71 #[iv p0, iv p1, iv p2, iv p3, iv p4, iv 4, rv b134, rv b148, .unset] [(.int 4)]) _
      refine XS.iconst X154.here hx rfl (hb hby at_71) ?_
      show OwnS p e below T154 (mkF m 72 #[iv p0, iv p1, iv p2, iv p3, iv p4, iv 4, rv b134, rv b148, .unset] [(.int 1), (.int 4)]) _
      refine XS.icmpNo X154.here hx rfl (hb hby at_72) rfl (tlt (by decide : (1 : Int32) < (4 : Int32))).2.2.2 ?_
      show OwnS p e below T154 (mkF m 75 #[iv p0, iv p1, iv p2, iv p3, iv p4, iv 4, rv b134, rv b148, .unset] []) _
      refine XS.aload X154.here hx rfl (hb hby at_75) rfl rfl ?_
      show OwnS p e below T154 (mkF m 77 #[iv p0, iv p1, iv p2, iv p3, iv p4, iv 4, rv b134, rv b148, .unset] [(.ref b148)]) _
      refine XS.iconst X154.here hx rfl (hb hby at_77) ?_
      show OwnS p e below T154 (mkF m 78 #[iv p0, iv p1, iv p2, iv p3, iv p4, iv 4, rv b134, rv b148, .unset] [(.int 1), (.ref b148)]) _
      refine XS.aload X154.here hx rfl (hb hby at_78) rfl rfl ?_
      show OwnS p e below T154 (mkF m 80 #[iv p0, iv p1, iv p2, iv p3, iv p4, iv 4, rv b134, rv b148, .unset] [(.ref b134), (.int 1), (.ref b148)]) _
      refine XS.iconst X154.here hx rfl (hb hby at_80) ?_
      show OwnS p e below T154 (mkF m 81 #[iv p0, iv p1, iv p2, iv p3, iv p4, iv 4, rv b134, rv b148, .unset] [(.int 1), (.ref b134), (.int 1), (.ref b148)]) _
      refine X154.daload hx (j := (1 : Int32)) (v := (.double (FP.l2d (p2 % (8 : Int32)).toInt64))) (by rw [e154]; exact Ar_z156.1) (State.isArrayOf_alike hZ.alike Ar_z156.2.1) Ar_z156.2.2 hin157 (Has.at H_z156 hin157 rfl) (g := (mkF m 81 #[iv p0, iv p1, iv p2, iv p3, iv p4, iv 4, rv b134, rv b148, .unset] [(.int 1), (.ref b134), (.int 1), (.ref b148)])) rfl rfl (hb hby at_81) _ ?_
      show OwnS p e below T154 (mkF m 82 #[iv p0, iv p1, iv p2, iv p3, iv p4, iv 4, rv b134, rv b148, .unset] [(.double (FP.l2d (p2 % (8 : Int32)).toInt64)), (.int 1), (.ref b148)]) _
      refine st160 _ ?_
      show OwnS p e below T160 (mkF m 83 #[iv p0, iv p1, iv p2, iv p3, iv p4, iv 4, rv b134, rv b148, .unset] []) _
      refine XS.iload X160.here hx rfl (hb hby at_83) rfl ?_
      show OwnS p e below T160 (mkF m 85 #[iv p0, iv p1, iv p2, iv p3, iv p4, iv 4, rv b134, rv b148, .unset] [(.int 4)]) _
      refine XS.iconst X160.here hx rfl (hb hby at_85) ?_
      show OwnS p e below T160 (mkF m 86 #[iv p0, iv p1, iv p2, iv p3, iv p4, iv 4, rv b134, rv b148, .unset] [(.int 2), (.int 4)]) _
      refine XS.icmpNo X160.here hx rfl (hb hby at_86) rfl (tlt (by decide : (2 : Int32) < (4 : Int32))).2.2.2 ?_
      show OwnS p e below T160 (mkF m 89 #[iv p0, iv p1, iv p2, iv p3, iv p4, iv 4, rv b134, rv b148, .unset] []) _
      refine XS.aload X160.here hx rfl (hb hby at_89) rfl rfl ?_
      show OwnS p e below T160 (mkF m 91 #[iv p0, iv p1, iv p2, iv p3, iv p4, iv 4, rv b134, rv b148, .unset] [(.ref b148)]) _
      refine XS.iconst X160.here hx rfl (hb hby at_91) ?_
      show OwnS p e below T160 (mkF m 92 #[iv p0, iv p1, iv p2, iv p3, iv p4, iv 4, rv b134, rv b148, .unset] [(.int 2), (.ref b148)]) _
      refine XS.aload X160.here hx rfl (hb hby at_92) rfl rfl ?_
      show OwnS p e below T160 (mkF m 94 #[iv p0, iv p1, iv p2, iv p3, iv p4, iv 4, rv b134, rv b148, .unset] [(.ref b134), (.int 2), (.ref b148)]) _
      refine XS.iconst X160.here hx rfl (hb hby at_94) ?_
      show OwnS p e below T160 (mkF m 95 #[iv p0, iv p1, iv p2, iv p3, iv p4, iv 4, rv b134, rv b148, .unset] [(.int 2), (.ref b134), (.int 2), (.ref b148)]) _
      refine X160.daload hx (j := (2 : Int32)) (v := (.double (FP.l2d (p3 % (8 : Int32)).toInt64))) (by rw [e160]; exact Ar_z162.1) (State.isArrayOf_alike hZ.alike Ar_z162.2.1) Ar_z162.2.2 hin163 (Has.at H_z162 hin163 rfl) (g := (mkF m 95 #[iv p0, iv p1, iv p2, iv p3, iv p4, iv 4, rv b134, rv b148, .unset] [(.int 2), (.ref b134), (.int 2), (.ref b148)])) rfl rfl (hb hby at_95) _ ?_
      show OwnS p e below T160 (mkF m 96 #[iv p0, iv p1, iv p2, iv p3, iv p4, iv 4, rv b134, rv b148, .unset] [(.double (FP.l2d (p3 % (8 : Int32)).toInt64)), (.int 2), (.ref b148)]) _
      refine st166 _ ?_
      show OwnS p e below T166 (mkF m 97 #[iv p0, iv p1, iv p2, iv p3, iv p4, iv 4, rv b134, rv b148, .unset] []) _
      refine XS.iload X166.here hx rfl (hb hby at_97) rfl ?_
      show OwnS p e below T166 (mkF m 99 #[iv p0, iv p1, iv p2, iv p3, iv p4, iv 4, rv b134, rv b148, .unset] [(.int 4)]) _
      refine XS.iconst X166.here hx rfl (hb hby at_99) ?_
      show OwnS p e below T166 (mkF m 100 #[iv p0, iv p1, iv p2, iv p3, iv p4, iv 4, rv b134, rv b148, .unset] [(.int 3), (.int 4)]) _
      refine XS.icmpNo X166.here hx rfl (hb hby at_100) rfl (tlt (by decide : (3 : Int32) < (4 : Int32))).2.2.2 ?_
      show OwnS p e below T166 (mkF m 103 #[iv p0, iv p1, iv p2, iv p3, iv p4, iv 4, rv b134, rv b148, .unset] []) _
      refine XS.aload X166.here hx rfl (hb hby at_103) rfl rfl ?_
      show OwnS p e below T166 (mkF m 105 #[iv p0, iv p1, iv p2, iv p3, iv p4, iv 4, rv b134, rv b148, .unset] [(.ref b148)]) _
      refine XS.iconst X166.here hx rfl (hb hby at_105) ?_
      show OwnS p e below T166 (mkF m 106 #[iv p0, iv p1, iv p2, iv p3, iv p4, iv 4, rv b134, rv b148, .unset] [(.int 3), (.ref b148)]) _
      refine XS.aload X166.here hx rfl (hb hby at_106) rfl rfl ?_
      show OwnS p e below T166 (mkF m 108 #[iv p0, iv p1, iv p2, iv p3, iv p4, iv 4, rv b134, rv b148, .unset] [(.ref b134), (.int 3), (.ref b148)]) _
      refine XS.iconst X166.here hx rfl (hb hby at_108) ?_
      show OwnS p e below T166 (mkF m 109 #[iv p0, iv p1, iv p2, iv p3, iv p4, iv 4, rv b134, rv b148, .unset] [(.int 3), (.ref b134), (.int 3), (.ref b148)]) _
      refine X166.daload hx (j := (3 : Int32)) (v := (.double (FP.l2d (p4 % (8 : Int32)).toInt64))) (by rw [e166]; exact Ar_z168.1) (State.isArrayOf_alike hZ.alike Ar_z168.2.1) Ar_z168.2.2 hin169 (Has.at H_z168 hin169 rfl) (g := (mkF m 109 #[iv p0, iv p1, iv p2, iv p3, iv p4, iv 4, rv b134, rv b148, .unset] [(.int 3), (.ref b134), (.int 3), (.ref b148)])) rfl rfl (hb hby at_109) _ ?_
      show OwnS p e below T166 (mkF m 110 #[iv p0, iv p1, iv p2, iv p3, iv p4, iv 4, rv b134, rv b148, .unset] [(.double (FP.l2d (p4 % (8 : Int32)).toInt64)), (.int 3), (.ref b148)]) _
      refine st172 _ ?_
      show OwnS p e below T172 (mkF m 111 #[iv p0, iv p1, iv p2, iv p3, iv p4, iv 4, rv b134, rv b148, .unset] []) _
      refine XS.aload X172.here hx rfl (hb hby at_111) rfl rfl ?_
      show OwnS p e below T172 (mkF m 113 #[iv p0, iv p1, iv p2, iv p3, iv p4, iv 4, rv b134, rv b148, .unset] [(.ref b148)]) _
      exact q
    rcases hQ173 with ⟨rfl, N173q, e173, p173_0, p173_1, p173_2, p173_3, p173_4, p173_5⟩ | ⟨rfl, N173q, e173, p173_0, p173_1, p173_2, p173_3, p173_4⟩ | ⟨rfl, N173q, e173, p173_0, p173_1, p173_2, p173_3⟩ | ⟨rfl, N173q, e173, p173_0, p173_1, p173_2⟩
    · have N173 := Fr.app N172 N173q
      have f176 := (f167.other W172 (Nat.ne_of_lt (Nat.lt_of_lt_of_le f147.lt (Nat.le_of_eq g148.symm))))
      obtain ⟨_, _, ⟨T175, L175, j175, i175⟩, -, X175, ⟨Lc175, hQ175, l175, y175, z175⟩, st175⟩ := Jvm.LawKit.callS X173 hx (y := (⟨cS0, "ok", "([DIII)Z"⟩ : MethodName)) hown (mvT hZ (own_at hw 6 rfl)) (mvT hZ (own_at hw 7 rfl)) (mvT hZ (own_at hw 8 rfl)) (mvT hZ (own_at hw 9 rfl)) (by decide) (backOf (W := 0) (rm2_30 l Z a0 hw [] b134 (4 : Int32) k134 (p1 % (8 : Int32)).toInt64 (p2 % (8 : Int32)).toInt64 (p3 % (8 : Int32)).toInt64 (p4 % (8 : Int32)).toInt64 h172 n0 (Nat.le_trans (Nat.le_trans (Nat.le_trans (Nat.le_trans (Nat.le_trans (Nat.le_trans (Nat.le_trans (Nat.le_trans (Nat.le_trans (Nat.le_trans Z0 E134.1) (Keep.of_wr W137).1) (Keep.of_wr W140).1) (Keep.of_wr W143).1) (Keep.of_wr W146).1) E148.1) (Keep.of_wr W154).1) (Keep.of_wr W160).1) (Keep.of_wr W166).1) (Keep.of_wr W172).1) f176 (own_b8 p1) (own_b8 p2) (own_b8 p3) (own_b8 p4) (by decide : (0 : Int32) < (4 : Int32)) p173_0 p173_3) hZ (own_at hw 9 rfl) (own_at hw 8 rfl) (by decide) (by decide)) (g := (mkF m 155 #[iv p0, iv p1, iv p2, iv p3, iv p4, iv 4, rv b134, rv b148, iv 3] [(.int 0), (.int 3), (.int 4), (.ref b134)])) rfl (by rw [hml]; rfl) (argsL := [(.ref b134), (.int 4), (.int 3), (.int 0)]) (rest := []) (lenOf pd_1 rfl) rfl (Nat.le_refl _) (hb hby at_155) (fun _ _ => ⟨rfl, e173, (by decide : 2 + 0 ≤ _), (by decide : 8 + 0 ≤ _)⟩)
      dsimp only [Pt.U, Pt.locs, Pt.cells, Pt.slots] at X175 l175 y175 z175 st175 hQ175
      subst l175 y175 z175
      obtain ⟨rfl, N175q, e175⟩ := hQ175
      have N175 := Fr.app N173 N175q
      obtain ⟨_, _, ⟨T177, L177, j177, i177⟩, -, X177, ⟨Lc177, hQ177, l177, y177, z177⟩, st177⟩ := Jvm.LawKit.callS X175 hx (y := (⟨cS0, "ok", "([DIII)Z"⟩ : MethodName)) hown (mvT hZ (own_at hw 6 rfl)) (mvT hZ (own_at hw 7 rfl)) (mvT hZ (own_at hw 8 rfl)) (mvT hZ (own_at hw 9 rfl)) (by decide) (backOf (W := 0) (rm2_31 l Z a0 hw [] b134 (4 : Int32) k134 (p1 % (8 : Int32)).toInt64 (p2 % (8 : Int32)).toInt64 (p3 % (8 : Int32)).toInt64 (p4 % (8 : Int32)).toInt64 h172 n0 (Nat.le_trans (Nat.le_trans (Nat.le_trans (Nat.le_trans (Nat.le_trans (Nat.le_trans (Nat.le_trans (Nat.le_trans (Nat.le_trans (Nat.le_trans Z0 E134.1) (Keep.of_wr W137).1) (Keep.of_wr W140).1) (Keep.of_wr W143).1) (Keep.of_wr W146).1) E148.1) (Keep.of_wr W154).1) (Keep.of_wr W160).1) (Keep.of_wr W166).1) (Keep.of_wr W172).1) f176 (own_b8 p1) (own_b8 p2) (own_b8 p3) (own_b8 p4) (by decide : (1 : Int32) < (4 : Int32)) p173_1 p173_4) hZ (own_at hw 9 rfl) (own_at hw 8 rfl) (by decide) (by decide)) (g := (mkF m 168 #[iv p0, iv p1, iv p2, iv p3, iv p4, iv 4, rv b134, rv b148, iv 3] [(.int 1), (.int 3), (.int 4), (.ref b134)])) rfl (by rw [hml]; rfl) (argsL := [(.ref b134), (.int 4), (.int 3), (.int 1)]) (rest := []) (lenOf pd_1 rfl) rfl (Nat.le_refl _) (hb hby at_168) (fun _ _ => ⟨rfl, e175, (by decide : 2 + 0 ≤ _), (by decide : 8 + 0 ≤ _)⟩)
      dsimp only [Pt.U, Pt.locs, Pt.cells, Pt.slots] at X177 l177 y177 z177 st177 hQ177
      subst l177 y177 z177
      obtain ⟨rfl, N177q, e177⟩ := hQ177
      have N177 := Fr.app N175 N177q
      obtain ⟨_, _, ⟨T178, L178, j178, i178⟩, -, X178, ⟨Lc178, hQ178, l178, y178, z178⟩, st178⟩ := Jvm.LawKit.callS X177 hx (y := (⟨cS0, "ok", "([DIII)Z"⟩ : MethodName)) hown (mvT hZ (own_at hw 6 rfl)) (mvT hZ (own_at hw 7 rfl)) (mvT hZ (own_at hw 8 rfl)) (mvT hZ (own_at hw 9 rfl)) (by decide) (backOf (W := 0) (rm2_32 l Z a0 hw [] b134 (4 : Int32) k134 (p1 % (8 : Int32)).toInt64 (p2 % (8 : Int32)).toInt64 (p3 % (8 : Int32)).toInt64 (p4 % (8 : Int32)).toInt64 h172 n0 (Nat.le_trans (Nat.le_trans (Nat.le_trans (Nat.le_trans (Nat.le_trans (Nat.le_trans (Nat.le_trans (Nat.le_trans (Nat.le_trans (Nat.le_trans Z0 E134.1) (Keep.of_wr W137).1) (Keep.of_wr W140).1) (Keep.of_wr W143).1) (Keep.of_wr W146).1) E148.1) (Keep.of_wr W154).1) (Keep.of_wr W160).1) (Keep.of_wr W166).1) (Keep.of_wr W172).1) f176 (own_b8 p1) (own_b8 p2) (own_b8 p3) (own_b8 p4) (by decide : (2 : Int32) < (4 : Int32)) p173_2 p173_5) hZ (own_at hw 9 rfl) (own_at hw 8 rfl) (by decide) (by decide)) (g := (mkF m 181 #[iv p0, iv p1, iv p2, iv p3, iv p4, iv 4, rv b134, rv b148, iv 3] [(.int 2), (.int 3), (.int 4), (.ref b134)])) rfl (by rw [hml]; rfl) (argsL := [(.ref b134), (.int 4), (.int 3), (.int 2)]) (rest := []) (lenOf pd_1 rfl) rfl (Nat.le_refl _) (hb hby at_181) (fun _ _ => ⟨rfl, e177, (by decide : 2 + 0 ≤ _), (by decide : 8 + 0 ≤ _)⟩)
      dsimp only [Pt.U, Pt.locs, Pt.cells, Pt.slots] at X178 l178 y178 z178 st178 hQ178
      subst l178 y178 z178
      obtain ⟨rfl, N178q, e178⟩ := hQ178
      have N178 := Fr.app N177 N178q
      obtain ⟨_, _, ⟨T179, L179, j179, i179⟩, -, X179, ⟨Lc179, hQ179, l179, y179, z179⟩, st179⟩ := Jvm.LawKit.callS X178 hx (y := (⟨cS0, "ok", "([DIII)Z"⟩ : MethodName)) hown (mvT hZ (own_at hw 6 rfl)) (mvT hZ (own_at hw 7 rfl)) (mvT hZ (own_at hw 8 rfl)) (mvT hZ (own_at hw 9 rfl)) (by decide) (backOf (W := 0) (rm2_33 l Z a0 hw [] b134 (4 : Int32) k134 (p1 % (8 : Int32)).toInt64 (p2 % (8 : Int32)).toInt64 (p3 % (8 : Int32)).toInt64 (p4 % (8 : Int32)).toInt64 h172 n0 (Nat.le_trans (Nat.le_trans (Nat.le_trans (Nat.le_trans (Nat.le_trans (Nat.le_trans (Nat.le_trans (Nat.le_trans (Nat.le_trans (Nat.le_trans Z0 E134.1) (Keep.of_wr W137).1) (Keep.of_wr W140).1) (Keep.of_wr W143).1) (Keep.of_wr W146).1) E148.1) (Keep.of_wr W154).1) (Keep.of_wr W160).1) (Keep.of_wr W166).1) (Keep.of_wr W172).1) f176 (own_b8 p1) (own_b8 p2) (own_b8 p3) (own_b8 p4) (by decide : (3 : Int32) < (4 : Int32))) hZ (own_at hw 9 rfl) (own_at hw 8 rfl) (by decide) (by decide)) (g := (mkF m 194 #[iv p0, iv p1, iv p2, iv p3, iv p4, iv 4, rv b134, rv b148, iv 3] [(.int 3), (.int 3), (.int 4), (.ref b134)])) rfl (by rw [hml]; rfl) (argsL := [(.ref b134), (.int 4), (.int 3), (.int 3)]) (rest := []) (lenOf pd_1 rfl) rfl (Nat.le_refl _) (hb hby at_194) (fun _ _ => ⟨rfl, e178, (by decide : 2 + 0 ≤ _), (by decide : 8 + 0 ≤ _)⟩)
      dsimp only [Pt.U, Pt.locs, Pt.cells, Pt.slots] at X179 l179 y179 z179 st179 hQ179
      subst l179 y179 z179
      obtain ⟨rfl, N179q, e179⟩ := hQ179
      have N179 := Fr.app N178 N179q
      obtain ⟨fs, hr, hrun, hended, hW, hsame⟩ := X179.leave (v := some (.int 1)) (fun h => by rw [Bd.returns] at h; cases h)
      refine ⟨_, _, k174 _ ?_, hrun, hended, _, _, rfl, ?_, ⟨_, rfl⟩, hW, hsame.mono (by decide) (by decide)⟩
      · refine st173 _ ?_
        show OwnS p e below T173 (mkF m 116 #[iv p0, iv p1, iv p2, iv p3, iv p4, iv 4, rv b134, rv b148, .unset] [(.int 3)]) _
        refine XS.istore X173.here hx rfl (hb hby at_116) rfl (l' := #[iv p0, iv p1, iv p2, iv p3, iv p4, iv 4, rv b134, rv b148, iv 3]) rfl ?_
        show OwnS p e below T173 (mkF m 118 #[iv p0, iv p1, iv p2, iv p3, iv p4, iv 4, rv b134, rv b148, iv 3] []) _
        refine XS.iload X173.here hx rfl (hb hby at_118) rfl ?_
        show OwnS p e below T173 (mkF m 120 #[iv p0, iv p1, iv p2, iv p3, iv p4, iv 4, rv b134, rv b148, iv 3] [(.int 4)]) _
        refine XS.ifYes X173.here hx rfl (pc0 := 120) (pc' := 134) rfl (hb hby at_120) rfl ((if0 _ _).trans (feq (by decide : ¬ ((4 : Int32) = (0 : Int32)))).2) (by decide) (by decide) ?_
        show OwnS p e below T173 (mkF m 134 #[iv p0, iv p1, iv p2, iv p3, iv p4, iv 4, rv b134, rv b148, iv 3] []) _
        refine XS.iload X173.here hx rfl (hb hby at_134) rfl ?_
        show OwnS p e below T173 (mkF m 136 #[iv p0, iv p1, iv p2, iv p3, iv p4, iv 4, rv b134, rv b148, iv 3] [(.int 3)]) _
        refine XS.ifNo X173.here hx rfl (hb hby at_136) rfl ((if0 _ _).trans (flt (by decide : ¬ ((3 : Int32) < (0 : Int32)))).1) ?_
        show OwnS p e below T173 (mkF m 139 #[iv p0, iv p1, iv p2, iv p3, iv p4, iv 4, rv b134, rv b148, iv 3] []) _
        refine XS.iload X173.here hx rfl (hb hby at_139) rfl ?_
        show OwnS p e below T173 (mkF m 141 #[iv p0, iv p1, iv p2, iv p3, iv p4, iv 4, rv b134, rv b148, iv 3] [(.int 3)]) _
        refine XS.iload X173.here hx rfl (hb hby at_141) rfl ?_
        show OwnS p e below T173 (mkF m 143 #[iv p0, iv p1, iv p2, iv p3, iv p4, iv 4, rv b134, rv b148, iv 3] [(.int 4), (.int 3)]) _
        refine XS.icmpYes X173.here hx rfl (pc0 := 143) (pc' := 148) rfl (hb hby at_143) rfl (tlt (by decide : (3 : Int32) < (4 : Int32))).1 (by decide) (by decide) ?_
        show OwnS p e below T173 (mkF m 148 #[iv p0, iv p1, iv p2, iv p3, iv p4, iv 4, rv b134, rv b148, iv 3] []) _
        refine XS.aload X173.here hx rfl (hb hby at_148) rfl rfl ?_
        show OwnS p e below T173 (mkF m 150 #[iv p0, iv p1, iv p2, iv p3, iv p4, iv 4, rv b134, rv b148, iv 3] [(.ref b134)]) _
        refine XS.iload X173.here hx rfl (hb hby at_150) rfl ?_
        show OwnS p e below T173 (mkF m 152 #[iv p0, iv p1, iv p2, iv p3, iv p4, iv 4, rv b134, rv b148, iv 3] [(.int 4), (.ref b134)]) _
        refine XS.iload X173.here hx rfl (hb hby at_152) rfl ?_
        show OwnS p e below T173 (mkF m 154 #[iv p0, iv p1, iv p2, iv p3, iv p4, iv 4, rv b134, rv b148, iv 3] [(.int 3), (.int 4), (.ref b134)]) _
        refine XS.iconst X173.here hx rfl (hb hby at_154) ?_
        show OwnS p e below T173 (mkF m 155 #[iv p0, iv p1, iv p2, iv p3, iv p4, iv 4, rv b134, rv b148, iv 3] [(.int 0), (.int 3), (.int 4), (.ref b134)]) _
        refine st175 _ ?_
        show OwnS p e below T175 (mkF m 158 #[iv p0, iv p1, iv p2, iv p3, iv p4, iv 4, rv b134, rv b148, iv 3] [(.int 1)]) _
        refine XS.ifNo X175.here hx rfl (hb hby at_158) rfl ((if0 _ _).trans (feq (by decide : ¬ ((1 : Int32) = (0 : Int32)))).1) ?_
        show OwnS p e below T175 (mkF m 161 #[iv p0, iv p1, iv p2, iv p3, iv p4, iv 4, rv b134, rv b148, iv 3] []) _
        refine XS.aload X175.here hx rfl (hb hby at_161) rfl rfl ?_
        show OwnS p e below T175 (mkF m 163 #[iv p0, iv p1, iv p2, iv p3, iv p4, iv 4, rv b134, rv b148, iv 3] [(.ref b134)]) _
        refine XS.iload X175.here hx rfl (hb hby at_163) rfl ?_
        show OwnS p e below T175 (mkF m 165 #[iv p0, iv p1, iv p2, iv p3, iv p4, iv 4, rv b134, rv b148, iv 3] [(.int 4), (.ref b134)]) _
        refine XS.iload X175.here hx rfl (hb hby at_165) rfl ?_
        show OwnS p e below T175 (mkF m 167 #[iv p0, iv p1, iv p2, iv p3, iv p4, iv 4, rv b134, rv b148, iv 3] [(.int 3), (.int 4), (.ref b134)]) _
        refine XS.iconst X175.here hx rfl (hb hby at_167) ?_
        show OwnS p e below T175 (mkF m 168 #[iv p0, iv p1, iv p2, iv p3, iv p4, iv 4, rv b134, rv b148, iv 3] [(.int 1), (.int 3), (.int 4), (.ref b134)]) _
        refine st177 _ ?_
        show OwnS p e below T177 (mkF m 171 #[iv p0, iv p1, iv p2, iv p3, iv p4, iv 4, rv b134, rv b148, iv 3] [(.int 1)]) _
        refine XS.ifNo X177.here hx rfl (hb hby at_171) rfl ((if0 _ _).trans (feq (by decide : ¬ ((1 : Int32) = (0 : Int32)))).1) ?_
        show OwnS p e below T177 (mkF m 174 #[iv p0, iv p1, iv p2, iv p3, iv p4, iv 4, rv b134, rv b148, iv 3] []) _
        refine XS.aload X177.here hx rfl (hb hby at_174) rfl rfl ?_
        show OwnS p e below T177 (mkF m 176 #[iv p0, iv p1, iv p2, iv p3, iv p4, iv 4, rv b134, rv b148, iv 3] [(.ref b134)]) _
        refine XS.iload X177.here hx rfl (hb hby at_176) rfl ?_
        show OwnS p e below T177 (mkF m 178 #[iv p0, iv p1, iv p2, iv p3, iv p4, iv 4, rv b134, rv b148, iv 3] [(.int 4), (.ref b134)]) _
        refine XS.iload X177.here hx rfl (hb hby at_178) rfl ?_
        show OwnS p e below T177 (mkF m 180 #[iv p0, iv p1, iv p2, iv p3, iv p4, iv 4, rv b134, rv b148, iv 3] [(.int 3), (.int 4), (.ref b134)]) _
        refine XS.iconst X177.here hx rfl (hb hby at_180) ?_
        show OwnS p e below T177 (mkF m 181 #[iv p0, iv p1, iv p2, iv p3, iv p4, iv 4, rv b134, rv b148, iv 3] [(.int 2), (.int 3), (.int 4), (.ref b134)]) _
        refine st178 _ ?_
        show OwnS p e below T178 (mkF m 184 #[iv p0, iv p1, iv p2, iv p3, iv p4, iv 4, rv b134, rv b148, iv 3] [(.int 1)]) _
        refine XS.ifNo X178.here hx rfl (hb hby at_184) rfl ((if0 _ _).trans (feq (by decide : ¬ ((1 : Int32) = (0 : Int32)))).1) ?_
        show OwnS p e below T178 (mkF m 187 #[iv p0, iv p1, iv p2, iv p3, iv p4, iv 4, rv b134, rv b148, iv 3] []) _
        refine XS.aload X178.here hx rfl (hb hby at_187) rfl rfl ?_
        show OwnS p e below T178 (mkF m 189 #[iv p0, iv p1, iv p2, iv p3, iv p4, iv 4, rv b134, rv b148, iv 3] [(.ref b134)]) _
        refine XS.iload X178.here hx rfl (hb hby at_189) rfl ?_
        show OwnS p e below T178 (mkF m 191 #[iv p0, iv p1, iv p2, iv p3, iv p4, iv 4, rv b134, rv b148, iv 3] [(.int 4), (.ref b134)]) _
        refine XS.iload X178.here hx rfl (hb hby at_191) rfl ?_
        show OwnS p e below T178 (mkF m 193 #[iv p0, iv p1, iv p2, iv p3, iv p4, iv 4, rv b134, rv b148, iv 3] [(.int 3), (.int 4), (.ref b134)]) _
        refine XS.iconst X178.here hx rfl (hb hby at_193) ?_
        show OwnS p e below T178 (mkF m 194 #[iv p0, iv p1, iv p2, iv p3, iv p4, iv 4, rv b134, rv b148, iv 3] [(.int 3), (.int 3), (.int 4), (.ref b134)]) _
        refine st179 _ ?_
        show OwnS p e below T179 (mkF m 197 #[iv p0, iv p1, iv p2, iv p3, iv p4, iv 4, rv b134, rv b148, iv 3] [(.int 1)]) _
        refine XS.ifNo X179.here hx rfl (hb hby at_197) rfl ((if0 _ _).trans (feq (by decide : ¬ ((1 : Int32) = (0 : Int32)))).1) ?_
        show OwnS p e below T179 (mkF m 200 #[iv p0, iv p1, iv p2, iv p3, iv p4, iv 4, rv b134, rv b148, iv 3] []) _
        refine XS.iconst X179.here hx rfl (hb hby at_200) ?_
        show OwnS p e below T179 (mkF m 201 #[iv p0, iv p1, iv p2, iv p3, iv p4, iv 4, rv b134, rv b148, iv 3] [(.int 1)]) _
        refine XS.goto X179.here hx rfl (pc0 := 201) (pc' := 205) rfl (hb hby at_201) (by decide) (by decide) ?_
        show OwnS p e below T179 (mkF m 205 #[iv p0, iv p1, iv p2, iv p3, iv p4, iv 4, rv b134, rv b148, iv 3] [(.int 1)]) _
        exact retN X179 hx (t := .boolean) Bd.returns (by simp) (hb hby at_205) hr
      · show Q_0 Z p0 p1 p2 p3 p4 h0 n0 _ T179.heap _
        rw [e179]
        exact ⟨rfl, N179, trivial⟩
    · have N173 := Fr.app N172 N173q
      have f181 := (f167.other W172 (Nat.ne_of_lt (Nat.lt_of_lt_of_le f147.lt (Nat.le_of_eq g148.symm))))
      obtain ⟨_, _, ⟨T180, L180, j180, i180⟩, -, X180, ⟨Lc180, hQ180, l180, y180, z180⟩, st180⟩ := Jvm.LawKit.callS X173 hx (y := (⟨cS0, "ok", "([DIII)Z"⟩ : MethodName)) hown (mvT hZ (own_at hw 6 rfl)) (mvT hZ (own_at hw 7 rfl)) (mvT hZ (own_at hw 8 rfl)) (mvT hZ (own_at hw 9 rfl)) (by decide) (backOf (W := 0) (rm2_20 l Z a0 hw [] b134 (4 : Int32) k134 (p1 % (8 : Int32)).toInt64 (p2 % (8 : Int32)).toInt64 (p3 % (8 : Int32)).toInt64 (p4 % (8 : Int32)).toInt64 h172 n0 (Nat.le_trans (Nat.le_trans (Nat.le_trans (Nat.le_trans (Nat.le_trans (Nat.le_trans (Nat.le_trans (Nat.le_trans (Nat.le_trans (Nat.le_trans Z0 E134.1) (Keep.of_wr W137).1) (Keep.of_wr W140).1) (Keep.of_wr W143).1) (Keep.of_wr W146).1) E148.1) (Keep.of_wr W154).1) (Keep.of_wr W160).1) (Keep.of_wr W166).1) (Keep.of_wr W172).1) f181 (own_b8 p1) (own_b8 p2) (own_b8 p3) (own_b8 p4) (by decide : (0 : Int32) < (4 : Int32)) p173_0 p173_3) hZ (own_at hw 9 rfl) (own_at hw 8 rfl) (by decide) (by decide)) (g := (mkF m 155 #[iv p0, iv p1, iv p2, iv p3, iv p4, iv 4, rv b134, rv b148, iv 2] [(.int 0), (.int 2), (.int 4), (.ref b134)])) rfl (by rw [hml]; rfl) (argsL := [(.ref b134), (.int 4), (.int 2), (.int 0)]) (rest := []) (lenOf pd_1 rfl) rfl (Nat.le_refl _) (hb hby at_155) (fun _ _ => ⟨rfl, e173, (by decide : 2 + 0 ≤ _), (by decide : 8 + 0 ≤ _)⟩)
      dsimp only [Pt.U, Pt.locs, Pt.cells, Pt.slots] at X180 l180 y180 z180 st180 hQ180
      subst l180 y180 z180
      obtain ⟨rfl, N180q, e180⟩ := hQ180
      have N180 := Fr.app N173 N180q
      obtain ⟨_, _, ⟨T182, L182, j182, i182⟩, -, X182, ⟨Lc182, hQ182, l182, y182, z182⟩, st182⟩ := Jvm.LawKit.callS X180 hx (y := (⟨cS0, "ok", "([DIII)Z"⟩ : MethodName)) hown (mvT hZ (own_at hw 6 rfl)) (mvT hZ (own_at hw 7 rfl)) (mvT hZ (own_at hw 8 rfl)) (mvT hZ (own_at hw 9 rfl)) (by decide) (backOf (W := 0) (rm2_21 l Z a0 hw [] b134 (4 : Int32) k134 (p1 % (8 : Int32)).toInt64 (p2 % (8 : Int32)).toInt64 (p3 % (8 : Int32)).toInt64 (p4 % (8 : Int32)).toInt64 h172 n0 (Nat.le_trans (Nat.le_trans (Nat.le_trans (Nat.le_trans (Nat.le_trans (Nat.le_trans (Nat.le_trans (Nat.le_trans (Nat.le_trans (Nat.le_trans Z0 E134.1) (Keep.of_wr W137).1) (Keep.of_wr W140).1) (Keep.of_wr W143).1) (Keep.of_wr W146).1) E148.1) (Keep.of_wr W154).1) (Keep.of_wr W160).1) (Keep.of_wr W166).1) (Keep.of_wr W172).1) f181 (own_b8 p1) (own_b8 p2) (own_b8 p3) (own_b8 p4) (by decide : (1 : Int32) < (4 : Int32)) p173_1 p173_4) hZ (own_at hw 9 rfl) (own_at hw 8 rfl) (by decide) (by decide)) (g := (mkF m 168 #[iv p0, iv p1, iv p2, iv p3, iv p4, iv 4, rv b134, rv b148, iv 2] [(.int 1), (.int 2), (.int 4), (.ref b134)])) rfl (by rw [hml]; rfl) (argsL := [(.ref b134), (.int 4), (.int 2), (.int 1)]) (rest := []) (lenOf pd_1 rfl) rfl (Nat.le_refl _) (hb hby at_168) (fun _ _ => ⟨rfl, e180, (by decide : 2 + 0 ≤ _), (by decide : 8 + 0 ≤ _)⟩)
      dsimp only [Pt.U, Pt.locs, Pt.cells, Pt.slots] at X182 l182 y182 z182 st182 hQ182
      subst l182 y182 z182
      obtain ⟨rfl, N182q, e182⟩ := hQ182
      have N182 := Fr.app N180 N182q
      obtain ⟨_, _, ⟨T183, L183, j183, i183⟩, -, X183, ⟨Lc183, hQ183, l183, y183, z183⟩, st183⟩ := Jvm.LawKit.callS X182 hx (y := (⟨cS0, "ok", "([DIII)Z"⟩ : MethodName)) hown (mvT hZ (own_at hw 6 rfl)) (mvT hZ (own_at hw 7 rfl)) (mvT hZ (own_at hw 8 rfl)) (mvT hZ (own_at hw 9 rfl)) (by decide) (backOf (W := 0) (rm2_22 l Z a0 hw [] b134 (4 : Int32) k134 (p1 % (8 : Int32)).toInt64 (p2 % (8 : Int32)).toInt64 (p3 % (8 : Int32)).toInt64 (p4 % (8 : Int32)).toInt64 h172 n0 (Nat.le_trans (Nat.le_trans (Nat.le_trans (Nat.le_trans (Nat.le_trans (Nat.le_trans (Nat.le_trans (Nat.le_trans (Nat.le_trans (Nat.le_trans Z0 E134.1) (Keep.of_wr W137).1) (Keep.of_wr W140).1) (Keep.of_wr W143).1) (Keep.of_wr W146).1) E148.1) (Keep.of_wr W154).1) (Keep.of_wr W160).1) (Keep.of_wr W166).1) (Keep.of_wr W172).1) f181 (own_b8 p1) (own_b8 p2) (own_b8 p3) (own_b8 p4) (by decide : (2 : Int32) < (4 : Int32))) hZ (own_at hw 9 rfl) (own_at hw 8 rfl) (by decide) (by decide)) (g := (mkF m 181 #[iv p0, iv p1, iv p2, iv p3, iv p4, iv 4, rv b134, rv b148, iv 2] [(.int 2), (.int 2), (.int 4), (.ref b134)])) rfl (by rw [hml]; rfl) (argsL := [(.ref b134), (.int 4), (.int 2), (.int 2)]) (rest := []) (lenOf pd_1 rfl) rfl (Nat.le_refl _) (hb hby at_181) (fun _ _ => ⟨rfl, e182, (by decide : 2 + 0 ≤ _), (by decide : 8 + 0 ≤ _)⟩)
      dsimp only [Pt.U, Pt.locs, Pt.cells, Pt.slots] at X183 l183 y183 z183 st183 hQ183
      subst l183 y183 z183
      obtain ⟨rfl, N183q, e183⟩ := hQ183
      have N183 := Fr.app N182 N183q
      obtain ⟨_, _, ⟨T184, L184, j184, i184⟩, -, X184, ⟨Lc184, hQ184, l184, y184, z184⟩, st184⟩ := Jvm.LawKit.callS X183 hx (y := (⟨cS0, "ok", "([DIII)Z"⟩ : MethodName)) hown (mvT hZ (own_at hw 6 rfl)) (mvT hZ (own_at hw 7 rfl)) (mvT hZ (own_at hw 8 rfl)) (mvT hZ (own_at hw 9 rfl)) (by decide) (backOf (W := 0) (rm2_23 l Z a0 hw [] b134 (4 : Int32) k134 (p1 % (8 : Int32)).toInt64 (p2 % (8 : Int32)).toInt64 (p3 % (8 : Int32)).toInt64 (p4 % (8 : Int32)).toInt64 h172 n0 (Nat.le_trans (Nat.le_trans (Nat.le_trans (Nat.le_trans (Nat.le_trans (Nat.le_trans (Nat.le_trans (Nat.le_trans (Nat.le_trans (Nat.le_trans Z0 E134.1) (Keep.of_wr W137).1) (Keep.of_wr W140).1) (Keep.of_wr W143).1) (Keep.of_wr W146).1) E148.1) (Keep.of_wr W154).1) (Keep.of_wr W160).1) (Keep.of_wr W166).1) (Keep.of_wr W172).1) f181 (own_b8 p1) (own_b8 p2) (own_b8 p3) (own_b8 p4) (by decide : (3 : Int32) < (4 : Int32)) p173_2) hZ (own_at hw 9 rfl) (own_at hw 8 rfl) (by decide) (by decide)) (g := (mkF m 194 #[iv p0, iv p1, iv p2, iv p3, iv p4, iv 4, rv b134, rv b148, iv 2] [(.int 3), (.int 2), (.int 4), (.ref b134)])) rfl (by rw [hml]; rfl) (argsL := [(.ref b134), (.int 4), (.int 2), (.int 3)]) (rest := []) (lenOf pd_1 rfl) rfl (Nat.le_refl _) (hb hby at_194) (fun _ _ => ⟨rfl, e183, (by decide : 2 + 0 ≤ _), (by decide : 8 + 0 ≤ _)⟩)
      dsimp only [Pt.U, Pt.locs, Pt.cells, Pt.slots] at X184 l184 y184 z184 st184 hQ184
      subst l184 y184 z184
      obtain ⟨rfl, N184q, e184⟩ := hQ184
      have N184 := Fr.app N183 N184q
      obtain ⟨fs, hr, hrun, hended, hW, hsame⟩ := X184.leave (v := some (.int 1)) (fun h => by rw [Bd.returns] at h; cases h)
      refine ⟨_, _, k174 _ ?_, hrun, hended, _, _, rfl, ?_, ⟨_, rfl⟩, hW, hsame.mono (by decide) (by decide)⟩
      · refine st173 _ ?_
        show OwnS p e below T173 (mkF m 116 #[iv p0, iv p1, iv p2, iv p3, iv p4, iv 4, rv b134, rv b148, .unset] [(.int 2)]) _
        refine XS.istore X173.here hx rfl (hb hby at_116) rfl (l' := #[iv p0, iv p1, iv p2, iv p3, iv p4, iv 4, rv b134, rv b148, iv 2]) rfl ?_
        show OwnS p e below T173 (mkF m 118 #[iv p0, iv p1, iv p2, iv p3, iv p4, iv 4, rv b134, rv b148, iv 2] []) _
        refine XS.iload X173.here hx rfl (hb hby at_118) rfl ?_
        show OwnS p e below T173 (mkF m 120 #[iv p0, iv p1, iv p2, iv p3, iv p4, iv 4, rv b134, rv b148, iv 2] [(.int 4)]) _
        refine XS.ifYes X173.here hx rfl (pc0 := 120) (pc' := 134) rfl (hb hby at_120) rfl ((if0 _ _).trans (feq (by decide : ¬ ((4 : Int32) = (0 : Int32)))).2) (by decide) (by decide) ?_
        show OwnS p e below T173 (mkF m 134 #[iv p0, iv p1, iv p2, iv p3, iv p4, iv 4, rv b134, rv b148, iv 2] []) _
        refine XS.iload X173.here hx rfl (hb hby at_134) rfl ?_
        show OwnS p e below T173 (mkF m 136 #[iv p0, iv p1, iv p2, iv p3, iv p4, iv 4, rv b134, rv b148, iv 2] [(.int 2)]) _
        refine XS.ifNo X173.here hx rfl (hb hby at_136) rfl ((if0 _ _).trans (flt (by decide : ¬ ((2 : Int32) < (0 : Int32)))).1) ?_
        show OwnS p e below T173 (mkF m 139 #[iv p0, iv p1, iv p2, iv p3, iv p4, iv 4, rv b134, rv b148, iv 2] []) _
        refine XS.iload X173.here hx rfl (hb hby at_139) rfl ?_
        show OwnS p e below T173 (mkF m 141 #[iv p0, iv p1, iv p2, iv p3, iv p4, iv 4, rv b134, rv b148, iv 2] [(.int 2)]) _
        refine XS.iload X173.here hx rfl (hb hby at_141) rfl ?_
        show OwnS p e below T173 (mkF m 143 #[iv p0, iv p1, iv p2, iv p3, iv p4, iv 4, rv b134, rv b148, iv 2] [(.int 4), (.int 2)]) _
        refine XS.icmpYes X173.here hx rfl (pc0 := 143) (pc' := 148) rfl (hb hby at_143) rfl (tlt (by decide : (2 : Int32) < (4 : Int32))).1 (by decide) (by decide) ?_
        show OwnS p e below T173 (mkF m 148 #[iv p0, iv p1, iv p2, iv p3, iv p4, iv 4, rv b134, rv b148, iv 2] []) _
        refine XS.aload X173.here hx rfl (hb hby at_148) rfl rfl ?_
        show OwnS p e below T173 (mkF m 150 #[iv p0, iv p1, iv p2, iv p3, iv p4, iv 4, rv b134, rv b148, iv 2] [(.ref b134)]) _
        refine XS.iload X173.here hx rfl (hb hby at_150) rfl ?_
        show OwnS p e below T173 (mkF m 152 #[iv p0, iv p1, iv p2, iv p3, iv p4, iv 4, rv b134, rv b148, iv 2] [(.int 4), (.ref b134)]) _
        refine XS.iload X173.here hx rfl (hb hby at_152) rfl ?_
        show OwnS p e below T173 (mkF m 154 #[iv p0, iv p1, iv p2, iv p3, iv p4, iv 4, rv b134, rv b148, iv 2] [(.int 2), (.int 4), (.ref b134)]) _
        refine XS.iconst X173.here hx rfl (hb hby at_154) ?_
        show OwnS p e below T173 (mkF m 155 #[iv p0, iv p1, iv p2, iv p3, iv p4, iv 4, rv b134, rv b148, iv 2] [(.int 0), (.int 2), (.int 4), (.ref b134)]) _
        refine st180 _ ?_
        show OwnS p e below T180 (mkF m 158 #[iv p0, iv p1, iv p2, iv p3, iv p4, iv 4, rv b134, rv b148, iv 2] [(.int 1)]) _
        refine XS.ifNo X180.here hx rfl (hb hby at_158) rfl ((if0 _ _).trans (feq (by decide : ¬ ((1 : Int32) = (0 : Int32)))).1) ?_
        show OwnS p e below T180 (mkF m 161 #[iv p0, iv p1, iv p2, iv p3, iv p4, iv 4, rv b134, rv b148, iv 2] []) _
        refine XS.aload X180.here hx rfl (hb hby at_161) rfl rfl ?_
        show OwnS p e below T180 (mkF m 163 #[iv p0, iv p1, iv p2, iv p3, iv p4, iv 4, rv b134, rv b148, iv 2] [(.ref b134)]) _
        refine XS.iload X180.here hx rfl (hb hby at_163) rfl ?_
        show OwnS p e below T180 (mkF m 165 #[iv p0, iv p1, iv p2, iv p3, iv p4, iv 4, rv b134, rv b148, iv 2] [(.int 4), (.ref b134)]) _
        refine XS.iload X180.here hx rfl (hb hby at_165) rfl ?_
        show OwnS p e below T180 (mkF m 167 #[iv p0, iv p1, iv p2, iv p3, iv p4, iv 4, rv b134, rv b148, iv 2] [(.int 2), (.int 4), (.ref b134)]) _
        refine XS.iconst X180.here hx rfl (hb hby at_167) ?_
        show OwnS p e below T180 (mkF m 168 #[iv p0, iv p1, iv p2, iv p3, iv p4, iv 4, rv b134, rv b148, iv 2] [(.int 1), (.int 2), (.int 4), (.ref b134)]) _
        refine st182 _ ?_
        show OwnS p e below T182 (mkF m 171 #[iv p0, iv p1, iv p2, iv p3, iv p4, iv 4, rv b134, rv b148, iv 2] [(.int 1)]) _
        refine XS.ifNo X182.here hx rfl (hb hby at_171) rfl ((if0 _ _).trans (feq (by decide : ¬ ((1 : Int32) = (0 : Int32)))).1) ?_
        show OwnS p e below T182 (mkF m 174 #[iv p0, iv p1, iv p2, iv p3, iv p4, iv 4, rv b134, rv b148, iv 2] []) _
        refine XS.aload X182.here hx rfl (hb hby at_174) rfl rfl ?_
        show OwnS p e below T182 (mkF m 176 #[iv p0, iv p1, iv p2, iv p3, iv p4, iv 4, rv b134, rv b148, iv 2] [(.ref b134)]) _
        refine XS.iload X182.here hx rfl (hb hby at_176) rfl ?_
        show OwnS p e below T182 (mkF m 178 #[iv p0, iv p1, iv p2, iv p3, iv p4, iv 4, rv b134, rv b148, iv 2] [(.int 4), (.ref b134)]) _
        refine XS.iload X182.here hx rfl (hb hby at_178) rfl ?_
        show OwnS p e below T182 (mkF m 180 #[iv p0, iv p1, iv p2, iv p3, iv p4, iv 4, rv b134, rv b148, iv 2] [(.int 2), (.int 4), (.ref b134)]) _
        refine XS.iconst X182.here hx rfl (hb hby at_180) ?_
        show OwnS p e below T182 (mkF m 181 #[iv p0, iv p1, iv p2, iv p3, iv p4, iv 4, rv b134, rv b148, iv 2] [(.int 2), (.int 2), (.int 4), (.ref b134)]) _
        refine st183 _ ?_
        show OwnS p e below T183 (mkF m 184 #[iv p0, iv p1, iv p2, iv p3, iv p4, iv 4, rv b134, rv b148, iv 2] [(.int 1)]) _
        refine XS.ifNo X183.here hx rfl (hb hby at_184) rfl ((if0 _ _).trans (feq (by decide : ¬ ((1 : Int32) = (0 : Int32)))).1) ?_
        show OwnS p e below T183 (mkF m 187 #[iv p0, iv p1, iv p2, iv p3, iv p4, iv 4, rv b134, rv b148, iv 2] []) _
        refine XS.aload X183.here hx rfl (hb hby at_187) rfl rfl ?_
        show OwnS p e below T183 (mkF m 189 #[iv p0, iv p1, iv p2, iv p3, iv p4, iv 4, rv b134, rv b148, iv 2] [(.ref b134)]) _
        refine XS.iload X183.here hx rfl (hb hby at_189) rfl ?_
        show OwnS p e below T183 (mkF m 191 #[iv p0, iv p1, iv p2, iv p3, iv p4, iv 4, rv b134, rv b148, iv 2] [(.int 4), (.ref b134)]) _
        refine XS.iload X183.here hx rfl (hb hby at_191) rfl ?_
        show OwnS p e below T183 (mkF m 193 #[iv p0, iv p1, iv p2, iv p3, iv p4, iv 4, rv b134, rv b148, iv 2] [(.int 2), (.int 4), (.ref b134)]) _
        refine XS.iconst X183.here hx rfl (hb hby at_193) ?_
        show OwnS p e below T183 (mkF m 194 #[iv p0, iv p1, iv p2, iv p3, iv p4, iv 4, rv b134, rv b148, iv 2] [(.int 3), (.int 2), (.int 4), (.ref b134)]) _
        refine st184 _ ?_
        show OwnS p e below T184 (mkF m 197 #[iv p0, iv p1, iv p2, iv p3, iv p4, iv 4, rv b134, rv b148, iv 2] [(.int 1)]) _
        refine XS.ifNo X184.here hx rfl (hb hby at_197) rfl ((if0 _ _).trans (feq (by decide : ¬ ((1 : Int32) = (0 : Int32)))).1) ?_
        show OwnS p e below T184 (mkF m 200 #[iv p0, iv p1, iv p2, iv p3, iv p4, iv 4, rv b134, rv b148, iv 2] []) _
        refine XS.iconst X184.here hx rfl (hb hby at_200) ?_
        show OwnS p e below T184 (mkF m 201 #[iv p0, iv p1, iv p2, iv p3, iv p4, iv 4, rv b134, rv b148, iv 2] [(.int 1)]) _
        refine XS.goto X184.here hx rfl (pc0 := 201) (pc' := 205) rfl (hb hby at_201) (by decide) (by decide) ?_
        show OwnS p e below T184 (mkF m 205 #[iv p0, iv p1, iv p2, iv p3, iv p4, iv 4, rv b134, rv b148, iv 2] [(.int 1)]) _
        exact retN X184 hx (t := .boolean) Bd.returns (by simp) (hb hby at_205) hr
      · show Q_0 Z p0 p1 p2 p3 p4 h0 n0 _ T184.heap _
        rw [e184]
        exact ⟨rfl, N184, trivial⟩
    · have N173 := Fr.app N172 N173q
      have f186 := (f167.other W172 (Nat.ne_of_lt (Nat.lt_of_lt_of_le f147.lt (Nat.le_of_eq g148.symm))))
      obtain ⟨_, _, ⟨T185, L185, j185, i185⟩, -, X185, ⟨Lc185, hQ185, l185, y185, z185⟩, st185⟩ := Jvm.LawKit.callS X173 hx (y := (⟨cS0, "ok", "([DIII)Z"⟩ : MethodName)) hown (mvT hZ (own_at hw 6 rfl)) (mvT hZ (own_at hw 7 rfl)) (mvT hZ (own_at hw 8 rfl)) (mvT hZ (own_at hw 9 rfl)) (by decide) (backOf (W := 0) (rm2_10 l Z a0 hw [] b134 (4 : Int32) k134 (p1 % (8 : Int32)).toInt64 (p2 % (8 : Int32)).toInt64 (p3 % (8 : Int32)).toInt64 (p4 % (8 : Int32)).toInt64 h172 n0 (Nat.le_trans (Nat.le_trans (Nat.le_trans (Nat.le_trans (Nat.le_trans (Nat.le_trans (Nat.le_trans (Nat.le_trans (Nat.le_trans (Nat.le_trans Z0 E134.1) (Keep.of_wr W137).1) (Keep.of_wr W140).1) (Keep.of_wr W143).1) (Keep.of_wr W146).1) E148.1) (Keep.of_wr W154).1) (Keep.of_wr W160).1) (Keep.of_wr W166).1) (Keep.of_wr W172).1) f186 (own_b8 p1) (own_b8 p2) (own_b8 p3) (own_b8 p4) (by decide : (0 : Int32) < (4 : Int32)) p173_0 p173_3) hZ (own_at hw 9 rfl) (own_at hw 8 rfl) (by decide) (by decide)) (g := (mkF m 155 #[iv p0, iv p1, iv p2, iv p3, iv p4, iv 4, rv b134, rv b148, iv 1] [(.int 0), (.int 1), (.int 4), (.ref b134)])) rfl (by rw [hml]; rfl) (argsL := [(.ref b134), (.int 4), (.int 1), (.int 0)]) (rest := []) (lenOf pd_1 rfl) rfl (Nat.le_refl _) (hb hby at_155) (fun _ _ => ⟨rfl, e173, (by decide : 2 + 0 ≤ _), (by decide : 8 + 0 ≤ _)⟩)
      dsimp only [Pt.U, Pt.locs, Pt.cells, Pt.slots] at X185 l185 y185 z185 st185 hQ185
      subst l185 y185 z185
      obtain ⟨rfl, N185q, e185⟩ := hQ185
      have N185 := Fr.app N173 N185q
      obtain ⟨_, _, ⟨T187, L187, j187, i187⟩, -, X187, ⟨Lc187, hQ187, l187, y187, z187⟩, st187⟩ := Jvm.LawKit.callS X185 hx (y := (⟨cS0, "ok", "([DIII)Z"⟩ : MethodName)) hown (mvT hZ (own_at hw 6 rfl)) (mvT hZ (own_at hw 7 rfl)) (mvT hZ (own_at hw 8 rfl)) (mvT hZ (own_at hw 9 rfl)) (by decide) (backOf (W := 0) (rm2_11 l Z a0 hw [] b134 (4 : Int32) k134 (p1 % (8 : Int32)).toInt64 (p2 % (8 : Int32)).toInt64 (p3 % (8 : Int32)).toInt64 (p4 % (8 : Int32)).toInt64 h172 n0 (Nat.le_trans (Nat.le_trans (Nat.le_trans (Nat.le_trans (Nat.le_trans (Nat.le_trans (Nat.le_trans (Nat.le_trans (Nat.le_trans (Nat.le_trans Z0 E134.1) (Keep.of_wr W137).1) (Keep.of_wr W140).1) (Keep.of_wr W143).1) (Keep.of_wr W146).1) E148.1) (Keep.of_wr W154).1) (Keep.of_wr W160).1) (Keep.of_wr W166).1) (Keep.of_wr W172).1) f186 (own_b8 p1) (own_b8 p2) (own_b8 p3) (own_b8 p4) (by decide : (1 : Int32) < (4 : Int32))) hZ (own_at hw 9 rfl) (own_at hw 8 rfl) (by decide) (by decide)) (g := (mkF m 168 #[iv p0, iv p1, iv p2, iv p3, iv p4, iv 4, rv b134, rv b148, iv 1] [(.int 1), (.int 1), (.int 4), (.ref b134)])) rfl (by rw [hml]; rfl) (argsL := [(.ref b134), (.int 4), (.int 1), (.int 1)]) (rest := []) (lenOf pd_1 rfl) rfl (Nat.le_refl _) (hb hby at_168) (fun _ _ => ⟨rfl, e185, (by decide : 2 + 0 ≤ _), (by decide : 8 + 0 ≤ _)⟩)
      dsimp only [Pt.U, Pt.locs, Pt.cells, Pt.slots] at X187 l187 y187 z187 st187 hQ187
      subst l187 y187 z187
      obtain ⟨rfl, N187q, e187⟩ := hQ187
      have N187 := Fr.app N185 N187q
      obtain ⟨_, _, ⟨T188, L188, j188, i188⟩, -, X188, ⟨Lc188, hQ188, l188, y188, z188⟩, st188⟩ := Jvm.LawKit.callS X187 hx (y := (⟨cS0, "ok", "([DIII)Z"⟩ : MethodName)) hown (mvT hZ (own_at hw 6 rfl)) (mvT hZ (own_at hw 7 rfl)) (mvT hZ (own_at hw 8 rfl)) (mvT hZ (own_at hw 9 rfl)) (by decide) (backOf (W := 0) (rm2_12 l Z a0 hw [] b134 (4 : Int32) k134 (p1 % (8 : Int32)).toInt64 (p2 % (8 : Int32)).toInt64 (p3 % (8 : Int32)).toInt64 (p4 % (8 : Int32)).toInt64 h172 n0 (Nat.le_trans (Nat.le_trans (Nat.le_trans (Nat.le_trans (Nat.le_trans (Nat.le_trans (Nat.le_trans (Nat.le_trans (Nat.le_trans (Nat.le_trans Z0 E134.1) (Keep.of_wr W137).1) (Keep.of_wr W140).1) (Keep.of_wr W143).1) (Keep.of_wr W146).1) E148.1) (Keep.of_wr W154).1) (Keep.of_wr W160).1) (Keep.of_wr W166).1) (Keep.of_wr W172).1) f186 (own_b8 p1) (own_b8 p2) (own_b8 p3) (own_b8 p4) (by decide : (2 : Int32) < (4 : Int32)) p173_1) hZ (own_at hw 9 rfl) (own_at hw 8 rfl) (by decide) (by decide)) (g := (mkF m 181 #[iv p0, iv p1, iv p2, iv p3, iv p4, iv 4, rv b134, rv b148, iv 1] [(.int 2), (.int 1), (.int 4), (.ref b134)])) rfl (by rw [hml]; rfl) (argsL := [(.ref b134), (.int 4), (.int 1), (.int 2)]) (rest := []) (lenOf pd_1 rfl) rfl (Nat.le_refl _) (hb hby at_181) (fun _ _ => ⟨rfl, e187, (by decide : 2 + 0 ≤ _), (by decide : 8 + 0 ≤ _)⟩)
      dsimp only [Pt.U, Pt.locs, Pt.cells, Pt.slots] at X188 l188 y188 z188 st188 hQ188
      subst l188 y188 z188
      obtain ⟨rfl, N188q, e188⟩ := hQ188
      have N188 := Fr.app N187 N188q
      obtain ⟨_, _, ⟨T189, L189, j189, i189⟩, -, X189, ⟨Lc189, hQ189, l189, y189, z189⟩, st189⟩ := Jvm.LawKit.callS X188 hx (y := (⟨cS0, "ok", "([DIII)Z"⟩ : MethodName)) hown (mvT hZ (own_at hw 6 rfl)) (mvT hZ (own_at hw 7 rfl)) (mvT hZ (own_at hw 8 rfl)) (mvT hZ (own_at hw 9 rfl)) (by decide) (backOf (W := 0) (rm2_13 l Z a0 hw [] b134 (4 : Int32) k134 (p1 % (8 : Int32)).toInt64 (p2 % (8 : Int32)).toInt64 (p3 % (8 : Int32)).toInt64 (p4 % (8 : Int32)).toInt64 h172 n0 (Nat.le_trans (Nat.le_trans (Nat.le_trans (Nat.le_trans (Nat.le_trans (Nat.le_trans (Nat.le_trans (Nat.le_trans (Nat.le_trans (Nat.le_trans Z0 E134.1) (Keep.of_wr W137).1) (Keep.of_wr W140).1) (Keep.of_wr W143).1) (Keep.of_wr W146).1) E148.1) (Keep.of_wr W154).1) (Keep.of_wr W160).1) (Keep.of_wr W166).1) (Keep.of_wr W172).1) f186 (own_b8 p1) (own_b8 p2) (own_b8 p3) (own_b8 p4) (by decide : (3 : Int32) < (4 : Int32)) p173_2) hZ (own_at hw 9 rfl) (own_at hw 8 rfl) (by decide) (by decide)) (g := (mkF m 194 #[iv p0, iv p1, iv p2, iv p3, iv p4, iv 4, rv b134, rv b148, iv 1] [(.int 3), (.int 1), (.int 4), (.ref b134)])) rfl (by rw [hml]; rfl) (argsL := [(.ref b134), (.int 4), (.int 1), (.int 3)]) (rest := []) (lenOf pd_1 rfl) rfl (Nat.le_refl _) (hb hby at_194) (fun _ _ => ⟨rfl, e188, (by decide : 2 + 0 ≤ _), (by decide : 8 + 0 ≤ _)⟩)
      dsimp only [Pt.U, Pt.locs, Pt.cells, Pt.slots] at X189 l189 y189 z189 st189 hQ189
      subst l189 y189 z189
      obtain ⟨rfl, N189q, e189⟩ := hQ189
      have N189 := Fr.app N188 N189q
      obtain ⟨fs, hr, hrun, hended, hW, hsame⟩ := X189.leave (v := some (.int 1)) (fun h => by rw [Bd.returns] at h; cases h)
      refine ⟨_, _, k174 _ ?_, hrun, hended, _, _, rfl, ?_, ⟨_, rfl⟩, hW, hsame.mono (by decide) (by decide)⟩
      · refine st173 _ ?_
        show OwnS p e below T173 (mkF m 116 #[iv p0, iv p1, iv p2, iv p3, iv p4, iv 4, rv b134, rv b148, .unset] [(.int 1)]) _
        refine XS.istore X173.here hx rfl (hb hby at_116) rfl (l' := #[iv p0, iv p1, iv p2, iv p3, iv p4, iv 4, rv b134, rv b148, iv 1]) rfl ?_
        show OwnS p e below T173 (mkF m 118 #[iv p0, iv p1, iv p2, iv p3, iv p4, iv 4, rv b134, rv b148, iv 1] []) _
        refine XS.iload X173.here hx rfl (hb hby at_118) rfl ?_
        show OwnS p e below T173 (mkF m 120 #[iv p0, iv p1, iv p2, iv p3, iv p4, iv 4, rv b134, rv b148, iv 1] [(.int 4)]) _
        refine XS.ifYes X173.here hx rfl (pc0 := 120) (pc' := 134) rfl (hb hby at_120) rfl ((if0 _ _).trans (feq (by decide : ¬ ((4 : Int32) = (0 : Int32)))).2) (by decide) (by decide) ?_
        show OwnS p e below T173 (mkF m 134 #[iv p0, iv p1, iv p2, iv p3, iv p4, iv 4, rv b134, rv b148, iv 1] []) _
        refine XS.iload X173.here hx rfl (hb hby at_134) rfl ?_
        show OwnS p e below T173 (mkF m 136 #[iv p0, iv p1, iv p2, iv p3, iv p4, iv 4, rv b134, rv b148, iv 1] [(.int 1)]) _
        refine XS.ifNo X173.here hx rfl (hb hby at_136) rfl ((if0 _ _).trans (flt (by decide : ¬ ((1 : Int32) < (0 : Int32)))).1) ?_
        show OwnS p e below T173 (mkF m 139 #[iv p0, iv p1, iv p2, iv p3, iv p4, iv 4, rv b134, rv b148, iv 1] []) _
        refine XS.iload X173.here hx rfl (hb hby at_139) rfl ?_
        show OwnS p e below T173 (mkF m 141 #[iv p0, iv p1, iv p2, iv p3, iv p4, iv 4, rv b134, rv b148, iv 1] [(.int 1)]) _
        refine XS.iload X173.here hx rfl (hb hby at_141) rfl ?_
        show OwnS p e below T173 (mkF m 143 #[iv p0, iv p1, iv p2, iv p3, iv p4, iv 4, rv b134, rv b148, iv 1] [(.int 4), (.int 1)]) _
        refine XS.icmpYes X173.here hx rfl (pc0 := 143) (pc' := 148) rfl (hb hby at_143) rfl (tlt (by decide : (1 : Int32) < (4 : Int32))).1 (by decide) (by decide) ?_
        show OwnS p e below T173 (mkF m 148 #[iv p0, iv p1, iv p2, iv p3, iv p4, iv 4, rv b134, rv b148, iv 1] []) _
        refine XS.aload X173.here hx rfl (hb hby at_148) rfl rfl ?_
        show OwnS p e below T173 (mkF m 150 #[iv p0, iv p1, iv p2, iv p3, iv p4, iv 4, rv b134, rv b148, iv 1] [(.ref b134)]) _
        refine XS.iload X173.here hx rfl (hb hby at_150) rfl ?_
        show OwnS p e below T173 (mkF m 152 #[iv p0, iv p1, iv p2, iv p3, iv p4, iv 4, rv b134, rv b148, iv 1] [(.int 4), (.ref b134)]) _
        refine XS.iload X173.here hx rfl (hb hby at_152) rfl ?_
        show OwnS p e below T173 (mkF m 154 #[iv p0, iv p1, iv p2, iv p3, iv p4, iv 4, rv b134, rv b148, iv 1] [(.int 1), (.int 4), (.ref b134)]) _
        refine XS.iconst X173.here hx rfl (hb hby at_154) ?_
        show OwnS p e below T173 (mkF m 155 #[iv p0, iv p1, iv p2, iv p3, iv p4, iv 4, rv b134, rv b148, iv 1] [(.int 0), (.int 1), (.int 4), (.ref b134)]) _
        refine st185 _ ?_
        show OwnS p e below T185 (mkF m 158 #[iv p0, iv p1, iv p2, iv p3, iv p4, iv 4, rv b134, rv b148, iv 1] [(.int 1)]) _
        refine XS.ifNo X185.here hx rfl (hb hby at_158) rfl ((if0 _ _).trans (feq (by decide : ¬ ((1 : Int32) = (0 : Int32)))).1) ?_
        show OwnS p e below T185 (mkF m 161 #[iv p0, iv p1, iv p2, iv p3, iv p4, iv 4, rv b134, rv b148, iv 1] []) _
        refine XS.aload X185.here hx rfl (hb hby at_161) rfl rfl ?_
        show OwnS p e below T185 (mkF m 163 #[iv p0, iv p1, iv p2, iv p3, iv p4, iv 4, rv b134, rv b148, iv 1] [(.ref b134)]) _
        refine XS.iload X185.here hx rfl (hb hby at_163) rfl ?_
        show OwnS p e below T185 (mkF m 165 #[iv p0, iv p1, iv p2, iv p3, iv p4, iv 4, rv b134, rv b148, iv 1] [(.int 4), (.ref b134)]) _
        refine XS.iload X185.here hx rfl (hb hby at_165) rfl ?_
        show OwnS p e below T185 (mkF m 167 #[iv p0, iv p1, iv p2, iv p3, iv p4, iv 4, rv b134, rv b148, iv 1] [(.int 1), (.int 4), (.ref b134)]) _
        refine XS.iconst X185.here hx rfl (hb hby at_167) ?_
        show OwnS p e below T185 (mkF m 168 #[iv p0, iv p1, iv p2, iv p3, iv p4, iv 4, rv b134, rv b148, iv 1] [(.int 1), (.int 1), (.int 4), (.ref b134)]) _
        refine st187 _ ?_
        show OwnS p e below T187 (mkF m 171 #[iv p0, iv p1, iv p2, iv p3, iv p4, iv 4, rv b134, rv b148, iv 1] [(.int 1)]) _
        refine XS.ifNo X187.here hx rfl (hb hby at_171) rfl ((if0 _ _).trans (feq (by decide : ¬ ((1 : Int32) = (0 : Int32)))).1) ?_
        show OwnS p e below T187 (mkF m 174 #[iv p0, iv p1, iv p2, iv p3, iv p4, iv 4, rv b134, rv b148, iv 1] []) _
        refine XS.aload X187.here hx rfl (hb hby at_174) rfl rfl ?_
        show OwnS p e below T187 (mkF m 176 #[iv p0, iv p1, iv p2, iv p3, iv p4, iv 4, rv b134, rv b148, iv 1] [(.ref b134)]) _
        refine XS.iload X187.here hx rfl (hb hby at_176) rfl ?_
        show OwnS p e below T187 (mkF m 178 #[iv p0, iv p1, iv p2, iv p3, iv p4, iv 4, rv b134, rv b148, iv 1] [(.int 4), (.ref b134)]) _
        refine XS.iload X187.here hx rfl (hb hby at_178) rfl ?_
        show OwnS p e below T187 (mkF m 180 #[iv p0, iv p1, iv p2, iv p3, iv p4, iv 4, rv b134, rv b148, iv 1] [(.int 1), (.int 4), (.ref b134)]) _
        refine XS.iconst X187.here hx rfl (hb hby at_180) ?_
        show OwnS p e below T187 (mkF m 181 #[iv p0, iv p1, iv p2, iv p3, iv p4, iv 4, rv b134, rv b148, iv 1] [(.int 2), (.int 1), (.int 4), (.ref b134)]) _
        refine st188 _ ?_
        show OwnS p e below T188 (mkF m 184 #[iv p0, iv p1, iv p2, iv p3, iv p4, iv 4, rv b134, rv b148, iv 1] [(.int 1)]) _
        refine XS.ifNo X188.here hx rfl (hb hby at_184) rfl ((if0 _ _).trans (feq (by decide : ¬ ((1 : Int32) = (0 : Int32)))).1) ?_
        show OwnS p e below T188 (mkF m 187 #[iv p0, iv p1, iv p2, iv p3, iv p4, iv 4, rv b134, rv b148, iv 1] []) _
        refine XS.aload X188.here hx rfl (hb hby at_187) rfl rfl ?_
        show OwnS p e below T188 (mkF m 189 #[iv p0, iv p1, iv p2, iv p3, iv p4, iv 4, rv b134, rv b148, iv 1] [(.ref b134)]) _
        refine XS.iload X188.here hx rfl (hb hby at_189) rfl ?_
        show OwnS p e below T188 (mkF m 191 #[iv p0, iv p1, iv p2, iv p3, iv p4, iv 4, rv b134, rv b148, iv 1] [(.int 4), (.ref b134)]) _
        refine XS.iload X188.here hx rfl (hb hby at_191) rfl ?_
        show OwnS p e below T188 (mkF m 193 #[iv p0, iv p1, iv p2, iv p3, iv p4, iv 4, rv b134, rv b148, iv 1] [(.int 1), (.int 4), (.ref b134)]) _
        refine XS.iconst X188.here hx rfl (hb hby at_193) ?_
        show OwnS p e below T188 (mkF m 194 #[iv p0, iv p1, iv p2, iv p3, iv p4, iv 4, rv b134, rv b148, iv 1] [(.int 3), (.int 1), (.int 4), (.ref b134)]) _
        refine st189 _ ?_
        show OwnS p e below T189 (mkF m 197 #[iv p0, iv p1, iv p2, iv p3, iv p4, iv 4, rv b134, rv b148, iv 1] [(.int 1)]) _
        refine XS.ifNo X189.here hx rfl (hb hby at_197) rfl ((if0 _ _).trans (feq (by decide : ¬ ((1 : Int32) = (0 : Int32)))).1) ?_
        show OwnS p e below T189 (mkF m 200 #[iv p0, iv p1, iv p2, iv p3, iv p4, iv 4, rv b134, rv b148, iv 1] []) _
        refine XS.iconst X189.here hx rfl (hb hby at_200) ?_
        show OwnS p e below T189 (mkF m 201 #[iv p0, iv p1, iv p2, iv p3, iv p4, iv 4, rv b134, rv b148, iv 1] [(.int 1)]) _
        refine XS.goto X189.here hx rfl (pc0 := 201) (pc' := 205) rfl (hb hby at_201) (by decide) (by decide) ?_
        show OwnS p e below T189 (mkF m 205 #[iv p0, iv p1, iv p2, iv p3, iv p4, iv 4, rv b134, rv b148, iv 1] [(.int 1)]) _
        exact retN X189 hx (t := .boolean) Bd.returns (by simp) (hb hby at_205) hr
      · show Q_0 Z p0 p1 p2 p3 p4 h0 n0 _ T189.heap _
        rw [e189]
        exact ⟨rfl, N189, trivial⟩
    · have N173 := Fr.app N172 N173q
      have f191 := (f167.other W172 (Nat.ne_of_lt (Nat.lt_of_lt_of_le f147.lt (Nat.le_of_eq g148.symm))))
      obtain ⟨_, _, ⟨T190, L190, j190, i190⟩, -, X190, ⟨Lc190, hQ190, l190, y190, z190⟩, st190⟩ := Jvm.LawKit.callS X173 hx (y := (⟨cS0, "ok", "([DIII)Z"⟩ : MethodName)) hown (mvT hZ (own_at hw 6 rfl)) (mvT hZ (own_at hw 7 rfl)) (mvT hZ (own_at hw 8 rfl)) (mvT hZ (own_at hw 9 rfl)) (by decide) (backOf (W := 0) (rm2_00 l Z a0 hw [] b134 (4 : Int32) k134 (p1 % (8 : Int32)).toInt64 (p2 % (8 : Int32)).toInt64 (p3 % (8 : Int32)).toInt64 (p4 % (8 : Int32)).toInt64 h172 n0 (Nat.le_trans (Nat.le_trans (Nat.le_trans (Nat.le_trans (Nat.le_trans (Nat.le_trans (Nat.le_trans (Nat.le_trans (Nat.le_trans (Nat.le_trans Z0 E134.1) (Keep.of_wr W137).1) (Keep.of_wr W140).1) (Keep.of_wr W143).1) (Keep.of_wr W146).1) E148.1) (Keep.of_wr W154).1) (Keep.of_wr W160).1) (Keep.of_wr W166).1) (Keep.of_wr W172).1) f191 (own_b8 p1) (own_b8 p2) (own_b8 p3) (own_b8 p4) (by decide : (0 : Int32) < (4 : Int32))) hZ (own_at hw 9 rfl) (own_at hw 8 rfl) (by decide) (by decide)) (g := (mkF m 155 #[iv p0, iv p1, iv p2, iv p3, iv p4, iv 4, rv b134, rv b148, iv 0] [(.int 0), (.int 0), (.int 4), (.ref b134)])) rfl (by rw [hml]; rfl) (argsL := [(.ref b134), (.int 4), (.int 0), (.int 0)]) (rest := []) (lenOf pd_1 rfl) rfl (Nat.le_refl _) (hb hby at_155) (fun _ _ => ⟨rfl, e173, (by decide : 2 + 0 ≤ _), (by decide : 8 + 0 ≤ _)⟩)
      dsimp only [Pt.U, Pt.locs, Pt.cells, Pt.slots] at X190 l190 y190 z190 st190 hQ190
      subst l190 y190 z190
      obtain ⟨rfl, N190q, e190⟩ := hQ190
      have N190 := Fr.app N173 N190q
      obtain ⟨_, _, ⟨T192, L192, j192, i192⟩, -, X192, ⟨Lc192, hQ192, l192, y192, z192⟩, st192⟩ := Jvm.LawKit.callS X190 hx (y := (⟨cS0, "ok", "([DIII)Z"⟩ : MethodName)) hown (mvT hZ (own_at hw 6 rfl)) (mvT hZ (own_at hw 7 rfl)) (mvT hZ (own_at hw 8 rfl)) (mvT hZ (own_at hw 9 rfl)) (by decide) (backOf (W := 0) (rm2_01 l Z a0 hw [] b134 (4 : Int32) k134 (p1 % (8 : Int32)).toInt64 (p2 % (8 : Int32)).toInt64 (p3 % (8 : Int32)).toInt64 (p4 % (8 : Int32)).toInt64 h172 n0 (Nat.le_trans (Nat.le_trans (Nat.le_trans (Nat.le_trans (Nat.le_trans (Nat.le_trans (Nat.le_trans (Nat.le_trans (Nat.le_trans (Nat.le_trans Z0 E134.1) (Keep.of_wr W137).1) (Keep.of_wr W140).1) (Keep.of_wr W143).1) (Keep.of_wr W146).1) E148.1) (Keep.of_wr W154).1) (Keep.of_wr W160).1) (Keep.of_wr W166).1) (Keep.of_wr W172).1) f191 (own_b8 p1) (own_b8 p2) (own_b8 p3) (own_b8 p4) (by decide : (1 : Int32) < (4 : Int32)) p173_0) hZ (own_at hw 9 rfl) (own_at hw 8 rfl) (by decide) (by decide)) (g := (mkF m 168 #[iv p0, iv p1, iv p2, iv p3, iv p4, iv 4, rv b134, rv b148, iv 0] [(.int 1), (.int 0), (.int 4), (.ref b134)])) rfl (by rw [hml]; rfl) (argsL := [(.ref b134), (.int 4), (.int 0), (.int 1)]) (rest := []) (lenOf pd_1 rfl) rfl (Nat.le_refl _) (hb hby at_168) (fun _ _ => ⟨rfl, e190, (by decide : 2 + 0 ≤ _), (by decide : 8 + 0 ≤ _)⟩)
      dsimp only [Pt.U, Pt.locs, Pt.cells, Pt.slots] at X192 l192 y192 z192 st192 hQ192
      subst l192 y192 z192
      obtain ⟨rfl, N192q, e192⟩ := hQ192
      have N192 := Fr.app N190 N192q
      obtain ⟨_, _, ⟨T193, L193, j193, i193⟩, -, X193, ⟨Lc193, hQ193, l193, y193, z193⟩, st193⟩ := Jvm.LawKit.callS X192 hx (y := (⟨cS0, "ok", "([DIII)Z"⟩ : MethodName)) hown (mvT hZ (own_at hw 6 rfl)) (mvT hZ (own_at hw 7 rfl)) (mvT hZ (own_at hw 8 rfl)) (mvT hZ (own_at hw 9 rfl)) (by decide) (backOf (W := 0) (rm2_02 l Z a0 hw [] b134 (4 : Int32) k134 (p1 % (8 : Int32)).toInt64 (p2 % (8 : Int32)).toInt64 (p3 % (8 : Int32)).toInt64 (p4 % (8 : Int32)).toInt64 h172 n0 (Nat.le_trans (Nat.le_trans (Nat.le_trans (Nat.le_trans (Nat.le_trans (Nat.le_trans (Nat.le_trans (Nat.le_trans (Nat.le_trans (Nat.le_trans Z0 E134.1) (Keep.of_wr W137).1) (Keep.of_wr W140).1) (Keep.of_wr W143).1) (Keep.of_wr W146).1) E148.1) (Keep.of_wr W154).1) (Keep.of_wr W160).1) (Keep.of_wr W166).1) (Keep.of_wr W172).1) f191 (own_b8 p1) (own_b8 p2) (own_b8 p3) (own_b8 p4) (by decide : (2 : Int32) < (4 : Int32)) p173_1) hZ (own_at hw 9 rfl) (own_at hw 8 rfl) (by decide) (by decide)) (g := (mkF m 181 #[iv p0, iv p1, iv p2, iv p3, iv p4, iv 4, rv b134, rv b148, iv 0] [(.int 2), (.int 0), (.int 4), (.ref b134)])) rfl (by rw [hml]; rfl) (argsL := [(.ref b134), (.int 4), (.int 0), (.int 2)]) (rest := []) (lenOf pd_1 rfl) rfl (Nat.le_refl _) (hb hby at_181) (fun _ _ => ⟨rfl, e192, (by decide : 2 + 0 ≤ _), (by decide : 8 + 0 ≤ _)⟩)
      dsimp only [Pt.U, Pt.locs, Pt.cells, Pt.slots] at X193 l193 y193 z193 st193 hQ193
      subst l193 y193 z193
      obtain ⟨rfl, N193q, e193⟩ := hQ193
      have N193 := Fr.app N192 N193q
      obtain ⟨_, _, ⟨T194, L194, j194, i194⟩, -, X194, ⟨Lc194, hQ194, l194, y194, z194⟩, st194⟩ := Jvm.LawKit.callS X193 hx (y := (⟨cS0, "ok", "([DIII)Z"⟩ : MethodName)) hown (mvT hZ (own_at hw 6 rfl)) (mvT hZ (own_at hw 7 rfl)) (mvT hZ (own_at hw 8 rfl)) (mvT hZ (own_at hw 9 rfl)) (by decide) (backOf (W := 0) (rm2_03 l Z a0 hw [] b134 (4 : Int32) k134 (p1 % (8 : Int32)).toInt64 (p2 % (8 : Int32)).toInt64 (p3 % (8 : Int32)).toInt64 (p4 % (8 : Int32)).toInt64 h172 n0 (Nat.le_trans (Nat.le_trans (Nat.le_trans (Nat.le_trans (Nat.le_trans (Nat.le_trans (Nat.le_trans (Nat.le_trans (Nat.le_trans (Nat.le_trans Z0 E134.1) (Keep.of_wr W137).1) (Keep.of_wr W140).1) (Keep.of_wr W143).1) (Keep.of_wr W146).1) E148.1) (Keep.of_wr W154).1) (Keep.of_wr W160).1) (Keep.of_wr W166).1) (Keep.of_wr W172).1) f191 (own_b8 p1) (own_b8 p2) (own_b8 p3) (own_b8 p4) (by decide : (3 : Int32) < (4 : Int32)) p173_2) hZ (own_at hw 9 rfl) (own_at hw 8 rfl) (by decide) (by decide)) (g := (mkF m 194 #[iv p0, iv p1, iv p2, iv p3, iv p4, iv 4, rv b134, rv b148, iv 0] [(.int 3), (.int 0), (.int 4), (.ref b134)])) rfl (by rw [hml]; rfl) (argsL := [(.ref b134), (.int 4), (.int 0), (.int 3)]) (rest := []) (lenOf pd_1 rfl) rfl (Nat.le_refl _) (hb hby at_194) (fun _ _ => ⟨rfl, e193, (by decide : 2 + 0 ≤ _), (by decide : 8 + 0 ≤ _)⟩)
      dsimp only [Pt.U, Pt.locs, Pt.cells, Pt.slots] at X194 l194 y194 z194 st194 hQ194
      subst l194 y194 z194
      obtain ⟨rfl, N194q, e194⟩ := hQ194
      have N194 := Fr.app N193 N194q
      obtain ⟨fs, hr, hrun, hended, hW, hsame⟩ := X194.leave (v := some (.int 1)) (fun h => by rw [Bd.returns] at h; cases h)
      refine ⟨_, _, k174 _ ?_, hrun, hended, _, _, rfl, ?_, ⟨_, rfl⟩, hW, hsame.mono (by decide) (by decide)⟩
      · refine st173 _ ?_
        show OwnS p e below T173 (mkF m 116 #[iv p0, iv p1, iv p2, iv p3, iv p4, iv 4, rv b134, rv b148, .unset] [(.int 0)]) _
        refine XS.istore X173.here hx rfl (hb hby at_116) rfl (l' := #[iv p0, iv p1, iv p2, iv p3, iv p4, iv 4, rv b134, rv b148, iv 0]) rfl ?_
        show OwnS p e below T173 (mkF m 118 #[iv p0, iv p1, iv p2, iv p3, iv p4, iv 4, rv b134, rv b148, iv 0] []) _
        refine XS.iload X173.here hx rfl (hb hby at_118) rfl ?_
        show OwnS p e below T173 (mkF m 120 #[iv p0, iv p1, iv p2, iv p3, iv p4, iv 4, rv b134, rv b148, iv 0] [(.int 4)]) _
        refine XS.ifYes X173.here hx rfl (pc0 := 120) (pc' := 134) rfl (hb hby at_120) rfl ((if0 _ _).trans (feq (by decide : ¬ ((4 : Int32) = (0 : Int32)))).2) (by decide) (by decide) ?_
        show OwnS p e below T173 (mkF m 134 #[iv p0, iv p1, iv p2, iv p3, iv p4, iv 4, rv b134, rv b148, iv 0] []) _
        refine XS.iload X173.here hx rfl (hb hby at_134) rfl ?_
        show OwnS p e below T173 (mkF m 136 #[iv p0, iv p1, iv p2, iv p3, iv p4, iv 4, rv b134, rv b148, iv 0] [(.int 0)]) _
        refine XS.ifNo X173.here hx rfl (hb hby at_136) rfl ((if0 _ _).trans (flt (by decide : ¬ ((0 : Int32) < (0 : Int32)))).1) ?_
        show OwnS p e below T173 (mkF m 139 #[iv p0, iv p1, iv p2, iv p3, iv p4, iv 4, rv b134, rv b148, iv 0] []) _
        refine XS.iload X173.here hx rfl (hb hby at_139) rfl ?_
        show OwnS p e below T173 (mkF m 141 #[iv p0, iv p1, iv p2, iv p3, iv p4, iv 4, rv b134, rv b148, iv 0] [(.int 0)]) _
        refine XS.iload X173.here hx rfl (hb hby at_141) rfl ?_
        show OwnS p e below T173 (mkF m 143 #[iv p0, iv p1, iv p2, iv p3, iv p4, iv 4, rv b134, rv b148, iv 0] [(.int 4), (.int 0)]) _
        refine XS.icmpYes X173.here hx rfl (pc0 := 143) (pc' := 148) rfl (hb hby at_143) rfl (tlt (by decide : (0 : Int32) < (4 : Int32))).1 (by decide) (by decide) ?_
        show OwnS p e below T173 (mkF m 148 #[iv p0, iv p1, iv p2, iv p3, iv p4, iv 4, rv b134, rv b148, iv 0] []) _
        refine XS.aload X173.here hx rfl (hb hby at_148) rfl rfl ?_
        show OwnS p e below T173 (mkF m 150 #[iv p0, iv p1, iv p2, iv p3, iv p4, iv 4, rv b134, rv b148, iv 0] [(.ref b134)]) _
        refine XS.iload X173.here hx rfl (hb hby at_150) rfl ?_
        show OwnS p e below T173 (mkF m 152 #[iv p0, iv p1, iv p2, iv p3, iv p4, iv 4, rv b134, rv b148, iv 0] [(.int 4), (.ref b134)]) _
        refine XS.iload X173.here hx rfl (hb hby at_152) rfl ?_
        show OwnS p e below T173 (mkF m 154 #[iv p0, iv p1, iv p2, iv p3, iv p4, iv 4, rv b134, rv b148, iv 0] [(.int 0), (.int 4), (.ref b134)]) _
        refine XS.iconst X173.here hx rfl (hb hby at_154) ?_
        show OwnS p e below T173 (mkF m 155 #[iv p0, iv p1, iv p2, iv p3, iv p4, iv 4, rv b134, rv b148, iv 0] [(.int 0), (.int 0), (.int 4), (.ref b134)]) _
        refine st190 _ ?_
        show OwnS p e below T190 (mkF m 158 #[iv p0, iv p1, iv p2, iv p3, iv p4, iv 4, rv b134, rv b148, iv 0] [(.int 1)]) _
        refine XS.ifNo X190.here hx rfl (hb hby at_158) rfl ((if0 _ _).trans (feq (by decide : ¬ ((1 : Int32) = (0 : Int32)))).1) ?_
        show OwnS p e below T190 (mkF m 161 #[iv p0, iv p1, iv p2, iv p3, iv p4, iv 4, rv b134, rv b148, iv 0] []) _
        refine XS.aload X190.here hx rfl (hb hby at_161) rfl rfl ?_
        show OwnS p e below T190 (mkF m 163 #[iv p0, iv p1, iv p2, iv p3, iv p4, iv 4, rv b134, rv b148, iv 0] [(.ref b134)]) _
        refine XS.iload X190.here hx rfl (hb hby at_163) rfl ?_
        show OwnS p e below T190 (mkF m 165 #[iv p0, iv p1, iv p2, iv p3, iv p4, iv 4, rv b134, rv b148, iv 0] [(.int 4), (.ref b134)]) _
        refine XS.iload X190.here hx rfl (hb hby at_165) rfl ?_
        show OwnS p e below T190 (mkF m 167 #[iv p0, iv p1, iv p2, iv p3, iv p4, iv 4, rv b134, rv b148, iv 0] [(.int 0), (.int 4), (.ref b134)]) _
        refine XS.iconst X190.here hx rfl (hb hby at_167) ?_
        show OwnS p e below T190 (mkF m 168 #[iv p0, iv p1, iv p2, iv p3, iv p4, iv 4, rv b134, rv b148, iv 0] [(.int 1), (.int 0), (.int 4), (.ref b134)]) _
        refine st192 _ ?_
        show OwnS p e below T192 (mkF m 171 #[iv p0, iv p1, iv p2, iv p3, iv p4, iv 4, rv b134, rv b148, iv 0] [(.int 1)]) _
        refine XS.ifNo X192.here hx rfl (hb hby at_171) rfl ((if0 _ _).trans (feq (by decide : ¬ ((1 : Int32) = (0 : Int32)))).1) ?_
        show OwnS p e below T192 (mkF m 174 #[iv p0, iv p1, iv p2, iv p3, iv p4, iv 4, rv b134, rv b148, iv 0] []) _
        refine XS.aload X192.here hx rfl (hb hby at_174) rfl rfl ?_
        show OwnS p e below T192 (mkF m 176 #[iv p0, iv p1, iv p2, iv p3, iv p4, iv 4, rv b134, rv b148, iv 0] [(.ref b134)]) _
        refine XS.iload X192.here hx rfl (hb hby at_176) rfl ?_
        show OwnS p e below T192 (mkF m 178 #[iv p0, iv p1, iv p2, iv p3, iv p4, iv 4, rv b134, rv b148, iv 0] [(.int 4), (.ref b134)]) _
        refine XS.iload X192.here hx rfl (hb hby at_178) rfl ?_
        show OwnS p e below T192 (mkF m 180 #[iv p0, iv p1, iv p2, iv p3, iv p4, iv 4, rv b134, rv b148, iv 0] [(.int 0), (.int 4), (.ref b134)]) _
        refine XS.iconst X192.here hx rfl (hb hby at_180) ?_
        show OwnS p e below T192 (mkF m 181 #[iv p0, iv p1, iv p2, iv p3, iv p4, iv 4, rv b134, rv b148, iv 0] [(.int 2), (.int 0), (.int 4), (.ref b134)]) _
        refine st193 _ ?_
        show OwnS p e below T193 (mkF m 184 #[iv p0, iv p1, iv p2, iv p3, iv p4, iv 4, rv b134, rv b148, iv 0] [(.int 1)]) _
        refine XS.ifNo X193.here hx rfl (hb hby at_184) rfl ((if0 _ _).trans (feq (by decide : ¬ ((1 : Int32) = (0 : Int32)))).1) ?_
        show OwnS p e below T193 (mkF m 187 #[iv p0, iv p1, iv p2, iv p3, iv p4, iv 4, rv b134, rv b148, iv 0] []) _
        refine XS.aload X193.here hx rfl (hb hby at_187) rfl rfl ?_
        show OwnS p e below T193 (mkF m 189 #[iv p0, iv p1, iv p2, iv p3, iv p4, iv 4, rv b134, rv b148, iv 0] [(.ref b134)]) _
        refine XS.iload X193.here hx rfl (hb hby at_189) rfl ?_
        show OwnS p e below T193 (mkF m 191 #[iv p0, iv p1, iv p2, iv p3, iv p4, iv 4, rv b134, rv b148, iv 0] [(.int 4), (.ref b134)]) _
        refine XS.iload X193.here hx rfl (hb hby at_191) rfl ?_
        show OwnS p e below T193 (mkF m 193 #[iv p0, iv p1, iv p2, iv p3, iv p4, iv 4, rv b134, rv b148, iv 0] [(.int 0), (.int 4), (.ref b134)]) _
        refine XS.iconst X193.here hx rfl (hb hby at_193) ?_
        show OwnS p e below T193 (mkF m 194 #[iv p0, iv p1, iv p2, iv p3, iv p4, iv 4, rv b134, rv b148, iv 0] [(.int 3), (.int 0), (.int 4), (.ref b134)]) _
        refine st194 _ ?_
        show OwnS p e below T194 (mkF m 197 #[iv p0, iv p1, iv p2, iv p3, iv p4, iv 4, rv b134, rv b148, iv 0] [(.int 1)]) _
        refine XS.ifNo X194.here hx rfl (hb hby at_197) rfl ((if0 _ _).trans (feq (by decide : ¬ ((1 : Int32) = (0 : Int32)))).1) ?_
        show OwnS p e below T194 (mkF m 200 #[iv p0, iv p1, iv p2, iv p3, iv p4, iv 4, rv b134, rv b148, iv 0] []) _
        refine XS.iconst X194.here hx rfl (hb hby at_200) ?_
        show OwnS p e below T194 (mkF m 201 #[iv p0, iv p1, iv p2, iv p3, iv p4, iv 4, rv b134, rv b148, iv 0] [(.int 1)]) _
        refine XS.goto X194.here hx rfl (pc0 := 201) (pc' := 205) rfl (hb hby at_201) (by decide) (by decide) ?_
        show OwnS p e below T194 (mkF m 205 #[iv p0, iv p1, iv p2, iv p3, iv p4, iv 4, rv b134, rv b148, iv 0] [(.int 1)]) _
        exact retN X194 hx (t := .boolean) Bd.returns (by simp) (hb hby at_205) hr
      · show Q_0 Z p0 p1 p2 p3 p4 h0 n0 _ T194.heap _
        rw [e194]
        exact ⟨rfl, N194, trivial⟩
set_option maxRecDepth 65536 in
set_option maxHeartbeats 40000000 in
theorem comes_1 {Post : Tables → Env → Array Value → State → Outcome → State → Prop} (hpost : ∀ tb e args s v u, (limb_1_1.after args s (.returned v) u = true ∧ limb_1_2.after args s (.returned v) u = true ∧ True) → FrameEnd s (.returned v) u (Jvm.fieldLocs frame_1_writes args s ++ Jvm.arrayLocs frame_1_arrays args s ++ Jvm.staticLocs frame_1_statics s) 16 128 → Post tb e args s (.returned v) u) :
    ArmFor flags0 classFile x code maxLocals ret World_1 tables_1 room_1 Calls_1 rest_1 Pre_1 Post := by
  intro l hfl _ _ p e ha hc hk s m args below hf hA hF happ hP
  obtain ⟨hcalls, hrest, hpre⟩ := hP
  obtain ⟨-, -, -, hnamed, -, -, -, hat⟩ := (Spec.applies_iff hf).mp happ
  obtain ⟨hg, hn⟩ := and_e (Cond.before_iff.mp (show (Jvm.Cond.and given_1 narrow_1).before args s = true from hpre))
  have hw := fun d (hd : d ∈ tables_1) => atoms_spec (ws := Jvm.Cond.code x code maxLocals ret :: tables_1) hat d (List.mem_cons_of_mem _ hd)
  have hfit : Fit s := fun {y c} hc i hi => by
    obtain ⟨ha, rfl⟩ := Array.getElem?_eq_some_iff.mp hc
    have q := List.all_eq_true.mp ((Array.all_eq_true_iff_forall_mem.mp hF) _ (Array.getElem_mem ha)) i (List.mem_range.mpr hi)
    simpa [Array.getElem?_eq_getElem hi] using q
  obtain ⟨cj1, cj2⟩ := and_e hg
  obtain ⟨cj3, cj4⟩ := and_e cj2
  obtain ⟨cj5, cj6⟩ := and_e cj4
  obtain ⟨cj7, cj8⟩ := and_e cj6
  obtain ⟨cj9, cj10⟩ := and_e cj8
  obtain ⟨w0, w1, w2, w3, w4, rfl⟩ : ∃ w0 w1 w2 w3 w4 : Value, args = #[w0, w1, w2, w3, w4] := by
    have hs : args.size = 5 := by simpa [Cond.value, given_1] using cj1
    obtain ⟨L⟩ := args
    match L, hs with
    | [w0, w1, w2, w3, w4], _ => exact ⟨w0, w1, w2, w3, w4, rfl⟩
  obtain ⟨i0, ei0⟩ := is_v cj3
  obtain rfl : w0 = (.int i0) := Option.some.inj ei0
  obtain ⟨i1, ei1⟩ := is_v cj5
  obtain rfl : w1 = (.int i1) := Option.some.inj ei1
  obtain ⟨i2, ei2⟩ := is_v cj7
  obtain rfl : w2 = (.int i2) := Option.some.inj ei2
  obtain ⟨i3, ei3⟩ := is_v cj9
  obtain rfl : w3 = (.int i3) := Option.some.inj ei3
  obtain ⟨i4, ei4⟩ := is_v cj10
  obtain rfl : w4 = (.int i4) := Option.some.inj ei4
  obtain ⟨n, o, h1, h2, h3, _, L, rfl, ⟨rfl, N, -⟩, hq⟩ := rm0 l s _ hw tables_1 i0 i1 i2 i3 i4 s.heap s.heap.size (Nat.le_refl _)  p e ha hc hk s m _ below hf ((Spec.applies_iff_loose hf).mp happ).1 ⟨rfl, State.Warmed39.refl s, rfl⟩ trivial
  refine ⟨n, _, h1, h2, h3, hpost _ _ _ _ _ _ ⟨Cond.after_iff.mpr rfl, Cond.after_iff.mpr (eq_i res_at (Term.int_eval (1)) rfl), trivial⟩ ⟨hq.1, hq.2.1, (hq.2.2.sift fun y hy => Or.inr (N y hy)).mono (by decide) (by decide)⟩⟩
theorem main_1_1 : Claimed_1_1 := comes_1 fun _ _ _ _ _ _ h hF => ⟨h.1, hF⟩
theorem main_1_2 : Claimed_1_2 := comes_1 fun _ _ _ _ _ _ h hF => ⟨h.2.1, hF⟩
end Jvm.Pilot.@@N@@
namespace Jvm.Pilot.@@N@@
open Jvm Jvm.ClassFile Sem Op Lib Jvm.Free Jvm.Stand Jvm.Pilot.@@N@@.Jvm.D
/-! MADE BY PROGRAM (witnessworld.py) out of the Statement's table words and the real class files: 9 classes; the members and pool entries that the words name. The judged class is class 1, her method 1. -/
namespace start1
open Jvm.ClassFile
def u (s : String) : CpInfo := .utf8 (stringToUtf16 s)
/-- a pool by its gaps: so many unusable entries, then the entry; so many at the end -/
def gap : Nat → List CpInfo → List CpInfo
  | 0, r => r
  | n + 1, r => .unusable :: gap n r
def poolList (es : List (Nat × CpInfo)) (last : Nat) : List CpInfo := es.foldr (fun e r => gap e.1 (e.2 :: r)) (gap last [])
def pool (es : List (Nat × CpInfo)) (last : Nat) : Array CpInfo := ⟨poolList es last⟩
def fileOf (pool : Array CpInfo) (this : Nat) (attrs : Array Attribute := #[]) (ms : Array MethodInfo := #[]) (fl : Nat := 33) (sup : Nat := 0) (ifs : Array Nat := #[]) (fds : Array FieldInfo := #[]) : ClassFile where
  minorVersion := 0
  majorVersion := 65
  constantPool := pool
  accessFlags := fl
  thisClass := this
  superClass := sup
  interfaces := ifs
  fields := fds
  methods := ms
  attributes := attrs
def plain (name : String) (sup : Option ClassId) : Class where
  name := name
  kind := .ordinary
  loader := none
  accessFlags := 33
  super := sup
  interfaces := #[]
  cf := none
  fields := #[]
  methods := #[]
  instanceTypes := #[]
  staticTypes := #[]
  resolved := #[]
  callSites := []
  init := .initialized
  statics := none
  mirror := none

def pool0 : Array CpInfo := pool [(5, u "<init>"), (0, u "()V"), (1, .class_ 10), (1, u "java/lang/Object")] 113

def k0m0 : Method := { name := "<init>", desc := "()V", sig := { parameters := [], returnType := none }, accessFlags := 1, code := none }
/-- java/lang/Object -/
def k0 : Class := { plain "java/lang/Object" none with
  accessFlags := 33
  interfaces := #[]
  cf := some (fileOf pool0 8 #[] #[{ accessFlags := 1, nameIndex := 5, descriptorIndex := 6, attributes := #[] }] 33 0 #[] #[])
  fields := #[]
  methods := #[k0m0]
  instanceTypes := #[]
  staticTypes := #[]
  resolved := Array.replicate 124 none
  statics := none }

def pool1 : Array CpInfo := pool [(2, .class_ 4), (1, u "java/lang/Object"), (0, u "<init>"), (0, u "()V"), (0, .integer 2147483647), (0, .interfaceMethodref 9 10), (0, .class_ 11), (0, .nameAndType 12 13), (0, u "com/example/driftline/driftline/core/Learner"), (0, u "bestClass"), (0, u "([D)I"), (0, .methodref 15 16), (0, .class_ 17), (0, .nameAndType 18 19), (0, u "com/example/driftline/driftline/core/LearnerBestClassPinLaw"), (0, u "ok"), (0, u "([DIII)Z"), (2, u "law"), (0, u "(IIIII)Z")] 5

def k1m0 : Method := { name := "<init>", desc := "()V", sig := { parameters := [], returnType := none }, accessFlags := 1, code := none }
def k1c1 : Code := { maxStack := 4, maxLocals := 9, code := code, exceptionTable := #[], attributes := #[] }
def k1m1 : Method := { name := "law", desc := "(IIIII)Z", sig := { parameters := [.int, .int, .int, .int, .int], returnType := some .boolean }, accessFlags := 9, code := some k1c1 }
def k1c2 : Code := { maxStack := 4, maxLocals := 4, code := method_3_code, exceptionTable := #[], attributes := #[] }
def k1m2 : Method := { name := "ok", desc := "([DIII)Z", sig := { parameters := [(.array .double), .int, .int, .int], returnType := some .boolean }, accessFlags := 10, code := some k1c2 }
/-- com/example/driftline/driftline/core/LearnerBestClassPinLaw -/
def k1 : Class := { plain "com/example/driftline/driftline/core/LearnerBestClassPinLaw" (some 0) with
  accessFlags := 49
  interfaces := #[]
  cf := some (fileOf pool1 15 #[] #[{ accessFlags := 1, nameIndex := 5, descriptorIndex := 6, attributes := #[] }, { accessFlags := 9, nameIndex := 22, descriptorIndex := 23, attributes := #[] }, { accessFlags := 10, nameIndex := 18, descriptorIndex := 19, attributes := #[] }] 49 2 #[] #[])
  fields := #[]
  methods := #[k1m0, k1m1, k1m2]
  instanceTypes := #[]
  staticTypes := #[]
  resolved := Array.replicate 29 none
  statics := none }

def pool2 : Array CpInfo := pool [(2, .class_ 4), (1, u "com/example/driftline/driftline/core/Learner"), (8, .class_ 14), (0, u "java/lang/Object"), (8, u "bestClass"), (0, u "([D)I")] 2

def k2c0 : Code := { maxStack := 4, maxLocals := 3, code := prog_12_method_4_code, exceptionTable := #[], attributes := #[] }
def k2m0 : Method := { name := "bestClass", desc := "([D)I", sig := { parameters := [(.array .double)], returnType := some .int }, accessFlags := 9, code := some k2c0 }
/-- com/example/driftline/driftline/core/Learner -/
def k2 : Class := { plain "com/example/driftline/driftline/core/Learner" (some 0) with
  accessFlags := 1537
  interfaces := #[]
  cf := some (fileOf pool2 2 #[] #[{ accessFlags := 9, nameIndex := 23, descriptorIndex := 24, attributes := #[] }] 1537 13 #[] #[])
  fields := #[]
  methods := #[k2m0]
  instanceTypes := #[]
  staticTypes := #[]
  resolved := Array.replicate 27 none
  statics := none }

def pool3 : Array CpInfo := pool [(1, u "java/lang/Cloneable"), (0, .class_ 1), (0, u "java/lang/Object"), (0, .class_ 3)] 3

/-- java/lang/Cloneable -/
def k3 : Class := { plain "java/lang/Cloneable" (some 0) with
  accessFlags := 1537
  interfaces := #[]
  cf := some (fileOf pool3 2 #[] #[] 1537 4 #[] #[])
  fields := #[]
  methods := #[]
  instanceTypes := #[]
  staticTypes := #[]
  resolved := Array.replicate 8 none
  statics := none }

def pool4 : Array CpInfo := pool [(1, u "java/io/Serializable"), (0, .class_ 1), (0, u "java/lang/Object"), (0, .class_ 3)] 3

/-- java/io/Serializable -/
def k4 : Class := { plain "java/io/Serializable" (some 0) with
  accessFlags := 1537
  interfaces := #[]
  cf := some (fileOf pool4 2 #[] #[] 1537 4 #[] #[])
  fields := #[]
  methods := #[]
  instanceTypes := #[]
  staticTypes := #[]
  resolved := Array.replicate 8 none
  statics := none }

/-- the primitive byte -/
def k5 : Class := { plain "byte" none with kind := .primitive 'B', accessFlags := 0x411 }
/-- [B -/
def k6 : Class := { plain "[B" (some 0) with kind := .array 5 .byte, interfaces := #[3, 4], accessFlags := 1041 }

/-- the primitive int -/
def k7 : Class := { plain "int" none with kind := .primitive 'I', accessFlags := 0x411 }
/-- [I -/
def k8 : Class := { plain "[I" (some 0) with kind := .array 7 .int, interfaces := #[3, 4], accessFlags := 1041 }

def heap : Heap := #[]
def k9 : Class := { plain "double" none with kind := .primitive 'D', accessFlags := 0x411 }
def k10 : Class := { plain "[D" (some 0) with kind := .array 9 .double, interfaces := k8.interfaces, accessFlags := 1041 }
def classes : Array Class := #[k0, k1, k2, k3, k4, k5, k6, k7, k8, k9, k10]
def interned : List (Array UInt16 × Addr) := []
def slotsUsed : Nat := 0
def theMethod : MethodId := ⟨1, 1⟩
def args0 : Array Value := #[.int 3, .int 6, .int 7, .int 1, .int 2]
def aboutOver (below : List Frame) : State where
  vm := { classes := classes, interned := interned.toArray }
  heap := heap
  slotsUsed := slotsUsed
  threads := #[{ frames := .invoking theMethod args0 :: below }]
def below0 : List Frame := [.native { method := ⟨0, 0⟩, args := #[] }]
def about1 : State := aboutOver below0
def p0 : Program := .bare "" "" ""
def e0 : Env := launch0.env 0 0 0
theorem w_frames : about1.frames = Frame.invoking theMethod args0 :: below0 := rfl
set_option maxRecDepth 65536 in
theorem w_args : argsFit about1.vm theMethod args0 = true := by decide +kernel
set_option maxRecDepth 65536 in
theorem w_heap : heapFits about1 = true := by decide +kernel
set_option maxRecDepth 65536 in
theorem w_runnable : about1.curStatus? = some .runnable := by decide +kernel
set_option maxRecDepth 65536 in
theorem w_alone : about1.alone = true := by decide +kernel
set_option maxRecDepth 65536 in
theorem w_named : about1.methodNamed? x = some theMethod := by decide +kernel
set_option maxRecDepth 65536 in
theorem w_hears : about1.hears theMethod below0 = true := by decide +kernel
set_option maxRecDepth 65536 in
theorem w_ripe : about1.ripe theMethod args0 below0 = true := by decide +kernel
theorem w_running : about1.status = .running := rfl
set_option maxRecDepth 65536 in
theorem w_room : about1.hasRoom e0.platform room_1 = true :=
  launch0.hasRoom_least _ room_1 (by decide +kernel) (by decide +kernel) (by decide +kernel) (by decide +kernel) (by decide +kernel) (by decide +kernel)
theorem allAtoms_all (ts : List Jvm.Cond) (a : Array Jvm.Value) (st : Jvm.State) : (allAtoms ts).before a st = ts.all (fun c => c.before a st) := by
  induction ts with
  | nil => rfl
  | cons c t ih =>
    show (Jvm.Cond.and c (allAtoms t)).before a st = _
    rw [Jvm.Cond.before_and, ih, List.all_cons]
def words1 : List Jvm.Cond := Jvm.Cond.code x code maxLocals ret :: tables_1
/-- a 'code' word, met by the world's own term for the bytes: nothing is compared byte by byte -/
theorem code_word {y : MethodName} {bytes : ByteArray} {mx : Nat} {rt : Option FieldType} {a : Array Value} {s : State} {m : MethodId} {meth : Method} {c : Code} (h1 : s.methodNamed? y = some m) (h2 : s.vm.method? m = some meth) (h3 : meth.code = some c) (h4 : c.code = bytes)
    (h5 : (c.maxLocals == mx && c.exceptionTable.isEmpty && decide (c.maxStack ≤ mostOperands) && decide (meth.sig.returnType = rt) && !meth.locks && decide (parseMethodDescriptor y.desc = some meth.sig)) = true) : (Jvm.Cond.code y bytes mx rt).before a s = true := by
  simp only [Bool.and_eq_true, beq_iff_eq, Bool.not_eq_true', decide_eq_true_eq] at h5
  obtain ⟨⟨⟨⟨⟨g1, g2⟩, g3⟩, g4⟩, g5⟩, g6⟩ := h5
  simp [Cond.before, Cond.holds, Cond.value, h1, h2, h3, h4, g1, g2, g3, g4, g5, g6]
def isCode : Jvm.Cond → Bool
  | .code _ _ _ _ => true
  | _ => false
theorem all_split {L : List Jvm.Cond} {P : Jvm.Cond → Bool} (h1 : L.all (fun c => isCode c || P c) = true) (h2 : ∀ c ∈ L.filter isCode, P c = true) : L.all P = true := by
  refine List.all_eq_true.mpr fun c hc => ?_
  have h := List.all_eq_true.mp h1 c hc
  rcases Bool.eq_false_or_eq_true (isCode c) with hi | hi
  · exact h2 c (List.mem_filter.mpr ⟨hc, hi⟩)
  · simpa [hi] using h
set_option maxRecDepth 65536 in
theorem w_c0 : (Jvm.Cond.code x code maxLocals ret).before args0 about1 = true := code_word (m := ⟨1, 1⟩) (meth := k1m1) (c := k1c1) (by decide +kernel) rfl rfl rfl (by decide +kernel)
set_option maxRecDepth 65536 in
theorem w_c1 : (Jvm.Cond.code ({ cls := "com/example/driftline/driftline/core/Learner", name := "bestClass", desc := "([D)I" } : Jvm.MethodName) prog_12_method_4_code (3 : Nat) (Option.some Jvm.ClassFile.FieldType.int)).before args0 about1 = true := code_word (m := ⟨2, 0⟩) (meth := k2m0) (c := k2c0) (by decide +kernel) rfl rfl rfl (by decide +kernel)
set_option maxRecDepth 65536 in
theorem w_c2 : (Jvm.Cond.code ({ cls := "com/example/driftline/driftline/core/LearnerBestClassPinLaw", name := "ok", desc := "([DIII)Z" } : Jvm.MethodName) method_3_code (4 : Nat) (Option.some Jvm.ClassFile.FieldType.boolean)).before args0 about1 = true := code_word (m := ⟨1, 2⟩) (meth := k1m2) (c := k1c2) (by decide +kernel) rfl rfl rfl (by decide +kernel)
def codes1 : List Jvm.Cond := [Jvm.Cond.code x code maxLocals ret, Jvm.Cond.code ({ cls := "com/example/driftline/driftline/core/Learner", name := "bestClass", desc := "([D)I" } : Jvm.MethodName) prog_12_method_4_code (3 : Nat) (Option.some Jvm.ClassFile.FieldType.int), Jvm.Cond.code ({ cls := "com/example/driftline/driftline/core/LearnerBestClassPinLaw", name := "ok", desc := "([DIII)Z" } : Jvm.MethodName) method_3_code (4 : Nat) (Option.some Jvm.ClassFile.FieldType.boolean)]
set_option maxRecDepth 65536 in
theorem codes_eq : words1.filter isCode = codes1 := rfl
theorem w_codes : ∀ c ∈ words1.filter isCode, c.before args0 about1 = true := by
  rw [codes_eq]
  intro c hc
  simp only [codes1, List.mem_cons, List.not_mem_nil, or_false] at hc
  rcases hc with rfl | rfl | rfl
  · exact w_c0
  · exact w_c1
  · exact w_c2
set_option maxRecDepth 65536 in
theorem w_t1 : words1.all (fun c => isCode c || c.before args0 about1) = true := by decide +kernel
theorem w_tables : (allAtoms (Jvm.Cond.code x code maxLocals ret :: tables_1)).before args0 about1 = true := by
  rw [allAtoms_all]
  show words1.all (fun c => c.before args0 about1) = true
  refine all_split ?_ w_codes
  rw [w_t1]
set_option maxRecDepth 65536 in
theorem w_case : (Jvm.Cond.and given_1 narrow_1).before args0 about1 = true := by decide +kernel
theorem w_applies : (headSpec (Jvm.Cond.code x code maxLocals ret :: tables_1) room_1).applies x e0.platform about1 = true :=
  (Spec.applies_iff w_frames).mpr ⟨w_running, w_runnable, w_alone, w_named, w_hears, w_ripe, w_room, w_tables⟩
theorem atStart : AtStart classFile x code maxLocals ret World_1 tables_1 room_1 Calls_1 rest_1 Pre_1 launch0 p0 e0 about1 theMethod args0 below0 :=
  ⟨lists_1, trivial, launch0.admits_env _ _ _, launch0.least_env, fairChoices_fair.cas, fairChoices_fair.clock, w_frames, w_args, w_heap, w_applies, trivial, trivial, w_case⟩
end start1
theorem witness_1 : WitnessClaimed_1 := ⟨start1.p0, start1.e0, start1.about1, start1.theMethod, start1.args0, start1.below0, start1.atStart⟩
end Jvm.Pilot.@@N@@
