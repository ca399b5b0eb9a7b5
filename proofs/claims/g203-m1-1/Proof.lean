import JvmDerived
import JvmDerived.Pilot.@@N@@Statement
import JvmDerived.Pilot.@@N@@Code
set_option linter.unusedVariables false
set_option linter.unusedSimpArgs false
namespace Jvm.RoadKit
open Sem ClassFile Op Lib Jvm.Stand Jvm.Free Jvm.LawKit
section New
variable {p : Program} {l : Launch} {e : Env} {R : Room} {s : State} {m : MethodId} {args : Array Value} {below : List Frame} {meth : Method} {c : Code} {T : State} {locs : List Loc} {cells slots : Nat}
theorem retI (X : Stand p l e R s m args below meth c T locs cells slots) (hx : p.tables.exec = Jvm.exec) {pc : Nat} {Ls : Array Slot} {z : Int32} {rest : List Value} (hret : meth.sig.returnType = some .int) (hd : decode c.code pc = .ok (.ireturn, 1)) {fs : List Frame}
    (hl : ∀ (f : JFrame) (acts : List Action), f.method = m → f.locked = none → f.entered = [] → (doReturn e (T.setTop f) acts (some (.int z))).1 = T.setFrames fs) : Steps p.tables e below (T.setTop (mkF m pc Ls (.int z :: rest))) (T.setFrames fs) := by
  have hm' : T.vm.method? m = some meth := X.method'
  have hn : narrow .int (.int z) = .int z := rfl
  show Steps p.tables e below (T.setTop { method := m, pc := pc, locals := Ls, stack := _ :: rest, locked := none }) _
  jvm_step X.here [X.here.top, hx, hd, hm', hret, hn]
  first | (intro acts; rw [hl _ acts rfl rfl rfl]) | rw [hl _ _ rfl rfl rfl]
  exact Steps.refl _
theorem retD (X : Stand p l e R s m args below meth c T locs cells slots) (hx : p.tables.exec = Jvm.exec) {pc : Nat} {Ls : Array Slot} {z : UInt64} {rest : List Value} (hret : meth.sig.returnType = some .double) (hd : decode c.code pc = .ok (.dreturn, 1)) {fs : List Frame}
    (hl : ∀ (f : JFrame) (acts : List Action), f.method = m → f.locked = none → f.entered = [] → (doReturn e (T.setTop f) acts (some (.double z))).1 = T.setFrames fs) : Steps p.tables e below (T.setTop (mkF m pc Ls (.double z :: rest))) (T.setFrames fs) := by
  have hm' : T.vm.method? m = some meth := X.method'
  have hn : narrow .double (.double z) = .double z := rfl
  show Steps p.tables e below (T.setTop { method := m, pc := pc, locals := Ls, stack := _ :: rest, locked := none }) _
  jvm_step X.here [X.here.top, hx, hd, hm', hret, hn]
  first | (intro acts; rw [hl _ acts rfl rfl rfl]) | rw [hl _ _ rfl rfl rfl]
  exact Steps.refl _
end New
end Jvm.RoadKit
namespace Jvm.Pilot.@@N@@
open Jvm Jvm.ClassFile Sem Op Lib Jvm.Free Jvm.Stand Jvm.LawKit Jvm.RoadKit Bundle Jvm.Pilot.@@N@@.Jvm.D
abbrev OwnS (p : Program) (e : Env) (below : List Frame) (T : State) (g : JFrame) (t : State) : Prop := Steps p.tables e below (T.setTop g) t
theorem own_selpriv {s : State} {args : Array Value} {y : MethodName} {n : Nat} (hy : y.cls ≠ "java/lang/invoke/MethodHandle" ∧ y.cls ≠ "java/lang/invoke/VarHandle") (hins : (Jvm.Cond.instantiable y.cls n).before args s = true) (hp : (Jvm.Cond.privateMethod y).before args s = true) (hi : (Jvm.Cond.instanceMethod y).before args s = true) : (Jvm.Cond.selects y.cls y y).before args s = true := by
  obtain ⟨c, k, hc, hk, -, hniab, -⟩ := Cond.instantiable_spec hins
  exact selects_self_of_private hc hk (Bool.or_eq_false_iff.mp hniab).1 (Cond.privateMethod_at hp) hi hy
theorem own_irr (x : Int32) : ¬ (x < x) := by rw [Int32.lt_iff_toInt_lt]; omega
theorem own_asymm {x y : Int32} (h : x < y) : ¬ (y < x) := by rw [Int32.lt_iff_toInt_lt] at *; omega
theorem own_ne {x y : Int32} (h : x < y) : ¬ (x = y) := fun q => own_irr x (by rw [← q] at h; exact h)
theorem own_ne' {x y : Int32} (h : x < y) : ¬ (y = x) := fun q => own_irr x (by rw [q] at h; exact h)
theorem own_tri (x y : Int32) : x < y ∨ x = y ∨ y < x := by
  rw [Int32.lt_iff_toInt_lt, Int32.lt_iff_toInt_lt, ← Int32.toInt_inj]; omega
theorem own_ns {Z : State} {h : Heap} {a : Addr} {C : String} (F : Exa Z h a C) : ∃ cell : Cell, h[a]? = some cell ∧ cell.vm.isStatics = false := by
  obtain ⟨cell, k, h1, -, -, h4, -⟩ := F; exact ⟨cell, h1, h4⟩
theorem own_sta_keep {Z : State} {h h' : Heap} {ws : List Addr} {C n d : String} {v : Value} (F : Sta Z h C n d v) (K : Keep h h' ws) (q : ∀ x ∈ ws, ∃ cell : Cell, h[x]? = some cell ∧ cell.vm.isStatics = false) : Sta Z h' C n d v := by
  obtain ⟨cf, i, k, f, st, cell, h1, h2, h3, h4, h5, h6, h7⟩ := F
  refine ⟨cf, i, k, f, st, cell, h1, h2, h3, h4, K.2.1 st cell h5 fun r => ?_, h6, h7⟩
  obtain ⟨c2, g1, g2⟩ := q st r
  cases h5.symm.trans g1
  rw [g2] at h6; cases h6
theorem own_eq_int {args : Array Value} {first s : State} {o : Option Outcome} {idx : List Nat} {t : Term} {k : Int32} (h : (Jvm.Cond.eq t (.int k)).value args first o s idx = some true) : t.eval args first o idx s = some (.int k) := by
  simp only [Cond.value, Term.eval] at h
  cases ht : t.eval args first o idx s with
  | none => simp [ht] at h
  | some x => cases x <;> simp [ht] at h ⊢; exact h
theorem own_mod6 (p : Int32) : (p &&& (2147483647 : Int32)) % (6 : Int32) = (0 : Int32) ∨ (p &&& (2147483647 : Int32)) % (6 : Int32) = (1 : Int32) ∨ (p &&& (2147483647 : Int32)) % (6 : Int32) = (2 : Int32) ∨ (p &&& (2147483647 : Int32)) % (6 : Int32) = (3 : Int32) ∨ (p &&& (2147483647 : Int32)) % (6 : Int32) = (4 : Int32) ∨ (p &&& (2147483647 : Int32)) % (6 : Int32) = (5 : Int32) := by
  have h := (c_irem (p &&& 2147483647) 6 6 rfl).1 (c_and p 2147483647 (by decide)).1
  have h2 : ((p &&& (2147483647 : Int32)) % (6 : Int32)).toInt = 0 ∨ ((p &&& (2147483647 : Int32)) % (6 : Int32)).toInt = 1 ∨ ((p &&& (2147483647 : Int32)) % (6 : Int32)).toInt = 2 ∨ ((p &&& (2147483647 : Int32)) % (6 : Int32)).toInt = 3 ∨ ((p &&& (2147483647 : Int32)) % (6 : Int32)).toInt = 4 ∨ ((p &&& (2147483647 : Int32)) % (6 : Int32)).toInt = 5 := by omega
  rcases h2 with q | q | q | q | q | q
  · exact Or.inl (Int32.toInt_inj.mp q)
  · exact Or.inr (Or.inl (Int32.toInt_inj.mp q))
  · exact Or.inr (Or.inr (Or.inl (Int32.toInt_inj.mp q)))
  · exact Or.inr (Or.inr (Or.inr (Or.inl (Int32.toInt_inj.mp q))))
  · exact Or.inr (Or.inr (Or.inr (Or.inr (Or.inl (Int32.toInt_inj.mp q)))))
  · exact Or.inr (Or.inr (Or.inr (Or.inr (Or.inr ((Int32.toInt_inj.mp q))))))
theorem own_bs {a : Int64} {A : Int} (h : -A ≤ a.toInt ∧ a.toInt ≤ A) (hA : A < 9007199254740992) : B53 a := by unfold B53; omega
theorem own_s0 : -(0 : Int) ≤ (0 : Int64).toInt ∧ (0 : Int64).toInt ≤ 0 := by decide
theorem own_si (p : Int32) : -(2147483648 : Int) ≤ p.toInt64.toInt ∧ p.toInt64.toInt ≤ 2147483648 := by
  rw [c_i2l]; have := rng32 p; omega
theorem own_sa {a : Int64} {A : Int} (h : -A ≤ a.toInt ∧ a.toInt ≤ A) (p : Int32) (hA : A < 9007199254740992) : -(A + 2147483648) ≤ (a + p.toInt64).toInt ∧ (a + p.toInt64).toInt ≤ A + 2147483648 := by
  have h1 := own_si p
  have h2 := c_ladd a p.toInt64
  have h3 := rng64 (a + p.toInt64)
  omega
abbrev cS0 : String := "com/example/driftline/driftline/learn/TreeNode"
theorem own_at {Z : State} {a0 : Array Value} (hw : ∀ d ∈ tables_1, d.before a0 Z = true) (i : Nat) {d : Jvm.Cond} (h : tables_1[i]? = some d) : d.before a0 Z = true := hw _ (List.mem_of_getElem? h)
theorem d1_0 : decode prog_56_method_10_code 0 = .ok (.dconst 0, 1) := by decide +kernel
theorem d1_1 : decode prog_56_method_10_code 1 = .ok (.dstore_n 1, 1) := by decide +kernel
theorem d1_2 : decode prog_56_method_10_code 2 = .ok (.aload_n 0, 1) := by decide +kernel
theorem d1_3 : decode prog_56_method_10_code 3 = .ok (.astore_n 3, 1) := by decide +kernel
theorem d1_4 : decode prog_56_method_10_code 4 = .ok (.aload_n 3, 1) := by decide +kernel
theorem d1_5 : decode prog_56_method_10_code 5 = .ok (.arraylength, 1) := by decide +kernel
theorem d1_6 : decode prog_56_method_10_code 6 = .ok (.istore 4, 2) := by decide +kernel
theorem d1_8 : decode prog_56_method_10_code 8 = .ok (.iconst 0, 1) := by decide +kernel
theorem d1_9 : decode prog_56_method_10_code 9 = .ok (.istore 5, 2) := by decide +kernel
theorem d1_11 : decode prog_56_method_10_code 11 = .ok (.iload 5, 2) := by decide +kernel
theorem d1_13 : decode prog_56_method_10_code 13 = .ok (.iload 4, 2) := by decide +kernel
theorem d1_15 : decode prog_56_method_10_code 15 = .ok (.if_icmp .ge 20, 3) := by decide +kernel
theorem d1_35 : decode prog_56_method_10_code 35 = .ok (.dload_n 1, 1) := by decide +kernel
theorem d1_36 : decode prog_56_method_10_code 36 = .ok (.dreturn, 1) := by decide +kernel
theorem pn_com_example_driftline_driftline_learn_TreeNode : plainName cS0 = true := by first | (simp [plainName, overriddenIn]; done) | decide +kernel
theorem ef_1 (m : MethodId) (x0 : Addr) : entryFrame m #[(.ref x0)] 8 = mkF m 0 #[.val (.ref x0), .unset, .unset, .unset, .unset, .unset, .unset, .unset] [] := by first | (simp [entryFrame, mkF, argsToLocals, Value.category]; done) | rfl
def Q_1_0 (Z : State) (r0 : Addr) (kA : ClassId) (h0 : Heap) (n0 : Nat) (v : Option Value) (h : Heap) (L : List Loc) : Prop := v = some (.double (FP.l2d (0 : Int64))) ∧ Fr n0 L ∧ h = h0
set_option maxRecDepth 65536 in
set_option maxHeartbeats 40000000 in
theorem rm1_0 (l : Launch) (Z : State) (a0 : Array Value) (hw : ∀ d ∈ tables_1, d.before a0 Z = true) (ws : List Jvm.Cond) (r0 : Addr) (kA : ClassId) (h0 : Heap) (n0 : Nat) (Z0 : n0 ≤ h0.size) (V_r0 : Arv Z h0 r0 kA .double (0 : Int32) [] (.double (FP.l2d (0 : Int64)))) :
    MetFree l (⟨cS0, "total", "([D)D"⟩ : MethodName) (head1 (Jvm.Cond.code (⟨cS0, "total", "([D)D"⟩ : MethodName) prog_56_method_10_code 8 (some .double) :: ws) ({ frames := 0, cells := 0, slots := 0, locals := 0 } : Room)) (fun a U => a = #[(.ref r0)] ∧ Z.Warmed39 U.vm ∧ U.heap = h0) (fun _ _ _ _ _ => True) (fun _ U o U' => ∃ v L, o = .returned v ∧ Q_1_0 Z r0 kA h0 n0 v U'.heap L ∧ FrameEnd U o U' L ({ frames := 0, cells := 0, slots := 0, locals := 0 } : Room).cells ({ frames := 0, cells := 0, slots := 0, locals := 0 } : Room).slots) := by
  refine MetFree.of_bodySF (plainFor_of_name pn_com_example_driftline_driftline_learn_TreeNode) hisR ?_
  intro p e s m args below meth c s₁ Bd hml0 hP hK
  obtain ⟨rfl, hZ, hh⟩ := hP
  have hx := Bd.exec
  have hby := Bd.bytes
  have hml : c.maxLocals = 8 := hml0
  have hown : s.vm.findClass cS0 = some m.cls := findClass_of_methodNamed Bd.named
  have hnm := (name_of_methodNamed Bd.named Bd.method).1
  have X0 : Stand p l e ({ frames := 0, cells := 0, slots := 0, locals := 0 } : Room) s m #[(.ref r0)] below meth c s₁ [] 0 0 := Stand.of_body Bd
  have e0 : s₁.heap = h0 := by rw [← hh, Bd.state]; rfl
  have N0 := Fr.nil n0
  have k0 : ∀ t, OwnS p e below s₁ (mkF m 0 #[rv r0, .unset, .unset, .unset, .unset, .unset, .unset, .unset] []) t → OwnS p e below s₁ (entryFrame m #[(.ref r0)] 8) t := fun t k => castTop (ef_1 m r0) k
  obtain ⟨cl_z1, Ar_z1, q_z1, S_z1, N_z1, H_z1, G_z1⟩ := id V_r0
  obtain ⟨fs, hr, hrun, hended, hW, hsame⟩ := X0.leave (v := some (.double (FP.l2d (0 : Int64)))) (fun h => by rw [Bd.returns] at h; cases h)
  refine ⟨_, _, k0 _ ?_, hrun, hended, _, _, rfl, ?_, ⟨_, rfl⟩, hW, hsame.mono (by decide) (by decide)⟩
  · show OwnS p e below s₁ (mkF m 0 #[rv r0, .unset, .unset, .unset, .unset, .unset, .unset, .unset] []) _
    refine XS.dconst0 X0.here hx rfl (hb hby d1_0) (v := FP.l2d 0) l2d_zero.symm ?_
    show OwnS p e below s₁ (mkF m 1 #[rv r0, .unset, .unset, .unset, .unset, .unset, .unset, .unset] [(.double (FP.l2d (0 : Int64)))]) _
    refine XS.dstoreN X0.here hx rfl (hb hby d1_1) rfl (l' := #[rv r0, .val (.double (FP.l2d (0 : Int64))), .second, .unset, .unset, .unset, .unset, .unset]) rfl ?_
    show OwnS p e below s₁ (mkF m 2 #[rv r0, .val (.double (FP.l2d (0 : Int64))), .second, .unset, .unset, .unset, .unset, .unset] []) _
    refine XS.aloadN X0.here hx rfl (hb hby d1_2) rfl rfl ?_
    show OwnS p e below s₁ (mkF m 3 #[rv r0, .val (.double (FP.l2d (0 : Int64))), .second, .unset, .unset, .unset, .unset, .unset] [(.ref r0)]) _
    refine XS.astoreN X0.here hx rfl (hb hby d1_3) rfl rfl (l' := #[rv r0, .val (.double (FP.l2d (0 : Int64))), .second, rv r0, .unset, .unset, .unset, .unset]) rfl ?_
    show OwnS p e below s₁ (mkF m 4 #[rv r0, .val (.double (FP.l2d (0 : Int64))), .second, rv r0, .unset, .unset, .unset, .unset] []) _
    refine XS.aloadN X0.here hx rfl (hb hby d1_4) rfl rfl ?_
    show OwnS p e below s₁ (mkF m 5 #[rv r0, .val (.double (FP.l2d (0 : Int64))), .second, rv r0, .unset, .unset, .unset, .unset] [(.ref r0)]) _
    refine X0.arraylength hx (by rw [e0]; exact Ar_z1.1) (State.isArrayOf_alike hZ.alike Ar_z1.2.1) (g := (mkF m 5 #[rv r0, .val (.double (FP.l2d (0 : Int64))), .second, rv r0, .unset, .unset, .unset, .unset] [(.ref r0)])) rfl rfl (hb hby d1_5) _ ?_
    rw [len_of S_z1 N_z1]
    show OwnS p e below s₁ (mkF m 6 #[rv r0, .val (.double (FP.l2d (0 : Int64))), .second, rv r0, .unset, .unset, .unset, .unset] [(.int 0)]) _
    refine XS.istore X0.here hx rfl (hb hby d1_6) rfl (l' := #[rv r0, .val (.double (FP.l2d (0 : Int64))), .second, rv r0, iv 0, .unset, .unset, .unset]) rfl ?_
    show OwnS p e below s₁ (mkF m 8 #[rv r0, .val (.double (FP.l2d (0 : Int64))), .second, rv r0, iv 0, .unset, .unset, .unset] []) _
    refine XS.iconst X0.here hx rfl (hb hby d1_8) ?_
    show OwnS p e below s₁ (mkF m 9 #[rv r0, .val (.double (FP.l2d (0 : Int64))), .second, rv r0, iv 0, .unset, .unset, .unset] [(.int 0)]) _
    refine XS.istore X0.here hx rfl (hb hby d1_9) rfl (l' := #[rv r0, .val (.double (FP.l2d (0 : Int64))), .second, rv r0, iv 0, iv 0, .unset, .unset]) rfl ?_
    show OwnS p e below s₁ (mkF m 11 #[rv r0, .val (.double (FP.l2d (0 : Int64))), .second, rv r0, iv 0, iv 0, .unset, .unset] []) _
    refine XS.iload X0.here hx rfl (hb hby d1_11) rfl ?_
    show OwnS p e below s₁ (mkF m 13 #[rv r0, .val (.double (FP.l2d (0 : Int64))), .second, rv r0, iv 0, iv 0, .unset, .unset] [(.int 0)]) _
    refine XS.iload X0.here hx rfl (hb hby d1_13) rfl ?_
    show OwnS p e below s₁ (mkF m 15 #[rv r0, .val (.double (FP.l2d (0 : Int64))), .second, rv r0, iv 0, iv 0, .unset, .unset] [(.int 0), (.int 0)]) _
    refine XS.icmpYes X0.here hx rfl (pc0 := 15) (pc' := 35) rfl (hb hby d1_15) rfl (flt (by decide : ¬ ((0 : Int32) < (0 : Int32)))).2.1 (by decide) (by decide) ?_
    show OwnS p e below s₁ (mkF m 35 #[rv r0, .val (.double (FP.l2d (0 : Int64))), .second, rv r0, iv 0, iv 0, .unset, .unset] []) _
    refine XS.dloadN X0.here hx rfl (hb hby d1_35) rfl ?_
    show OwnS p e below s₁ (mkF m 36 #[rv r0, .val (.double (FP.l2d (0 : Int64))), .second, rv r0, iv 0, iv 0, .unset, .unset] [(.double (FP.l2d (0 : Int64)))]) _
    exact retD X0 hx Bd.returns (hb hby d1_36) hr
  · show Q_1_0 Z r0 kA h0 n0 _ s₁.heap _
    rw [e0]
    exact ⟨rfl, N0, rfl⟩
theorem d1_18 : decode prog_56_method_10_code 18 = .ok (.aload_n 3, 1) := by decide +kernel
theorem d1_19 : decode prog_56_method_10_code 19 = .ok (.iload 5, 2) := by decide +kernel
theorem d1_21 : decode prog_56_method_10_code 21 = .ok (.daload, 1) := by decide +kernel
theorem d1_22 : decode prog_56_method_10_code 22 = .ok (.dstore 6, 2) := by decide +kernel
theorem d1_24 : decode prog_56_method_10_code 24 = .ok (.dload_n 1, 1) := by decide +kernel
theorem d1_25 : decode prog_56_method_10_code 25 = .ok (.dload 6, 2) := by decide +kernel
theorem d1_27 : decode prog_56_method_10_code 27 = .ok (.dadd, 1) := by decide +kernel
theorem d1_28 : decode prog_56_method_10_code 28 = .ok (.dstore_n 1, 1) := by decide +kernel
theorem d1_29 : decode prog_56_method_10_code 29 = .ok (.iinc 5 1, 3) := by decide +kernel
theorem d1_32 : decode prog_56_method_10_code 32 = .ok (.goto (-21), 3) := by decide +kernel
def Q_1_1 (Z : State) (r0 : Addr) (kA : ClassId) (d0 : Int64) (h0 : Heap) (n0 : Nat) (v : Option Value) (h : Heap) (L : List Loc) : Prop := v = some (.double (FP.l2d ((0 : Int64) + d0))) ∧ Fr n0 L ∧ h = h0
set_option maxRecDepth 65536 in
set_option maxHeartbeats 40000000 in
theorem rm1_1 (l : Launch) (Z : State) (a0 : Array Value) (hw : ∀ d ∈ tables_1, d.before a0 Z = true) (ws : List Jvm.Cond) (r0 : Addr) (kA : ClassId) (d0 : Int64) (h0 : Heap) (n0 : Nat) (Z0 : n0 ≤ h0.size) (V_r0 : Arv Z h0 r0 kA .double (1 : Int32) [(.double (FP.l2d d0))] (.double (FP.l2d (0 : Int64)))) (b_0 : B53 d0) (b_1 : B53 (0 : Int64)) :
    MetFree l (⟨cS0, "total", "([D)D"⟩ : MethodName) (head1 (Jvm.Cond.code (⟨cS0, "total", "([D)D"⟩ : MethodName) prog_56_method_10_code 8 (some .double) :: ws) ({ frames := 0, cells := 0, slots := 0, locals := 0 } : Room)) (fun a U => a = #[(.ref r0)] ∧ Z.Warmed39 U.vm ∧ U.heap = h0) (fun _ _ _ _ _ => True) (fun _ U o U' => ∃ v L, o = .returned v ∧ Q_1_1 Z r0 kA d0 h0 n0 v U'.heap L ∧ FrameEnd U o U' L ({ frames := 0, cells := 0, slots := 0, locals := 0 } : Room).cells ({ frames := 0, cells := 0, slots := 0, locals := 0 } : Room).slots) := by
  refine MetFree.of_bodySF (plainFor_of_name pn_com_example_driftline_driftline_learn_TreeNode) hisR ?_
  intro p e s m args below meth c s₁ Bd hml0 hP hK
  obtain ⟨rfl, hZ, hh⟩ := hP
  have hx := Bd.exec
  have hby := Bd.bytes
  have hml : c.maxLocals = 8 := hml0
  have hown : s.vm.findClass cS0 = some m.cls := findClass_of_methodNamed Bd.named
  have hnm := (name_of_methodNamed Bd.named Bd.method).1
  have X0 : Stand p l e ({ frames := 0, cells := 0, slots := 0, locals := 0 } : Room) s m #[(.ref r0)] below meth c s₁ [] 0 0 := Stand.of_body Bd
  have e0 : s₁.heap = h0 := by rw [← hh, Bd.state]; rfl
  have N0 := Fr.nil n0
  have k0 : ∀ t, OwnS p e below s₁ (mkF m 0 #[rv r0, .unset, .unset, .unset, .unset, .unset, .unset, .unset] []) t → OwnS p e below s₁ (entryFrame m #[(.ref r0)] 8) t := fun t k => castTop (ef_1 m r0) k
  obtain ⟨cl_z1, Ar_z1, q_z1, S_z1, N_z1, H_z1, G_z1⟩ := id V_r0
  have hin2 : ¬ ((0 : Int32) < 0 ∨ cl_z1.slots.size ≤ ((0 : Int32)).toNatClampNeg) := inb_of S_z1 ⟨by decide, by decide⟩
  obtain ⟨fs, hr, hrun, hended, hW, hsame⟩ := X0.leave (v := some (.double (FP.l2d ((0 : Int64) + d0)))) (fun h => by rw [Bd.returns] at h; cases h)
  refine ⟨_, _, k0 _ ?_, hrun, hended, _, _, rfl, ?_, ⟨_, rfl⟩, hW, hsame.mono (by decide) (by decide)⟩
  · show OwnS p e below s₁ (mkF m 0 #[rv r0, .unset, .unset, .unset, .unset, .unset, .unset, .unset] []) _
    refine XS.dconst0 X0.here hx rfl (hb hby d1_0) (v := FP.l2d 0) l2d_zero.symm ?_
    show OwnS p e below s₁ (mkF m 1 #[rv r0, .unset, .unset, .unset, .unset, .unset, .unset, .unset] [(.double (FP.l2d (0 : Int64)))]) _
    refine XS.dstoreN X0.here hx rfl (hb hby d1_1) rfl (l' := #[rv r0, .val (.double (FP.l2d (0 : Int64))), .second, .unset, .unset, .unset, .unset, .unset]) rfl ?_
    show OwnS p e below s₁ (mkF m 2 #[rv r0, .val (.double (FP.l2d (0 : Int64))), .second, .unset, .unset, .unset, .unset, .unset] []) _
    refine XS.aloadN X0.here hx rfl (hb hby d1_2) rfl rfl ?_
    show OwnS p e below s₁ (mkF m 3 #[rv r0, .val (.double (FP.l2d (0 : Int64))), .second, .unset, .unset, .unset, .unset, .unset] [(.ref r0)]) _
    refine XS.astoreN X0.here hx rfl (hb hby d1_3) rfl rfl (l' := #[rv r0, .val (.double (FP.l2d (0 : Int64))), .second, rv r0, .unset, .unset, .unset, .unset]) rfl ?_
    show OwnS p e below s₁ (mkF m 4 #[rv r0, .val (.double (FP.l2d (0 : Int64))), .second, rv r0, .unset, .unset, .unset, .unset] []) _
    refine XS.aloadN X0.here hx rfl (hb hby d1_4) rfl rfl ?_
    show OwnS p e below s₁ (mkF m 5 #[rv r0, .val (.double (FP.l2d (0 : Int64))), .second, rv r0, .unset, .unset, .unset, .unset] [(.ref r0)]) _
    refine X0.arraylength hx (by rw [e0]; exact Ar_z1.1) (State.isArrayOf_alike hZ.alike Ar_z1.2.1) (g := (mkF m 5 #[rv r0, .val (.double (FP.l2d (0 : Int64))), .second, rv r0, .unset, .unset, .unset, .unset] [(.ref r0)])) rfl rfl (hb hby d1_5) _ ?_
    rw [len_of S_z1 N_z1]
    show OwnS p e below s₁ (mkF m 6 #[rv r0, .val (.double (FP.l2d (0 : Int64))), .second, rv r0, .unset, .unset, .unset, .unset] [(.int 1)]) _
    refine XS.istore X0.here hx rfl (hb hby d1_6) rfl (l' := #[rv r0, .val (.double (FP.l2d (0 : Int64))), .second, rv r0, iv 1, .unset, .unset, .unset]) rfl ?_
    show OwnS p e below s₁ (mkF m 8 #[rv r0, .val (.double (FP.l2d (0 : Int64))), .second, rv r0, iv 1, .unset, .unset, .unset] []) _
    refine XS.iconst X0.here hx rfl (hb hby d1_8) ?_
    show OwnS p e below s₁ (mkF m 9 #[rv r0, .val (.double (FP.l2d (0 : Int64))), .second, rv r0, iv 1, .unset, .unset, .unset] [(.int 0)]) _
    refine XS.istore X0.here hx rfl (hb hby d1_9) rfl (l' := #[rv r0, .val (.double (FP.l2d (0 : Int64))), .second, rv r0, iv 1, iv 0, .unset, .unset]) rfl ?_
    show OwnS p e below s₁ (mkF m 11 #[rv r0, .val (.double (FP.l2d (0 : Int64))), .second, rv r0, iv 1, iv 0, .unset, .unset] []) _
    refine XS.iload X0.here hx rfl (hb hby d1_11) rfl ?_
    show OwnS p e below s₁ (mkF m 13 #[rv r0, .val (.double (FP.l2d (0 : Int64))), .second, rv r0, iv 1, iv 0, .unset, .unset] [(.int 0)]) _
    refine XS.iload X0.here hx rfl (hb hby d1_13) rfl ?_
    show OwnS p e below s₁ (mkF m 15 #[rv r0, .val (.double (FP.l2d (0 : Int64))), .second, rv r0, iv 1, iv 0, .unset, .unset] [(.int 1), (.int 0)]) _
    refine XS.icmpNo X0.here hx rfl (hb hby d1_15) rfl (tlt (by decide : (0 : Int32) < (1 : Int32))).2.1 ?_
    show OwnS p e below s₁ (mkF m 18 #[rv r0, .val (.double (FP.l2d (0 : Int64))), .second, rv r0, iv 1, iv 0, .unset, .unset] []) _
    refine XS.aloadN X0.here hx rfl (hb hby d1_18) rfl rfl ?_
    show OwnS p e below s₁ (mkF m 19 #[rv r0, .val (.double (FP.l2d (0 : Int64))), .second, rv r0, iv 1, iv 0, .unset, .unset] [(.ref r0)]) _
    refine XS.iload X0.here hx rfl (hb hby d1_19) rfl ?_
    show OwnS p e below s₁ (mkF m 21 #[rv r0, .val (.double (FP.l2d (0 : Int64))), .second, rv r0, iv 1, iv 0, .unset, .unset] [(.int 0), (.ref r0)]) _
    refine X0.daload hx (j := (0 : Int32)) (v := (.double (FP.l2d d0))) (by rw [e0]; exact Ar_z1.1) (State.isArrayOf_alike hZ.alike Ar_z1.2.1) Ar_z1.2.2 hin2 (Has.at H_z1 hin2 rfl) (g := (mkF m 21 #[rv r0, .val (.double (FP.l2d (0 : Int64))), .second, rv r0, iv 1, iv 0, .unset, .unset] [(.int 0), (.ref r0)])) rfl rfl (hb hby d1_21) _ ?_
    show OwnS p e below s₁ (mkF m 22 #[rv r0, .val (.double (FP.l2d (0 : Int64))), .second, rv r0, iv 1, iv 0, .unset, .unset] [(.double (FP.l2d d0))]) _
    refine XS.dstore X0.here hx rfl (hb hby d1_22) rfl (l' := #[rv r0, .val (.double (FP.l2d (0 : Int64))), .second, rv r0, iv 1, iv 0, .val (.double (FP.l2d d0)), .second]) rfl ?_
    show OwnS p e below s₁ (mkF m 24 #[rv r0, .val (.double (FP.l2d (0 : Int64))), .second, rv r0, iv 1, iv 0, .val (.double (FP.l2d d0)), .second] []) _
    refine XS.dloadN X0.here hx rfl (hb hby d1_24) rfl ?_
    show OwnS p e below s₁ (mkF m 25 #[rv r0, .val (.double (FP.l2d (0 : Int64))), .second, rv r0, iv 1, iv 0, .val (.double (FP.l2d d0)), .second] [(.double (FP.l2d (0 : Int64)))]) _
    refine XS.dload X0.here hx rfl (hb hby d1_25) rfl ?_
    show OwnS p e below s₁ (mkF m 27 #[rv r0, .val (.double (FP.l2d (0 : Int64))), .second, rv r0, iv 1, iv 0, .val (.double (FP.l2d d0)), .second] [(.double (FP.l2d d0)), (.double (FP.l2d (0 : Int64)))]) _
    refine XS.daddS X0.here hx rfl (hb hby d1_27) rfl (nn_w (dadd_w b_1 b_0)) (dadd_w b_1 b_0) ?_
    show OwnS p e below s₁ (mkF m 28 #[rv r0, .val (.double (FP.l2d (0 : Int64))), .second, rv r0, iv 1, iv 0, .val (.double (FP.l2d d0)), .second] [(.double (FP.l2d ((0 : Int64) + d0)))]) _
    refine XS.dstoreN X0.here hx rfl (hb hby d1_28) rfl (l' := #[rv r0, .val (.double (FP.l2d ((0 : Int64) + d0))), .second, rv r0, iv 1, iv 0, .val (.double (FP.l2d d0)), .second]) rfl ?_
    show OwnS p e below s₁ (mkF m 29 #[rv r0, .val (.double (FP.l2d ((0 : Int64) + d0))), .second, rv r0, iv 1, iv 0, .val (.double (FP.l2d d0)), .second] []) _
    refine XS.iinc X0.here hx rfl (hb hby d1_29) rfl (l' := #[rv r0, .val (.double (FP.l2d ((0 : Int64) + d0))), .second, rv r0, iv 1, iv ((0 : Int32) + (1 : Int32)), .val (.double (FP.l2d d0)), .second]) rfl ?_
    show OwnS p e below s₁ (mkF m 32 #[rv r0, .val (.double (FP.l2d ((0 : Int64) + d0))), .second, rv r0, iv 1, iv ((0 : Int32) + (1 : Int32)), .val (.double (FP.l2d d0)), .second] []) _
    refine XS.goto X0.here hx rfl (pc0 := 32) (pc' := 11) rfl (hb hby d1_32) (by decide) (by decide) ?_
    show OwnS p e below s₁ (mkF m 11 #[rv r0, .val (.double (FP.l2d ((0 : Int64) + d0))), .second, rv r0, iv 1, iv ((0 : Int32) + (1 : Int32)), .val (.double (FP.l2d d0)), .second] []) _
    refine XS.iload X0.here hx rfl (hb hby d1_11) rfl ?_
    show OwnS p e below s₁ (mkF m 13 #[rv r0, .val (.double (FP.l2d ((0 : Int64) + d0))), .second, rv r0, iv 1, iv ((0 : Int32) + (1 : Int32)), .val (.double (FP.l2d d0)), .second] [(.int 1)]) _
    refine XS.iload X0.here hx rfl (hb hby d1_13) rfl ?_
    show OwnS p e below s₁ (mkF m 15 #[rv r0, .val (.double (FP.l2d ((0 : Int64) + d0))), .second, rv r0, iv 1, iv ((0 : Int32) + (1 : Int32)), .val (.double (FP.l2d d0)), .second] [(.int 1), (.int 1)]) _
    refine XS.icmpYes X0.here hx rfl (pc0 := 15) (pc' := 35) rfl (hb hby d1_15) rfl (flt (by decide : ¬ ((1 : Int32) < (1 : Int32)))).2.1 (by decide) (by decide) ?_
    show OwnS p e below s₁ (mkF m 35 #[rv r0, .val (.double (FP.l2d ((0 : Int64) + d0))), .second, rv r0, iv 1, iv ((0 : Int32) + (1 : Int32)), .val (.double (FP.l2d d0)), .second] []) _
    refine XS.dloadN X0.here hx rfl (hb hby d1_35) rfl ?_
    show OwnS p e below s₁ (mkF m 36 #[rv r0, .val (.double (FP.l2d ((0 : Int64) + d0))), .second, rv r0, iv 1, iv ((0 : Int32) + (1 : Int32)), .val (.double (FP.l2d d0)), .second] [(.double (FP.l2d ((0 : Int64) + d0)))]) _
    exact retD X0 hx Bd.returns (hb hby d1_36) hr
  · show Q_1_1 Z r0 kA d0 h0 n0 _ s₁.heap _
    rw [e0]
    exact ⟨rfl, N0, rfl⟩
def Q_1_2 (Z : State) (r0 : Addr) (kA : ClassId) (d0 : Int64) (d1 : Int64) (h0 : Heap) (n0 : Nat) (v : Option Value) (h : Heap) (L : List Loc) : Prop := v = some (.double (FP.l2d (((0 : Int64) + d0) + d1))) ∧ Fr n0 L ∧ h = h0
set_option maxRecDepth 65536 in
set_option maxHeartbeats 40000000 in
theorem rm1_2 (l : Launch) (Z : State) (a0 : Array Value) (hw : ∀ d ∈ tables_1, d.before a0 Z = true) (ws : List Jvm.Cond) (r0 : Addr) (kA : ClassId) (d0 : Int64) (d1 : Int64) (h0 : Heap) (n0 : Nat) (Z0 : n0 ≤ h0.size) (V_r0 : Arv Z h0 r0 kA .double (2 : Int32) [(.double (FP.l2d d0)), (.double (FP.l2d d1))] (.double (FP.l2d (0 : Int64)))) (b_0 : B53 d0) (b_1 : B53 d1) (b_2 : B53 (0 : Int64)) (b_3 : B53 ((0 : Int64) + d0)) :
    MetFree l (⟨cS0, "total", "([D)D"⟩ : MethodName) (head1 (Jvm.Cond.code (⟨cS0, "total", "([D)D"⟩ : MethodName) prog_56_method_10_code 8 (some .double) :: ws) ({ frames := 0, cells := 0, slots := 0, locals := 0 } : Room)) (fun a U => a = #[(.ref r0)] ∧ Z.Warmed39 U.vm ∧ U.heap = h0) (fun _ _ _ _ _ => True) (fun _ U o U' => ∃ v L, o = .returned v ∧ Q_1_2 Z r0 kA d0 d1 h0 n0 v U'.heap L ∧ FrameEnd U o U' L ({ frames := 0, cells := 0, slots := 0, locals := 0 } : Room).cells ({ frames := 0, cells := 0, slots := 0, locals := 0 } : Room).slots) := by
  refine MetFree.of_bodySF (plainFor_of_name pn_com_example_driftline_driftline_learn_TreeNode) hisR ?_
  intro p e s m args below meth c s₁ Bd hml0 hP hK
  obtain ⟨rfl, hZ, hh⟩ := hP
  have hx := Bd.exec
  have hby := Bd.bytes
  have hml : c.maxLocals = 8 := hml0
  have hown : s.vm.findClass cS0 = some m.cls := findClass_of_methodNamed Bd.named
  have hnm := (name_of_methodNamed Bd.named Bd.method).1
  have X0 : Stand p l e ({ frames := 0, cells := 0, slots := 0, locals := 0 } : Room) s m #[(.ref r0)] below meth c s₁ [] 0 0 := Stand.of_body Bd
  have e0 : s₁.heap = h0 := by rw [← hh, Bd.state]; rfl
  have N0 := Fr.nil n0
  have k0 : ∀ t, OwnS p e below s₁ (mkF m 0 #[rv r0, .unset, .unset, .unset, .unset, .unset, .unset, .unset] []) t → OwnS p e below s₁ (entryFrame m #[(.ref r0)] 8) t := fun t k => castTop (ef_1 m r0) k
  obtain ⟨cl_z1, Ar_z1, q_z1, S_z1, N_z1, H_z1, G_z1⟩ := id V_r0
  have hin2 : ¬ ((0 : Int32) < 0 ∨ cl_z1.slots.size ≤ ((0 : Int32)).toNatClampNeg) := inb_of S_z1 ⟨by decide, by decide⟩
  have hin3 : ¬ ((1 : Int32) < 0 ∨ cl_z1.slots.size ≤ ((1 : Int32)).toNatClampNeg) := inb_of S_z1 ⟨by decide, by decide⟩
  obtain ⟨fs, hr, hrun, hended, hW, hsame⟩ := X0.leave (v := some (.double (FP.l2d (((0 : Int64) + d0) + d1)))) (fun h => by rw [Bd.returns] at h; cases h)
  refine ⟨_, _, k0 _ ?_, hrun, hended, _, _, rfl, ?_, ⟨_, rfl⟩, hW, hsame.mono (by decide) (by decide)⟩
  · show OwnS p e below s₁ (mkF m 0 #[rv r0, .unset, .unset, .unset, .unset, .unset, .unset, .unset] []) _
    refine XS.dconst0 X0.here hx rfl (hb hby d1_0) (v := FP.l2d 0) l2d_zero.symm ?_
    show OwnS p e below s₁ (mkF m 1 #[rv r0, .unset, .unset, .unset, .unset, .unset, .unset, .unset] [(.double (FP.l2d (0 : Int64)))]) _
    refine XS.dstoreN X0.here hx rfl (hb hby d1_1) rfl (l' := #[rv r0, .val (.double (FP.l2d (0 : Int64))), .second, .unset, .unset, .unset, .unset, .unset]) rfl ?_
    show OwnS p e below s₁ (mkF m 2 #[rv r0, .val (.double (FP.l2d (0 : Int64))), .second, .unset, .unset, .unset, .unset, .unset] []) _
    refine XS.aloadN X0.here hx rfl (hb hby d1_2) rfl rfl ?_
    show OwnS p e below s₁ (mkF m 3 #[rv r0, .val (.double (FP.l2d (0 : Int64))), .second, .unset, .unset, .unset, .unset, .unset] [(.ref r0)]) _
    refine XS.astoreN X0.here hx rfl (hb hby d1_3) rfl rfl (l' := #[rv r0, .val (.double (FP.l2d (0 : Int64))), .second, rv r0, .unset, .unset, .unset, .unset]) rfl ?_
    show OwnS p e below s₁ (mkF m 4 #[rv r0, .val (.double (FP.l2d (0 : Int64))), .second, rv r0, .unset, .unset, .unset, .unset] []) _
    refine XS.aloadN X0.here hx rfl (hb hby d1_4) rfl rfl ?_
    show OwnS p e below s₁ (mkF m 5 #[rv r0, .val (.double (FP.l2d (0 : Int64))), .second, rv r0, .unset, .unset, .unset, .unset] [(.ref r0)]) _
    refine X0.arraylength hx (by rw [e0]; exact Ar_z1.1) (State.isArrayOf_alike hZ.alike Ar_z1.2.1) (g := (mkF m 5 #[rv r0, .val (.double (FP.l2d (0 : Int64))), .second, rv r0, .unset, .unset, .unset, .unset] [(.ref r0)])) rfl rfl (hb hby d1_5) _ ?_
    rw [len_of S_z1 N_z1]
    show OwnS p e below s₁ (mkF m 6 #[rv r0, .val (.double (FP.l2d (0 : Int64))), .second, rv r0, .unset, .unset, .unset, .unset] [(.int 2)]) _
    refine XS.istore X0.here hx rfl (hb hby d1_6) rfl (l' := #[rv r0, .val (.double (FP.l2d (0 : Int64))), .second, rv r0, iv 2, .unset, .unset, .unset]) rfl ?_
    show OwnS p e below s₁ (mkF m 8 #[rv r0, .val (.double (FP.l2d (0 : Int64))), .second, rv r0, iv 2, .unset, .unset, .unset] []) _
    refine XS.iconst X0.here hx rfl (hb hby d1_8) ?_
    show OwnS p e below s₁ (mkF m 9 #[rv r0, .val (.double (FP.l2d (0 : Int64))), .second, rv r0, iv 2, .unset, .unset, .unset] [(.int 0)]) _
    refine XS.istore X0.here hx rfl (hb hby d1_9) rfl (l' := #[rv r0, .val (.double (FP.l2d (0 : Int64))), .second, rv r0, iv 2, iv 0, .unset, .unset]) rfl ?_
    show OwnS p e below s₁ (mkF m 11 #[rv r0, .val (.double (FP.l2d (0 : Int64))), .second, rv r0, iv 2, iv 0, .unset, .unset] []) _
    refine XS.iload X0.here hx rfl (hb hby d1_11) rfl ?_
    show OwnS p e below s₁ (mkF m 13 #[rv r0, .val (.double (FP.l2d (0 : Int64))), .second, rv r0, iv 2, iv 0, .unset, .unset] [(.int 0)]) _
    refine XS.iload X0.here hx rfl (hb hby d1_13) rfl ?_
    show OwnS p e below s₁ (mkF m 15 #[rv r0, .val (.double (FP.l2d (0 : Int64))), .second, rv r0, iv 2, iv 0, .unset, .unset] [(.int 2), (.int 0)]) _
    refine XS.icmpNo X0.here hx rfl (hb hby d1_15) rfl (tlt (by decide : (0 : Int32) < (2 : Int32))).2.1 ?_
    show OwnS p e below s₁ (mkF m 18 #[rv r0, .val (.double (FP.l2d (0 : Int64))), .second, rv r0, iv 2, iv 0, .unset, .unset] []) _
    refine XS.aloadN X0.here hx rfl (hb hby d1_18) rfl rfl ?_
    show OwnS p e below s₁ (mkF m 19 #[rv r0, .val (.double (FP.l2d (0 : Int64))), .second, rv r0, iv 2, iv 0, .unset, .unset] [(.ref r0)]) _
    refine XS.iload X0.here hx rfl (hb hby d1_19) rfl ?_
    show OwnS p e below s₁ (mkF m 21 #[rv r0, .val (.double (FP.l2d (0 : Int64))), .second, rv r0, iv 2, iv 0, .unset, .unset] [(.int 0), (.ref r0)]) _
    refine X0.daload hx (j := (0 : Int32)) (v := (.double (FP.l2d d0))) (by rw [e0]; exact Ar_z1.1) (State.isArrayOf_alike hZ.alike Ar_z1.2.1) Ar_z1.2.2 hin2 (Has.at H_z1 hin2 rfl) (g := (mkF m 21 #[rv r0, .val (.double (FP.l2d (0 : Int64))), .second, rv r0, iv 2, iv 0, .unset, .unset] [(.int 0), (.ref r0)])) rfl rfl (hb hby d1_21) _ ?_
    show OwnS p e below s₁ (mkF m 22 #[rv r0, .val (.double (FP.l2d (0 : Int64))), .second, rv r0, iv 2, iv 0, .unset, .unset] [(.double (FP.l2d d0))]) _
    refine XS.dstore X0.here hx rfl (hb hby d1_22) rfl (l' := #[rv r0, .val (.double (FP.l2d (0 : Int64))), .second, rv r0, iv 2, iv 0, .val (.double (FP.l2d d0)), .second]) rfl ?_
    show OwnS p e below s₁ (mkF m 24 #[rv r0, .val (.double (FP.l2d (0 : Int64))), .second, rv r0, iv 2, iv 0, .val (.double (FP.l2d d0)), .second] []) _
    refine XS.dloadN X0.here hx rfl (hb hby d1_24) rfl ?_
    show OwnS p e below s₁ (mkF m 25 #[rv r0, .val (.double (FP.l2d (0 : Int64))), .second, rv r0, iv 2, iv 0, .val (.double (FP.l2d d0)), .second] [(.double (FP.l2d (0 : Int64)))]) _
    refine XS.dload X0.here hx rfl (hb hby d1_25) rfl ?_
    show OwnS p e below s₁ (mkF m 27 #[rv r0, .val (.double (FP.l2d (0 : Int64))), .second, rv r0, iv 2, iv 0, .val (.double (FP.l2d d0)), .second] [(.double (FP.l2d d0)), (.double (FP.l2d (0 : Int64)))]) _
    refine XS.daddS X0.here hx rfl (hb hby d1_27) rfl (nn_w (dadd_w b_2 b_0)) (dadd_w b_2 b_0) ?_
    show OwnS p e below s₁ (mkF m 28 #[rv r0, .val (.double (FP.l2d (0 : Int64))), .second, rv r0, iv 2, iv 0, .val (.double (FP.l2d d0)), .second] [(.double (FP.l2d ((0 : Int64) + d0)))]) _
    refine XS.dstoreN X0.here hx rfl (hb hby d1_28) rfl (l' := #[rv r0, .val (.double (FP.l2d ((0 : Int64) + d0))), .second, rv r0, iv 2, iv 0, .val (.double (FP.l2d d0)), .second]) rfl ?_
    show OwnS p e below s₁ (mkF m 29 #[rv r0, .val (.double (FP.l2d ((0 : Int64) + d0))), .second, rv r0, iv 2, iv 0, .val (.double (FP.l2d d0)), .second] []) _
    refine XS.iinc X0.here hx rfl (hb hby d1_29) rfl (l' := #[rv r0, .val (.double (FP.l2d ((0 : Int64) + d0))), .second, rv r0, iv 2, iv ((0 : Int32) + (1 : Int32)), .val (.double (FP.l2d d0)), .second]) rfl ?_
    show OwnS p e below s₁ (mkF m 32 #[rv r0, .val (.double (FP.l2d ((0 : Int64) + d0))), .second, rv r0, iv 2, iv ((0 : Int32) + (1 : Int32)), .val (.double (FP.l2d d0)), .second] []) _
    refine XS.goto X0.here hx rfl (pc0 := 32) (pc' := 11) rfl (hb hby d1_32) (by decide) (by decide) ?_
    show OwnS p e below s₁ (mkF m 11 #[rv r0, .val (.double (FP.l2d ((0 : Int64) + d0))), .second, rv r0, iv 2, iv ((0 : Int32) + (1 : Int32)), .val (.double (FP.l2d d0)), .second] []) _
    refine XS.iload X0.here hx rfl (hb hby d1_11) rfl ?_
    show OwnS p e below s₁ (mkF m 13 #[rv r0, .val (.double (FP.l2d ((0 : Int64) + d0))), .second, rv r0, iv 2, iv ((0 : Int32) + (1 : Int32)), .val (.double (FP.l2d d0)), .second] [(.int 1)]) _
    refine XS.iload X0.here hx rfl (hb hby d1_13) rfl ?_
    show OwnS p e below s₁ (mkF m 15 #[rv r0, .val (.double (FP.l2d ((0 : Int64) + d0))), .second, rv r0, iv 2, iv ((0 : Int32) + (1 : Int32)), .val (.double (FP.l2d d0)), .second] [(.int 2), (.int 1)]) _
    refine XS.icmpNo X0.here hx rfl (hb hby d1_15) rfl (tlt (by decide : (1 : Int32) < (2 : Int32))).2.1 ?_
    show OwnS p e below s₁ (mkF m 18 #[rv r0, .val (.double (FP.l2d ((0 : Int64) + d0))), .second, rv r0, iv 2, iv ((0 : Int32) + (1 : Int32)), .val (.double (FP.l2d d0)), .second] []) _
    refine XS.aloadN X0.here hx rfl (hb hby d1_18) rfl rfl ?_
    show OwnS p e below s₁ (mkF m 19 #[rv r0, .val (.double (FP.l2d ((0 : Int64) + d0))), .second, rv r0, iv 2, iv ((0 : Int32) + (1 : Int32)), .val (.double (FP.l2d d0)), .second] [(.ref r0)]) _
    refine XS.iload X0.here hx rfl (hb hby d1_19) rfl ?_
    show OwnS p e below s₁ (mkF m 21 #[rv r0, .val (.double (FP.l2d ((0 : Int64) + d0))), .second, rv r0, iv 2, iv ((0 : Int32) + (1 : Int32)), .val (.double (FP.l2d d0)), .second] [(.int 1), (.ref r0)]) _
    refine X0.daload hx (j := (1 : Int32)) (v := (.double (FP.l2d d1))) (by rw [e0]; exact Ar_z1.1) (State.isArrayOf_alike hZ.alike Ar_z1.2.1) Ar_z1.2.2 hin3 (Has.at H_z1 hin3 rfl) (g := (mkF m 21 #[rv r0, .val (.double (FP.l2d ((0 : Int64) + d0))), .second, rv r0, iv 2, iv ((0 : Int32) + (1 : Int32)), .val (.double (FP.l2d d0)), .second] [(.int 1), (.ref r0)])) rfl rfl (hb hby d1_21) _ ?_
    show OwnS p e below s₁ (mkF m 22 #[rv r0, .val (.double (FP.l2d ((0 : Int64) + d0))), .second, rv r0, iv 2, iv ((0 : Int32) + (1 : Int32)), .val (.double (FP.l2d d0)), .second] [(.double (FP.l2d d1))]) _
    refine XS.dstore X0.here hx rfl (hb hby d1_22) rfl (l' := #[rv r0, .val (.double (FP.l2d ((0 : Int64) + d0))), .second, rv r0, iv 2, iv ((0 : Int32) + (1 : Int32)), .val (.double (FP.l2d d1)), .second]) rfl ?_
    show OwnS p e below s₁ (mkF m 24 #[rv r0, .val (.double (FP.l2d ((0 : Int64) + d0))), .second, rv r0, iv 2, iv ((0 : Int32) + (1 : Int32)), .val (.double (FP.l2d d1)), .second] []) _
    refine XS.dloadN X0.here hx rfl (hb hby d1_24) rfl ?_
    show OwnS p e below s₁ (mkF m 25 #[rv r0, .val (.double (FP.l2d ((0 : Int64) + d0))), .second, rv r0, iv 2, iv ((0 : Int32) + (1 : Int32)), .val (.double (FP.l2d d1)), .second] [(.double (FP.l2d ((0 : Int64) + d0)))]) _
    refine XS.dload X0.here hx rfl (hb hby d1_25) rfl ?_
    show OwnS p e below s₁ (mkF m 27 #[rv r0, .val (.double (FP.l2d ((0 : Int64) + d0))), .second, rv r0, iv 2, iv ((0 : Int32) + (1 : Int32)), .val (.double (FP.l2d d1)), .second] [(.double (FP.l2d d1)), (.double (FP.l2d ((0 : Int64) + d0)))]) _
    refine XS.daddS X0.here hx rfl (hb hby d1_27) rfl (nn_w (dadd_w b_3 b_1)) (dadd_w b_3 b_1) ?_
    show OwnS p e below s₁ (mkF m 28 #[rv r0, .val (.double (FP.l2d ((0 : Int64) + d0))), .second, rv r0, iv 2, iv ((0 : Int32) + (1 : Int32)), .val (.double (FP.l2d d1)), .second] [(.double (FP.l2d (((0 : Int64) + d0) + d1)))]) _
    refine XS.dstoreN X0.here hx rfl (hb hby d1_28) rfl (l' := #[rv r0, .val (.double (FP.l2d (((0 : Int64) + d0) + d1))), .second, rv r0, iv 2, iv ((0 : Int32) + (1 : Int32)), .val (.double (FP.l2d d1)), .second]) rfl ?_
    show OwnS p e below s₁ (mkF m 29 #[rv r0, .val (.double (FP.l2d (((0 : Int64) + d0) + d1))), .second, rv r0, iv 2, iv ((0 : Int32) + (1 : Int32)), .val (.double (FP.l2d d1)), .second] []) _
    refine XS.iinc X0.here hx rfl (hb hby d1_29) rfl (l' := #[rv r0, .val (.double (FP.l2d (((0 : Int64) + d0) + d1))), .second, rv r0, iv 2, iv (((0 : Int32) + (1 : Int32)) + (1 : Int32)), .val (.double (FP.l2d d1)), .second]) rfl ?_
    show OwnS p e below s₁ (mkF m 32 #[rv r0, .val (.double (FP.l2d (((0 : Int64) + d0) + d1))), .second, rv r0, iv 2, iv (((0 : Int32) + (1 : Int32)) + (1 : Int32)), .val (.double (FP.l2d d1)), .second] []) _
    refine XS.goto X0.here hx rfl (pc0 := 32) (pc' := 11) rfl (hb hby d1_32) (by decide) (by decide) ?_
    show OwnS p e below s₁ (mkF m 11 #[rv r0, .val (.double (FP.l2d (((0 : Int64) + d0) + d1))), .second, rv r0, iv 2, iv (((0 : Int32) + (1 : Int32)) + (1 : Int32)), .val (.double (FP.l2d d1)), .second] []) _
    refine XS.iload X0.here hx rfl (hb hby d1_11) rfl ?_
    show OwnS p e below s₁ (mkF m 13 #[rv r0, .val (.double (FP.l2d (((0 : Int64) + d0) + d1))), .second, rv r0, iv 2, iv (((0 : Int32) + (1 : Int32)) + (1 : Int32)), .val (.double (FP.l2d d1)), .second] [(.int 2)]) _
    refine XS.iload X0.here hx rfl (hb hby d1_13) rfl ?_
    show OwnS p e below s₁ (mkF m 15 #[rv r0, .val (.double (FP.l2d (((0 : Int64) + d0) + d1))), .second, rv r0, iv 2, iv (((0 : Int32) + (1 : Int32)) + (1 : Int32)), .val (.double (FP.l2d d1)), .second] [(.int 2), (.int 2)]) _
    refine XS.icmpYes X0.here hx rfl (pc0 := 15) (pc' := 35) rfl (hb hby d1_15) rfl (flt (by decide : ¬ ((2 : Int32) < (2 : Int32)))).2.1 (by decide) (by decide) ?_
    show OwnS p e below s₁ (mkF m 35 #[rv r0, .val (.double (FP.l2d (((0 : Int64) + d0) + d1))), .second, rv r0, iv 2, iv (((0 : Int32) + (1 : Int32)) + (1 : Int32)), .val (.double (FP.l2d d1)), .second] []) _
    refine XS.dloadN X0.here hx rfl (hb hby d1_35) rfl ?_
    show OwnS p e below s₁ (mkF m 36 #[rv r0, .val (.double (FP.l2d (((0 : Int64) + d0) + d1))), .second, rv r0, iv 2, iv (((0 : Int32) + (1 : Int32)) + (1 : Int32)), .val (.double (FP.l2d d1)), .second] [(.double (FP.l2d (((0 : Int64) + d0) + d1)))]) _
    exact retD X0 hx Bd.returns (hb hby d1_36) hr
  · show Q_1_2 Z r0 kA d0 d1 h0 n0 _ s₁.heap _
    rw [e0]
    exact ⟨rfl, N0, rfl⟩
def Q_1_3 (Z : State) (r0 : Addr) (kA : ClassId) (d0 : Int64) (d1 : Int64) (d2 : Int64) (h0 : Heap) (n0 : Nat) (v : Option Value) (h : Heap) (L : List Loc) : Prop := v = some (.double (FP.l2d ((((0 : Int64) + d0) + d1) + d2))) ∧ Fr n0 L ∧ h = h0
set_option maxRecDepth 65536 in
set_option maxHeartbeats 40000000 in
theorem rm1_3 (l : Launch) (Z : State) (a0 : Array Value) (hw : ∀ d ∈ tables_1, d.before a0 Z = true) (ws : List Jvm.Cond) (r0 : Addr) (kA : ClassId) (d0 : Int64) (d1 : Int64) (d2 : Int64) (h0 : Heap) (n0 : Nat) (Z0 : n0 ≤ h0.size) (V_r0 : Arv Z h0 r0 kA .double (3 : Int32) [(.double (FP.l2d d0)), (.double (FP.l2d d1)), (.double (FP.l2d d2))] (.double (FP.l2d (0 : Int64)))) (b_0 : B53 d0) (b_1 : B53 d1) (b_2 : B53 d2) (b_3 : B53 (0 : Int64)) (b_4 : B53 ((0 : Int64) + d0)) (b_5 : B53 (((0 : Int64) + d0) + d1)) :
    MetFree l (⟨cS0, "total", "([D)D"⟩ : MethodName) (head1 (Jvm.Cond.code (⟨cS0, "total", "([D)D"⟩ : MethodName) prog_56_method_10_code 8 (some .double) :: ws) ({ frames := 0, cells := 0, slots := 0, locals := 0 } : Room)) (fun a U => a = #[(.ref r0)] ∧ Z.Warmed39 U.vm ∧ U.heap = h0) (fun _ _ _ _ _ => True) (fun _ U o U' => ∃ v L, o = .returned v ∧ Q_1_3 Z r0 kA d0 d1 d2 h0 n0 v U'.heap L ∧ FrameEnd U o U' L ({ frames := 0, cells := 0, slots := 0, locals := 0 } : Room).cells ({ frames := 0, cells := 0, slots := 0, locals := 0 } : Room).slots) := by
  refine MetFree.of_bodySF (plainFor_of_name pn_com_example_driftline_driftline_learn_TreeNode) hisR ?_
  intro p e s m args below meth c s₁ Bd hml0 hP hK
  obtain ⟨rfl, hZ, hh⟩ := hP
  have hx := Bd.exec
  have hby := Bd.bytes
  have hml : c.maxLocals = 8 := hml0
  have hown : s.vm.findClass cS0 = some m.cls := findClass_of_methodNamed Bd.named
  have hnm := (name_of_methodNamed Bd.named Bd.method).1
  have X0 : Stand p l e ({ frames := 0, cells := 0, slots := 0, locals := 0 } : Room) s m #[(.ref r0)] below meth c s₁ [] 0 0 := Stand.of_body Bd
  have e0 : s₁.heap = h0 := by rw [← hh, Bd.state]; rfl
  have N0 := Fr.nil n0
  have k0 : ∀ t, OwnS p e below s₁ (mkF m 0 #[rv r0, .unset, .unset, .unset, .unset, .unset, .unset, .unset] []) t → OwnS p e below s₁ (entryFrame m #[(.ref r0)] 8) t := fun t k => castTop (ef_1 m r0) k
  obtain ⟨cl_z1, Ar_z1, q_z1, S_z1, N_z1, H_z1, G_z1⟩ := id V_r0
  have hin2 : ¬ ((0 : Int32) < 0 ∨ cl_z1.slots.size ≤ ((0 : Int32)).toNatClampNeg) := inb_of S_z1 ⟨by decide, by decide⟩
  have hin3 : ¬ ((1 : Int32) < 0 ∨ cl_z1.slots.size ≤ ((1 : Int32)).toNatClampNeg) := inb_of S_z1 ⟨by decide, by decide⟩
  have hin4 : ¬ ((2 : Int32) < 0 ∨ cl_z1.slots.size ≤ ((2 : Int32)).toNatClampNeg) := inb_of S_z1 ⟨by decide, by decide⟩
  obtain ⟨fs, hr, hrun, hended, hW, hsame⟩ := X0.leave (v := some (.double (FP.l2d ((((0 : Int64) + d0) + d1) + d2)))) (fun h => by rw [Bd.returns] at h; cases h)
  refine ⟨_, _, k0 _ ?_, hrun, hended, _, _, rfl, ?_, ⟨_, rfl⟩, hW, hsame.mono (by decide) (by decide)⟩
  · show OwnS p e below s₁ (mkF m 0 #[rv r0, .unset, .unset, .unset, .unset, .unset, .unset, .unset] []) _
    refine XS.dconst0 X0.here hx rfl (hb hby d1_0) (v := FP.l2d 0) l2d_zero.symm ?_
    show OwnS p e below s₁ (mkF m 1 #[rv r0, .unset, .unset, .unset, .unset, .unset, .unset, .unset] [(.double (FP.l2d (0 : Int64)))]) _
    refine XS.dstoreN X0.here hx rfl (hb hby d1_1) rfl (l' := #[rv r0, .val (.double (FP.l2d (0 : Int64))), .second, .unset, .unset, .unset, .unset, .unset]) rfl ?_
    show OwnS p e below s₁ (mkF m 2 #[rv r0, .val (.double (FP.l2d (0 : Int64))), .second, .unset, .unset, .unset, .unset, .unset] []) _
    refine XS.aloadN X0.here hx rfl (hb hby d1_2) rfl rfl ?_
    show OwnS p e below s₁ (mkF m 3 #[rv r0, .val (.double (FP.l2d (0 : Int64))), .second, .unset, .unset, .unset, .unset, .unset] [(.ref r0)]) _
    refine XS.astoreN X0.here hx rfl (hb hby d1_3) rfl rfl (l' := #[rv r0, .val (.double (FP.l2d (0 : Int64))), .second, rv r0, .unset, .unset, .unset, .unset]) rfl ?_
    show OwnS p e below s₁ (mkF m 4 #[rv r0, .val (.double (FP.l2d (0 : Int64))), .second, rv r0, .unset, .unset, .unset, .unset] []) _
    refine XS.aloadN X0.here hx rfl (hb hby d1_4) rfl rfl ?_
    show OwnS p e below s₁ (mkF m 5 #[rv r0, .val (.double (FP.l2d (0 : Int64))), .second, rv r0, .unset, .unset, .unset, .unset] [(.ref r0)]) _
    refine X0.arraylength hx (by rw [e0]; exact Ar_z1.1) (State.isArrayOf_alike hZ.alike Ar_z1.2.1) (g := (mkF m 5 #[rv r0, .val (.double (FP.l2d (0 : Int64))), .second, rv r0, .unset, .unset, .unset, .unset] [(.ref r0)])) rfl rfl (hb hby d1_5) _ ?_
    rw [len_of S_z1 N_z1]
    show OwnS p e below s₁ (mkF m 6 #[rv r0, .val (.double (FP.l2d (0 : Int64))), .second, rv r0, .unset, .unset, .unset, .unset] [(.int 3)]) _
    refine XS.istore X0.here hx rfl (hb hby d1_6) rfl (l' := #[rv r0, .val (.double (FP.l2d (0 : Int64))), .second, rv r0, iv 3, .unset, .unset, .unset]) rfl ?_
    show OwnS p e below s₁ (mkF m 8 #[rv r0, .val (.double (FP.l2d (0 : Int64))), .second, rv r0, iv 3, .unset, .unset, .unset] []) _
    refine XS.iconst X0.here hx rfl (hb hby d1_8) ?_
    show OwnS p e below s₁ (mkF m 9 #[rv r0, .val (.double (FP.l2d (0 : Int64))), .second, rv r0, iv 3, .unset, .unset, .unset] [(.int 0)]) _
    refine XS.istore X0.here hx rfl (hb hby d1_9) rfl (l' := #[rv r0, .val (.double (FP.l2d (0 : Int64))), .second, rv r0, iv 3, iv 0, .unset, .unset]) rfl ?_
    show OwnS p e below s₁ (mkF m 11 #[rv r0, .val (.double (FP.l2d (0 : Int64))), .second, rv r0, iv 3, iv 0, .unset, .unset] []) _
    refine XS.iload X0.here hx rfl (hb hby d1_11) rfl ?_
    show OwnS p e below s₁ (mkF m 13 #[rv r0, .val (.double (FP.l2d (0 : Int64))), .second, rv r0, iv 3, iv 0, .unset, .unset] [(.int 0)]) _
    refine XS.iload X0.here hx rfl (hb hby d1_13) rfl ?_
    show OwnS p e below s₁ (mkF m 15 #[rv r0, .val (.double (FP.l2d (0 : Int64))), .second, rv r0, iv 3, iv 0, .unset, .unset] [(.int 3), (.int 0)]) _
    refine XS.icmpNo X0.here hx rfl (hb hby d1_15) rfl (tlt (by decide : (0 : Int32) < (3 : Int32))).2.1 ?_
    show OwnS p e below s₁ (mkF m 18 #[rv r0, .val (.double (FP.l2d (0 : Int64))), .second, rv r0, iv 3, iv 0, .unset, .unset] []) _
    refine XS.aloadN X0.here hx rfl (hb hby d1_18) rfl rfl ?_
    show OwnS p e below s₁ (mkF m 19 #[rv r0, .val (.double (FP.l2d (0 : Int64))), .second, rv r0, iv 3, iv 0, .unset, .unset] [(.ref r0)]) _
    refine XS.iload X0.here hx rfl (hb hby d1_19) rfl ?_
    show OwnS p e below s₁ (mkF m 21 #[rv r0, .val (.double (FP.l2d (0 : Int64))), .second, rv r0, iv 3, iv 0, .unset, .unset] [(.int 0), (.ref r0)]) _
    refine X0.daload hx (j := (0 : Int32)) (v := (.double (FP.l2d d0))) (by rw [e0]; exact Ar_z1.1) (State.isArrayOf_alike hZ.alike Ar_z1.2.1) Ar_z1.2.2 hin2 (Has.at H_z1 hin2 rfl) (g := (mkF m 21 #[rv r0, .val (.double (FP.l2d (0 : Int64))), .second, rv r0, iv 3, iv 0, .unset, .unset] [(.int 0), (.ref r0)])) rfl rfl (hb hby d1_21) _ ?_
    show OwnS p e below s₁ (mkF m 22 #[rv r0, .val (.double (FP.l2d (0 : Int64))), .second, rv r0, iv 3, iv 0, .unset, .unset] [(.double (FP.l2d d0))]) _
    refine XS.dstore X0.here hx rfl (hb hby d1_22) rfl (l' := #[rv r0, .val (.double (FP.l2d (0 : Int64))), .second, rv r0, iv 3, iv 0, .val (.double (FP.l2d d0)), .second]) rfl ?_
    show OwnS p e below s₁ (mkF m 24 #[rv r0, .val (.double (FP.l2d (0 : Int64))), .second, rv r0, iv 3, iv 0, .val (.double (FP.l2d d0)), .second] []) _
    refine XS.dloadN X0.here hx rfl (hb hby d1_24) rfl ?_
    show OwnS p e below s₁ (mkF m 25 #[rv r0, .val (.double (FP.l2d (0 : Int64))), .second, rv r0, iv 3, iv 0, .val (.double (FP.l2d d0)), .second] [(.double (FP.l2d (0 : Int64)))]) _
    refine XS.dload X0.here hx rfl (hb hby d1_25) rfl ?_
    show OwnS p e below s₁ (mkF m 27 #[rv r0, .val (.double (FP.l2d (0 : Int64))), .second, rv r0, iv 3, iv 0, .val (.double (FP.l2d d0)), .second] [(.double (FP.l2d d0)), (.double (FP.l2d (0 : Int64)))]) _
    refine XS.daddS X0.here hx rfl (hb hby d1_27) rfl (nn_w (dadd_w b_3 b_0)) (dadd_w b_3 b_0) ?_
    show OwnS p e below s₁ (mkF m 28 #[rv r0, .val (.double (FP.l2d (0 : Int64))), .second, rv r0, iv 3, iv 0, .val (.double (FP.l2d d0)), .second] [(.double (FP.l2d ((0 : Int64) + d0)))]) _
    refine XS.dstoreN X0.here hx rfl (hb hby d1_28) rfl (l' := #[rv r0, .val (.double (FP.l2d ((0 : Int64) + d0))), .second, rv r0, iv 3, iv 0, .val (.double (FP.l2d d0)), .second]) rfl ?_
    show OwnS p e below s₁ (mkF m 29 #[rv r0, .val (.double (FP.l2d ((0 : Int64) + d0))), .second, rv r0, iv 3, iv 0, .val (.double (FP.l2d d0)), .second] []) _
    refine XS.iinc X0.here hx rfl (hb hby d1_29) rfl (l' := #[rv r0, .val (.double (FP.l2d ((0 : Int64) + d0))), .second, rv r0, iv 3, iv ((0 : Int32) + (1 : Int32)), .val (.double (FP.l2d d0)), .second]) rfl ?_
    show OwnS p e below s₁ (mkF m 32 #[rv r0, .val (.double (FP.l2d ((0 : Int64) + d0))), .second, rv r0, iv 3, iv ((0 : Int32) + (1 : Int32)), .val (.double (FP.l2d d0)), .second] []) _
    refine XS.goto X0.here hx rfl (pc0 := 32) (pc' := 11) rfl (hb hby d1_32) (by decide) (by decide) ?_
    show OwnS p e below s₁ (mkF m 11 #[rv r0, .val (.double (FP.l2d ((0 : Int64) + d0))), .second, rv r0, iv 3, iv ((0 : Int32) + (1 : Int32)), .val (.double (FP.l2d d0)), .second] []) _
    refine XS.iload X0.here hx rfl (hb hby d1_11) rfl ?_
    show OwnS p e below s₁ (mkF m 13 #[rv r0, .val (.double (FP.l2d ((0 : Int64) + d0))), .second, rv r0, iv 3, iv ((0 : Int32) + (1 : Int32)), .val (.double (FP.l2d d0)), .second] [(.int 1)]) _
    refine XS.iload X0.here hx rfl (hb hby d1_13) rfl ?_
    show OwnS p e below s₁ (mkF m 15 #[rv r0, .val (.double (FP.l2d ((0 : Int64) + d0))), .second, rv r0, iv 3, iv ((0 : Int32) + (1 : Int32)), .val (.double (FP.l2d d0)), .second] [(.int 3), (.int 1)]) _
    refine XS.icmpNo X0.here hx rfl (hb hby d1_15) rfl (tlt (by decide : (1 : Int32) < (3 : Int32))).2.1 ?_
    show OwnS p e below s₁ (mkF m 18 #[rv r0, .val (.double (FP.l2d ((0 : Int64) + d0))), .second, rv r0, iv 3, iv ((0 : Int32) + (1 : Int32)), .val (.double (FP.l2d d0)), .second] []) _
    refine XS.aloadN X0.here hx rfl (hb hby d1_18) rfl rfl ?_
    show OwnS p e below s₁ (mkF m 19 #[rv r0, .val (.double (FP.l2d ((0 : Int64) + d0))), .second, rv r0, iv 3, iv ((0 : Int32) + (1 : Int32)), .val (.double (FP.l2d d0)), .second] [(.ref r0)]) _
    refine XS.iload X0.here hx rfl (hb hby d1_19) rfl ?_
    show OwnS p e below s₁ (mkF m 21 #[rv r0, .val (.double (FP.l2d ((0 : Int64) + d0))), .second, rv r0, iv 3, iv ((0 : Int32) + (1 : Int32)), .val (.double (FP.l2d d0)), .second] [(.int 1), (.ref r0)]) _
    refine X0.daload hx (j := (1 : Int32)) (v := (.double (FP.l2d d1))) (by rw [e0]; exact Ar_z1.1) (State.isArrayOf_alike hZ.alike Ar_z1.2.1) Ar_z1.2.2 hin3 (Has.at H_z1 hin3 rfl) (g := (mkF m 21 #[rv r0, .val (.double (FP.l2d ((0 : Int64) + d0))), .second, rv r0, iv 3, iv ((0 : Int32) + (1 : Int32)), .val (.double (FP.l2d d0)), .second] [(.int 1), (.ref r0)])) rfl rfl (hb hby d1_21) _ ?_
    show OwnS p e below s₁ (mkF m 22 #[rv r0, .val (.double (FP.l2d ((0 : Int64) + d0))), .second, rv r0, iv 3, iv ((0 : Int32) + (1 : Int32)), .val (.double (FP.l2d d0)), .second] [(.double (FP.l2d d1))]) _
    refine XS.dstore X0.here hx rfl (hb hby d1_22) rfl (l' := #[rv r0, .val (.double (FP.l2d ((0 : Int64) + d0))), .second, rv r0, iv 3, iv ((0 : Int32) + (1 : Int32)), .val (.double (FP.l2d d1)), .second]) rfl ?_
    show OwnS p e below s₁ (mkF m 24 #[rv r0, .val (.double (FP.l2d ((0 : Int64) + d0))), .second, rv r0, iv 3, iv ((0 : Int32) + (1 : Int32)), .val (.double (FP.l2d d1)), .second] []) _
    refine XS.dloadN X0.here hx rfl (hb hby d1_24) rfl ?_
    show OwnS p e below s₁ (mkF m 25 #[rv r0, .val (.double (FP.l2d ((0 : Int64) + d0))), .second, rv r0, iv 3, iv ((0 : Int32) + (1 : Int32)), .val (.double (FP.l2d d1)), .second] [(.double (FP.l2d ((0 : Int64) + d0)))]) _
    refine XS.dload X0.here hx rfl (hb hby d1_25) rfl ?_
    show OwnS p e below s₁ (mkF m 27 #[rv r0, .val (.double (FP.l2d ((0 : Int64) + d0))), .second, rv r0, iv 3, iv ((0 : Int32) + (1 : Int32)), .val (.double (FP.l2d d1)), .second] [(.double (FP.l2d d1)), (.double (FP.l2d ((0 : Int64) + d0)))]) _
    refine XS.daddS X0.here hx rfl (hb hby d1_27) rfl (nn_w (dadd_w b_4 b_1)) (dadd_w b_4 b_1) ?_
    show OwnS p e below s₁ (mkF m 28 #[rv r0, .val (.double (FP.l2d ((0 : Int64) + d0))), .second, rv r0, iv 3, iv ((0 : Int32) + (1 : Int32)), .val (.double (FP.l2d d1)), .second] [(.double (FP.l2d (((0 : Int64) + d0) + d1)))]) _
    refine XS.dstoreN X0.here hx rfl (hb hby d1_28) rfl (l' := #[rv r0, .val (.double (FP.l2d (((0 : Int64) + d0) + d1))), .second, rv r0, iv 3, iv ((0 : Int32) + (1 : Int32)), .val (.double (FP.l2d d1)), .second]) rfl ?_
    show OwnS p e below s₁ (mkF m 29 #[rv r0, .val (.double (FP.l2d (((0 : Int64) + d0) + d1))), .second, rv r0, iv 3, iv ((0 : Int32) + (1 : Int32)), .val (.double (FP.l2d d1)), .second] []) _
    refine XS.iinc X0.here hx rfl (hb hby d1_29) rfl (l' := #[rv r0, .val (.double (FP.l2d (((0 : Int64) + d0) + d1))), .second, rv r0, iv 3, iv (((0 : Int32) + (1 : Int32)) + (1 : Int32)), .val (.double (FP.l2d d1)), .second]) rfl ?_
    show OwnS p e below s₁ (mkF m 32 #[rv r0, .val (.double (FP.l2d (((0 : Int64) + d0) + d1))), .second, rv r0, iv 3, iv (((0 : Int32) + (1 : Int32)) + (1 : Int32)), .val (.double (FP.l2d d1)), .second] []) _
    refine XS.goto X0.here hx rfl (pc0 := 32) (pc' := 11) rfl (hb hby d1_32) (by decide) (by decide) ?_
    show OwnS p e below s₁ (mkF m 11 #[rv r0, .val (.double (FP.l2d (((0 : Int64) + d0) + d1))), .second, rv r0, iv 3, iv (((0 : Int32) + (1 : Int32)) + (1 : Int32)), .val (.double (FP.l2d d1)), .second] []) _
    refine XS.iload X0.here hx rfl (hb hby d1_11) rfl ?_
    show OwnS p e below s₁ (mkF m 13 #[rv r0, .val (.double (FP.l2d (((0 : Int64) + d0) + d1))), .second, rv r0, iv 3, iv (((0 : Int32) + (1 : Int32)) + (1 : Int32)), .val (.double (FP.l2d d1)), .second] [(.int 2)]) _
    refine XS.iload X0.here hx rfl (hb hby d1_13) rfl ?_
    show OwnS p e below s₁ (mkF m 15 #[rv r0, .val (.double (FP.l2d (((0 : Int64) + d0) + d1))), .second, rv r0, iv 3, iv (((0 : Int32) + (1 : Int32)) + (1 : Int32)), .val (.double (FP.l2d d1)), .second] [(.int 3), (.int 2)]) _
    refine XS.icmpNo X0.here hx rfl (hb hby d1_15) rfl (tlt (by decide : (2 : Int32) < (3 : Int32))).2.1 ?_
    show OwnS p e below s₁ (mkF m 18 #[rv r0, .val (.double (FP.l2d (((0 : Int64) + d0) + d1))), .second, rv r0, iv 3, iv (((0 : Int32) + (1 : Int32)) + (1 : Int32)), .val (.double (FP.l2d d1)), .second] []) _
    refine XS.aloadN X0.here hx rfl (hb hby d1_18) rfl rfl ?_
    show OwnS p e below s₁ (mkF m 19 #[rv r0, .val (.double (FP.l2d (((0 : Int64) + d0) + d1))), .second, rv r0, iv 3, iv (((0 : Int32) + (1 : Int32)) + (1 : Int32)), .val (.double (FP.l2d d1)), .second] [(.ref r0)]) _
    refine XS.iload X0.here hx rfl (hb hby d1_19) rfl ?_
    show OwnS p e below s₁ (mkF m 21 #[rv r0, .val (.double (FP.l2d (((0 : Int64) + d0) + d1))), .second, rv r0, iv 3, iv (((0 : Int32) + (1 : Int32)) + (1 : Int32)), .val (.double (FP.l2d d1)), .second] [(.int 2), (.ref r0)]) _
    refine X0.daload hx (j := (2 : Int32)) (v := (.double (FP.l2d d2))) (by rw [e0]; exact Ar_z1.1) (State.isArrayOf_alike hZ.alike Ar_z1.2.1) Ar_z1.2.2 hin4 (Has.at H_z1 hin4 rfl) (g := (mkF m 21 #[rv r0, .val (.double (FP.l2d (((0 : Int64) + d0) + d1))), .second, rv r0, iv 3, iv (((0 : Int32) + (1 : Int32)) + (1 : Int32)), .val (.double (FP.l2d d1)), .second] [(.int 2), (.ref r0)])) rfl rfl (hb hby d1_21) _ ?_
    show OwnS p e below s₁ (mkF m 22 #[rv r0, .val (.double (FP.l2d (((0 : Int64) + d0) + d1))), .second, rv r0, iv 3, iv (((0 : Int32) + (1 : Int32)) + (1 : Int32)), .val (.double (FP.l2d d1)), .second] [(.double (FP.l2d d2))]) _
    refine XS.dstore X0.here hx rfl (hb hby d1_22) rfl (l' := #[rv r0, .val (.double (FP.l2d (((0 : Int64) + d0) + d1))), .second, rv r0, iv 3, iv (((0 : Int32) + (1 : Int32)) + (1 : Int32)), .val (.double (FP.l2d d2)), .second]) rfl ?_
    show OwnS p e below s₁ (mkF m 24 #[rv r0, .val (.double (FP.l2d (((0 : Int64) + d0) + d1))), .second, rv r0, iv 3, iv (((0 : Int32) + (1 : Int32)) + (1 : Int32)), .val (.double (FP.l2d d2)), .second] []) _
    refine XS.dloadN X0.here hx rfl (hb hby d1_24) rfl ?_
    show OwnS p e below s₁ (mkF m 25 #[rv r0, .val (.double (FP.l2d (((0 : Int64) + d0) + d1))), .second, rv r0, iv 3, iv (((0 : Int32) + (1 : Int32)) + (1 : Int32)), .val (.double (FP.l2d d2)), .second] [(.double (FP.l2d (((0 : Int64) + d0) + d1)))]) _
    refine XS.dload X0.here hx rfl (hb hby d1_25) rfl ?_
    show OwnS p e below s₁ (mkF m 27 #[rv r0, .val (.double (FP.l2d (((0 : Int64) + d0) + d1))), .second, rv r0, iv 3, iv (((0 : Int32) + (1 : Int32)) + (1 : Int32)), .val (.double (FP.l2d d2)), .second] [(.double (FP.l2d d2)), (.double (FP.l2d (((0 : Int64) + d0) + d1)))]) _
    refine XS.daddS X0.here hx rfl (hb hby d1_27) rfl (nn_w (dadd_w b_5 b_2)) (dadd_w b_5 b_2) ?_
    show OwnS p e below s₁ (mkF m 28 #[rv r0, .val (.double (FP.l2d (((0 : Int64) + d0) + d1))), .second, rv r0, iv 3, iv (((0 : Int32) + (1 : Int32)) + (1 : Int32)), .val (.double (FP.l2d d2)), .second] [(.double (FP.l2d ((((0 : Int64) + d0) + d1) + d2)))]) _
    refine XS.dstoreN X0.here hx rfl (hb hby d1_28) rfl (l' := #[rv r0, .val (.double (FP.l2d ((((0 : Int64) + d0) + d1) + d2))), .second, rv r0, iv 3, iv (((0 : Int32) + (1 : Int32)) + (1 : Int32)), .val (.double (FP.l2d d2)), .second]) rfl ?_
    show OwnS p e below s₁ (mkF m 29 #[rv r0, .val (.double (FP.l2d ((((0 : Int64) + d0) + d1) + d2))), .second, rv r0, iv 3, iv (((0 : Int32) + (1 : Int32)) + (1 : Int32)), .val (.double (FP.l2d d2)), .second] []) _
    refine XS.iinc X0.here hx rfl (hb hby d1_29) rfl (l' := #[rv r0, .val (.double (FP.l2d ((((0 : Int64) + d0) + d1) + d2))), .second, rv r0, iv 3, iv ((((0 : Int32) + (1 : Int32)) + (1 : Int32)) + (1 : Int32)), .val (.double (FP.l2d d2)), .second]) rfl ?_
    show OwnS p e below s₁ (mkF m 32 #[rv r0, .val (.double (FP.l2d ((((0 : Int64) + d0) + d1) + d2))), .second, rv r0, iv 3, iv ((((0 : Int32) + (1 : Int32)) + (1 : Int32)) + (1 : Int32)), .val (.double (FP.l2d d2)), .second] []) _
    refine XS.goto X0.here hx rfl (pc0 := 32) (pc' := 11) rfl (hb hby d1_32) (by decide) (by decide) ?_
    show OwnS p e below s₁ (mkF m 11 #[rv r0, .val (.double (FP.l2d ((((0 : Int64) + d0) + d1) + d2))), .second, rv r0, iv 3, iv ((((0 : Int32) + (1 : Int32)) + (1 : Int32)) + (1 : Int32)), .val (.double (FP.l2d d2)), .second] []) _
    refine XS.iload X0.here hx rfl (hb hby d1_11) rfl ?_
    show OwnS p e below s₁ (mkF m 13 #[rv r0, .val (.double (FP.l2d ((((0 : Int64) + d0) + d1) + d2))), .second, rv r0, iv 3, iv ((((0 : Int32) + (1 : Int32)) + (1 : Int32)) + (1 : Int32)), .val (.double (FP.l2d d2)), .second] [(.int 3)]) _
    refine XS.iload X0.here hx rfl (hb hby d1_13) rfl ?_
    show OwnS p e below s₁ (mkF m 15 #[rv r0, .val (.double (FP.l2d ((((0 : Int64) + d0) + d1) + d2))), .second, rv r0, iv 3, iv ((((0 : Int32) + (1 : Int32)) + (1 : Int32)) + (1 : Int32)), .val (.double (FP.l2d d2)), .second] [(.int 3), (.int 3)]) _
    refine XS.icmpYes X0.here hx rfl (pc0 := 15) (pc' := 35) rfl (hb hby d1_15) rfl (flt (by decide : ¬ ((3 : Int32) < (3 : Int32)))).2.1 (by decide) (by decide) ?_
    show OwnS p e below s₁ (mkF m 35 #[rv r0, .val (.double (FP.l2d ((((0 : Int64) + d0) + d1) + d2))), .second, rv r0, iv 3, iv ((((0 : Int32) + (1 : Int32)) + (1 : Int32)) + (1 : Int32)), .val (.double (FP.l2d d2)), .second] []) _
    refine XS.dloadN X0.here hx rfl (hb hby d1_35) rfl ?_
    show OwnS p e below s₁ (mkF m 36 #[rv r0, .val (.double (FP.l2d ((((0 : Int64) + d0) + d1) + d2))), .second, rv r0, iv 3, iv ((((0 : Int32) + (1 : Int32)) + (1 : Int32)) + (1 : Int32)), .val (.double (FP.l2d d2)), .second] [(.double (FP.l2d ((((0 : Int64) + d0) + d1) + d2)))]) _
    exact retD X0 hx Bd.returns (hb hby d1_36) hr
  · show Q_1_3 Z r0 kA d0 d1 d2 h0 n0 _ s₁.heap _
    rw [e0]
    exact ⟨rfl, N0, rfl⟩
def Q_1_4 (Z : State) (r0 : Addr) (kA : ClassId) (d0 : Int64) (d1 : Int64) (d2 : Int64) (d3 : Int64) (h0 : Heap) (n0 : Nat) (v : Option Value) (h : Heap) (L : List Loc) : Prop := v = some (.double (FP.l2d (((((0 : Int64) + d0) + d1) + d2) + d3))) ∧ Fr n0 L ∧ h = h0
set_option maxRecDepth 65536 in
set_option maxHeartbeats 40000000 in
theorem rm1_4 (l : Launch) (Z : State) (a0 : Array Value) (hw : ∀ d ∈ tables_1, d.before a0 Z = true) (ws : List Jvm.Cond) (r0 : Addr) (kA : ClassId) (d0 : Int64) (d1 : Int64) (d2 : Int64) (d3 : Int64) (h0 : Heap) (n0 : Nat) (Z0 : n0 ≤ h0.size) (V_r0 : Arv Z h0 r0 kA .double (4 : Int32) [(.double (FP.l2d d0)), (.double (FP.l2d d1)), (.double (FP.l2d d2)), (.double (FP.l2d d3))] (.double (FP.l2d (0 : Int64)))) (b_0 : B53 d0) (b_1 : B53 d1) (b_2 : B53 d2) (b_3 : B53 d3) (b_4 : B53 (0 : Int64)) (b_5 : B53 ((0 : Int64) + d0)) (b_6 : B53 (((0 : Int64) + d0) + d1)) (b_7 : B53 ((((0 : Int64) + d0) + d1) + d2)) :
    MetFree l (⟨cS0, "total", "([D)D"⟩ : MethodName) (head1 (Jvm.Cond.code (⟨cS0, "total", "([D)D"⟩ : MethodName) prog_56_method_10_code 8 (some .double) :: ws) ({ frames := 0, cells := 0, slots := 0, locals := 0 } : Room)) (fun a U => a = #[(.ref r0)] ∧ Z.Warmed39 U.vm ∧ U.heap = h0) (fun _ _ _ _ _ => True) (fun _ U o U' => ∃ v L, o = .returned v ∧ Q_1_4 Z r0 kA d0 d1 d2 d3 h0 n0 v U'.heap L ∧ FrameEnd U o U' L ({ frames := 0, cells := 0, slots := 0, locals := 0 } : Room).cells ({ frames := 0, cells := 0, slots := 0, locals := 0 } : Room).slots) := by
  refine MetFree.of_bodySF (plainFor_of_name pn_com_example_driftline_driftline_learn_TreeNode) hisR ?_
  intro p e s m args below meth c s₁ Bd hml0 hP hK
  obtain ⟨rfl, hZ, hh⟩ := hP
  have hx := Bd.exec
  have hby := Bd.bytes
  have hml : c.maxLocals = 8 := hml0
  have hown : s.vm.findClass cS0 = some m.cls := findClass_of_methodNamed Bd.named
  have hnm := (name_of_methodNamed Bd.named Bd.method).1
  have X0 : Stand p l e ({ frames := 0, cells := 0, slots := 0, locals := 0 } : Room) s m #[(.ref r0)] below meth c s₁ [] 0 0 := Stand.of_body Bd
  have e0 : s₁.heap = h0 := by rw [← hh, Bd.state]; rfl
  have N0 := Fr.nil n0
  have k0 : ∀ t, OwnS p e below s₁ (mkF m 0 #[rv r0, .unset, .unset, .unset, .unset, .unset, .unset, .unset] []) t → OwnS p e below s₁ (entryFrame m #[(.ref r0)] 8) t := fun t k => castTop (ef_1 m r0) k
  obtain ⟨cl_z1, Ar_z1, q_z1, S_z1, N_z1, H_z1, G_z1⟩ := id V_r0
  have hin2 : ¬ ((0 : Int32) < 0 ∨ cl_z1.slots.size ≤ ((0 : Int32)).toNatClampNeg) := inb_of S_z1 ⟨by decide, by decide⟩
  have hin3 : ¬ ((1 : Int32) < 0 ∨ cl_z1.slots.size ≤ ((1 : Int32)).toNatClampNeg) := inb_of S_z1 ⟨by decide, by decide⟩
  have hin4 : ¬ ((2 : Int32) < 0 ∨ cl_z1.slots.size ≤ ((2 : Int32)).toNatClampNeg) := inb_of S_z1 ⟨by decide, by decide⟩
  have hin5 : ¬ ((3 : Int32) < 0 ∨ cl_z1.slots.size ≤ ((3 : Int32)).toNatClampNeg) := inb_of S_z1 ⟨by decide, by decide⟩
  obtain ⟨fs, hr, hrun, hended, hW, hsame⟩ := X0.leave (v := some (.double (FP.l2d (((((0 : Int64) + d0) + d1) + d2) + d3)))) (fun h => by rw [Bd.returns] at h; cases h)
  refine ⟨_, _, k0 _ ?_, hrun, hended, _, _, rfl, ?_, ⟨_, rfl⟩, hW, hsame.mono (by decide) (by decide)⟩
  · show OwnS p e below s₁ (mkF m 0 #[rv r0, .unset, .unset, .unset, .unset, .unset, .unset, .unset] []) _
    refine XS.dconst0 X0.here hx rfl (hb hby d1_0) (v := FP.l2d 0) l2d_zero.symm ?_
    show OwnS p e below s₁ (mkF m 1 #[rv r0, .unset, .unset, .unset, .unset, .unset, .unset, .unset] [(.double (FP.l2d (0 : Int64)))]) _
    refine XS.dstoreN X0.here hx rfl (hb hby d1_1) rfl (l' := #[rv r0, .val (.double (FP.l2d (0 : Int64))), .second, .unset, .unset, .unset, .unset, .unset]) rfl ?_
    show OwnS p e below s₁ (mkF m 2 #[rv r0, .val (.double (FP.l2d (0 : Int64))), .second, .unset, .unset, .unset, .unset, .unset] []) _
    refine XS.aloadN X0.here hx rfl (hb hby d1_2) rfl rfl ?_
    show OwnS p e below s₁ (mkF m 3 #[rv r0, .val (.double (FP.l2d (0 : Int64))), .second, .unset, .unset, .unset, .unset, .unset] [(.ref r0)]) _
    refine XS.astoreN X0.here hx rfl (hb hby d1_3) rfl rfl (l' := #[rv r0, .val (.double (FP.l2d (0 : Int64))), .second, rv r0, .unset, .unset, .unset, .unset]) rfl ?_
    show OwnS p e below s₁ (mkF m 4 #[rv r0, .val (.double (FP.l2d (0 : Int64))), .second, rv r0, .unset, .unset, .unset, .unset] []) _
    refine XS.aloadN X0.here hx rfl (hb hby d1_4) rfl rfl ?_
    show OwnS p e below s₁ (mkF m 5 #[rv r0, .val (.double (FP.l2d (0 : Int64))), .second, rv r0, .unset, .unset, .unset, .unset] [(.ref r0)]) _
    refine X0.arraylength hx (by rw [e0]; exact Ar_z1.1) (State.isArrayOf_alike hZ.alike Ar_z1.2.1) (g := (mkF m 5 #[rv r0, .val (.double (FP.l2d (0 : Int64))), .second, rv r0, .unset, .unset, .unset, .unset] [(.ref r0)])) rfl rfl (hb hby d1_5) _ ?_
    rw [len_of S_z1 N_z1]
    show OwnS p e below s₁ (mkF m 6 #[rv r0, .val (.double (FP.l2d (0 : Int64))), .second, rv r0, .unset, .unset, .unset, .unset] [(.int 4)]) _
    refine XS.istore X0.here hx rfl (hb hby d1_6) rfl (l' := #[rv r0, .val (.double (FP.l2d (0 : Int64))), .second, rv r0, iv 4, .unset, .unset, .unset]) rfl ?_
    show OwnS p e below s₁ (mkF m 8 #[rv r0, .val (.double (FP.l2d (0 : Int64))), .second, rv r0, iv 4, .unset, .unset, .unset] []) _
    refine XS.iconst X0.here hx rfl (hb hby d1_8) ?_
    show OwnS p e below s₁ (mkF m 9 #[rv r0, .val (.double (FP.l2d (0 : Int64))), .second, rv r0, iv 4, .unset, .unset, .unset] [(.int 0)]) _
    refine XS.istore X0.here hx rfl (hb hby d1_9) rfl (l' := #[rv r0, .val (.double (FP.l2d (0 : Int64))), .second, rv r0, iv 4, iv 0, .unset, .unset]) rfl ?_
    show OwnS p e below s₁ (mkF m 11 #[rv r0, .val (.double (FP.l2d (0 : Int64))), .second, rv r0, iv 4, iv 0, .unset, .unset] []) _
    refine XS.iload X0.here hx rfl (hb hby d1_11) rfl ?_
    show OwnS p e below s₁ (mkF m 13 #[rv r0, .val (.double (FP.l2d (0 : Int64))), .second, rv r0, iv 4, iv 0, .unset, .unset] [(.int 0)]) _
    refine XS.iload X0.here hx rfl (hb hby d1_13) rfl ?_
    show OwnS p e below s₁ (mkF m 15 #[rv r0, .val (.double (FP.l2d (0 : Int64))), .second, rv r0, iv 4, iv 0, .unset, .unset] [(.int 4), (.int 0)]) _
    refine XS.icmpNo X0.here hx rfl (hb hby d1_15) rfl (tlt (by decide : (0 : Int32) < (4 : Int32))).2.1 ?_
    show OwnS p e below s₁ (mkF m 18 #[rv r0, .val (.double (FP.l2d (0 : Int64))), .second, rv r0, iv 4, iv 0, .unset, .unset] []) _
    refine XS.aloadN X0.here hx rfl (hb hby d1_18) rfl rfl ?_
    show OwnS p e below s₁ (mkF m 19 #[rv r0, .val (.double (FP.l2d (0 : Int64))), .second, rv r0, iv 4, iv 0, .unset, .unset] [(.ref r0)]) _
    refine XS.iload X0.here hx rfl (hb hby d1_19) rfl ?_
    show OwnS p e below s₁ (mkF m 21 #[rv r0, .val (.double (FP.l2d (0 : Int64))), .second, rv r0, iv 4, iv 0, .unset, .unset] [(.int 0), (.ref r0)]) _
    refine X0.daload hx (j := (0 : Int32)) (v := (.double (FP.l2d d0))) (by rw [e0]; exact Ar_z1.1) (State.isArrayOf_alike hZ.alike Ar_z1.2.1) Ar_z1.2.2 hin2 (Has.at H_z1 hin2 rfl) (g := (mkF m 21 #[rv r0, .val (.double (FP.l2d (0 : Int64))), .second, rv r0, iv 4, iv 0, .unset, .unset] [(.int 0), (.ref r0)])) rfl rfl (hb hby d1_21) _ ?_
    show OwnS p e below s₁ (mkF m 22 #[rv r0, .val (.double (FP.l2d (0 : Int64))), .second, rv r0, iv 4, iv 0, .unset, .unset] [(.double (FP.l2d d0))]) _
    refine XS.dstore X0.here hx rfl (hb hby d1_22) rfl (l' := #[rv r0, .val (.double (FP.l2d (0 : Int64))), .second, rv r0, iv 4, iv 0, .val (.double (FP.l2d d0)), .second]) rfl ?_
    show OwnS p e below s₁ (mkF m 24 #[rv r0, .val (.double (FP.l2d (0 : Int64))), .second, rv r0, iv 4, iv 0, .val (.double (FP.l2d d0)), .second] []) _
    refine XS.dloadN X0.here hx rfl (hb hby d1_24) rfl ?_
    show OwnS p e below s₁ (mkF m 25 #[rv r0, .val (.double (FP.l2d (0 : Int64))), .second, rv r0, iv 4, iv 0, .val (.double (FP.l2d d0)), .second] [(.double (FP.l2d (0 : Int64)))]) _
    refine XS.dload X0.here hx rfl (hb hby d1_25) rfl ?_
    show OwnS p e below s₁ (mkF m 27 #[rv r0, .val (.double (FP.l2d (0 : Int64))), .second, rv r0, iv 4, iv 0, .val (.double (FP.l2d d0)), .second] [(.double (FP.l2d d0)), (.double (FP.l2d (0 : Int64)))]) _
    refine XS.daddS X0.here hx rfl (hb hby d1_27) rfl (nn_w (dadd_w b_4 b_0)) (dadd_w b_4 b_0) ?_
    show OwnS p e below s₁ (mkF m 28 #[rv r0, .val (.double (FP.l2d (0 : Int64))), .second, rv r0, iv 4, iv 0, .val (.double (FP.l2d d0)), .second] [(.double (FP.l2d ((0 : Int64) + d0)))]) _
    refine XS.dstoreN X0.here hx rfl (hb hby d1_28) rfl (l' := #[rv r0, .val (.double (FP.l2d ((0 : Int64) + d0))), .second, rv r0, iv 4, iv 0, .val (.double (FP.l2d d0)), .second]) rfl ?_
    show OwnS p e below s₁ (mkF m 29 #[rv r0, .val (.double (FP.l2d ((0 : Int64) + d0))), .second, rv r0, iv 4, iv 0, .val (.double (FP.l2d d0)), .second] []) _
    refine XS.iinc X0.here hx rfl (hb hby d1_29) rfl (l' := #[rv r0, .val (.double (FP.l2d ((0 : Int64) + d0))), .second, rv r0, iv 4, iv ((0 : Int32) + (1 : Int32)), .val (.double (FP.l2d d0)), .second]) rfl ?_
    show OwnS p e below s₁ (mkF m 32 #[rv r0, .val (.double (FP.l2d ((0 : Int64) + d0))), .second, rv r0, iv 4, iv ((0 : Int32) + (1 : Int32)), .val (.double (FP.l2d d0)), .second] []) _
    refine XS.goto X0.here hx rfl (pc0 := 32) (pc' := 11) rfl (hb hby d1_32) (by decide) (by decide) ?_
    show OwnS p e below s₁ (mkF m 11 #[rv r0, .val (.double (FP.l2d ((0 : Int64) + d0))), .second, rv r0, iv 4, iv ((0 : Int32) + (1 : Int32)), .val (.double (FP.l2d d0)), .second] []) _
    refine XS.iload X0.here hx rfl (hb hby d1_11) rfl ?_
    show OwnS p e below s₁ (mkF m 13 #[rv r0, .val (.double (FP.l2d ((0 : Int64) + d0))), .second, rv r0, iv 4, iv ((0 : Int32) + (1 : Int32)), .val (.double (FP.l2d d0)), .second] [(.int 1)]) _
    refine XS.iload X0.here hx rfl (hb hby d1_13) rfl ?_
    show OwnS p e below s₁ (mkF m 15 #[rv r0, .val (.double (FP.l2d ((0 : Int64) + d0))), .second, rv r0, iv 4, iv ((0 : Int32) + (1 : Int32)), .val (.double (FP.l2d d0)), .second] [(.int 4), (.int 1)]) _
    refine XS.icmpNo X0.here hx rfl (hb hby d1_15) rfl (tlt (by decide : (1 : Int32) < (4 : Int32))).2.1 ?_
    show OwnS p e below s₁ (mkF m 18 #[rv r0, .val (.double (FP.l2d ((0 : Int64) + d0))), .second, rv r0, iv 4, iv ((0 : Int32) + (1 : Int32)), .val (.double (FP.l2d d0)), .second] []) _
    refine XS.aloadN X0.here hx rfl (hb hby d1_18) rfl rfl ?_
    show OwnS p e below s₁ (mkF m 19 #[rv r0, .val (.double (FP.l2d ((0 : Int64) + d0))), .second, rv r0, iv 4, iv ((0 : Int32) + (1 : Int32)), .val (.double (FP.l2d d0)), .second] [(.ref r0)]) _
    refine XS.iload X0.here hx rfl (hb hby d1_19) rfl ?_
    show OwnS p e below s₁ (mkF m 21 #[rv r0, .val (.double (FP.l2d ((0 : Int64) + d0))), .second, rv r0, iv 4, iv ((0 : Int32) + (1 : Int32)), .val (.double (FP.l2d d0)), .second] [(.int 1), (.ref r0)]) _
    refine X0.daload hx (j := (1 : Int32)) (v := (.double (FP.l2d d1))) (by rw [e0]; exact Ar_z1.1) (State.isArrayOf_alike hZ.alike Ar_z1.2.1) Ar_z1.2.2 hin3 (Has.at H_z1 hin3 rfl) (g := (mkF m 21 #[rv r0, .val (.double (FP.l2d ((0 : Int64) + d0))), .second, rv r0, iv 4, iv ((0 : Int32) + (1 : Int32)), .val (.double (FP.l2d d0)), .second] [(.int 1), (.ref r0)])) rfl rfl (hb hby d1_21) _ ?_
    show OwnS p e below s₁ (mkF m 22 #[rv r0, .val (.double (FP.l2d ((0 : Int64) + d0))), .second, rv r0, iv 4, iv ((0 : Int32) + (1 : Int32)), .val (.double (FP.l2d d0)), .second] [(.double (FP.l2d d1))]) _
    refine XS.dstore X0.here hx rfl (hb hby d1_22) rfl (l' := #[rv r0, .val (.double (FP.l2d ((0 : Int64) + d0))), .second, rv r0, iv 4, iv ((0 : Int32) + (1 : Int32)), .val (.double (FP.l2d d1)), .second]) rfl ?_
    show OwnS p e below s₁ (mkF m 24 #[rv r0, .val (.double (FP.l2d ((0 : Int64) + d0))), .second, rv r0, iv 4, iv ((0 : Int32) + (1 : Int32)), .val (.double (FP.l2d d1)), .second] []) _
    refine XS.dloadN X0.here hx rfl (hb hby d1_24) rfl ?_
    show OwnS p e below s₁ (mkF m 25 #[rv r0, .val (.double (FP.l2d ((0 : Int64) + d0))), .second, rv r0, iv 4, iv ((0 : Int32) + (1 : Int32)), .val (.double (FP.l2d d1)), .second] [(.double (FP.l2d ((0 : Int64) + d0)))]) _
    refine XS.dload X0.here hx rfl (hb hby d1_25) rfl ?_
    show OwnS p e below s₁ (mkF m 27 #[rv r0, .val (.double (FP.l2d ((0 : Int64) + d0))), .second, rv r0, iv 4, iv ((0 : Int32) + (1 : Int32)), .val (.double (FP.l2d d1)), .second] [(.double (FP.l2d d1)), (.double (FP.l2d ((0 : Int64) + d0)))]) _
    refine XS.daddS X0.here hx rfl (hb hby d1_27) rfl (nn_w (dadd_w b_5 b_1)) (dadd_w b_5 b_1) ?_
    show OwnS p e below s₁ (mkF m 28 #[rv r0, .val (.double (FP.l2d ((0 : Int64) + d0))), .second, rv r0, iv 4, iv ((0 : Int32) + (1 : Int32)), .val (.double (FP.l2d d1)), .second] [(.double (FP.l2d (((0 : Int64) + d0) + d1)))]) _
    refine XS.dstoreN X0.here hx rfl (hb hby d1_28) rfl (l' := #[rv r0, .val (.double (FP.l2d (((0 : Int64) + d0) + d1))), .second, rv r0, iv 4, iv ((0 : Int32) + (1 : Int32)), .val (.double (FP.l2d d1)), .second]) rfl ?_
    show OwnS p e below s₁ (mkF m 29 #[rv r0, .val (.double (FP.l2d (((0 : Int64) + d0) + d1))), .second, rv r0, iv 4, iv ((0 : Int32) + (1 : Int32)), .val (.double (FP.l2d d1)), .second] []) _
    refine XS.iinc X0.here hx rfl (hb hby d1_29) rfl (l' := #[rv r0, .val (.double (FP.l2d (((0 : Int64) + d0) + d1))), .second, rv r0, iv 4, iv (((0 : Int32) + (1 : Int32)) + (1 : Int32)), .val (.double (FP.l2d d1)), .second]) rfl ?_
    show OwnS p e below s₁ (mkF m 32 #[rv r0, .val (.double (FP.l2d (((0 : Int64) + d0) + d1))), .second, rv r0, iv 4, iv (((0 : Int32) + (1 : Int32)) + (1 : Int32)), .val (.double (FP.l2d d1)), .second] []) _
    refine XS.goto X0.here hx rfl (pc0 := 32) (pc' := 11) rfl (hb hby d1_32) (by decide) (by decide) ?_
    show OwnS p e below s₁ (mkF m 11 #[rv r0, .val (.double (FP.l2d (((0 : Int64) + d0) + d1))), .second, rv r0, iv 4, iv (((0 : Int32) + (1 : Int32)) + (1 : Int32)), .val (.double (FP.l2d d1)), .second] []) _
    refine XS.iload X0.here hx rfl (hb hby d1_11) rfl ?_
    show OwnS p e below s₁ (mkF m 13 #[rv r0, .val (.double (FP.l2d (((0 : Int64) + d0) + d1))), .second, rv r0, iv 4, iv (((0 : Int32) + (1 : Int32)) + (1 : Int32)), .val (.double (FP.l2d d1)), .second] [(.int 2)]) _
    refine XS.iload X0.here hx rfl (hb hby d1_13) rfl ?_
    show OwnS p e below s₁ (mkF m 15 #[rv r0, .val (.double (FP.l2d (((0 : Int64) + d0) + d1))), .second, rv r0, iv 4, iv (((0 : Int32) + (1 : Int32)) + (1 : Int32)), .val (.double (FP.l2d d1)), .second] [(.int 4), (.int 2)]) _
    refine XS.icmpNo X0.here hx rfl (hb hby d1_15) rfl (tlt (by decide : (2 : Int32) < (4 : Int32))).2.1 ?_
    show OwnS p e below s₁ (mkF m 18 #[rv r0, .val (.double (FP.l2d (((0 : Int64) + d0) + d1))), .second, rv r0, iv 4, iv (((0 : Int32) + (1 : Int32)) + (1 : Int32)), .val (.double (FP.l2d d1)), .second] []) _
    refine XS.aloadN X0.here hx rfl (hb hby d1_18) rfl rfl ?_
    show OwnS p e below s₁ (mkF m 19 #[rv r0, .val (.double (FP.l2d (((0 : Int64) + d0) + d1))), .second, rv r0, iv 4, iv (((0 : Int32) + (1 : Int32)) + (1 : Int32)), .val (.double (FP.l2d d1)), .second] [(.ref r0)]) _
    refine XS.iload X0.here hx rfl (hb hby d1_19) rfl ?_
    show OwnS p e below s₁ (mkF m 21 #[rv r0, .val (.double (FP.l2d (((0 : Int64) + d0) + d1))), .second, rv r0, iv 4, iv (((0 : Int32) + (1 : Int32)) + (1 : Int32)), .val (.double (FP.l2d d1)), .second] [(.int 2), (.ref r0)]) _
    refine X0.daload hx (j := (2 : Int32)) (v := (.double (FP.l2d d2))) (by rw [e0]; exact Ar_z1.1) (State.isArrayOf_alike hZ.alike Ar_z1.2.1) Ar_z1.2.2 hin4 (Has.at H_z1 hin4 rfl) (g := (mkF m 21 #[rv r0, .val (.double (FP.l2d (((0 : Int64) + d0) + d1))), .second, rv r0, iv 4, iv (((0 : Int32) + (1 : Int32)) + (1 : Int32)), .val (.double (FP.l2d d1)), .second] [(.int 2), (.ref r0)])) rfl rfl (hb hby d1_21) _ ?_
    show OwnS p e below s₁ (mkF m 22 #[rv r0, .val (.double (FP.l2d (((0 : Int64) + d0) + d1))), .second, rv r0, iv 4, iv (((0 : Int32) + (1 : Int32)) + (1 : Int32)), .val (.double (FP.l2d d1)), .second] [(.double (FP.l2d d2))]) _
    refine XS.dstore X0.here hx rfl (hb hby d1_22) rfl (l' := #[rv r0, .val (.double (FP.l2d (((0 : Int64) + d0) + d1))), .second, rv r0, iv 4, iv (((0 : Int32) + (1 : Int32)) + (1 : Int32)), .val (.double (FP.l2d d2)), .second]) rfl ?_
    show OwnS p e below s₁ (mkF m 24 #[rv r0, .val (.double (FP.l2d (((0 : Int64) + d0) + d1))), .second, rv r0, iv 4, iv (((0 : Int32) + (1 : Int32)) + (1 : Int32)), .val (.double (FP.l2d d2)), .second] []) _
    refine XS.dloadN X0.here hx rfl (hb hby d1_24) rfl ?_
    show OwnS p e below s₁ (mkF m 25 #[rv r0, .val (.double (FP.l2d (((0 : Int64) + d0) + d1))), .second, rv r0, iv 4, iv (((0 : Int32) + (1 : Int32)) + (1 : Int32)), .val (.double (FP.l2d d2)), .second] [(.double (FP.l2d (((0 : Int64) + d0) + d1)))]) _
    refine XS.dload X0.here hx rfl (hb hby d1_25) rfl ?_
    show OwnS p e below s₁ (mkF m 27 #[rv r0, .val (.double (FP.l2d (((0 : Int64) + d0) + d1))), .second, rv r0, iv 4, iv (((0 : Int32) + (1 : Int32)) + (1 : Int32)), .val (.double (FP.l2d d2)), .second] [(.double (FP.l2d d2)), (.double (FP.l2d (((0 : Int64) + d0) + d1)))]) _
    refine XS.daddS X0.here hx rfl (hb hby d1_27) rfl (nn_w (dadd_w b_6 b_2)) (dadd_w b_6 b_2) ?_
    show OwnS p e below s₁ (mkF m 28 #[rv r0, .val (.double (FP.l2d (((0 : Int64) + d0) + d1))), .second, rv r0, iv 4, iv (((0 : Int32) + (1 : Int32)) + (1 : Int32)), .val (.double (FP.l2d d2)), .second] [(.double (FP.l2d ((((0 : Int64) + d0) + d1) + d2)))]) _
    refine XS.dstoreN X0.here hx rfl (hb hby d1_28) rfl (l' := #[rv r0, .val (.double (FP.l2d ((((0 : Int64) + d0) + d1) + d2))), .second, rv r0, iv 4, iv (((0 : Int32) + (1 : Int32)) + (1 : Int32)), .val (.double (FP.l2d d2)), .second]) rfl ?_
    show OwnS p e below s₁ (mkF m 29 #[rv r0, .val (.double (FP.l2d ((((0 : Int64) + d0) + d1) + d2))), .second, rv r0, iv 4, iv (((0 : Int32) + (1 : Int32)) + (1 : Int32)), .val (.double (FP.l2d d2)), .second] []) _
    refine XS.iinc X0.here hx rfl (hb hby d1_29) rfl (l' := #[rv r0, .val (.double (FP.l2d ((((0 : Int64) + d0) + d1) + d2))), .second, rv r0, iv 4, iv ((((0 : Int32) + (1 : Int32)) + (1 : Int32)) + (1 : Int32)), .val (.double (FP.l2d d2)), .second]) rfl ?_
    show OwnS p e below s₁ (mkF m 32 #[rv r0, .val (.double (FP.l2d ((((0 : Int64) + d0) + d1) + d2))), .second, rv r0, iv 4, iv ((((0 : Int32) + (1 : Int32)) + (1 : Int32)) + (1 : Int32)), .val (.double (FP.l2d d2)), .second] []) _
    refine XS.goto X0.here hx rfl (pc0 := 32) (pc' := 11) rfl (hb hby d1_32) (by decide) (by decide) ?_
    show OwnS p e below s₁ (mkF m 11 #[rv r0, .val (.double (FP.l2d ((((0 : Int64) + d0) + d1) + d2))), .second, rv r0, iv 4, iv ((((0 : Int32) + (1 : Int32)) + (1 : Int32)) + (1 : Int32)), .val (.double (FP.l2d d2)), .second] []) _
    refine XS.iload X0.here hx rfl (hb hby d1_11) rfl ?_
    show OwnS p e below s₁ (mkF m 13 #[rv r0, .val (.double (FP.l2d ((((0 : Int64) + d0) + d1) + d2))), .second, rv r0, iv 4, iv ((((0 : Int32) + (1 : Int32)) + (1 : Int32)) + (1 : Int32)), .val (.double (FP.l2d d2)), .second] [(.int 3)]) _
    refine XS.iload X0.here hx rfl (hb hby d1_13) rfl ?_
    show OwnS p e below s₁ (mkF m 15 #[rv r0, .val (.double (FP.l2d ((((0 : Int64) + d0) + d1) + d2))), .second, rv r0, iv 4, iv ((((0 : Int32) + (1 : Int32)) + (1 : Int32)) + (1 : Int32)), .val (.double (FP.l2d d2)), .second] [(.int 4), (.int 3)]) _
    refine XS.icmpNo X0.here hx rfl (hb hby d1_15) rfl (tlt (by decide : (3 : Int32) < (4 : Int32))).2.1 ?_
    show OwnS p e below s₁ (mkF m 18 #[rv r0, .val (.double (FP.l2d ((((0 : Int64) + d0) + d1) + d2))), .second, rv r0, iv 4, iv ((((0 : Int32) + (1 : Int32)) + (1 : Int32)) + (1 : Int32)), .val (.double (FP.l2d d2)), .second] []) _
    refine XS.aloadN X0.here hx rfl (hb hby d1_18) rfl rfl ?_
    show OwnS p e below s₁ (mkF m 19 #[rv r0, .val (.double (FP.l2d ((((0 : Int64) + d0) + d1) + d2))), .second, rv r0, iv 4, iv ((((0 : Int32) + (1 : Int32)) + (1 : Int32)) + (1 : Int32)), .val (.double (FP.l2d d2)), .second] [(.ref r0)]) _
    refine XS.iload X0.here hx rfl (hb hby d1_19) rfl ?_
    show OwnS p e below s₁ (mkF m 21 #[rv r0, .val (.double (FP.l2d ((((0 : Int64) + d0) + d1) + d2))), .second, rv r0, iv 4, iv ((((0 : Int32) + (1 : Int32)) + (1 : Int32)) + (1 : Int32)), .val (.double (FP.l2d d2)), .second] [(.int 3), (.ref r0)]) _
    refine X0.daload hx (j := (3 : Int32)) (v := (.double (FP.l2d d3))) (by rw [e0]; exact Ar_z1.1) (State.isArrayOf_alike hZ.alike Ar_z1.2.1) Ar_z1.2.2 hin5 (Has.at H_z1 hin5 rfl) (g := (mkF m 21 #[rv r0, .val (.double (FP.l2d ((((0 : Int64) + d0) + d1) + d2))), .second, rv r0, iv 4, iv ((((0 : Int32) + (1 : Int32)) + (1 : Int32)) + (1 : Int32)), .val (.double (FP.l2d d2)), .second] [(.int 3), (.ref r0)])) rfl rfl (hb hby d1_21) _ ?_
    show OwnS p e below s₁ (mkF m 22 #[rv r0, .val (.double (FP.l2d ((((0 : Int64) + d0) + d1) + d2))), .second, rv r0, iv 4, iv ((((0 : Int32) + (1 : Int32)) + (1 : Int32)) + (1 : Int32)), .val (.double (FP.l2d d2)), .second] [(.double (FP.l2d d3))]) _
    refine XS.dstore X0.here hx rfl (hb hby d1_22) rfl (l' := #[rv r0, .val (.double (FP.l2d ((((0 : Int64) + d0) + d1) + d2))), .second, rv r0, iv 4, iv ((((0 : Int32) + (1 : Int32)) + (1 : Int32)) + (1 : Int32)), .val (.double (FP.l2d d3)), .second]) rfl ?_
    show OwnS p e below s₁ (mkF m 24 #[rv r0, .val (.double (FP.l2d ((((0 : Int64) + d0) + d1) + d2))), .second, rv r0, iv 4, iv ((((0 : Int32) + (1 : Int32)) + (1 : Int32)) + (1 : Int32)), .val (.double (FP.l2d d3)), .second] []) _
    refine XS.dloadN X0.here hx rfl (hb hby d1_24) rfl ?_
    show OwnS p e below s₁ (mkF m 25 #[rv r0, .val (.double (FP.l2d ((((0 : Int64) + d0) + d1) + d2))), .second, rv r0, iv 4, iv ((((0 : Int32) + (1 : Int32)) + (1 : Int32)) + (1 : Int32)), .val (.double (FP.l2d d3)), .second] [(.double (FP.l2d ((((0 : Int64) + d0) + d1) + d2)))]) _
    refine XS.dload X0.here hx rfl (hb hby d1_25) rfl ?_
    show OwnS p e below s₁ (mkF m 27 #[rv r0, .val (.double (FP.l2d ((((0 : Int64) + d0) + d1) + d2))), .second, rv r0, iv 4, iv ((((0 : Int32) + (1 : Int32)) + (1 : Int32)) + (1 : Int32)), .val (.double (FP.l2d d3)), .second] [(.double (FP.l2d d3)), (.double (FP.l2d ((((0 : Int64) + d0) + d1) + d2)))]) _
    refine XS.daddS X0.here hx rfl (hb hby d1_27) rfl (nn_w (dadd_w b_7 b_3)) (dadd_w b_7 b_3) ?_
    show OwnS p e below s₁ (mkF m 28 #[rv r0, .val (.double (FP.l2d ((((0 : Int64) + d0) + d1) + d2))), .second, rv r0, iv 4, iv ((((0 : Int32) + (1 : Int32)) + (1 : Int32)) + (1 : Int32)), .val (.double (FP.l2d d3)), .second] [(.double (FP.l2d (((((0 : Int64) + d0) + d1) + d2) + d3)))]) _
    refine XS.dstoreN X0.here hx rfl (hb hby d1_28) rfl (l' := #[rv r0, .val (.double (FP.l2d (((((0 : Int64) + d0) + d1) + d2) + d3))), .second, rv r0, iv 4, iv ((((0 : Int32) + (1 : Int32)) + (1 : Int32)) + (1 : Int32)), .val (.double (FP.l2d d3)), .second]) rfl ?_
    show OwnS p e below s₁ (mkF m 29 #[rv r0, .val (.double (FP.l2d (((((0 : Int64) + d0) + d1) + d2) + d3))), .second, rv r0, iv 4, iv ((((0 : Int32) + (1 : Int32)) + (1 : Int32)) + (1 : Int32)), .val (.double (FP.l2d d3)), .second] []) _
    refine XS.iinc X0.here hx rfl (hb hby d1_29) rfl (l' := #[rv r0, .val (.double (FP.l2d (((((0 : Int64) + d0) + d1) + d2) + d3))), .second, rv r0, iv 4, iv (((((0 : Int32) + (1 : Int32)) + (1 : Int32)) + (1 : Int32)) + (1 : Int32)), .val (.double (FP.l2d d3)), .second]) rfl ?_
    show OwnS p e below s₁ (mkF m 32 #[rv r0, .val (.double (FP.l2d (((((0 : Int64) + d0) + d1) + d2) + d3))), .second, rv r0, iv 4, iv (((((0 : Int32) + (1 : Int32)) + (1 : Int32)) + (1 : Int32)) + (1 : Int32)), .val (.double (FP.l2d d3)), .second] []) _
    refine XS.goto X0.here hx rfl (pc0 := 32) (pc' := 11) rfl (hb hby d1_32) (by decide) (by decide) ?_
    show OwnS p e below s₁ (mkF m 11 #[rv r0, .val (.double (FP.l2d (((((0 : Int64) + d0) + d1) + d2) + d3))), .second, rv r0, iv 4, iv (((((0 : Int32) + (1 : Int32)) + (1 : Int32)) + (1 : Int32)) + (1 : Int32)), .val (.double (FP.l2d d3)), .second] []) _
    refine XS.iload X0.here hx rfl (hb hby d1_11) rfl ?_
    show OwnS p e below s₁ (mkF m 13 #[rv r0, .val (.double (FP.l2d (((((0 : Int64) + d0) + d1) + d2) + d3))), .second, rv r0, iv 4, iv (((((0 : Int32) + (1 : Int32)) + (1 : Int32)) + (1 : Int32)) + (1 : Int32)), .val (.double (FP.l2d d3)), .second] [(.int 4)]) _
    refine XS.iload X0.here hx rfl (hb hby d1_13) rfl ?_
    show OwnS p e below s₁ (mkF m 15 #[rv r0, .val (.double (FP.l2d (((((0 : Int64) + d0) + d1) + d2) + d3))), .second, rv r0, iv 4, iv (((((0 : Int32) + (1 : Int32)) + (1 : Int32)) + (1 : Int32)) + (1 : Int32)), .val (.double (FP.l2d d3)), .second] [(.int 4), (.int 4)]) _
    refine XS.icmpYes X0.here hx rfl (pc0 := 15) (pc' := 35) rfl (hb hby d1_15) rfl (flt (by decide : ¬ ((4 : Int32) < (4 : Int32)))).2.1 (by decide) (by decide) ?_
    show OwnS p e below s₁ (mkF m 35 #[rv r0, .val (.double (FP.l2d (((((0 : Int64) + d0) + d1) + d2) + d3))), .second, rv r0, iv 4, iv (((((0 : Int32) + (1 : Int32)) + (1 : Int32)) + (1 : Int32)) + (1 : Int32)), .val (.double (FP.l2d d3)), .second] []) _
    refine XS.dloadN X0.here hx rfl (hb hby d1_35) rfl ?_
    show OwnS p e below s₁ (mkF m 36 #[rv r0, .val (.double (FP.l2d (((((0 : Int64) + d0) + d1) + d2) + d3))), .second, rv r0, iv 4, iv (((((0 : Int32) + (1 : Int32)) + (1 : Int32)) + (1 : Int32)) + (1 : Int32)), .val (.double (FP.l2d d3)), .second] [(.double (FP.l2d (((((0 : Int64) + d0) + d1) + d2) + d3)))]) _
    exact retD X0 hx Bd.returns (hb hby d1_36) hr
  · show Q_1_4 Z r0 kA d0 d1 d2 d3 h0 n0 _ s₁.heap _
    rw [e0]
    exact ⟨rfl, N0, rfl⟩
def Q_1_5 (Z : State) (r0 : Addr) (kA : ClassId) (d0 : Int64) (d1 : Int64) (d2 : Int64) (d3 : Int64) (d4 : Int64) (h0 : Heap) (n0 : Nat) (v : Option Value) (h : Heap) (L : List Loc) : Prop := v = some (.double (FP.l2d ((((((0 : Int64) + d0) + d1) + d2) + d3) + d4))) ∧ Fr n0 L ∧ h = h0
set_option maxRecDepth 65536 in
set_option maxHeartbeats 40000000 in
theorem rm1_5 (l : Launch) (Z : State) (a0 : Array Value) (hw : ∀ d ∈ tables_1, d.before a0 Z = true) (ws : List Jvm.Cond) (r0 : Addr) (kA : ClassId) (d0 : Int64) (d1 : Int64) (d2 : Int64) (d3 : Int64) (d4 : Int64) (h0 : Heap) (n0 : Nat) (Z0 : n0 ≤ h0.size) (V_r0 : Arv Z h0 r0 kA .double (5 : Int32) [(.double (FP.l2d d0)), (.double (FP.l2d d1)), (.double (FP.l2d d2)), (.double (FP.l2d d3)), (.double (FP.l2d d4))] (.double (FP.l2d (0 : Int64)))) (b_0 : B53 d0) (b_1 : B53 d1) (b_2 : B53 d2) (b_3 : B53 d3) (b_4 : B53 d4) (b_5 : B53 (0 : Int64)) (b_6 : B53 ((0 : Int64) + d0)) (b_7 : B53 (((0 : Int64) + d0) + d1)) (b_8 : B53 ((((0 : Int64) + d0) + d1) + d2)) (b_9 : B53 (((((0 : Int64) + d0) + d1) + d2) + d3)) :
    MetFree l (⟨cS0, "total", "([D)D"⟩ : MethodName) (head1 (Jvm.Cond.code (⟨cS0, "total", "([D)D"⟩ : MethodName) prog_56_method_10_code 8 (some .double) :: ws) ({ frames := 0, cells := 0, slots := 0, locals := 0 } : Room)) (fun a U => a = #[(.ref r0)] ∧ Z.Warmed39 U.vm ∧ U.heap = h0) (fun _ _ _ _ _ => True) (fun _ U o U' => ∃ v L, o = .returned v ∧ Q_1_5 Z r0 kA d0 d1 d2 d3 d4 h0 n0 v U'.heap L ∧ FrameEnd U o U' L ({ frames := 0, cells := 0, slots := 0, locals := 0 } : Room).cells ({ frames := 0, cells := 0, slots := 0, locals := 0 } : Room).slots) := by
  refine MetFree.of_bodySF (plainFor_of_name pn_com_example_driftline_driftline_learn_TreeNode) hisR ?_
  intro p e s m args below meth c s₁ Bd hml0 hP hK
  obtain ⟨rfl, hZ, hh⟩ := hP
  have hx := Bd.exec
  have hby := Bd.bytes
  have hml : c.maxLocals = 8 := hml0
  have hown : s.vm.findClass cS0 = some m.cls := findClass_of_methodNamed Bd.named
  have hnm := (name_of_methodNamed Bd.named Bd.method).1
  have X0 : Stand p l e ({ frames := 0, cells := 0, slots := 0, locals := 0 } : Room) s m #[(.ref r0)] below meth c s₁ [] 0 0 := Stand.of_body Bd
  have e0 : s₁.heap = h0 := by rw [← hh, Bd.state]; rfl
  have N0 := Fr.nil n0
  have k0 : ∀ t, OwnS p e below s₁ (mkF m 0 #[rv r0, .unset, .unset, .unset, .unset, .unset, .unset, .unset] []) t → OwnS p e below s₁ (entryFrame m #[(.ref r0)] 8) t := fun t k => castTop (ef_1 m r0) k
  obtain ⟨cl_z1, Ar_z1, q_z1, S_z1, N_z1, H_z1, G_z1⟩ := id V_r0
  have hin2 : ¬ ((0 : Int32) < 0 ∨ cl_z1.slots.size ≤ ((0 : Int32)).toNatClampNeg) := inb_of S_z1 ⟨by decide, by decide⟩
  have hin3 : ¬ ((1 : Int32) < 0 ∨ cl_z1.slots.size ≤ ((1 : Int32)).toNatClampNeg) := inb_of S_z1 ⟨by decide, by decide⟩
  have hin4 : ¬ ((2 : Int32) < 0 ∨ cl_z1.slots.size ≤ ((2 : Int32)).toNatClampNeg) := inb_of S_z1 ⟨by decide, by decide⟩
  have hin5 : ¬ ((3 : Int32) < 0 ∨ cl_z1.slots.size ≤ ((3 : Int32)).toNatClampNeg) := inb_of S_z1 ⟨by decide, by decide⟩
  have hin6 : ¬ ((4 : Int32) < 0 ∨ cl_z1.slots.size ≤ ((4 : Int32)).toNatClampNeg) := inb_of S_z1 ⟨by decide, by decide⟩
  obtain ⟨fs, hr, hrun, hended, hW, hsame⟩ := X0.leave (v := some (.double (FP.l2d ((((((0 : Int64) + d0) + d1) + d2) + d3) + d4)))) (fun h => by rw [Bd.returns] at h; cases h)
  refine ⟨_, _, k0 _ ?_, hrun, hended, _, _, rfl, ?_, ⟨_, rfl⟩, hW, hsame.mono (by decide) (by decide)⟩
  · show OwnS p e below s₁ (mkF m 0 #[rv r0, .unset, .unset, .unset, .unset, .unset, .unset, .unset] []) _
    refine XS.dconst0 X0.here hx rfl (hb hby d1_0) (v := FP.l2d 0) l2d_zero.symm ?_
    show OwnS p e below s₁ (mkF m 1 #[rv r0, .unset, .unset, .unset, .unset, .unset, .unset, .unset] [(.double (FP.l2d (0 : Int64)))]) _
    refine XS.dstoreN X0.here hx rfl (hb hby d1_1) rfl (l' := #[rv r0, .val (.double (FP.l2d (0 : Int64))), .second, .unset, .unset, .unset, .unset, .unset]) rfl ?_
    show OwnS p e below s₁ (mkF m 2 #[rv r0, .val (.double (FP.l2d (0 : Int64))), .second, .unset, .unset, .unset, .unset, .unset] []) _
    refine XS.aloadN X0.here hx rfl (hb hby d1_2) rfl rfl ?_
    show OwnS p e below s₁ (mkF m 3 #[rv r0, .val (.double (FP.l2d (0 : Int64))), .second, .unset, .unset, .unset, .unset, .unset] [(.ref r0)]) _
    refine XS.astoreN X0.here hx rfl (hb hby d1_3) rfl rfl (l' := #[rv r0, .val (.double (FP.l2d (0 : Int64))), .second, rv r0, .unset, .unset, .unset, .unset]) rfl ?_
    show OwnS p e below s₁ (mkF m 4 #[rv r0, .val (.double (FP.l2d (0 : Int64))), .second, rv r0, .unset, .unset, .unset, .unset] []) _
    refine XS.aloadN X0.here hx rfl (hb hby d1_4) rfl rfl ?_
    show OwnS p e below s₁ (mkF m 5 #[rv r0, .val (.double (FP.l2d (0 : Int64))), .second, rv r0, .unset, .unset, .unset, .unset] [(.ref r0)]) _
    refine X0.arraylength hx (by rw [e0]; exact Ar_z1.1) (State.isArrayOf_alike hZ.alike Ar_z1.2.1) (g := (mkF m 5 #[rv r0, .val (.double (FP.l2d (0 : Int64))), .second, rv r0, .unset, .unset, .unset, .unset] [(.ref r0)])) rfl rfl (hb hby d1_5) _ ?_
    rw [len_of S_z1 N_z1]
    show OwnS p e below s₁ (mkF m 6 #[rv r0, .val (.double (FP.l2d (0 : Int64))), .second, rv r0, .unset, .unset, .unset, .unset] [(.int 5)]) _
    refine XS.istore X0.here hx rfl (hb hby d1_6) rfl (l' := #[rv r0, .val (.double (FP.l2d (0 : Int64))), .second, rv r0, iv 5, .unset, .unset, .unset]) rfl ?_
    show OwnS p e below s₁ (mkF m 8 #[rv r0, .val (.double (FP.l2d (0 : Int64))), .second, rv r0, iv 5, .unset, .unset, .unset] []) _
    refine XS.iconst X0.here hx rfl (hb hby d1_8) ?_
    show OwnS p e below s₁ (mkF m 9 #[rv r0, .val (.double (FP.l2d (0 : Int64))), .second, rv r0, iv 5, .unset, .unset, .unset] [(.int 0)]) _
    refine XS.istore X0.here hx rfl (hb hby d1_9) rfl (l' := #[rv r0, .val (.double (FP.l2d (0 : Int64))), .second, rv r0, iv 5, iv 0, .unset, .unset]) rfl ?_
    show OwnS p e below s₁ (mkF m 11 #[rv r0, .val (.double (FP.l2d (0 : Int64))), .second, rv r0, iv 5, iv 0, .unset, .unset] []) _
    refine XS.iload X0.here hx rfl (hb hby d1_11) rfl ?_
    show OwnS p e below s₁ (mkF m 13 #[rv r0, .val (.double (FP.l2d (0 : Int64))), .second, rv r0, iv 5, iv 0, .unset, .unset] [(.int 0)]) _
    refine XS.iload X0.here hx rfl (hb hby d1_13) rfl ?_
    show OwnS p e below s₁ (mkF m 15 #[rv r0, .val (.double (FP.l2d (0 : Int64))), .second, rv r0, iv 5, iv 0, .unset, .unset] [(.int 5), (.int 0)]) _
    refine XS.icmpNo X0.here hx rfl (hb hby d1_15) rfl (tlt (by decide : (0 : Int32) < (5 : Int32))).2.1 ?_
    show OwnS p e below s₁ (mkF m 18 #[rv r0, .val (.double (FP.l2d (0 : Int64))), .second, rv r0, iv 5, iv 0, .unset, .unset] []) _
    refine XS.aloadN X0.here hx rfl (hb hby d1_18) rfl rfl ?_
    show OwnS p e below s₁ (mkF m 19 #[rv r0, .val (.double (FP.l2d (0 : Int64))), .second, rv r0, iv 5, iv 0, .unset, .unset] [(.ref r0)]) _
    refine XS.iload X0.here hx rfl (hb hby d1_19) rfl ?_
    show OwnS p e below s₁ (mkF m 21 #[rv r0, .val (.double (FP.l2d (0 : Int64))), .second, rv r0, iv 5, iv 0, .unset, .unset] [(.int 0), (.ref r0)]) _
    refine X0.daload hx (j := (0 : Int32)) (v := (.double (FP.l2d d0))) (by rw [e0]; exact Ar_z1.1) (State.isArrayOf_alike hZ.alike Ar_z1.2.1) Ar_z1.2.2 hin2 (Has.at H_z1 hin2 rfl) (g := (mkF m 21 #[rv r0, .val (.double (FP.l2d (0 : Int64))), .second, rv r0, iv 5, iv 0, .unset, .unset] [(.int 0), (.ref r0)])) rfl rfl (hb hby d1_21) _ ?_
    show OwnS p e below s₁ (mkF m 22 #[rv r0, .val (.double (FP.l2d (0 : Int64))), .second, rv r0, iv 5, iv 0, .unset, .unset] [(.double (FP.l2d d0))]) _
    refine XS.dstore X0.here hx rfl (hb hby d1_22) rfl (l' := #[rv r0, .val (.double (FP.l2d (0 : Int64))), .second, rv r0, iv 5, iv 0, .val (.double (FP.l2d d0)), .second]) rfl ?_
    show OwnS p e below s₁ (mkF m 24 #[rv r0, .val (.double (FP.l2d (0 : Int64))), .second, rv r0, iv 5, iv 0, .val (.double (FP.l2d d0)), .second] []) _
    refine XS.dloadN X0.here hx rfl (hb hby d1_24) rfl ?_
    show OwnS p e below s₁ (mkF m 25 #[rv r0, .val (.double (FP.l2d (0 : Int64))), .second, rv r0, iv 5, iv 0, .val (.double (FP.l2d d0)), .second] [(.double (FP.l2d (0 : Int64)))]) _
    refine XS.dload X0.here hx rfl (hb hby d1_25) rfl ?_
    show OwnS p e below s₁ (mkF m 27 #[rv r0, .val (.double (FP.l2d (0 : Int64))), .second, rv r0, iv 5, iv 0, .val (.double (FP.l2d d0)), .second] [(.double (FP.l2d d0)), (.double (FP.l2d (0 : Int64)))]) _
    refine XS.daddS X0.here hx rfl (hb hby d1_27) rfl (nn_w (dadd_w b_5 b_0)) (dadd_w b_5 b_0) ?_
    show OwnS p e below s₁ (mkF m 28 #[rv r0, .val (.double (FP.l2d (0 : Int64))), .second, rv r0, iv 5, iv 0, .val (.double (FP.l2d d0)), .second] [(.double (FP.l2d ((0 : Int64) + d0)))]) _
    refine XS.dstoreN X0.here hx rfl (hb hby d1_28) rfl (l' := #[rv r0, .val (.double (FP.l2d ((0 : Int64) + d0))), .second, rv r0, iv 5, iv 0, .val (.double (FP.l2d d0)), .second]) rfl ?_
    show OwnS p e below s₁ (mkF m 29 #[rv r0, .val (.double (FP.l2d ((0 : Int64) + d0))), .second, rv r0, iv 5, iv 0, .val (.double (FP.l2d d0)), .second] []) _
    refine XS.iinc X0.here hx rfl (hb hby d1_29) rfl (l' := #[rv r0, .val (.double (FP.l2d ((0 : Int64) + d0))), .second, rv r0, iv 5, iv ((0 : Int32) + (1 : Int32)), .val (.double (FP.l2d d0)), .second]) rfl ?_
    show OwnS p e below s₁ (mkF m 32 #[rv r0, .val (.double (FP.l2d ((0 : Int64) + d0))), .second, rv r0, iv 5, iv ((0 : Int32) + (1 : Int32)), .val (.double (FP.l2d d0)), .second] []) _
    refine XS.goto X0.here hx rfl (pc0 := 32) (pc' := 11) rfl (hb hby d1_32) (by decide) (by decide) ?_
    show OwnS p e below s₁ (mkF m 11 #[rv r0, .val (.double (FP.l2d ((0 : Int64) + d0))), .second, rv r0, iv 5, iv ((0 : Int32) + (1 : Int32)), .val (.double (FP.l2d d0)), .second] []) _
    refine XS.iload X0.here hx rfl (hb hby d1_11) rfl ?_
    show OwnS p e below s₁ (mkF m 13 #[rv r0, .val (.double (FP.l2d ((0 : Int64) + d0))), .second, rv r0, iv 5, iv ((0 : Int32) + (1 : Int32)), .val (.double (FP.l2d d0)), .second] [(.int 1)]) _
    refine XS.iload X0.here hx rfl (hb hby d1_13) rfl ?_
    show OwnS p e below s₁ (mkF m 15 #[rv r0, .val (.double (FP.l2d ((0 : Int64) + d0))), .second, rv r0, iv 5, iv ((0 : Int32) + (1 : Int32)), .val (.double (FP.l2d d0)), .second] [(.int 5), (.int 1)]) _
    refine XS.icmpNo X0.here hx rfl (hb hby d1_15) rfl (tlt (by decide : (1 : Int32) < (5 : Int32))).2.1 ?_
    show OwnS p e below s₁ (mkF m 18 #[rv r0, .val (.double (FP.l2d ((0 : Int64) + d0))), .second, rv r0, iv 5, iv ((0 : Int32) + (1 : Int32)), .val (.double (FP.l2d d0)), .second] []) _
    refine XS.aloadN X0.here hx rfl (hb hby d1_18) rfl rfl ?_
    show OwnS p e below s₁ (mkF m 19 #[rv r0, .val (.double (FP.l2d ((0 : Int64) + d0))), .second, rv r0, iv 5, iv ((0 : Int32) + (1 : Int32)), .val (.double (FP.l2d d0)), .second] [(.ref r0)]) _
    refine XS.iload X0.here hx rfl (hb hby d1_19) rfl ?_
    show OwnS p e below s₁ (mkF m 21 #[rv r0, .val (.double (FP.l2d ((0 : Int64) + d0))), .second, rv r0, iv 5, iv ((0 : Int32) + (1 : Int32)), .val (.double (FP.l2d d0)), .second] [(.int 1), (.ref r0)]) _
    refine X0.daload hx (j := (1 : Int32)) (v := (.double (FP.l2d d1))) (by rw [e0]; exact Ar_z1.1) (State.isArrayOf_alike hZ.alike Ar_z1.2.1) Ar_z1.2.2 hin3 (Has.at H_z1 hin3 rfl) (g := (mkF m 21 #[rv r0, .val (.double (FP.l2d ((0 : Int64) + d0))), .second, rv r0, iv 5, iv ((0 : Int32) + (1 : Int32)), .val (.double (FP.l2d d0)), .second] [(.int 1), (.ref r0)])) rfl rfl (hb hby d1_21) _ ?_
    show OwnS p e below s₁ (mkF m 22 #[rv r0, .val (.double (FP.l2d ((0 : Int64) + d0))), .second, rv r0, iv 5, iv ((0 : Int32) + (1 : Int32)), .val (.double (FP.l2d d0)), .second] [(.double (FP.l2d d1))]) _
    refine XS.dstore X0.here hx rfl (hb hby d1_22) rfl (l' := #[rv r0, .val (.double (FP.l2d ((0 : Int64) + d0))), .second, rv r0, iv 5, iv ((0 : Int32) + (1 : Int32)), .val (.double (FP.l2d d1)), .second]) rfl ?_
    show OwnS p e below s₁ (mkF m 24 #[rv r0, .val (.double (FP.l2d ((0 : Int64) + d0))), .second, rv r0, iv 5, iv ((0 : Int32) + (1 : Int32)), .val (.double (FP.l2d d1)), .second] []) _
    refine XS.dloadN X0.here hx rfl (hb hby d1_24) rfl ?_
    show OwnS p e below s₁ (mkF m 25 #[rv r0, .val (.double (FP.l2d ((0 : Int64) + d0))), .second, rv r0, iv 5, iv ((0 : Int32) + (1 : Int32)), .val (.double (FP.l2d d1)), .second] [(.double (FP.l2d ((0 : Int64) + d0)))]) _
    refine XS.dload X0.here hx rfl (hb hby d1_25) rfl ?_
    show OwnS p e below s₁ (mkF m 27 #[rv r0, .val (.double (FP.l2d ((0 : Int64) + d0))), .second, rv r0, iv 5, iv ((0 : Int32) + (1 : Int32)), .val (.double (FP.l2d d1)), .second] [(.double (FP.l2d d1)), (.double (FP.l2d ((0 : Int64) + d0)))]) _
    refine XS.daddS X0.here hx rfl (hb hby d1_27) rfl (nn_w (dadd_w b_6 b_1)) (dadd_w b_6 b_1) ?_
    show OwnS p e below s₁ (mkF m 28 #[rv r0, .val (.double (FP.l2d ((0 : Int64) + d0))), .second, rv r0, iv 5, iv ((0 : Int32) + (1 : Int32)), .val (.double (FP.l2d d1)), .second] [(.double (FP.l2d (((0 : Int64) + d0) + d1)))]) _
    refine XS.dstoreN X0.here hx rfl (hb hby d1_28) rfl (l' := #[rv r0, .val (.double (FP.l2d (((0 : Int64) + d0) + d1))), .second, rv r0, iv 5, iv ((0 : Int32) + (1 : Int32)), .val (.double (FP.l2d d1)), .second]) rfl ?_
    show OwnS p e below s₁ (mkF m 29 #[rv r0, .val (.double (FP.l2d (((0 : Int64) + d0) + d1))), .second, rv r0, iv 5, iv ((0 : Int32) + (1 : Int32)), .val (.double (FP.l2d d1)), .second] []) _
    refine XS.iinc X0.here hx rfl (hb hby d1_29) rfl (l' := #[rv r0, .val (.double (FP.l2d (((0 : Int64) + d0) + d1))), .second, rv r0, iv 5, iv (((0 : Int32) + (1 : Int32)) + (1 : Int32)), .val (.double (FP.l2d d1)), .second]) rfl ?_
    show OwnS p e below s₁ (mkF m 32 #[rv r0, .val (.double (FP.l2d (((0 : Int64) + d0) + d1))), .second, rv r0, iv 5, iv (((0 : Int32) + (1 : Int32)) + (1 : Int32)), .val (.double (FP.l2d d1)), .second] []) _
    refine XS.goto X0.here hx rfl (pc0 := 32) (pc' := 11) rfl (hb hby d1_32) (by decide) (by decide) ?_
    show OwnS p e below s₁ (mkF m 11 #[rv r0, .val (.double (FP.l2d (((0 : Int64) + d0) + d1))), .second, rv r0, iv 5, iv (((0 : Int32) + (1 : Int32)) + (1 : Int32)), .val (.double (FP.l2d d1)), .second] []) _
    refine XS.iload X0.here hx rfl (hb hby d1_11) rfl ?_
    show OwnS p e below s₁ (mkF m 13 #[rv r0, .val (.double (FP.l2d (((0 : Int64) + d0) + d1))), .second, rv r0, iv 5, iv (((0 : Int32) + (1 : Int32)) + (1 : Int32)), .val (.double (FP.l2d d1)), .second] [(.int 2)]) _
    refine XS.iload X0.here hx rfl (hb hby d1_13) rfl ?_
    show OwnS p e below s₁ (mkF m 15 #[rv r0, .val (.double (FP.l2d (((0 : Int64) + d0) + d1))), .second, rv r0, iv 5, iv (((0 : Int32) + (1 : Int32)) + (1 : Int32)), .val (.double (FP.l2d d1)), .second] [(.int 5), (.int 2)]) _
    refine XS.icmpNo X0.here hx rfl (hb hby d1_15) rfl (tlt (by decide : (2 : Int32) < (5 : Int32))).2.1 ?_
    show OwnS p e below s₁ (mkF m 18 #[rv r0, .val (.double (FP.l2d (((0 : Int64) + d0) + d1))), .second, rv r0, iv 5, iv (((0 : Int32) + (1 : Int32)) + (1 : Int32)), .val (.double (FP.l2d d1)), .second] []) _
    refine XS.aloadN X0.here hx rfl (hb hby d1_18) rfl rfl ?_
    show OwnS p e below s₁ (mkF m 19 #[rv r0, .val (.double (FP.l2d (((0 : Int64) + d0) + d1))), .second, rv r0, iv 5, iv (((0 : Int32) + (1 : Int32)) + (1 : Int32)), .val (.double (FP.l2d d1)), .second] [(.ref r0)]) _
    refine XS.iload X0.here hx rfl (hb hby d1_19) rfl ?_
    show OwnS p e below s₁ (mkF m 21 #[rv r0, .val (.double (FP.l2d (((0 : Int64) + d0) + d1))), .second, rv r0, iv 5, iv (((0 : Int32) + (1 : Int32)) + (1 : Int32)), .val (.double (FP.l2d d1)), .second] [(.int 2), (.ref r0)]) _
    refine X0.daload hx (j := (2 : Int32)) (v := (.double (FP.l2d d2))) (by rw [e0]; exact Ar_z1.1) (State.isArrayOf_alike hZ.alike Ar_z1.2.1) Ar_z1.2.2 hin4 (Has.at H_z1 hin4 rfl) (g := (mkF m 21 #[rv r0, .val (.double (FP.l2d (((0 : Int64) + d0) + d1))), .second, rv r0, iv 5, iv (((0 : Int32) + (1 : Int32)) + (1 : Int32)), .val (.double (FP.l2d d1)), .second] [(.int 2), (.ref r0)])) rfl rfl (hb hby d1_21) _ ?_
    show OwnS p e below s₁ (mkF m 22 #[rv r0, .val (.double (FP.l2d (((0 : Int64) + d0) + d1))), .second, rv r0, iv 5, iv (((0 : Int32) + (1 : Int32)) + (1 : Int32)), .val (.double (FP.l2d d1)), .second] [(.double (FP.l2d d2))]) _
    refine XS.dstore X0.here hx rfl (hb hby d1_22) rfl (l' := #[rv r0, .val (.double (FP.l2d (((0 : Int64) + d0) + d1))), .second, rv r0, iv 5, iv (((0 : Int32) + (1 : Int32)) + (1 : Int32)), .val (.double (FP.l2d d2)), .second]) rfl ?_
    show OwnS p e below s₁ (mkF m 24 #[rv r0, .val (.double (FP.l2d (((0 : Int64) + d0) + d1))), .second, rv r0, iv 5, iv (((0 : Int32) + (1 : Int32)) + (1 : Int32)), .val (.double (FP.l2d d2)), .second] []) _
    refine XS.dloadN X0.here hx rfl (hb hby d1_24) rfl ?_
    show OwnS p e below s₁ (mkF m 25 #[rv r0, .val (.double (FP.l2d (((0 : Int64) + d0) + d1))), .second, rv r0, iv 5, iv (((0 : Int32) + (1 : Int32)) + (1 : Int32)), .val (.double (FP.l2d d2)), .second] [(.double (FP.l2d (((0 : Int64) + d0) + d1)))]) _
    refine XS.dload X0.here hx rfl (hb hby d1_25) rfl ?_
    show OwnS p e below s₁ (mkF m 27 #[rv r0, .val (.double (FP.l2d (((0 : Int64) + d0) + d1))), .second, rv r0, iv 5, iv (((0 : Int32) + (1 : Int32)) + (1 : Int32)), .val (.double (FP.l2d d2)), .second] [(.double (FP.l2d d2)), (.double (FP.l2d (((0 : Int64) + d0) + d1)))]) _
    refine XS.daddS X0.here hx rfl (hb hby d1_27) rfl (nn_w (dadd_w b_7 b_2)) (dadd_w b_7 b_2) ?_
    show OwnS p e below s₁ (mkF m 28 #[rv r0, .val (.double (FP.l2d (((0 : Int64) + d0) + d1))), .second, rv r0, iv 5, iv (((0 : Int32) + (1 : Int32)) + (1 : Int32)), .val (.double (FP.l2d d2)), .second] [(.double (FP.l2d ((((0 : Int64) + d0) + d1) + d2)))]) _
    refine XS.dstoreN X0.here hx rfl (hb hby d1_28) rfl (l' := #[rv r0, .val (.double (FP.l2d ((((0 : Int64) + d0) + d1) + d2))), .second, rv r0, iv 5, iv (((0 : Int32) + (1 : Int32)) + (1 : Int32)), .val (.double (FP.l2d d2)), .second]) rfl ?_
    show OwnS p e below s₁ (mkF m 29 #[rv r0, .val (.double (FP.l2d ((((0 : Int64) + d0) + d1) + d2))), .second, rv r0, iv 5, iv (((0 : Int32) + (1 : Int32)) + (1 : Int32)), .val (.double (FP.l2d d2)), .second] []) _
    refine XS.iinc X0.here hx rfl (hb hby d1_29) rfl (l' := #[rv r0, .val (.double (FP.l2d ((((0 : Int64) + d0) + d1) + d2))), .second, rv r0, iv 5, iv ((((0 : Int32) + (1 : Int32)) + (1 : Int32)) + (1 : Int32)), .val (.double (FP.l2d d2)), .second]) rfl ?_
    show OwnS p e below s₁ (mkF m 32 #[rv r0, .val (.double (FP.l2d ((((0 : Int64) + d0) + d1) + d2))), .second, rv r0, iv 5, iv ((((0 : Int32) + (1 : Int32)) + (1 : Int32)) + (1 : Int32)), .val (.double (FP.l2d d2)), .second] []) _
    refine XS.goto X0.here hx rfl (pc0 := 32) (pc' := 11) rfl (hb hby d1_32) (by decide) (by decide) ?_
    show OwnS p e below s₁ (mkF m 11 #[rv r0, .val (.double (FP.l2d ((((0 : Int64) + d0) + d1) + d2))), .second, rv r0, iv 5, iv ((((0 : Int32) + (1 : Int32)) + (1 : Int32)) + (1 : Int32)), .val (.double (FP.l2d d2)), .second] []) _
    refine XS.iload X0.here hx rfl (hb hby d1_11) rfl ?_
    show OwnS p e below s₁ (mkF m 13 #[rv r0, .val (.double (FP.l2d ((((0 : Int64) + d0) + d1) + d2))), .second, rv r0, iv 5, iv ((((0 : Int32) + (1 : Int32)) + (1 : Int32)) + (1 : Int32)), .val (.double (FP.l2d d2)), .second] [(.int 3)]) _
    refine XS.iload X0.here hx rfl (hb hby d1_13) rfl ?_
    show OwnS p e below s₁ (mkF m 15 #[rv r0, .val (.double (FP.l2d ((((0 : Int64) + d0) + d1) + d2))), .second, rv r0, iv 5, iv ((((0 : Int32) + (1 : Int32)) + (1 : Int32)) + (1 : Int32)), .val (.double (FP.l2d d2)), .second] [(.int 5), (.int 3)]) _
    refine XS.icmpNo X0.here hx rfl (hb hby d1_15) rfl (tlt (by decide : (3 : Int32) < (5 : Int32))).2.1 ?_
    show OwnS p e below s₁ (mkF m 18 #[rv r0, .val (.double (FP.l2d ((((0 : Int64) + d0) + d1) + d2))), .second, rv r0, iv 5, iv ((((0 : Int32) + (1 : Int32)) + (1 : Int32)) + (1 : Int32)), .val (.double (FP.l2d d2)), .second] []) _
    refine XS.aloadN X0.here hx rfl (hb hby d1_18) rfl rfl ?_
    show OwnS p e below s₁ (mkF m 19 #[rv r0, .val (.double (FP.l2d ((((0 : Int64) + d0) + d1) + d2))), .second, rv r0, iv 5, iv ((((0 : Int32) + (1 : Int32)) + (1 : Int32)) + (1 : Int32)), .val (.double (FP.l2d d2)), .second] [(.ref r0)]) _
    refine XS.iload X0.here hx rfl (hb hby d1_19) rfl ?_
    show OwnS p e below s₁ (mkF m 21 #[rv r0, .val (.double (FP.l2d ((((0 : Int64) + d0) + d1) + d2))), .second, rv r0, iv 5, iv ((((0 : Int32) + (1 : Int32)) + (1 : Int32)) + (1 : Int32)), .val (.double (FP.l2d d2)), .second] [(.int 3), (.ref r0)]) _
    refine X0.daload hx (j := (3 : Int32)) (v := (.double (FP.l2d d3))) (by rw [e0]; exact Ar_z1.1) (State.isArrayOf_alike hZ.alike Ar_z1.2.1) Ar_z1.2.2 hin5 (Has.at H_z1 hin5 rfl) (g := (mkF m 21 #[rv r0, .val (.double (FP.l2d ((((0 : Int64) + d0) + d1) + d2))), .second, rv r0, iv 5, iv ((((0 : Int32) + (1 : Int32)) + (1 : Int32)) + (1 : Int32)), .val (.double (FP.l2d d2)), .second] [(.int 3), (.ref r0)])) rfl rfl (hb hby d1_21) _ ?_
    show OwnS p e below s₁ (mkF m 22 #[rv r0, .val (.double (FP.l2d ((((0 : Int64) + d0) + d1) + d2))), .second, rv r0, iv 5, iv ((((0 : Int32) + (1 : Int32)) + (1 : Int32)) + (1 : Int32)), .val (.double (FP.l2d d2)), .second] [(.double (FP.l2d d3))]) _
    refine XS.dstore X0.here hx rfl (hb hby d1_22) rfl (l' := #[rv r0, .val (.double (FP.l2d ((((0 : Int64) + d0) + d1) + d2))), .second, rv r0, iv 5, iv ((((0 : Int32) + (1 : Int32)) + (1 : Int32)) + (1 : Int32)), .val (.double (FP.l2d d3)), .second]) rfl ?_
    show OwnS p e below s₁ (mkF m 24 #[rv r0, .val (.double (FP.l2d ((((0 : Int64) + d0) + d1) + d2))), .second, rv r0, iv 5, iv ((((0 : Int32) + (1 : Int32)) + (1 : Int32)) + (1 : Int32)), .val (.double (FP.l2d d3)), .second] []) _
    refine XS.dloadN X0.here hx rfl (hb hby d1_24) rfl ?_
    show OwnS p e below s₁ (mkF m 25 #[rv r0, .val (.double (FP.l2d ((((0 : Int64) + d0) + d1) + d2))), .second, rv r0, iv 5, iv ((((0 : Int32) + (1 : Int32)) + (1 : Int32)) + (1 : Int32)), .val (.double (FP.l2d d3)), .second] [(.double (FP.l2d ((((0 : Int64) + d0) + d1) + d2)))]) _
    refine XS.dload X0.here hx rfl (hb hby d1_25) rfl ?_
    show OwnS p e below s₁ (mkF m 27 #[rv r0, .val (.double (FP.l2d ((((0 : Int64) + d0) + d1) + d2))), .second, rv r0, iv 5, iv ((((0 : Int32) + (1 : Int32)) + (1 : Int32)) + (1 : Int32)), .val (.double (FP.l2d d3)), .second] [(.double (FP.l2d d3)), (.double (FP.l2d ((((0 : Int64) + d0) + d1) + d2)))]) _
    refine XS.daddS X0.here hx rfl (hb hby d1_27) rfl (nn_w (dadd_w b_8 b_3)) (dadd_w b_8 b_3) ?_
    show OwnS p e below s₁ (mkF m 28 #[rv r0, .val (.double (FP.l2d ((((0 : Int64) + d0) + d1) + d2))), .second, rv r0, iv 5, iv ((((0 : Int32) + (1 : Int32)) + (1 : Int32)) + (1 : Int32)), .val (.double (FP.l2d d3)), .second] [(.double (FP.l2d (((((0 : Int64) + d0) + d1) + d2) + d3)))]) _
    refine XS.dstoreN X0.here hx rfl (hb hby d1_28) rfl (l' := #[rv r0, .val (.double (FP.l2d (((((0 : Int64) + d0) + d1) + d2) + d3))), .second, rv r0, iv 5, iv ((((0 : Int32) + (1 : Int32)) + (1 : Int32)) + (1 : Int32)), .val (.double (FP.l2d d3)), .second]) rfl ?_
    show OwnS p e below s₁ (mkF m 29 #[rv r0, .val (.double (FP.l2d (((((0 : Int64) + d0) + d1) + d2) + d3))), .second, rv r0, iv 5, iv ((((0 : Int32) + (1 : Int32)) + (1 : Int32)) + (1 : Int32)), .val (.double (FP.l2d d3)), .second] []) _
    refine XS.iinc X0.here hx rfl (hb hby d1_29) rfl (l' := #[rv r0, .val (.double (FP.l2d (((((0 : Int64) + d0) + d1) + d2) + d3))), .second, rv r0, iv 5, iv (((((0 : Int32) + (1 : Int32)) + (1 : Int32)) + (1 : Int32)) + (1 : Int32)), .val (.double (FP.l2d d3)), .second]) rfl ?_
    show OwnS p e below s₁ (mkF m 32 #[rv r0, .val (.double (FP.l2d (((((0 : Int64) + d0) + d1) + d2) + d3))), .second, rv r0, iv 5, iv (((((0 : Int32) + (1 : Int32)) + (1 : Int32)) + (1 : Int32)) + (1 : Int32)), .val (.double (FP.l2d d3)), .second] []) _
    refine XS.goto X0.here hx rfl (pc0 := 32) (pc' := 11) rfl (hb hby d1_32) (by decide) (by decide) ?_
    show OwnS p e below s₁ (mkF m 11 #[rv r0, .val (.double (FP.l2d (((((0 : Int64) + d0) + d1) + d2) + d3))), .second, rv r0, iv 5, iv (((((0 : Int32) + (1 : Int32)) + (1 : Int32)) + (1 : Int32)) + (1 : Int32)), .val (.double (FP.l2d d3)), .second] []) _
    refine XS.iload X0.here hx rfl (hb hby d1_11) rfl ?_
    show OwnS p e below s₁ (mkF m 13 #[rv r0, .val (.double (FP.l2d (((((0 : Int64) + d0) + d1) + d2) + d3))), .second, rv r0, iv 5, iv (((((0 : Int32) + (1 : Int32)) + (1 : Int32)) + (1 : Int32)) + (1 : Int32)), .val (.double (FP.l2d d3)), .second] [(.int 4)]) _
    refine XS.iload X0.here hx rfl (hb hby d1_13) rfl ?_
    show OwnS p e below s₁ (mkF m 15 #[rv r0, .val (.double (FP.l2d (((((0 : Int64) + d0) + d1) + d2) + d3))), .second, rv r0, iv 5, iv (((((0 : Int32) + (1 : Int32)) + (1 : Int32)) + (1 : Int32)) + (1 : Int32)), .val (.double (FP.l2d d3)), .second] [(.int 5), (.int 4)]) _
    refine XS.icmpNo X0.here hx rfl (hb hby d1_15) rfl (tlt (by decide : (4 : Int32) < (5 : Int32))).2.1 ?_
    show OwnS p e below s₁ (mkF m 18 #[rv r0, .val (.double (FP.l2d (((((0 : Int64) + d0) + d1) + d2) + d3))), .second, rv r0, iv 5, iv (((((0 : Int32) + (1 : Int32)) + (1 : Int32)) + (1 : Int32)) + (1 : Int32)), .val (.double (FP.l2d d3)), .second] []) _
    refine XS.aloadN X0.here hx rfl (hb hby d1_18) rfl rfl ?_
    show OwnS p e below s₁ (mkF m 19 #[rv r0, .val (.double (FP.l2d (((((0 : Int64) + d0) + d1) + d2) + d3))), .second, rv r0, iv 5, iv (((((0 : Int32) + (1 : Int32)) + (1 : Int32)) + (1 : Int32)) + (1 : Int32)), .val (.double (FP.l2d d3)), .second] [(.ref r0)]) _
    refine XS.iload X0.here hx rfl (hb hby d1_19) rfl ?_
    show OwnS p e below s₁ (mkF m 21 #[rv r0, .val (.double (FP.l2d (((((0 : Int64) + d0) + d1) + d2) + d3))), .second, rv r0, iv 5, iv (((((0 : Int32) + (1 : Int32)) + (1 : Int32)) + (1 : Int32)) + (1 : Int32)), .val (.double (FP.l2d d3)), .second] [(.int 4), (.ref r0)]) _
    refine X0.daload hx (j := (4 : Int32)) (v := (.double (FP.l2d d4))) (by rw [e0]; exact Ar_z1.1) (State.isArrayOf_alike hZ.alike Ar_z1.2.1) Ar_z1.2.2 hin6 (Has.at H_z1 hin6 rfl) (g := (mkF m 21 #[rv r0, .val (.double (FP.l2d (((((0 : Int64) + d0) + d1) + d2) + d3))), .second, rv r0, iv 5, iv (((((0 : Int32) + (1 : Int32)) + (1 : Int32)) + (1 : Int32)) + (1 : Int32)), .val (.double (FP.l2d d3)), .second] [(.int 4), (.ref r0)])) rfl rfl (hb hby d1_21) _ ?_
    show OwnS p e below s₁ (mkF m 22 #[rv r0, .val (.double (FP.l2d (((((0 : Int64) + d0) + d1) + d2) + d3))), .second, rv r0, iv 5, iv (((((0 : Int32) + (1 : Int32)) + (1 : Int32)) + (1 : Int32)) + (1 : Int32)), .val (.double (FP.l2d d3)), .second] [(.double (FP.l2d d4))]) _
    refine XS.dstore X0.here hx rfl (hb hby d1_22) rfl (l' := #[rv r0, .val (.double (FP.l2d (((((0 : Int64) + d0) + d1) + d2) + d3))), .second, rv r0, iv 5, iv (((((0 : Int32) + (1 : Int32)) + (1 : Int32)) + (1 : Int32)) + (1 : Int32)), .val (.double (FP.l2d d4)), .second]) rfl ?_
    show OwnS p e below s₁ (mkF m 24 #[rv r0, .val (.double (FP.l2d (((((0 : Int64) + d0) + d1) + d2) + d3))), .second, rv r0, iv 5, iv (((((0 : Int32) + (1 : Int32)) + (1 : Int32)) + (1 : Int32)) + (1 : Int32)), .val (.double (FP.l2d d4)), .second] []) _
    refine XS.dloadN X0.here hx rfl (hb hby d1_24) rfl ?_
    show OwnS p e below s₁ (mkF m 25 #[rv r0, .val (.double (FP.l2d (((((0 : Int64) + d0) + d1) + d2) + d3))), .second, rv r0, iv 5, iv (((((0 : Int32) + (1 : Int32)) + (1 : Int32)) + (1 : Int32)) + (1 : Int32)), .val (.double (FP.l2d d4)), .second] [(.double (FP.l2d (((((0 : Int64) + d0) + d1) + d2) + d3)))]) _
    refine XS.dload X0.here hx rfl (hb hby d1_25) rfl ?_
    show OwnS p e below s₁ (mkF m 27 #[rv r0, .val (.double (FP.l2d (((((0 : Int64) + d0) + d1) + d2) + d3))), .second, rv r0, iv 5, iv (((((0 : Int32) + (1 : Int32)) + (1 : Int32)) + (1 : Int32)) + (1 : Int32)), .val (.double (FP.l2d d4)), .second] [(.double (FP.l2d d4)), (.double (FP.l2d (((((0 : Int64) + d0) + d1) + d2) + d3)))]) _
    refine XS.daddS X0.here hx rfl (hb hby d1_27) rfl (nn_w (dadd_w b_9 b_4)) (dadd_w b_9 b_4) ?_
    show OwnS p e below s₁ (mkF m 28 #[rv r0, .val (.double (FP.l2d (((((0 : Int64) + d0) + d1) + d2) + d3))), .second, rv r0, iv 5, iv (((((0 : Int32) + (1 : Int32)) + (1 : Int32)) + (1 : Int32)) + (1 : Int32)), .val (.double (FP.l2d d4)), .second] [(.double (FP.l2d ((((((0 : Int64) + d0) + d1) + d2) + d3) + d4)))]) _
    refine XS.dstoreN X0.here hx rfl (hb hby d1_28) rfl (l' := #[rv r0, .val (.double (FP.l2d ((((((0 : Int64) + d0) + d1) + d2) + d3) + d4))), .second, rv r0, iv 5, iv (((((0 : Int32) + (1 : Int32)) + (1 : Int32)) + (1 : Int32)) + (1 : Int32)), .val (.double (FP.l2d d4)), .second]) rfl ?_
    show OwnS p e below s₁ (mkF m 29 #[rv r0, .val (.double (FP.l2d ((((((0 : Int64) + d0) + d1) + d2) + d3) + d4))), .second, rv r0, iv 5, iv (((((0 : Int32) + (1 : Int32)) + (1 : Int32)) + (1 : Int32)) + (1 : Int32)), .val (.double (FP.l2d d4)), .second] []) _
    refine XS.iinc X0.here hx rfl (hb hby d1_29) rfl (l' := #[rv r0, .val (.double (FP.l2d ((((((0 : Int64) + d0) + d1) + d2) + d3) + d4))), .second, rv r0, iv 5, iv ((((((0 : Int32) + (1 : Int32)) + (1 : Int32)) + (1 : Int32)) + (1 : Int32)) + (1 : Int32)), .val (.double (FP.l2d d4)), .second]) rfl ?_
    show OwnS p e below s₁ (mkF m 32 #[rv r0, .val (.double (FP.l2d ((((((0 : Int64) + d0) + d1) + d2) + d3) + d4))), .second, rv r0, iv 5, iv ((((((0 : Int32) + (1 : Int32)) + (1 : Int32)) + (1 : Int32)) + (1 : Int32)) + (1 : Int32)), .val (.double (FP.l2d d4)), .second] []) _
    refine XS.goto X0.here hx rfl (pc0 := 32) (pc' := 11) rfl (hb hby d1_32) (by decide) (by decide) ?_
    show OwnS p e below s₁ (mkF m 11 #[rv r0, .val (.double (FP.l2d ((((((0 : Int64) + d0) + d1) + d2) + d3) + d4))), .second, rv r0, iv 5, iv ((((((0 : Int32) + (1 : Int32)) + (1 : Int32)) + (1 : Int32)) + (1 : Int32)) + (1 : Int32)), .val (.double (FP.l2d d4)), .second] []) _
    refine XS.iload X0.here hx rfl (hb hby d1_11) rfl ?_
    show OwnS p e below s₁ (mkF m 13 #[rv r0, .val (.double (FP.l2d ((((((0 : Int64) + d0) + d1) + d2) + d3) + d4))), .second, rv r0, iv 5, iv ((((((0 : Int32) + (1 : Int32)) + (1 : Int32)) + (1 : Int32)) + (1 : Int32)) + (1 : Int32)), .val (.double (FP.l2d d4)), .second] [(.int 5)]) _
    refine XS.iload X0.here hx rfl (hb hby d1_13) rfl ?_
    show OwnS p e below s₁ (mkF m 15 #[rv r0, .val (.double (FP.l2d ((((((0 : Int64) + d0) + d1) + d2) + d3) + d4))), .second, rv r0, iv 5, iv ((((((0 : Int32) + (1 : Int32)) + (1 : Int32)) + (1 : Int32)) + (1 : Int32)) + (1 : Int32)), .val (.double (FP.l2d d4)), .second] [(.int 5), (.int 5)]) _
    refine XS.icmpYes X0.here hx rfl (pc0 := 15) (pc' := 35) rfl (hb hby d1_15) rfl (flt (by decide : ¬ ((5 : Int32) < (5 : Int32)))).2.1 (by decide) (by decide) ?_
    show OwnS p e below s₁ (mkF m 35 #[rv r0, .val (.double (FP.l2d ((((((0 : Int64) + d0) + d1) + d2) + d3) + d4))), .second, rv r0, iv 5, iv ((((((0 : Int32) + (1 : Int32)) + (1 : Int32)) + (1 : Int32)) + (1 : Int32)) + (1 : Int32)), .val (.double (FP.l2d d4)), .second] []) _
    refine XS.dloadN X0.here hx rfl (hb hby d1_35) rfl ?_
    show OwnS p e below s₁ (mkF m 36 #[rv r0, .val (.double (FP.l2d ((((((0 : Int64) + d0) + d1) + d2) + d3) + d4))), .second, rv r0, iv 5, iv ((((((0 : Int32) + (1 : Int32)) + (1 : Int32)) + (1 : Int32)) + (1 : Int32)) + (1 : Int32)), .val (.double (FP.l2d d4)), .second] [(.double (FP.l2d ((((((0 : Int64) + d0) + d1) + d2) + d3) + d4)))]) _
    exact retD X0 hx Bd.returns (hb hby d1_36) hr
  · show Q_1_5 Z r0 kA d0 d1 d2 d3 d4 h0 n0 _ s₁.heap _
    rw [e0]
    exact ⟨rfl, N0, rfl⟩
theorem pd_0 : parseMethodDescriptor "([D)D" = some ⟨[(.array .double)], some .double⟩ := by decide +kernel
theorem pn_com_example_driftline_driftline_learn_TreeNodeTotalPinLaw : plainName "com/example/driftline/driftline/learn/TreeNodeTotalPinLaw" = true := by first | (simp [plainName, overriddenIn]; done) | decide +kernel
theorem ef_0 (m : MethodId) (x0 : Int32) (x1 : Int32) (x2 : Int32) (x3 : Int32) (x4 : Int32) (x5 : Int32) : entryFrame m #[(.int x0), (.int x1), (.int x2), (.int x3), (.int x4), (.int x5)] maxLocals = mkF m 0 #[.val (.int x0), .val (.int x1), .val (.int x2), .val (.int x3), .val (.int x4), .val (.int x5), .unset, .unset, .unset, .unset, .unset, .unset] [] := by first | (simp [entryFrame, mkF, argsToLocals, Value.category, maxLocals]; done) | rfl
def Q_0 (Z : State) (p0 : Int32) (p1 : Int32) (p2 : Int32) (p3 : Int32) (p4 : Int32) (p5 : Int32) (h0 : Heap) (n0 : Nat) (v : Option Value) (h : Heap) (L : List Loc) : Prop := v = some (.int 1) ∧ Fr n0 L ∧ True
set_option maxRecDepth 65536 in
set_option maxHeartbeats 40000000 in
theorem rm0 (l : Launch) (Z : State) (a0 : Array Value) (hw : ∀ d ∈ tables_1, d.before a0 Z = true) (ws : List Jvm.Cond) (p0 : Int32) (p1 : Int32) (p2 : Int32) (p3 : Int32) (p4 : Int32) (p5 : Int32) (h0 : Heap) (n0 : Nat) (Z0 : n0 ≤ h0.size) :
    MetFree l x (head1 (Jvm.Cond.code x code maxLocals ret :: ws) room_1) (fun a U => a = #[(.int p0), (.int p1), (.int p2), (.int p3), (.int p4), (.int p5)] ∧ Z.Warmed39 U.vm ∧ U.heap = h0) (fun _ _ _ _ _ => True) (fun _ U o U' => ∃ v L, o = .returned v ∧ Q_0 Z p0 p1 p2 p3 p4 p5 h0 n0 v U'.heap L ∧ FrameEnd U o U' L room_1.cells room_1.slots) := by
  refine MetFree.of_bodySF (plainFor_of_name pn_com_example_driftline_driftline_learn_TreeNodeTotalPinLaw) hisR ?_
  intro p e s m args below meth c s₁ Bd hml0 hP hK
  obtain ⟨rfl, hZ, hh⟩ := hP
  have hx := Bd.exec
  have hby := Bd.bytes
  have hml : c.maxLocals = 12 := hml0
  have hown : s.vm.findClass "com/example/driftline/driftline/learn/TreeNodeTotalPinLaw" = some m.cls := findClass_of_methodNamed Bd.named
  have hnm := (name_of_methodNamed Bd.named Bd.method).1
  have X0 : Stand p l e room_1 s m #[(.int p0), (.int p1), (.int p2), (.int p3), (.int p4), (.int p5)] below meth c s₁ [] 0 0 := Stand.of_body Bd
  have e0 : s₁.heap = h0 := by rw [← hh, Bd.state]; rfl
  have N0 := Fr.nil n0
  have k0 : ∀ t, OwnS p e below s₁ (mkF m 0 #[iv p0, iv p1, iv p2, iv p3, iv p4, iv p5, .unset, .unset, .unset, .unset, .unset, .unset] []) t → OwnS p e below s₁ (entryFrame m #[(.int p0), (.int p1), (.int p2), (.int p3), (.int p4), (.int p5)] maxLocals) t := fun t k => castTop (ef_0 m p0 p1 p2 p3 p4 p5) k
  have k1 : ∀ t, OwnS p e below s₁ (mkF m 7 #[iv p0, iv p1, iv p2, iv p3, iv p4, iv p5, .unset, .unset, .unset, .unset, .unset, .unset] [(.int ((p0 &&& (2147483647 : Int32)) % (6 : Int32)))]) t → OwnS p e below s₁ (entryFrame m #[(.int p0), (.int p1), (.int p2), (.int p3), (.int p4), (.int p5)] maxLocals) t := fun t q => by
    refine k0 t ?_
    show OwnS p e below s₁ (mkF m 0 #[iv p0, iv p1, iv p2, iv p3, iv p4, iv p5, .unset, .unset, .unset, .unset, .unset, .unset] []) _
    refine XS.iloadN X0.here hx rfl (hb hby at_0) rfl ?_
    show OwnS p e below s₁ (mkF m 1 #[iv p0, iv p1, iv p2, iv p3, iv p4, iv p5, .unset, .unset, .unset, .unset, .unset, .unset] [(.int p0)]) _
    refine X0.ldcInt hx hown (mvT hZ (own_at hw 0 rfl)) (g := (mkF m 1 #[iv p0, iv p1, iv p2, iv p3, iv p4, iv p5, .unset, .unset, .unset, .unset, .unset, .unset] [(.int p0)])) rfl (hb hby at_1) _ ?_
    show OwnS p e below s₁ (mkF m 3 #[iv p0, iv p1, iv p2, iv p3, iv p4, iv p5, .unset, .unset, .unset, .unset, .unset, .unset] [(.int 2147483647), (.int p0)]) _
    refine XS.iand X0.here hx rfl (hb hby at_3) rfl ?_
    show OwnS p e below s₁ (mkF m 4 #[iv p0, iv p1, iv p2, iv p3, iv p4, iv p5, .unset, .unset, .unset, .unset, .unset, .unset] [(.int (p0 &&& (2147483647 : Int32)))]) _
    refine XS.bipush X0.here hx rfl (hb hby at_4) ?_
    show OwnS p e below s₁ (mkF m 6 #[iv p0, iv p1, iv p2, iv p3, iv p4, iv p5, .unset, .unset, .unset, .unset, .unset, .unset] [(.int 6), (.int (p0 &&& (2147483647 : Int32)))]) _
    refine iremM X0 hx (g := (mkF m 6 #[iv p0, iv p1, iv p2, iv p3, iv p4, iv p5, .unset, .unset, .unset, .unset, .unset, .unset] [(.int 6), (.int (p0 &&& (2147483647 : Int32)))])) rfl (hb hby at_6) rfl (by decide) ?_
    exact q
  rcases own_mod6 p0 with hk | hk | hk | hk | hk | hk
  · obtain ⟨T2, h2, k2, X2, e2, E2, A2, EA2, st2⟩ := newPE X0 hx hZ (own_at hw 1 rfl) e0 (g := (mkF m 15 #[iv p0, iv p1, iv p2, iv p3, iv p4, iv p5, iv 0, .unset, .unset, .unset, .unset, .unset] [(.int 0)])) rfl (hb hby at_15) rfl (by decide) (cap := 0) (by decide) (by decide) (by decide) (by decide) (ad := "[D") (by decide)
    obtain ⟨b2, g2⟩ : ∃ z, z = h0.size := ⟨_, rfl⟩
    rw [← g2] at A2 EA2 st2
    have g_b2 : n0 ≤ b2 := Nat.le_trans Z0 (Nat.le_of_eq g2.symm)
    have sz_b2 : h0.size ≤ b2 := Nat.le_trans (Keep.refl h0 []).1 (Nat.le_of_eq g2.symm)
    have V_b2 : Arv Z h2 b2 k2 .double (0 : Int32) [] (.double (FP.l2d (0 : Int64))) := Arv.newD A2 (by decide)
    obtain ⟨_, _, ⟨T3, L3, j3, i3⟩, -, X3, ⟨Lc3, hQ3, l3, y3, z3⟩, st3⟩ := Jvm.LawKit.callS X2 hx (y := (⟨cS0, "total", "([D)D"⟩ : MethodName)) hown (mvT hZ (own_at hw 2 rfl)) (mvT hZ (own_at hw 3 rfl)) (mvT hZ (own_at hw 4 rfl)) (mvT hZ (own_at hw 5 rfl)) (by decide) (backOf (W := 0) (rm1_0 l Z a0 hw [] b2 k2 h2 n0 (Nat.le_trans Z0 E2.1) V_b2) hZ (own_at hw 5 rfl) (own_at hw 4 rfl) (by decide) (by decide)) (g := (mkF m 219 #[iv p0, iv p1, iv p2, iv p3, iv p4, iv p5, iv 0, rv b2, .val (.long 0), .second, .unset, .unset] [(.ref b2)])) rfl (by rw [hml]; rfl) (argsL := [(.ref b2)]) (rest := []) (lenOf pd_0 rfl) rfl (by show 2 * 0 + _ ≤ _; exact Nat.le_of_eq rfl) (hb hby at_219) (fun _ _ => ⟨rfl, e2, (by decide : 1 + 0 ≤ _), (by decide : 0 + 0 ≤ _)⟩)
    dsimp only [Pt.U, Pt.locs, Pt.cells, Pt.slots] at X3 l3 y3 z3 st3 hQ3
    subst l3 y3 z3
    obtain ⟨rfl, N3q, e3⟩ := hQ3
    have N3 := Fr.app N0 N3q
    obtain ⟨fs, hr, hrun, hended, hW, hsame⟩ := X3.leave (v := some (.int 1)) (fun h => by rw [Bd.returns] at h; cases h)
    refine ⟨_, _, k1 _ ?_, hrun, hended, _, _, rfl, ?_, ⟨_, rfl⟩, hW, hsame.mono (by decide) (by decide)⟩
    · rw [hk]
      show OwnS p e below s₁ (mkF m 7 #[iv p0, iv p1, iv p2, iv p3, iv p4, iv p5, .unset, .unset, .unset, .unset, .unset, .unset] [(.int 0)]) _
      refine XS.istore X0.here hx rfl (hb hby at_7) rfl (l' := #[iv p0, iv p1, iv p2, iv p3, iv p4, iv p5, iv 0, .unset, .unset, .unset, .unset, .unset]) rfl ?_
      show OwnS p e below s₁ (mkF m 9 #[iv p0, iv p1, iv p2, iv p3, iv p4, iv p5, iv 0, .unset, .unset, .unset, .unset, .unset] []) _
      refine XS.iload X0.here hx rfl (hb hby at_9) rfl ?_
      show OwnS p e below s₁ (mkF m 11 #[iv p0, iv p1, iv p2, iv p3, iv p4, iv p5, iv 0, .unset, .unset, .unset, .unset, .unset] [(.int 0)]) _
      refine XS.ifNo X0.here hx rfl (hb hby at_11) rfl ((if0 _ _).trans (teq (by decide : (0 : Int32) = (0 : Int32))).2) ?_
      show OwnS p e below s₁ (mkF m 14 #[iv p0, iv p1, iv p2, iv p3, iv p4, iv p5, iv 0, .unset, .unset, .unset, .unset, .unset] []) _
      refine XS.iconst X0.here hx rfl (hb hby at_14) ?_
      show OwnS p e below s₁ (mkF m 15 #[iv p0, iv p1, iv p2, iv p3, iv p4, iv p5, iv 0, .unset, .unset, .unset, .unset, .unset] [(.int 0)]) _
      refine st2 _ ?_
      show OwnS p e below T2 (mkF m 17 #[iv p0, iv p1, iv p2, iv p3, iv p4, iv p5, iv 0, .unset, .unset, .unset, .unset, .unset] [(.ref b2)]) _
      refine XS.astore X2.here hx rfl (hb hby at_17) rfl rfl (l' := #[iv p0, iv p1, iv p2, iv p3, iv p4, iv p5, iv 0, rv b2, .unset, .unset, .unset, .unset]) rfl ?_
      show OwnS p e below T2 (mkF m 19 #[iv p0, iv p1, iv p2, iv p3, iv p4, iv p5, iv 0, rv b2, .unset, .unset, .unset, .unset] []) _
      refine XS.lconst X2.here hx rfl (hb hby at_19) ?_
      show OwnS p e below T2 (mkF m 20 #[iv p0, iv p1, iv p2, iv p3, iv p4, iv p5, iv 0, rv b2, .unset, .unset, .unset, .unset] [(.long 0)]) _
      refine XS.lstore X2.here hx rfl (hb hby at_20) rfl (l' := #[iv p0, iv p1, iv p2, iv p3, iv p4, iv p5, iv 0, rv b2, .val (.long 0), .second, .unset, .unset]) rfl ?_
      show OwnS p e below T2 (mkF m 22 #[iv p0, iv p1, iv p2, iv p3, iv p4, iv p5, iv 0, rv b2, .val (.long 0), .second, .unset, .unset] []) _
      refine XS.goto X2.here hx rfl (pc0 := 22) (pc' := 217) rfl (hb hby at_22) (by decide) (by decide) ?_
      show OwnS p e below T2 (mkF m 217 #[iv p0, iv p1, iv p2, iv p3, iv p4, iv p5, iv 0, rv b2, .val (.long 0), .second, .unset, .unset] []) _
      refine XS.aload X2.here hx rfl (hb hby at_217) rfl rfl ?_
      show OwnS p e below T2 (mkF m 219 #[iv p0, iv p1, iv p2, iv p3, iv p4, iv p5, iv 0, rv b2, .val (.long 0), .second, .unset, .unset] [(.ref b2)]) _
      refine st3 _ ?_
      show OwnS p e below T3 (mkF m 222 #[iv p0, iv p1, iv p2, iv p3, iv p4, iv p5, iv 0, rv b2, .val (.long 0), .second, .unset, .unset] [(.double (FP.l2d (0 : Int64)))]) _
      refine XS.dstore X3.here hx rfl (hb hby at_222) rfl (l' := #[iv p0, iv p1, iv p2, iv p3, iv p4, iv p5, iv 0, rv b2, .val (.long 0), .second, .val (.double (FP.l2d (0 : Int64))), .second]) rfl ?_
      show OwnS p e below T3 (mkF m 224 #[iv p0, iv p1, iv p2, iv p3, iv p4, iv p5, iv 0, rv b2, .val (.long 0), .second, .val (.double (FP.l2d (0 : Int64))), .second] []) _
      refine XS.dload X3.here hx rfl (hb hby at_224) rfl ?_
      show OwnS p e below T3 (mkF m 226 #[iv p0, iv p1, iv p2, iv p3, iv p4, iv p5, iv 0, rv b2, .val (.long 0), .second, .val (.double (FP.l2d (0 : Int64))), .second] [(.double (FP.l2d (0 : Int64)))]) _
      refine XS.lload X3.here hx rfl (hb hby at_226) rfl ?_
      show OwnS p e below T3 (mkF m 228 #[iv p0, iv p1, iv p2, iv p3, iv p4, iv p5, iv 0, rv b2, .val (.long 0), .second, .val (.double (FP.l2d (0 : Int64))), .second] [(.long 0), (.double (FP.l2d (0 : Int64)))]) _
      refine XS.l2dS X3.here hx rfl (hb hby at_228) rfl rfl ?_
      show OwnS p e below T3 (mkF m 229 #[iv p0, iv p1, iv p2, iv p3, iv p4, iv p5, iv 0, rv b2, .val (.long 0), .second, .val (.double (FP.l2d (0 : Int64))), .second] [(.double (FP.l2d (0 : Int64))), (.double (FP.l2d (0 : Int64)))]) _
      refine XS.dcmpS X3.here hx rfl (hb hby at_229) rfl (dcmpV_w (own_bs own_s0 (by decide)) (own_bs own_s0 (by decide)) _) ?_
      show OwnS p e below T3 (mkF m 230 #[iv p0, iv p1, iv p2, iv p3, iv p4, iv p5, iv 0, rv b2, .val (.long 0), .second, .val (.double (FP.l2d (0 : Int64))), .second] [(.int (lcmpW (0 : Int64) (0 : Int64)))]) _
      refine XS.ifNo X3.here hx rfl (hb hby at_230) rfl ((if0 _ _).trans (teq ((lw_eq _ _).mpr (by decide : (0 : Int64) = (0 : Int64)))).2) ?_
      show OwnS p e below T3 (mkF m 233 #[iv p0, iv p1, iv p2, iv p3, iv p4, iv p5, iv 0, rv b2, .val (.long 0), .second, .val (.double (FP.l2d (0 : Int64))), .second] []) _
      refine XS.iconst X3.here hx rfl (hb hby at_233) ?_
      show OwnS p e below T3 (mkF m 234 #[iv p0, iv p1, iv p2, iv p3, iv p4, iv p5, iv 0, rv b2, .val (.long 0), .second, .val (.double (FP.l2d (0 : Int64))), .second] [(.int 1)]) _
      refine XS.goto X3.here hx rfl (pc0 := 234) (pc' := 238) rfl (hb hby at_234) (by decide) (by decide) ?_
      show OwnS p e below T3 (mkF m 238 #[iv p0, iv p1, iv p2, iv p3, iv p4, iv p5, iv 0, rv b2, .val (.long 0), .second, .val (.double (FP.l2d (0 : Int64))), .second] [(.int 1)]) _
      exact retN X3 hx (t := .boolean) Bd.returns (by simp) (hb hby at_238) hr
    · show Q_0 Z p0 p1 p2 p3 p4 p5 h0 n0 _ T3.heap _
      rw [e3]
      exact ⟨rfl, N3, trivial⟩
  · obtain ⟨T4, h4, k4, X4, e4, E4, A4, EA4, st4⟩ := newPE X0 hx hZ (own_at hw 1 rfl) e0 (g := (mkF m 32 #[iv p0, iv p1, iv p2, iv p3, iv p4, iv p5, iv 1, .unset, .unset, .unset, .unset, .unset] [(.int 1)])) rfl (hb hby at_32) rfl (by decide) (cap := 1) (by decide) (by decide) (by decide) (by decide) (ad := "[D") (by decide)
    obtain ⟨b4, g4⟩ : ∃ z, z = h0.size := ⟨_, rfl⟩
    rw [← g4] at A4 EA4 st4
    have g_b4 : n0 ≤ b4 := Nat.le_trans Z0 (Nat.le_of_eq g4.symm)
    have sz_b4 : h0.size ≤ b4 := Nat.le_trans (Keep.refl h0 []).1 (Nat.le_of_eq g4.symm)
    have V_b4 : Arv Z h4 b4 k4 .double (1 : Int32) [(.double (FP.l2d (0 : Int64)))] (.double (FP.l2d (0 : Int64))) := (Arv.newD A4 (by decide)).pad (pad_rep [] (.double (FP.l2d (0 : Int64))) 1)
    obtain ⟨cl_z5, Ar_z5, q_z5, S_z5, N_z5, H_z5, G_z5⟩ := id V_b4
    have hin6 : ¬ ((0 : Int32) < 0 ∨ cl_z5.slots.size ≤ ((0 : Int32)).toNatClampNeg) := inb_of S_z5 ⟨by decide, by decide⟩
    obtain ⟨T7, h7, X7, e7, W7, st7⟩ := stD X4 hx hZ e4 Ar_z5 (j := (0 : Int32)) hin6 (g := (mkF m 38 #[iv p0, iv p1, iv p2, iv p3, iv p4, iv p5, iv 1, .unset, .unset, .unset, .unset, .unset] [(.double (FP.l2d p1.toInt64)), (.int 0), (.ref b4), (.ref b4)])) rfl rfl (hb hby at_38)
    have V7 : Arv Z h7 b4 k4 .double (1 : Int32) [(.double (FP.l2d p1.toInt64))] (.double (FP.l2d (0 : Int64))) := Arv.set Ar_z5 q_z5 S_z5 N_z5 H_z5 G_z5 rfl W7 0 rfl (Nat.le_of_ble_eq_true rfl)
    have N7 := Fr.snoc X7 N0 g_b4
    obtain ⟨_, _, ⟨T8, L8, j8, i8⟩, -, X8, ⟨Lc8, hQ8, l8, y8, z8⟩, st8⟩ := Jvm.LawKit.callS X7 hx (y := (⟨cS0, "total", "([D)D"⟩ : MethodName)) hown (mvT hZ (own_at hw 2 rfl)) (mvT hZ (own_at hw 3 rfl)) (mvT hZ (own_at hw 4 rfl)) (mvT hZ (own_at hw 5 rfl)) (by decide) (backOf (W := 0) (rm1_1 l Z a0 hw [] b4 k4 p1.toInt64 h7 n0 (Nat.le_trans (Nat.le_trans Z0 E4.1) (Keep.of_wr W7).1) V7 (own_bs (own_si p1) (by decide)) (own_bs own_s0 (by decide))) hZ (own_at hw 5 rfl) (own_at hw 4 rfl) (by decide) (by decide)) (g := (mkF m 219 #[iv p0, iv p1, iv p2, iv p3, iv p4, iv p5, iv 1, rv b4, .val (.long (p1.toInt64)), .second, .unset, .unset] [(.ref b4)])) rfl (by rw [hml]; rfl) (argsL := [(.ref b4)]) (rest := []) (lenOf pd_0 rfl) rfl (by show 2 * 0 + _ ≤ _; exact Nat.le_of_eq rfl) (hb hby at_219) (fun _ _ => ⟨rfl, e7, (by decide : 1 + 0 ≤ _), (by decide : 1 + 0 ≤ _)⟩)
    dsimp only [Pt.U, Pt.locs, Pt.cells, Pt.slots] at X8 l8 y8 z8 st8 hQ8
    subst l8 y8 z8
    obtain ⟨rfl, N8q, e8⟩ := hQ8
    have N8 := Fr.app N7 N8q
    obtain ⟨fs, hr, hrun, hended, hW, hsame⟩ := X8.leave (v := some (.int 1)) (fun h => by rw [Bd.returns] at h; cases h)
    refine ⟨_, _, k1 _ ?_, hrun, hended, _, _, rfl, ?_, ⟨_, rfl⟩, hW, hsame.mono (by decide) (by decide)⟩
    · rw [hk]
      show OwnS p e below s₁ (mkF m 7 #[iv p0, iv p1, iv p2, iv p3, iv p4, iv p5, .unset, .unset, .unset, .unset, .unset, .unset] [(.int 1)]) _
      refine XS.istore X0.here hx rfl (hb hby at_7) rfl (l' := #[iv p0, iv p1, iv p2, iv p3, iv p4, iv p5, iv 1, .unset, .unset, .unset, .unset, .unset]) rfl ?_
      show OwnS p e below s₁ (mkF m 9 #[iv p0, iv p1, iv p2, iv p3, iv p4, iv p5, iv 1, .unset, .unset, .unset, .unset, .unset] []) _
      refine XS.iload X0.here hx rfl (hb hby at_9) rfl ?_
      show OwnS p e below s₁ (mkF m 11 #[iv p0, iv p1, iv p2, iv p3, iv p4, iv p5, iv 1, .unset, .unset, .unset, .unset, .unset] [(.int 1)]) _
      refine XS.ifYes X0.here hx rfl (pc0 := 11) (pc' := 25) rfl (hb hby at_11) rfl ((if0 _ _).trans (feq (by decide : ¬ ((1 : Int32) = (0 : Int32)))).2) (by decide) (by decide) ?_
      show OwnS p e below s₁ (mkF m 25 #[iv p0, iv p1, iv p2, iv p3, iv p4, iv p5, iv 1, .unset, .unset, .unset, .unset, .unset] []) _
      refine XS.iload X0.here hx rfl (hb hby at_25) rfl ?_
      show OwnS p e below s₁ (mkF m 27 #[iv p0, iv p1, iv p2, iv p3, iv p4, iv p5, iv 1, .unset, .unset, .unset, .unset, .unset] [(.int 1)]) _
      refine XS.iconst X0.here hx rfl (hb hby at_27) ?_
      show OwnS p e below s₁ (mkF m 28 #[iv p0, iv p1, iv p2, iv p3, iv p4, iv p5, iv 1, .unset, .unset, .unset, .unset, .unset] [(.int 1), (.int 1)]) _
      refine XS.icmpNo X0.here hx rfl (hb hby at_28) rfl (teq (by decide : (1 : Int32) = (1 : Int32))).2 ?_
      show OwnS p e below s₁ (mkF m 31 #[iv p0, iv p1, iv p2, iv p3, iv p4, iv p5, iv 1, .unset, .unset, .unset, .unset, .unset] []) _
      refine XS.iconst X0.here hx rfl (hb hby at_31) ?_
      show OwnS p e below s₁ (mkF m 32 #[iv p0, iv p1, iv p2, iv p3, iv p4, iv p5, iv 1, .unset, .unset, .unset, .unset, .unset] [(.int 1)]) _
      refine st4 _ ?_
      show OwnS p e below T4 (mkF m 34 #[iv p0, iv p1, iv p2, iv p3, iv p4, iv p5, iv 1, .unset, .unset, .unset, .unset, .unset] [(.ref b4)]) _
      refine XS.dup X4.here hx rfl (hb hby at_34) rfl rfl ?_
      show OwnS p e below T4 (mkF m 35 #[iv p0, iv p1, iv p2, iv p3, iv p4, iv p5, iv 1, .unset, .unset, .unset, .unset, .unset] [(.ref b4), (.ref b4)]) _
      refine XS.iconst X4.here hx rfl (hb hby at_35) ?_
      show OwnS p e below T4 (mkF m 36 #[iv p0, iv p1, iv p2, iv p3, iv p4, iv p5, iv 1, .unset, .unset, .unset, .unset, .unset] [(.int 0), (.ref b4), (.ref b4)]) _
      refine XS.iloadN X4.here hx rfl (hb hby at_36) rfl ?_
      show OwnS p e below T4 (mkF m 37 #[iv p0, iv p1, iv p2, iv p3, iv p4, iv p5, iv 1, .unset, .unset, .unset, .unset, .unset] [(.int p1), (.int 0), (.ref b4), (.ref b4)]) _
      refine XS.i2dS X4.here hx rfl (hb hby at_37) rfl (i2d_w _) ?_
      show OwnS p e below T4 (mkF m 38 #[iv p0, iv p1, iv p2, iv p3, iv p4, iv p5, iv 1, .unset, .unset, .unset, .unset, .unset] [(.double (FP.l2d p1.toInt64)), (.int 0), (.ref b4), (.ref b4)]) _
      refine st7 _ ?_
      show OwnS p e below T7 (mkF m 39 #[iv p0, iv p1, iv p2, iv p3, iv p4, iv p5, iv 1, .unset, .unset, .unset, .unset, .unset] [(.ref b4)]) _
      refine XS.astore X7.here hx rfl (hb hby at_39) rfl rfl (l' := #[iv p0, iv p1, iv p2, iv p3, iv p4, iv p5, iv 1, rv b4, .unset, .unset, .unset, .unset]) rfl ?_
      show OwnS p e below T7 (mkF m 41 #[iv p0, iv p1, iv p2, iv p3, iv p4, iv p5, iv 1, rv b4, .unset, .unset, .unset, .unset] []) _
      refine XS.iloadN X7.here hx rfl (hb hby at_41) rfl ?_
      show OwnS p e below T7 (mkF m 42 #[iv p0, iv p1, iv p2, iv p3, iv p4, iv p5, iv 1, rv b4, .unset, .unset, .unset, .unset] [(.int p1)]) _
      refine XS.i2l X7.here hx rfl (hb hby at_42) rfl ?_
      show OwnS p e below T7 (mkF m 43 #[iv p0, iv p1, iv p2, iv p3, iv p4, iv p5, iv 1, rv b4, .unset, .unset, .unset, .unset] [(.long (p1.toInt64))]) _
      refine XS.lstore X7.here hx rfl (hb hby at_43) rfl (l' := #[iv p0, iv p1, iv p2, iv p3, iv p4, iv p5, iv 1, rv b4, .val (.long (p1.toInt64)), .second, .unset, .unset]) rfl ?_
      show OwnS p e below T7 (mkF m 45 #[iv p0, iv p1, iv p2, iv p3, iv p4, iv p5, iv 1, rv b4, .val (.long (p1.toInt64)), .second, .unset, .unset] []) _
      refine XS.goto X7.here hx rfl (pc0 := 45) (pc' := 217) rfl (hb hby at_45) (by decide) (by decide) ?_
      show OwnS p e below T7 (mkF m 217 #[iv p0, iv p1, iv p2, iv p3, iv p4, iv p5, iv 1, rv b4, .val (.long (p1.toInt64)), .second, .unset, .unset] []) _
      refine XS.aload X7.here hx rfl (hb hby at_217) rfl rfl ?_
      show OwnS p e below T7 (mkF m 219 #[iv p0, iv p1, iv p2, iv p3, iv p4, iv p5, iv 1, rv b4, .val (.long (p1.toInt64)), .second, .unset, .unset] [(.ref b4)]) _
      refine st8 _ ?_
      show OwnS p e below T8 (mkF m 222 #[iv p0, iv p1, iv p2, iv p3, iv p4, iv p5, iv 1, rv b4, .val (.long (p1.toInt64)), .second, .unset, .unset] [(.double (FP.l2d ((0 : Int64) + p1.toInt64)))]) _
      refine XS.dstore X8.here hx rfl (hb hby at_222) rfl (l' := #[iv p0, iv p1, iv p2, iv p3, iv p4, iv p5, iv 1, rv b4, .val (.long (p1.toInt64)), .second, .val (.double (FP.l2d ((0 : Int64) + p1.toInt64))), .second]) rfl ?_
      show OwnS p e below T8 (mkF m 224 #[iv p0, iv p1, iv p2, iv p3, iv p4, iv p5, iv 1, rv b4, .val (.long (p1.toInt64)), .second, .val (.double (FP.l2d ((0 : Int64) + p1.toInt64))), .second] []) _
      refine XS.dload X8.here hx rfl (hb hby at_224) rfl ?_
      show OwnS p e below T8 (mkF m 226 #[iv p0, iv p1, iv p2, iv p3, iv p4, iv p5, iv 1, rv b4, .val (.long (p1.toInt64)), .second, .val (.double (FP.l2d ((0 : Int64) + p1.toInt64))), .second] [(.double (FP.l2d ((0 : Int64) + p1.toInt64)))]) _
      refine XS.lload X8.here hx rfl (hb hby at_226) rfl ?_
      show OwnS p e below T8 (mkF m 228 #[iv p0, iv p1, iv p2, iv p3, iv p4, iv p5, iv 1, rv b4, .val (.long (p1.toInt64)), .second, .val (.double (FP.l2d ((0 : Int64) + p1.toInt64))), .second] [(.long (p1.toInt64)), (.double (FP.l2d ((0 : Int64) + p1.toInt64)))]) _
      refine XS.l2dS X8.here hx rfl (hb hby at_228) rfl rfl ?_
      show OwnS p e below T8 (mkF m 229 #[iv p0, iv p1, iv p2, iv p3, iv p4, iv p5, iv 1, rv b4, .val (.long (p1.toInt64)), .second, .val (.double (FP.l2d ((0 : Int64) + p1.toInt64))), .second] [(.double (FP.l2d (p1.toInt64))), (.double (FP.l2d ((0 : Int64) + p1.toInt64)))]) _
      refine XS.dcmpS X8.here hx rfl (hb hby at_229) rfl (dcmpV_w (own_bs (own_sa own_s0 p1 (by decide)) (by decide)) (own_bs (own_si p1) (by decide)) _) ?_
      show OwnS p e below T8 (mkF m 230 #[iv p0, iv p1, iv p2, iv p3, iv p4, iv p5, iv 1, rv b4, .val (.long (p1.toInt64)), .second, .val (.double (FP.l2d ((0 : Int64) + p1.toInt64))), .second] [(.int (lcmpW ((0 : Int64) + p1.toInt64) (p1.toInt64)))]) _
      refine XS.ifNo X8.here hx rfl (hb hby at_230) rfl ((if0 _ _).trans (teq ((lw_eq _ _).mpr (by rw [Int64.zero_add]))).2) ?_
      show OwnS p e below T8 (mkF m 233 #[iv p0, iv p1, iv p2, iv p3, iv p4, iv p5, iv 1, rv b4, .val (.long (p1.toInt64)), .second, .val (.double (FP.l2d ((0 : Int64) + p1.toInt64))), .second] []) _
      refine XS.iconst X8.here hx rfl (hb hby at_233) ?_
      show OwnS p e below T8 (mkF m 234 #[iv p0, iv p1, iv p2, iv p3, iv p4, iv p5, iv 1, rv b4, .val (.long (p1.toInt64)), .second, .val (.double (FP.l2d ((0 : Int64) + p1.toInt64))), .second] [(.int 1)]) _
      refine XS.goto X8.here hx rfl (pc0 := 234) (pc' := 238) rfl (hb hby at_234) (by decide) (by decide) ?_
      show OwnS p e below T8 (mkF m 238 #[iv p0, iv p1, iv p2, iv p3, iv p4, iv p5, iv 1, rv b4, .val (.long (p1.toInt64)), .second, .val (.double (FP.l2d ((0 : Int64) + p1.toInt64))), .second] [(.int 1)]) _
      exact retN X8 hx (t := .boolean) Bd.returns (by simp) (hb hby at_238) hr
    · show Q_0 Z p0 p1 p2 p3 p4 p5 h0 n0 _ T8.heap _
      rw [e8]
      exact ⟨rfl, N8, trivial⟩
  · obtain ⟨T9, h9, k9, X9, e9, E9, A9, EA9, st9⟩ := newPE X0 hx hZ (own_at hw 1 rfl) e0 (g := (mkF m 55 #[iv p0, iv p1, iv p2, iv p3, iv p4, iv p5, iv 2, .unset, .unset, .unset, .unset, .unset] [(.int 2)])) rfl (hb hby at_55) rfl (by decide) (cap := 2) (by decide) (by decide) (by decide) (by decide) (ad := "[D") (by decide)
    obtain ⟨b9, g9⟩ : ∃ z, z = h0.size := ⟨_, rfl⟩
    rw [← g9] at A9 EA9 st9
    have g_b9 : n0 ≤ b9 := Nat.le_trans Z0 (Nat.le_of_eq g9.symm)
    have sz_b9 : h0.size ≤ b9 := Nat.le_trans (Keep.refl h0 []).1 (Nat.le_of_eq g9.symm)
    have V_b9 : Arv Z h9 b9 k9 .double (2 : Int32) [(.double (FP.l2d (0 : Int64))), (.double (FP.l2d (0 : Int64)))] (.double (FP.l2d (0 : Int64))) := (Arv.newD A9 (by decide)).pad (pad_rep [] (.double (FP.l2d (0 : Int64))) 2)
    obtain ⟨cl_z10, Ar_z10, q_z10, S_z10, N_z10, H_z10, G_z10⟩ := id V_b9
    have hin11 : ¬ ((0 : Int32) < 0 ∨ cl_z10.slots.size ≤ ((0 : Int32)).toNatClampNeg) := inb_of S_z10 ⟨by decide, by decide⟩
    obtain ⟨T12, h12, X12, e12, W12, st12⟩ := stD X9 hx hZ e9 Ar_z10 (j := (0 : Int32)) hin11 (g := (mkF m 61 #[iv p0, iv p1, iv p2, iv p3, iv p4, iv p5, iv 2, .unset, .unset, .unset, .unset, .unset] [(.double (FP.l2d p1.toInt64)), (.int 0), (.ref b9), (.ref b9)])) rfl rfl (hb hby at_61)
    have V12 : Arv Z h12 b9 k9 .double (2 : Int32) [(.double (FP.l2d p1.toInt64)), (.double (FP.l2d (0 : Int64)))] (.double (FP.l2d (0 : Int64))) := Arv.set Ar_z10 q_z10 S_z10 N_z10 H_z10 G_z10 rfl W12 0 rfl (Nat.le_of_ble_eq_true rfl)
    have N12 := Fr.snoc X12 N0 g_b9
    obtain ⟨cl_z13, Ar_z13, q_z13, S_z13, N_z13, H_z13, G_z13⟩ := id V12
    have hin14 : ¬ ((1 : Int32) < 0 ∨ cl_z13.slots.size ≤ ((1 : Int32)).toNatClampNeg) := inb_of S_z13 ⟨by decide, by decide⟩
    obtain ⟨T15, h15, X15, e15, W15, st15⟩ := stD X12 hx hZ e12 Ar_z13 (j := (1 : Int32)) hin14 (g := (mkF m 66 #[iv p0, iv p1, iv p2, iv p3, iv p4, iv p5, iv 2, .unset, .unset, .unset, .unset, .unset] [(.double (FP.l2d p2.toInt64)), (.int 1), (.ref b9), (.ref b9)])) rfl rfl (hb hby at_66)
    have V15 : Arv Z h15 b9 k9 .double (2 : Int32) [(.double (FP.l2d p1.toInt64)), (.double (FP.l2d p2.toInt64))] (.double (FP.l2d (0 : Int64))) := Arv.set Ar_z13 q_z13 S_z13 N_z13 H_z13 G_z13 rfl W15 1 rfl (Nat.le_of_ble_eq_true rfl)
    have N15 := Fr.snoc X15 N12 g_b9
    obtain ⟨_, _, ⟨T16, L16, j16, i16⟩, -, X16, ⟨Lc16, hQ16, l16, y16, z16⟩, st16⟩ := Jvm.LawKit.callS X15 hx (y := (⟨cS0, "total", "([D)D"⟩ : MethodName)) hown (mvT hZ (own_at hw 2 rfl)) (mvT hZ (own_at hw 3 rfl)) (mvT hZ (own_at hw 4 rfl)) (mvT hZ (own_at hw 5 rfl)) (by decide) (backOf (W := 0) (rm1_2 l Z a0 hw [] b9 k9 p1.toInt64 p2.toInt64 h15 n0 (Nat.le_trans (Nat.le_trans (Nat.le_trans Z0 E9.1) (Keep.of_wr W12).1) (Keep.of_wr W15).1) V15 (own_bs (own_si p1) (by decide)) (own_bs (own_si p2) (by decide)) (own_bs own_s0 (by decide)) (own_bs (own_sa own_s0 p1 (by decide)) (by decide))) hZ (own_at hw 5 rfl) (own_at hw 4 rfl) (by decide) (by decide)) (g := (mkF m 219 #[iv p0, iv p1, iv p2, iv p3, iv p4, iv p5, iv 2, rv b9, .val (.long ((p1.toInt64) + (p2.toInt64))), .second, .unset, .unset] [(.ref b9)])) rfl (by rw [hml]; rfl) (argsL := [(.ref b9)]) (rest := []) (lenOf pd_0 rfl) rfl (by show 2 * 0 + _ ≤ _; exact Nat.le_of_eq rfl) (hb hby at_219) (fun _ _ => ⟨rfl, e15, (by decide : 1 + 0 ≤ _), (by decide : 2 + 0 ≤ _)⟩)
    dsimp only [Pt.U, Pt.locs, Pt.cells, Pt.slots] at X16 l16 y16 z16 st16 hQ16
    subst l16 y16 z16
    obtain ⟨rfl, N16q, e16⟩ := hQ16
    have N16 := Fr.app N15 N16q
    obtain ⟨fs, hr, hrun, hended, hW, hsame⟩ := X16.leave (v := some (.int 1)) (fun h => by rw [Bd.returns] at h; cases h)
    refine ⟨_, _, k1 _ ?_, hrun, hended, _, _, rfl, ?_, ⟨_, rfl⟩, hW, hsame.mono (by decide) (by decide)⟩
    · rw [hk]
      show OwnS p e below s₁ (mkF m 7 #[iv p0, iv p1, iv p2, iv p3, iv p4, iv p5, .unset, .unset, .unset, .unset, .unset, .unset] [(.int 2)]) _
      refine XS.istore X0.here hx rfl (hb hby at_7) rfl (l' := #[iv p0, iv p1, iv p2, iv p3, iv p4, iv p5, iv 2, .unset, .unset, .unset, .unset, .unset]) rfl ?_
      show OwnS p e below s₁ (mkF m 9 #[iv p0, iv p1, iv p2, iv p3, iv p4, iv p5, iv 2, .unset, .unset, .unset, .unset, .unset] []) _
      refine XS.iload X0.here hx rfl (hb hby at_9) rfl ?_
      show OwnS p e below s₁ (mkF m 11 #[iv p0, iv p1, iv p2, iv p3, iv p4, iv p5, iv 2, .unset, .unset, .unset, .unset, .unset] [(.int 2)]) _
      refine XS.ifYes X0.here hx rfl (pc0 := 11) (pc' := 25) rfl (hb hby at_11) rfl ((if0 _ _).trans (feq (by decide : ¬ ((2 : Int32) = (0 : Int32)))).2) (by decide) (by decide) ?_
      show OwnS p e below s₁ (mkF m 25 #[iv p0, iv p1, iv p2, iv p3, iv p4, iv p5, iv 2, .unset, .unset, .unset, .unset, .unset] []) _
      refine XS.iload X0.here hx rfl (hb hby at_25) rfl ?_
      show OwnS p e below s₁ (mkF m 27 #[iv p0, iv p1, iv p2, iv p3, iv p4, iv p5, iv 2, .unset, .unset, .unset, .unset, .unset] [(.int 2)]) _
      refine XS.iconst X0.here hx rfl (hb hby at_27) ?_
      show OwnS p e below s₁ (mkF m 28 #[iv p0, iv p1, iv p2, iv p3, iv p4, iv p5, iv 2, .unset, .unset, .unset, .unset, .unset] [(.int 1), (.int 2)]) _
      refine XS.icmpYes X0.here hx rfl (pc0 := 28) (pc' := 48) rfl (hb hby at_28) rfl (feq (by decide : ¬ ((2 : Int32) = (1 : Int32)))).2 (by decide) (by decide) ?_
      show OwnS p e below s₁ (mkF m 48 #[iv p0, iv p1, iv p2, iv p3, iv p4, iv p5, iv 2, .unset, .unset, .unset, .unset, .unset] []) _
      refine XS.iload X0.here hx rfl (hb hby at_48) rfl ?_
      show OwnS p e below s₁ (mkF m 50 #[iv p0, iv p1, iv p2, iv p3, iv p4, iv p5, iv 2, .unset, .unset, .unset, .unset, .unset] [(.int 2)]) _
      refine XS.iconst X0.here hx rfl (hb hby at_50) ?_
      show OwnS p e below s₁ (mkF m 51 #[iv p0, iv p1, iv p2, iv p3, iv p4, iv p5, iv 2, .unset, .unset, .unset, .unset, .unset] [(.int 2), (.int 2)]) _
      refine XS.icmpNo X0.here hx rfl (hb hby at_51) rfl (teq (by decide : (2 : Int32) = (2 : Int32))).2 ?_
      show OwnS p e below s₁ (mkF m 54 #[iv p0, iv p1, iv p2, iv p3, iv p4, iv p5, iv 2, .unset, .unset, .unset, .unset, .unset] []) _
      refine XS.iconst X0.here hx rfl (hb hby at_54) ?_
      show OwnS p e below s₁ (mkF m 55 #[iv p0, iv p1, iv p2, iv p3, iv p4, iv p5, iv 2, .unset, .unset, .unset, .unset, .unset] [(.int 2)]) _
      refine st9 _ ?_
      show OwnS p e below T9 (mkF m 57 #[iv p0, iv p1, iv p2, iv p3, iv p4, iv p5, iv 2, .unset, .unset, .unset, .unset, .unset] [(.ref b9)]) _
      refine XS.dup X9.here hx rfl (hb hby at_57) rfl rfl ?_
      show OwnS p e below T9 (mkF m 58 #[iv p0, iv p1, iv p2, iv p3, iv p4, iv p5, iv 2, .unset, .unset, .unset, .unset, .unset] [(.ref b9), (.ref b9)]) _
      refine XS.iconst X9.here hx rfl (hb hby at_58) ?_
      show OwnS p e below T9 (mkF m 59 #[iv p0, iv p1, iv p2, iv p3, iv p4, iv p5, iv 2, .unset, .unset, .unset, .unset, .unset] [(.int 0), (.ref b9), (.ref b9)]) _
      refine XS.iloadN X9.here hx rfl (hb hby at_59) rfl ?_
      show OwnS p e below T9 (mkF m 60 #[iv p0, iv p1, iv p2, iv p3, iv p4, iv p5, iv 2, .unset, .unset, .unset, .unset, .unset] [(.int p1), (.int 0), (.ref b9), (.ref b9)]) _
      refine XS.i2dS X9.here hx rfl (hb hby at_60) rfl (i2d_w _) ?_
      show OwnS p e below T9 (mkF m 61 #[iv p0, iv p1, iv p2, iv p3, iv p4, iv p5, iv 2, .unset, .unset, .unset, .unset, .unset] [(.double (FP.l2d p1.toInt64)), (.int 0), (.ref b9), (.ref b9)]) _
      refine st12 _ ?_
      show OwnS p e below T12 (mkF m 62 #[iv p0, iv p1, iv p2, iv p3, iv p4, iv p5, iv 2, .unset, .unset, .unset, .unset, .unset] [(.ref b9)]) _
      refine XS.dup X12.here hx rfl (hb hby at_62) rfl rfl ?_
      show OwnS p e below T12 (mkF m 63 #[iv p0, iv p1, iv p2, iv p3, iv p4, iv p5, iv 2, .unset, .unset, .unset, .unset, .unset] [(.ref b9), (.ref b9)]) _
      refine XS.iconst X12.here hx rfl (hb hby at_63) ?_
      show OwnS p e below T12 (mkF m 64 #[iv p0, iv p1, iv p2, iv p3, iv p4, iv p5, iv 2, .unset, .unset, .unset, .unset, .unset] [(.int 1), (.ref b9), (.ref b9)]) _
      refine XS.iloadN X12.here hx rfl (hb hby at_64) rfl ?_
      show OwnS p e below T12 (mkF m 65 #[iv p0, iv p1, iv p2, iv p3, iv p4, iv p5, iv 2, .unset, .unset, .unset, .unset, .unset] [(.int p2), (.int 1), (.ref b9), (.ref b9)]) _
      refine XS.i2dS X12.here hx rfl (hb hby at_65) rfl (i2d_w _) ?_
      show OwnS p e below T12 (mkF m 66 #[iv p0, iv p1, iv p2, iv p3, iv p4, iv p5, iv 2, .unset, .unset, .unset, .unset, .unset] [(.double (FP.l2d p2.toInt64)), (.int 1), (.ref b9), (.ref b9)]) _
      refine st15 _ ?_
      show OwnS p e below T15 (mkF m 67 #[iv p0, iv p1, iv p2, iv p3, iv p4, iv p5, iv 2, .unset, .unset, .unset, .unset, .unset] [(.ref b9)]) _
      refine XS.astore X15.here hx rfl (hb hby at_67) rfl rfl (l' := #[iv p0, iv p1, iv p2, iv p3, iv p4, iv p5, iv 2, rv b9, .unset, .unset, .unset, .unset]) rfl ?_
      show OwnS p e below T15 (mkF m 69 #[iv p0, iv p1, iv p2, iv p3, iv p4, iv p5, iv 2, rv b9, .unset, .unset, .unset, .unset] []) _
      refine XS.iloadN X15.here hx rfl (hb hby at_69) rfl ?_
      show OwnS p e below T15 (mkF m 70 #[iv p0, iv p1, iv p2, iv p3, iv p4, iv p5, iv 2, rv b9, .unset, .unset, .unset, .unset] [(.int p1)]) _
      refine XS.i2l X15.here hx rfl (hb hby at_70) rfl ?_
      show OwnS p e below T15 (mkF m 71 #[iv p0, iv p1, iv p2, iv p3, iv p4, iv p5, iv 2, rv b9, .unset, .unset, .unset, .unset] [(.long (p1.toInt64))]) _
      refine XS.iloadN X15.here hx rfl (hb hby at_71) rfl ?_
      show OwnS p e below T15 (mkF m 72 #[iv p0, iv p1, iv p2, iv p3, iv p4, iv p5, iv 2, rv b9, .unset, .unset, .unset, .unset] [(.int p2), (.long (p1.toInt64))]) _
      refine XS.i2l X15.here hx rfl (hb hby at_72) rfl ?_
      show OwnS p e below T15 (mkF m 73 #[iv p0, iv p1, iv p2, iv p3, iv p4, iv p5, iv 2, rv b9, .unset, .unset, .unset, .unset] [(.long (p2.toInt64)), (.long (p1.toInt64))]) _
      refine XS.ladd X15.here hx rfl (hb hby at_73) rfl ?_
      show OwnS p e below T15 (mkF m 74 #[iv p0, iv p1, iv p2, iv p3, iv p4, iv p5, iv 2, rv b9, .unset, .unset, .unset, .unset] [(.long ((p1.toInt64) + (p2.toInt64)))]) _
      refine XS.lstore X15.here hx rfl (hb hby at_74) rfl (l' := #[iv p0, iv p1, iv p2, iv p3, iv p4, iv p5, iv 2, rv b9, .val (.long ((p1.toInt64) + (p2.toInt64))), .second, .unset, .unset]) rfl ?_
      show OwnS p e below T15 (mkF m 76 #[iv p0, iv p1, iv p2, iv p3, iv p4, iv p5, iv 2, rv b9, .val (.long ((p1.toInt64) + (p2.toInt64))), .second, .unset, .unset] []) _
      refine XS.goto X15.here hx rfl (pc0 := 76) (pc' := 217) rfl (hb hby at_76) (by decide) (by decide) ?_
      show OwnS p e below T15 (mkF m 217 #[iv p0, iv p1, iv p2, iv p3, iv p4, iv p5, iv 2, rv b9, .val (.long ((p1.toInt64) + (p2.toInt64))), .second, .unset, .unset] []) _
      refine XS.aload X15.here hx rfl (hb hby at_217) rfl rfl ?_
      show OwnS p e below T15 (mkF m 219 #[iv p0, iv p1, iv p2, iv p3, iv p4, iv p5, iv 2, rv b9, .val (.long ((p1.toInt64) + (p2.toInt64))), .second, .unset, .unset] [(.ref b9)]) _
      refine st16 _ ?_
      show OwnS p e below T16 (mkF m 222 #[iv p0, iv p1, iv p2, iv p3, iv p4, iv p5, iv 2, rv b9, .val (.long ((p1.toInt64) + (p2.toInt64))), .second, .unset, .unset] [(.double (FP.l2d (((0 : Int64) + p1.toInt64) + p2.toInt64)))]) _
      refine XS.dstore X16.here hx rfl (hb hby at_222) rfl (l' := #[iv p0, iv p1, iv p2, iv p3, iv p4, iv p5, iv 2, rv b9, .val (.long ((p1.toInt64) + (p2.toInt64))), .second, .val (.double (FP.l2d (((0 : Int64) + p1.toInt64) + p2.toInt64))), .second]) rfl ?_
      show OwnS p e below T16 (mkF m 224 #[iv p0, iv p1, iv p2, iv p3, iv p4, iv p5, iv 2, rv b9, .val (.long ((p1.toInt64) + (p2.toInt64))), .second, .val (.double (FP.l2d (((0 : Int64) + p1.toInt64) + p2.toInt64))), .second] []) _
      refine XS.dload X16.here hx rfl (hb hby at_224) rfl ?_
      show OwnS p e below T16 (mkF m 226 #[iv p0, iv p1, iv p2, iv p3, iv p4, iv p5, iv 2, rv b9, .val (.long ((p1.toInt64) + (p2.toInt64))), .second, .val (.double (FP.l2d (((0 : Int64) + p1.toInt64) + p2.toInt64))), .second] [(.double (FP.l2d (((0 : Int64) + p1.toInt64) + p2.toInt64)))]) _
      refine XS.lload X16.here hx rfl (hb hby at_226) rfl ?_
      show OwnS p e below T16 (mkF m 228 #[iv p0, iv p1, iv p2, iv p3, iv p4, iv p5, iv 2, rv b9, .val (.long ((p1.toInt64) + (p2.toInt64))), .second, .val (.double (FP.l2d (((0 : Int64) + p1.toInt64) + p2.toInt64))), .second] [(.long ((p1.toInt64) + (p2.toInt64))), (.double (FP.l2d (((0 : Int64) + p1.toInt64) + p2.toInt64)))]) _
      refine XS.l2dS X16.here hx rfl (hb hby at_228) rfl rfl ?_
      show OwnS p e below T16 (mkF m 229 #[iv p0, iv p1, iv p2, iv p3, iv p4, iv p5, iv 2, rv b9, .val (.long ((p1.toInt64) + (p2.toInt64))), .second, .val (.double (FP.l2d (((0 : Int64) + p1.toInt64) + p2.toInt64))), .second] [(.double (FP.l2d ((p1.toInt64) + (p2.toInt64)))), (.double (FP.l2d (((0 : Int64) + p1.toInt64) + p2.toInt64)))]) _
      refine XS.dcmpS X16.here hx rfl (hb hby at_229) rfl (dcmpV_w (own_bs (own_sa (own_sa own_s0 p1 (by decide)) p2 (by decide)) (by decide)) (own_bs (own_sa (own_si p1) p2 (by decide)) (by decide)) _) ?_
      show OwnS p e below T16 (mkF m 230 #[iv p0, iv p1, iv p2, iv p3, iv p4, iv p5, iv 2, rv b9, .val (.long ((p1.toInt64) + (p2.toInt64))), .second, .val (.double (FP.l2d (((0 : Int64) + p1.toInt64) + p2.toInt64))), .second] [(.int (lcmpW (((0 : Int64) + p1.toInt64) + p2.toInt64) ((p1.toInt64) + (p2.toInt64))))]) _
      refine XS.ifNo X16.here hx rfl (hb hby at_230) rfl ((if0 _ _).trans (teq ((lw_eq _ _).mpr (by rw [Int64.zero_add]))).2) ?_
      show OwnS p e below T16 (mkF m 233 #[iv p0, iv p1, iv p2, iv p3, iv p4, iv p5, iv 2, rv b9, .val (.long ((p1.toInt64) + (p2.toInt64))), .second, .val (.double (FP.l2d (((0 : Int64) + p1.toInt64) + p2.toInt64))), .second] []) _
      refine XS.iconst X16.here hx rfl (hb hby at_233) ?_
      show OwnS p e below T16 (mkF m 234 #[iv p0, iv p1, iv p2, iv p3, iv p4, iv p5, iv 2, rv b9, .val (.long ((p1.toInt64) + (p2.toInt64))), .second, .val (.double (FP.l2d (((0 : Int64) + p1.toInt64) + p2.toInt64))), .second] [(.int 1)]) _
      refine XS.goto X16.here hx rfl (pc0 := 234) (pc' := 238) rfl (hb hby at_234) (by decide) (by decide) ?_
      show OwnS p e below T16 (mkF m 238 #[iv p0, iv p1, iv p2, iv p3, iv p4, iv p5, iv 2, rv b9, .val (.long ((p1.toInt64) + (p2.toInt64))), .second, .val (.double (FP.l2d (((0 : Int64) + p1.toInt64) + p2.toInt64))), .second] [(.int 1)]) _
      exact retN X16 hx (t := .boolean) Bd.returns (by simp) (hb hby at_238) hr
    · show Q_0 Z p0 p1 p2 p3 p4 p5 h0 n0 _ T16.heap _
      rw [e16]
      exact ⟨rfl, N16, trivial⟩
  · obtain ⟨T17, h17, k17, X17, e17, E17, A17, EA17, st17⟩ := newPE X0 hx hZ (own_at hw 1 rfl) e0 (g := (mkF m 86 #[iv p0, iv p1, iv p2, iv p3, iv p4, iv p5, iv 3, .unset, .unset, .unset, .unset, .unset] [(.int 3)])) rfl (hb hby at_86) rfl (by decide) (cap := 3) (by decide) (by decide) (by decide) (by decide) (ad := "[D") (by decide)
    obtain ⟨b17, g17⟩ : ∃ z, z = h0.size := ⟨_, rfl⟩
    rw [← g17] at A17 EA17 st17
    have g_b17 : n0 ≤ b17 := Nat.le_trans Z0 (Nat.le_of_eq g17.symm)
    have sz_b17 : h0.size ≤ b17 := Nat.le_trans (Keep.refl h0 []).1 (Nat.le_of_eq g17.symm)
    have V_b17 : Arv Z h17 b17 k17 .double (3 : Int32) [(.double (FP.l2d (0 : Int64))), (.double (FP.l2d (0 : Int64))), (.double (FP.l2d (0 : Int64)))] (.double (FP.l2d (0 : Int64))) := (Arv.newD A17 (by decide)).pad (pad_rep [] (.double (FP.l2d (0 : Int64))) 3)
    obtain ⟨cl_z18, Ar_z18, q_z18, S_z18, N_z18, H_z18, G_z18⟩ := id V_b17
    have hin19 : ¬ ((0 : Int32) < 0 ∨ cl_z18.slots.size ≤ ((0 : Int32)).toNatClampNeg) := inb_of S_z18 ⟨by decide, by decide⟩
    obtain ⟨T20, h20, X20, e20, W20, st20⟩ := stD X17 hx hZ e17 Ar_z18 (j := (0 : Int32)) hin19 (g := (mkF m 92 #[iv p0, iv p1, iv p2, iv p3, iv p4, iv p5, iv 3, .unset, .unset, .unset, .unset, .unset] [(.double (FP.l2d p1.toInt64)), (.int 0), (.ref b17), (.ref b17)])) rfl rfl (hb hby at_92)
    have V20 : Arv Z h20 b17 k17 .double (3 : Int32) [(.double (FP.l2d p1.toInt64)), (.double (FP.l2d (0 : Int64))), (.double (FP.l2d (0 : Int64)))] (.double (FP.l2d (0 : Int64))) := Arv.set Ar_z18 q_z18 S_z18 N_z18 H_z18 G_z18 rfl W20 0 rfl (Nat.le_of_ble_eq_true rfl)
    have N20 := Fr.snoc X20 N0 g_b17
    obtain ⟨cl_z21, Ar_z21, q_z21, S_z21, N_z21, H_z21, G_z21⟩ := id V20
    have hin22 : ¬ ((1 : Int32) < 0 ∨ cl_z21.slots.size ≤ ((1 : Int32)).toNatClampNeg) := inb_of S_z21 ⟨by decide, by decide⟩
    obtain ⟨T23, h23, X23, e23, W23, st23⟩ := stD X20 hx hZ e20 Ar_z21 (j := (1 : Int32)) hin22 (g := (mkF m 97 #[iv p0, iv p1, iv p2, iv p3, iv p4, iv p5, iv 3, .unset, .unset, .unset, .unset, .unset] [(.double (FP.l2d p2.toInt64)), (.int 1), (.ref b17), (.ref b17)])) rfl rfl (hb hby at_97)
    have V23 : Arv Z h23 b17 k17 .double (3 : Int32) [(.double (FP.l2d p1.toInt64)), (.double (FP.l2d p2.toInt64)), (.double (FP.l2d (0 : Int64)))] (.double (FP.l2d (0 : Int64))) := Arv.set Ar_z21 q_z21 S_z21 N_z21 H_z21 G_z21 rfl W23 1 rfl (Nat.le_of_ble_eq_true rfl)
    have N23 := Fr.snoc X23 N20 g_b17
    obtain ⟨cl_z24, Ar_z24, q_z24, S_z24, N_z24, H_z24, G_z24⟩ := id V23
    have hin25 : ¬ ((2 : Int32) < 0 ∨ cl_z24.slots.size ≤ ((2 : Int32)).toNatClampNeg) := inb_of S_z24 ⟨by decide, by decide⟩
    obtain ⟨T26, h26, X26, e26, W26, st26⟩ := stD X23 hx hZ e23 Ar_z24 (j := (2 : Int32)) hin25 (g := (mkF m 102 #[iv p0, iv p1, iv p2, iv p3, iv p4, iv p5, iv 3, .unset, .unset, .unset, .unset, .unset] [(.double (FP.l2d p3.toInt64)), (.int 2), (.ref b17), (.ref b17)])) rfl rfl (hb hby at_102)
    have V26 : Arv Z h26 b17 k17 .double (3 : Int32) [(.double (FP.l2d p1.toInt64)), (.double (FP.l2d p2.toInt64)), (.double (FP.l2d p3.toInt64))] (.double (FP.l2d (0 : Int64))) := Arv.set Ar_z24 q_z24 S_z24 N_z24 H_z24 G_z24 rfl W26 2 rfl (Nat.le_of_ble_eq_true rfl)
    have N26 := Fr.snoc X26 N23 g_b17
    obtain ⟨_, _, ⟨T27, L27, j27, i27⟩, -, X27, ⟨Lc27, hQ27, l27, y27, z27⟩, st27⟩ := Jvm.LawKit.callS X26 hx (y := (⟨cS0, "total", "([D)D"⟩ : MethodName)) hown (mvT hZ (own_at hw 2 rfl)) (mvT hZ (own_at hw 3 rfl)) (mvT hZ (own_at hw 4 rfl)) (mvT hZ (own_at hw 5 rfl)) (by decide) (backOf (W := 0) (rm1_3 l Z a0 hw [] b17 k17 p1.toInt64 p2.toInt64 p3.toInt64 h26 n0 (Nat.le_trans (Nat.le_trans (Nat.le_trans (Nat.le_trans Z0 E17.1) (Keep.of_wr W20).1) (Keep.of_wr W23).1) (Keep.of_wr W26).1) V26 (own_bs (own_si p1) (by decide)) (own_bs (own_si p2) (by decide)) (own_bs (own_si p3) (by decide)) (own_bs own_s0 (by decide)) (own_bs (own_sa own_s0 p1 (by decide)) (by decide)) (own_bs (own_sa (own_sa own_s0 p1 (by decide)) p2 (by decide)) (by decide))) hZ (own_at hw 5 rfl) (own_at hw 4 rfl) (by decide) (by decide)) (g := (mkF m 219 #[iv p0, iv p1, iv p2, iv p3, iv p4, iv p5, iv 3, rv b17, .val (.long (((p1.toInt64) + (p2.toInt64)) + (p3.toInt64))), .second, .unset, .unset] [(.ref b17)])) rfl (by rw [hml]; rfl) (argsL := [(.ref b17)]) (rest := []) (lenOf pd_0 rfl) rfl (by show 2 * 0 + _ ≤ _; exact Nat.le_of_eq rfl) (hb hby at_219) (fun _ _ => ⟨rfl, e26, (by decide : 1 + 0 ≤ _), (by decide : 3 + 0 ≤ _)⟩)
    dsimp only [Pt.U, Pt.locs, Pt.cells, Pt.slots] at X27 l27 y27 z27 st27 hQ27
    subst l27 y27 z27
    obtain ⟨rfl, N27q, e27⟩ := hQ27
    have N27 := Fr.app N26 N27q
    obtain ⟨fs, hr, hrun, hended, hW, hsame⟩ := X27.leave (v := some (.int 1)) (fun h => by rw [Bd.returns] at h; cases h)
    refine ⟨_, _, k1 _ ?_, hrun, hended, _, _, rfl, ?_, ⟨_, rfl⟩, hW, hsame.mono (by decide) (by decide)⟩
    · rw [hk]
      show OwnS p e below s₁ (mkF m 7 #[iv p0, iv p1, iv p2, iv p3, iv p4, iv p5, .unset, .unset, .unset, .unset, .unset, .unset] [(.int 3)]) _
      refine XS.istore X0.here hx rfl (hb hby at_7) rfl (l' := #[iv p0, iv p1, iv p2, iv p3, iv p4, iv p5, iv 3, .unset, .unset, .unset, .unset, .unset]) rfl ?_
      show OwnS p e below s₁ (mkF m 9 #[iv p0, iv p1, iv p2, iv p3, iv p4, iv p5, iv 3, .unset, .unset, .unset, .unset, .unset] []) _
      refine XS.iload X0.here hx rfl (hb hby at_9) rfl ?_
      show OwnS p e below s₁ (mkF m 11 #[iv p0, iv p1, iv p2, iv p3, iv p4, iv p5, iv 3, .unset, .unset, .unset, .unset, .unset] [(.int 3)]) _
      refine XS.ifYes X0.here hx rfl (pc0 := 11) (pc' := 25) rfl (hb hby at_11) rfl ((if0 _ _).trans (feq (by decide : ¬ ((3 : Int32) = (0 : Int32)))).2) (by decide) (by decide) ?_
      show OwnS p e below s₁ (mkF m 25 #[iv p0, iv p1, iv p2, iv p3, iv p4, iv p5, iv 3, .unset, .unset, .unset, .unset, .unset] []) _
      refine XS.iload X0.here hx rfl (hb hby at_25) rfl ?_
      show OwnS p e below s₁ (mkF m 27 #[iv p0, iv p1, iv p2, iv p3, iv p4, iv p5, iv 3, .unset, .unset, .unset, .unset, .unset] [(.int 3)]) _
      refine XS.iconst X0.here hx rfl (hb hby at_27) ?_
      show OwnS p e below s₁ (mkF m 28 #[iv p0, iv p1, iv p2, iv p3, iv p4, iv p5, iv 3, .unset, .unset, .unset, .unset, .unset] [(.int 1), (.int 3)]) _
      refine XS.icmpYes X0.here hx rfl (pc0 := 28) (pc' := 48) rfl (hb hby at_28) rfl (feq (by decide : ¬ ((3 : Int32) = (1 : Int32)))).2 (by decide) (by decide) ?_
      show OwnS p e below s₁ (mkF m 48 #[iv p0, iv p1, iv p2, iv p3, iv p4, iv p5, iv 3, .unset, .unset, .unset, .unset, .unset] []) _
      refine XS.iload X0.here hx rfl (hb hby at_48) rfl ?_
      show OwnS p e below s₁ (mkF m 50 #[iv p0, iv p1, iv p2, iv p3, iv p4, iv p5, iv 3, .unset, .unset, .unset, .unset, .unset] [(.int 3)]) _
      refine XS.iconst X0.here hx rfl (hb hby at_50) ?_
      show OwnS p e below s₁ (mkF m 51 #[iv p0, iv p1, iv p2, iv p3, iv p4, iv p5, iv 3, .unset, .unset, .unset, .unset, .unset] [(.int 2), (.int 3)]) _
      refine XS.icmpYes X0.here hx rfl (pc0 := 51) (pc' := 79) rfl (hb hby at_51) rfl (feq (by decide : ¬ ((3 : Int32) = (2 : Int32)))).2 (by decide) (by decide) ?_
      show OwnS p e below s₁ (mkF m 79 #[iv p0, iv p1, iv p2, iv p3, iv p4, iv p5, iv 3, .unset, .unset, .unset, .unset, .unset] []) _
      refine XS.iload X0.here hx rfl (hb hby at_79) rfl ?_
      show OwnS p e below s₁ (mkF m 81 #[iv p0, iv p1, iv p2, iv p3, iv p4, iv p5, iv 3, .unset, .unset, .unset, .unset, .unset] [(.int 3)]) _
      refine XS.iconst X0.here hx rfl (hb hby at_81) ?_
      show OwnS p e below s₁ (mkF m 82 #[iv p0, iv p1, iv p2, iv p3, iv p4, iv p5, iv 3, .unset, .unset, .unset, .unset, .unset] [(.int 3), (.int 3)]) _
      refine XS.icmpNo X0.here hx rfl (hb hby at_82) rfl (teq (by decide : (3 : Int32) = (3 : Int32))).2 ?_
      show OwnS p e below s₁ (mkF m 85 #[iv p0, iv p1, iv p2, iv p3, iv p4, iv p5, iv 3, .unset, .unset, .unset, .unset, .unset] []) _
      refine XS.iconst X0.here hx rfl (hb hby at_85) ?_
      show OwnS p e below s₁ (mkF m 86 #[iv p0, iv p1, iv p2, iv p3, iv p4, iv p5, iv 3, .unset, .unset, .unset, .unset, .unset] [(.int 3)]) _
      refine st17 _ ?_
      show OwnS p e below T17 (mkF m 88 #[iv p0, iv p1, iv p2, iv p3, iv p4, iv p5, iv 3, .unset, .unset, .unset, .unset, .unset] [(.ref b17)]) _
      refine XS.dup X17.here hx rfl (hb hby at_88) rfl rfl ?_
      show OwnS p e below T17 (mkF m 89 #[iv p0, iv p1, iv p2, iv p3, iv p4, iv p5, iv 3, .unset, .unset, .unset, .unset, .unset] [(.ref b17), (.ref b17)]) _
      refine XS.iconst X17.here hx rfl (hb hby at_89) ?_
      show OwnS p e below T17 (mkF m 90 #[iv p0, iv p1, iv p2, iv p3, iv p4, iv p5, iv 3, .unset, .unset, .unset, .unset, .unset] [(.int 0), (.ref b17), (.ref b17)]) _
      refine XS.iloadN X17.here hx rfl (hb hby at_90) rfl ?_
      show OwnS p e below T17 (mkF m 91 #[iv p0, iv p1, iv p2, iv p3, iv p4, iv p5, iv 3, .unset, .unset, .unset, .unset, .unset] [(.int p1), (.int 0), (.ref b17), (.ref b17)]) _
      refine XS.i2dS X17.here hx rfl (hb hby at_91) rfl (i2d_w _) ?_
      show OwnS p e below T17 (mkF m 92 #[iv p0, iv p1, iv p2, iv p3, iv p4, iv p5, iv 3, .unset, .unset, .unset, .unset, .unset] [(.double (FP.l2d p1.toInt64)), (.int 0), (.ref b17), (.ref b17)]) _
      refine st20 _ ?_
      show OwnS p e below T20 (mkF m 93 #[iv p0, iv p1, iv p2, iv p3, iv p4, iv p5, iv 3, .unset, .unset, .unset, .unset, .unset] [(.ref b17)]) _
      refine XS.dup X20.here hx rfl (hb hby at_93) rfl rfl ?_
      show OwnS p e below T20 (mkF m 94 #[iv p0, iv p1, iv p2, iv p3, iv p4, iv p5, iv 3, .unset, .unset, .unset, .unset, .unset] [(.ref b17), (.ref b17)]) _
      refine XS.iconst X20.here hx rfl (hb hby at_94) ?_
      show OwnS p e below T20 (mkF m 95 #[iv p0, iv p1, iv p2, iv p3, iv p4, iv p5, iv 3, .unset, .unset, .unset, .unset, .unset] [(.int 1), (.ref b17), (.ref b17)]) _
      refine XS.iloadN X20.here hx rfl (hb hby at_95) rfl ?_
      show OwnS p e below T20 (mkF m 96 #[iv p0, iv p1, iv p2, iv p3, iv p4, iv p5, iv 3, .unset, .unset, .unset, .unset, .unset] [(.int p2), (.int 1), (.ref b17), (.ref b17)]) _
      refine XS.i2dS X20.here hx rfl (hb hby at_96) rfl (i2d_w _) ?_
      show OwnS p e below T20 (mkF m 97 #[iv p0, iv p1, iv p2, iv p3, iv p4, iv p5, iv 3, .unset, .unset, .unset, .unset, .unset] [(.double (FP.l2d p2.toInt64)), (.int 1), (.ref b17), (.ref b17)]) _
      refine st23 _ ?_
      show OwnS p e below T23 (mkF m 98 #[iv p0, iv p1, iv p2, iv p3, iv p4, iv p5, iv 3, .unset, .unset, .unset, .unset, .unset] [(.ref b17)]) _
      refine XS.dup X23.here hx rfl (hb hby at_98) rfl rfl ?_
      show OwnS p e below T23 (mkF m 99 #[iv p0, iv p1, iv p2, iv p3, iv p4, iv p5, iv 3, .unset, .unset, .unset, .unset, .unset] [(.ref b17), (.ref b17)]) _
      refine XS.iconst X23.here hx rfl (hb hby at_99) ?_
      show OwnS p e below T23 (mkF m 100 #[iv p0, iv p1, iv p2, iv p3, iv p4, iv p5, iv 3, .unset, .unset, .unset, .unset, .unset] [(.int 2), (.ref b17), (.ref b17)]) _
      refine XS.iloadN X23.here hx rfl (hb hby at_100) rfl ?_
      show OwnS p e below T23 (mkF m 101 #[iv p0, iv p1, iv p2, iv p3, iv p4, iv p5, iv 3, .unset, .unset, .unset, .unset, .unset] [(.int p3), (.int 2), (.ref b17), (.ref b17)]) _
      refine XS.i2dS X23.here hx rfl (hb hby at_101) rfl (i2d_w _) ?_
      show OwnS p e below T23 (mkF m 102 #[iv p0, iv p1, iv p2, iv p3, iv p4, iv p5, iv 3, .unset, .unset, .unset, .unset, .unset] [(.double (FP.l2d p3.toInt64)), (.int 2), (.ref b17), (.ref b17)]) _
      refine st26 _ ?_
      show OwnS p e below T26 (mkF m 103 #[iv p0, iv p1, iv p2, iv p3, iv p4, iv p5, iv 3, .unset, .unset, .unset, .unset, .unset] [(.ref b17)]) _
      refine XS.astore X26.here hx rfl (hb hby at_103) rfl rfl (l' := #[iv p0, iv p1, iv p2, iv p3, iv p4, iv p5, iv 3, rv b17, .unset, .unset, .unset, .unset]) rfl ?_
      show OwnS p e below T26 (mkF m 105 #[iv p0, iv p1, iv p2, iv p3, iv p4, iv p5, iv 3, rv b17, .unset, .unset, .unset, .unset] []) _
      refine XS.iloadN X26.here hx rfl (hb hby at_105) rfl ?_
      show OwnS p e below T26 (mkF m 106 #[iv p0, iv p1, iv p2, iv p3, iv p4, iv p5, iv 3, rv b17, .unset, .unset, .unset, .unset] [(.int p1)]) _
      refine XS.i2l X26.here hx rfl (hb hby at_106) rfl ?_
      show OwnS p e below T26 (mkF m 107 #[iv p0, iv p1, iv p2, iv p3, iv p4, iv p5, iv 3, rv b17, .unset, .unset, .unset, .unset] [(.long (p1.toInt64))]) _
      refine XS.iloadN X26.here hx rfl (hb hby at_107) rfl ?_
      show OwnS p e below T26 (mkF m 108 #[iv p0, iv p1, iv p2, iv p3, iv p4, iv p5, iv 3, rv b17, .unset, .unset, .unset, .unset] [(.int p2), (.long (p1.toInt64))]) _
      refine XS.i2l X26.here hx rfl (hb hby at_108) rfl ?_
      show OwnS p e below T26 (mkF m 109 #[iv p0, iv p1, iv p2, iv p3, iv p4, iv p5, iv 3, rv b17, .unset, .unset, .unset, .unset] [(.long (p2.toInt64)), (.long (p1.toInt64))]) _
      refine XS.ladd X26.here hx rfl (hb hby at_109) rfl ?_
      show OwnS p e below T26 (mkF m 110 #[iv p0, iv p1, iv p2, iv p3, iv p4, iv p5, iv 3, rv b17, .unset, .unset, .unset, .unset] [(.long ((p1.toInt64) + (p2.toInt64)))]) _
      refine XS.iloadN X26.here hx rfl (hb hby at_110) rfl ?_
      show OwnS p e below T26 (mkF m 111 #[iv p0, iv p1, iv p2, iv p3, iv p4, iv p5, iv 3, rv b17, .unset, .unset, .unset, .unset] [(.int p3), (.long ((p1.toInt64) + (p2.toInt64)))]) _
      refine XS.i2l X26.here hx rfl (hb hby at_111) rfl ?_
      show OwnS p e below T26 (mkF m 112 #[iv p0, iv p1, iv p2, iv p3, iv p4, iv p5, iv 3, rv b17, .unset, .unset, .unset, .unset] [(.long (p3.toInt64)), (.long ((p1.toInt64) + (p2.toInt64)))]) _
      refine XS.ladd X26.here hx rfl (hb hby at_112) rfl ?_
      show OwnS p e below T26 (mkF m 113 #[iv p0, iv p1, iv p2, iv p3, iv p4, iv p5, iv 3, rv b17, .unset, .unset, .unset, .unset] [(.long (((p1.toInt64) + (p2.toInt64)) + (p3.toInt64)))]) _
      refine XS.lstore X26.here hx rfl (hb hby at_113) rfl (l' := #[iv p0, iv p1, iv p2, iv p3, iv p4, iv p5, iv 3, rv b17, .val (.long (((p1.toInt64) + (p2.toInt64)) + (p3.toInt64))), .second, .unset, .unset]) rfl ?_
      show OwnS p e below T26 (mkF m 115 #[iv p0, iv p1, iv p2, iv p3, iv p4, iv p5, iv 3, rv b17, .val (.long (((p1.toInt64) + (p2.toInt64)) + (p3.toInt64))), .second, .unset, .unset] []) _
      refine XS.goto X26.here hx rfl (pc0 := 115) (pc' := 217) rfl (hb hby at_115) (by decide) (by decide) ?_
      show OwnS p e below T26 (mkF m 217 #[iv p0, iv p1, iv p2, iv p3, iv p4, iv p5, iv 3, rv b17, .val (.long (((p1.toInt64) + (p2.toInt64)) + (p3.toInt64))), .second, .unset, .unset] []) _
      refine XS.aload X26.here hx rfl (hb hby at_217) rfl rfl ?_
      show OwnS p e below T26 (mkF m 219 #[iv p0, iv p1, iv p2, iv p3, iv p4, iv p5, iv 3, rv b17, .val (.long (((p1.toInt64) + (p2.toInt64)) + (p3.toInt64))), .second, .unset, .unset] [(.ref b17)]) _
      refine st27 _ ?_
      show OwnS p e below T27 (mkF m 222 #[iv p0, iv p1, iv p2, iv p3, iv p4, iv p5, iv 3, rv b17, .val (.long (((p1.toInt64) + (p2.toInt64)) + (p3.toInt64))), .second, .unset, .unset] [(.double (FP.l2d ((((0 : Int64) + p1.toInt64) + p2.toInt64) + p3.toInt64)))]) _
      refine XS.dstore X27.here hx rfl (hb hby at_222) rfl (l' := #[iv p0, iv p1, iv p2, iv p3, iv p4, iv p5, iv 3, rv b17, .val (.long (((p1.toInt64) + (p2.toInt64)) + (p3.toInt64))), .second, .val (.double (FP.l2d ((((0 : Int64) + p1.toInt64) + p2.toInt64) + p3.toInt64))), .second]) rfl ?_
      show OwnS p e below T27 (mkF m 224 #[iv p0, iv p1, iv p2, iv p3, iv p4, iv p5, iv 3, rv b17, .val (.long (((p1.toInt64) + (p2.toInt64)) + (p3.toInt64))), .second, .val (.double (FP.l2d ((((0 : Int64) + p1.toInt64) + p2.toInt64) + p3.toInt64))), .second] []) _
      refine XS.dload X27.here hx rfl (hb hby at_224) rfl ?_
      show OwnS p e below T27 (mkF m 226 #[iv p0, iv p1, iv p2, iv p3, iv p4, iv p5, iv 3, rv b17, .val (.long (((p1.toInt64) + (p2.toInt64)) + (p3.toInt64))), .second, .val (.double (FP.l2d ((((0 : Int64) + p1.toInt64) + p2.toInt64) + p3.toInt64))), .second] [(.double (FP.l2d ((((0 : Int64) + p1.toInt64) + p2.toInt64) + p3.toInt64)))]) _
      refine XS.lload X27.here hx rfl (hb hby at_226) rfl ?_
      show OwnS p e below T27 (mkF m 228 #[iv p0, iv p1, iv p2, iv p3, iv p4, iv p5, iv 3, rv b17, .val (.long (((p1.toInt64) + (p2.toInt64)) + (p3.toInt64))), .second, .val (.double (FP.l2d ((((0 : Int64) + p1.toInt64) + p2.toInt64) + p3.toInt64))), .second] [(.long (((p1.toInt64) + (p2.toInt64)) + (p3.toInt64))), (.double (FP.l2d ((((0 : Int64) + p1.toInt64) + p2.toInt64) + p3.toInt64)))]) _
      refine XS.l2dS X27.here hx rfl (hb hby at_228) rfl rfl ?_
      show OwnS p e below T27 (mkF m 229 #[iv p0, iv p1, iv p2, iv p3, iv p4, iv p5, iv 3, rv b17, .val (.long (((p1.toInt64) + (p2.toInt64)) + (p3.toInt64))), .second, .val (.double (FP.l2d ((((0 : Int64) + p1.toInt64) + p2.toInt64) + p3.toInt64))), .second] [(.double (FP.l2d (((p1.toInt64) + (p2.toInt64)) + (p3.toInt64)))), (.double (FP.l2d ((((0 : Int64) + p1.toInt64) + p2.toInt64) + p3.toInt64)))]) _
      refine XS.dcmpS X27.here hx rfl (hb hby at_229) rfl (dcmpV_w (own_bs (own_sa (own_sa (own_sa own_s0 p1 (by decide)) p2 (by decide)) p3 (by decide)) (by decide)) (own_bs (own_sa (own_sa (own_si p1) p2 (by decide)) p3 (by decide)) (by decide)) _) ?_
      show OwnS p e below T27 (mkF m 230 #[iv p0, iv p1, iv p2, iv p3, iv p4, iv p5, iv 3, rv b17, .val (.long (((p1.toInt64) + (p2.toInt64)) + (p3.toInt64))), .second, .val (.double (FP.l2d ((((0 : Int64) + p1.toInt64) + p2.toInt64) + p3.toInt64))), .second] [(.int (lcmpW ((((0 : Int64) + p1.toInt64) + p2.toInt64) + p3.toInt64) (((p1.toInt64) + (p2.toInt64)) + (p3.toInt64))))]) _
      refine XS.ifNo X27.here hx rfl (hb hby at_230) rfl ((if0 _ _).trans (teq ((lw_eq _ _).mpr (by rw [Int64.zero_add]))).2) ?_
      show OwnS p e below T27 (mkF m 233 #[iv p0, iv p1, iv p2, iv p3, iv p4, iv p5, iv 3, rv b17, .val (.long (((p1.toInt64) + (p2.toInt64)) + (p3.toInt64))), .second, .val (.double (FP.l2d ((((0 : Int64) + p1.toInt64) + p2.toInt64) + p3.toInt64))), .second] []) _
      refine XS.iconst X27.here hx rfl (hb hby at_233) ?_
      show OwnS p e below T27 (mkF m 234 #[iv p0, iv p1, iv p2, iv p3, iv p4, iv p5, iv 3, rv b17, .val (.long (((p1.toInt64) + (p2.toInt64)) + (p3.toInt64))), .second, .val (.double (FP.l2d ((((0 : Int64) + p1.toInt64) + p2.toInt64) + p3.toInt64))), .second] [(.int 1)]) _
      refine XS.goto X27.here hx rfl (pc0 := 234) (pc' := 238) rfl (hb hby at_234) (by decide) (by decide) ?_
      show OwnS p e below T27 (mkF m 238 #[iv p0, iv p1, iv p2, iv p3, iv p4, iv p5, iv 3, rv b17, .val (.long (((p1.toInt64) + (p2.toInt64)) + (p3.toInt64))), .second, .val (.double (FP.l2d ((((0 : Int64) + p1.toInt64) + p2.toInt64) + p3.toInt64))), .second] [(.int 1)]) _
      exact retN X27 hx (t := .boolean) Bd.returns (by simp) (hb hby at_238) hr
    · show Q_0 Z p0 p1 p2 p3 p4 p5 h0 n0 _ T27.heap _
      rw [e27]
      exact ⟨rfl, N27, trivial⟩
  · obtain ⟨T28, h28, k28, X28, e28, E28, A28, EA28, st28⟩ := newPE X0 hx hZ (own_at hw 1 rfl) e0 (g := (mkF m 125 #[iv p0, iv p1, iv p2, iv p3, iv p4, iv p5, iv 4, .unset, .unset, .unset, .unset, .unset] [(.int 4)])) rfl (hb hby at_125) rfl (by decide) (cap := 4) (by decide) (by decide) (by decide) (by decide) (ad := "[D") (by decide)
    obtain ⟨b28, g28⟩ : ∃ z, z = h0.size := ⟨_, rfl⟩
    rw [← g28] at A28 EA28 st28
    have g_b28 : n0 ≤ b28 := Nat.le_trans Z0 (Nat.le_of_eq g28.symm)
    have sz_b28 : h0.size ≤ b28 := Nat.le_trans (Keep.refl h0 []).1 (Nat.le_of_eq g28.symm)
    have V_b28 : Arv Z h28 b28 k28 .double (4 : Int32) [(.double (FP.l2d (0 : Int64))), (.double (FP.l2d (0 : Int64))), (.double (FP.l2d (0 : Int64))), (.double (FP.l2d (0 : Int64)))] (.double (FP.l2d (0 : Int64))) := (Arv.newD A28 (by decide)).pad (pad_rep [] (.double (FP.l2d (0 : Int64))) 4)
    obtain ⟨cl_z29, Ar_z29, q_z29, S_z29, N_z29, H_z29, G_z29⟩ := id V_b28
    have hin30 : ¬ ((0 : Int32) < 0 ∨ cl_z29.slots.size ≤ ((0 : Int32)).toNatClampNeg) := inb_of S_z29 ⟨by decide, by decide⟩
    obtain ⟨T31, h31, X31, e31, W31, st31⟩ := stD X28 hx hZ e28 Ar_z29 (j := (0 : Int32)) hin30 (g := (mkF m 131 #[iv p0, iv p1, iv p2, iv p3, iv p4, iv p5, iv 4, .unset, .unset, .unset, .unset, .unset] [(.double (FP.l2d p1.toInt64)), (.int 0), (.ref b28), (.ref b28)])) rfl rfl (hb hby at_131)
    have V31 : Arv Z h31 b28 k28 .double (4 : Int32) [(.double (FP.l2d p1.toInt64)), (.double (FP.l2d (0 : Int64))), (.double (FP.l2d (0 : Int64))), (.double (FP.l2d (0 : Int64)))] (.double (FP.l2d (0 : Int64))) := Arv.set Ar_z29 q_z29 S_z29 N_z29 H_z29 G_z29 rfl W31 0 rfl (Nat.le_of_ble_eq_true rfl)
    have N31 := Fr.snoc X31 N0 g_b28
    obtain ⟨cl_z32, Ar_z32, q_z32, S_z32, N_z32, H_z32, G_z32⟩ := id V31
    have hin33 : ¬ ((1 : Int32) < 0 ∨ cl_z32.slots.size ≤ ((1 : Int32)).toNatClampNeg) := inb_of S_z32 ⟨by decide, by decide⟩
    obtain ⟨T34, h34, X34, e34, W34, st34⟩ := stD X31 hx hZ e31 Ar_z32 (j := (1 : Int32)) hin33 (g := (mkF m 136 #[iv p0, iv p1, iv p2, iv p3, iv p4, iv p5, iv 4, .unset, .unset, .unset, .unset, .unset] [(.double (FP.l2d p2.toInt64)), (.int 1), (.ref b28), (.ref b28)])) rfl rfl (hb hby at_136)
    have V34 : Arv Z h34 b28 k28 .double (4 : Int32) [(.double (FP.l2d p1.toInt64)), (.double (FP.l2d p2.toInt64)), (.double (FP.l2d (0 : Int64))), (.double (FP.l2d (0 : Int64)))] (.double (FP.l2d (0 : Int64))) := Arv.set Ar_z32 q_z32 S_z32 N_z32 H_z32 G_z32 rfl W34 1 rfl (Nat.le_of_ble_eq_true rfl)
    have N34 := Fr.snoc X34 N31 g_b28
    obtain ⟨cl_z35, Ar_z35, q_z35, S_z35, N_z35, H_z35, G_z35⟩ := id V34
    have hin36 : ¬ ((2 : Int32) < 0 ∨ cl_z35.slots.size ≤ ((2 : Int32)).toNatClampNeg) := inb_of S_z35 ⟨by decide, by decide⟩
    obtain ⟨T37, h37, X37, e37, W37, st37⟩ := stD X34 hx hZ e34 Ar_z35 (j := (2 : Int32)) hin36 (g := (mkF m 141 #[iv p0, iv p1, iv p2, iv p3, iv p4, iv p5, iv 4, .unset, .unset, .unset, .unset, .unset] [(.double (FP.l2d p3.toInt64)), (.int 2), (.ref b28), (.ref b28)])) rfl rfl (hb hby at_141)
    have V37 : Arv Z h37 b28 k28 .double (4 : Int32) [(.double (FP.l2d p1.toInt64)), (.double (FP.l2d p2.toInt64)), (.double (FP.l2d p3.toInt64)), (.double (FP.l2d (0 : Int64)))] (.double (FP.l2d (0 : Int64))) := Arv.set Ar_z35 q_z35 S_z35 N_z35 H_z35 G_z35 rfl W37 2 rfl (Nat.le_of_ble_eq_true rfl)
    have N37 := Fr.snoc X37 N34 g_b28
    obtain ⟨cl_z38, Ar_z38, q_z38, S_z38, N_z38, H_z38, G_z38⟩ := id V37
    have hin39 : ¬ ((3 : Int32) < 0 ∨ cl_z38.slots.size ≤ ((3 : Int32)).toNatClampNeg) := inb_of S_z38 ⟨by decide, by decide⟩
    obtain ⟨T40, h40, X40, e40, W40, st40⟩ := stD X37 hx hZ e37 Ar_z38 (j := (3 : Int32)) hin39 (g := (mkF m 147 #[iv p0, iv p1, iv p2, iv p3, iv p4, iv p5, iv 4, .unset, .unset, .unset, .unset, .unset] [(.double (FP.l2d p4.toInt64)), (.int 3), (.ref b28), (.ref b28)])) rfl rfl (hb hby at_147)
    have V40 : Arv Z h40 b28 k28 .double (4 : Int32) [(.double (FP.l2d p1.toInt64)), (.double (FP.l2d p2.toInt64)), (.double (FP.l2d p3.toInt64)), (.double (FP.l2d p4.toInt64))] (.double (FP.l2d (0 : Int64))) := Arv.set Ar_z38 q_z38 S_z38 N_z38 H_z38 G_z38 rfl W40 3 rfl (Nat.le_of_ble_eq_true rfl)
    have N40 := Fr.snoc X40 N37 g_b28
    obtain ⟨_, _, ⟨T41, L41, j41, i41⟩, -, X41, ⟨Lc41, hQ41, l41, y41, z41⟩, st41⟩ := Jvm.LawKit.callS X40 hx (y := (⟨cS0, "total", "([D)D"⟩ : MethodName)) hown (mvT hZ (own_at hw 2 rfl)) (mvT hZ (own_at hw 3 rfl)) (mvT hZ (own_at hw 4 rfl)) (mvT hZ (own_at hw 5 rfl)) (by decide) (backOf (W := 0) (rm1_4 l Z a0 hw [] b28 k28 p1.toInt64 p2.toInt64 p3.toInt64 p4.toInt64 h40 n0 (Nat.le_trans (Nat.le_trans (Nat.le_trans (Nat.le_trans (Nat.le_trans Z0 E28.1) (Keep.of_wr W31).1) (Keep.of_wr W34).1) (Keep.of_wr W37).1) (Keep.of_wr W40).1) V40 (own_bs (own_si p1) (by decide)) (own_bs (own_si p2) (by decide)) (own_bs (own_si p3) (by decide)) (own_bs (own_si p4) (by decide)) (own_bs own_s0 (by decide)) (own_bs (own_sa own_s0 p1 (by decide)) (by decide)) (own_bs (own_sa (own_sa own_s0 p1 (by decide)) p2 (by decide)) (by decide)) (own_bs (own_sa (own_sa (own_sa own_s0 p1 (by decide)) p2 (by decide)) p3 (by decide)) (by decide))) hZ (own_at hw 5 rfl) (own_at hw 4 rfl) (by decide) (by decide)) (g := (mkF m 219 #[iv p0, iv p1, iv p2, iv p3, iv p4, iv p5, iv 4, rv b28, .val (.long ((((p1.toInt64) + (p2.toInt64)) + (p3.toInt64)) + (p4.toInt64))), .second, .unset, .unset] [(.ref b28)])) rfl (by rw [hml]; rfl) (argsL := [(.ref b28)]) (rest := []) (lenOf pd_0 rfl) rfl (by show 2 * 0 + _ ≤ _; exact Nat.le_of_eq rfl) (hb hby at_219) (fun _ _ => ⟨rfl, e40, (by decide : 1 + 0 ≤ _), (by decide : 4 + 0 ≤ _)⟩)
    dsimp only [Pt.U, Pt.locs, Pt.cells, Pt.slots] at X41 l41 y41 z41 st41 hQ41
    subst l41 y41 z41
    obtain ⟨rfl, N41q, e41⟩ := hQ41
    have N41 := Fr.app N40 N41q
    obtain ⟨fs, hr, hrun, hended, hW, hsame⟩ := X41.leave (v := some (.int 1)) (fun h => by rw [Bd.returns] at h; cases h)
    refine ⟨_, _, k1 _ ?_, hrun, hended, _, _, rfl, ?_, ⟨_, rfl⟩, hW, hsame.mono (by decide) (by decide)⟩
    · rw [hk]
      show OwnS p e below s₁ (mkF m 7 #[iv p0, iv p1, iv p2, iv p3, iv p4, iv p5, .unset, .unset, .unset, .unset, .unset, .unset] [(.int 4)]) _
      refine XS.istore X0.here hx rfl (hb hby at_7) rfl (l' := #[iv p0, iv p1, iv p2, iv p3, iv p4, iv p5, iv 4, .unset, .unset, .unset, .unset, .unset]) rfl ?_
      show OwnS p e below s₁ (mkF m 9 #[iv p0, iv p1, iv p2, iv p3, iv p4, iv p5, iv 4, .unset, .unset, .unset, .unset, .unset] []) _
      refine XS.iload X0.here hx rfl (hb hby at_9) rfl ?_
      show OwnS p e below s₁ (mkF m 11 #[iv p0, iv p1, iv p2, iv p3, iv p4, iv p5, iv 4, .unset, .unset, .unset, .unset, .unset] [(.int 4)]) _
      refine XS.ifYes X0.here hx rfl (pc0 := 11) (pc' := 25) rfl (hb hby at_11) rfl ((if0 _ _).trans (feq (by decide : ¬ ((4 : Int32) = (0 : Int32)))).2) (by decide) (by decide) ?_
      show OwnS p e below s₁ (mkF m 25 #[iv p0, iv p1, iv p2, iv p3, iv p4, iv p5, iv 4, .unset, .unset, .unset, .unset, .unset] []) _
      refine XS.iload X0.here hx rfl (hb hby at_25) rfl ?_
      show OwnS p e below s₁ (mkF m 27 #[iv p0, iv p1, iv p2, iv p3, iv p4, iv p5, iv 4, .unset, .unset, .unset, .unset, .unset] [(.int 4)]) _
      refine XS.iconst X0.here hx rfl (hb hby at_27) ?_
      show OwnS p e below s₁ (mkF m 28 #[iv p0, iv p1, iv p2, iv p3, iv p4, iv p5, iv 4, .unset, .unset, .unset, .unset, .unset] [(.int 1), (.int 4)]) _
      refine XS.icmpYes X0.here hx rfl (pc0 := 28) (pc' := 48) rfl (hb hby at_28) rfl (feq (by decide : ¬ ((4 : Int32) = (1 : Int32)))).2 (by decide) (by decide) ?_
      show OwnS p e below s₁ (mkF m 48 #[iv p0, iv p1, iv p2, iv p3, iv p4, iv p5, iv 4, .unset, .unset, .unset, .unset, .unset] []) _
      refine XS.iload X0.here hx rfl (hb hby at_48) rfl ?_
      show OwnS p e below s₁ (mkF m 50 #[iv p0, iv p1, iv p2, iv p3, iv p4, iv p5, iv 4, .unset, .unset, .unset, .unset, .unset] [(.int 4)]) _
      refine XS.iconst X0.here hx rfl (hb hby at_50) ?_
      show OwnS p e below s₁ (mkF m 51 #[iv p0, iv p1, iv p2, iv p3, iv p4, iv p5, iv 4, .unset, .unset, .unset, .unset, .unset] [(.int 2), (.int 4)]) _
      refine XS.icmpYes X0.here hx rfl (pc0 := 51) (pc' := 79) rfl (hb hby at_51) rfl (feq (by decide : ¬ ((4 : Int32) = (2 : Int32)))).2 (by decide) (by decide) ?_
      show OwnS p e below s₁ (mkF m 79 #[iv p0, iv p1, iv p2, iv p3, iv p4, iv p5, iv 4, .unset, .unset, .unset, .unset, .unset] []) _
      refine XS.iload X0.here hx rfl (hb hby at_79) rfl ?_
      show OwnS p e below s₁ (mkF m 81 #[iv p0, iv p1, iv p2, iv p3, iv p4, iv p5, iv 4, .unset, .unset, .unset, .unset, .unset] [(.int 4)]) _
      refine XS.iconst X0.here hx rfl (hb hby at_81) ?_
      show OwnS p e below s₁ (mkF m 82 #[iv p0, iv p1, iv p2, iv p3, iv p4, iv p5, iv 4, .unset, .unset, .unset, .unset, .unset] [(.int 3), (.int 4)]) _
      refine XS.icmpYes X0.here hx rfl (pc0 := 82) (pc' := 118) rfl (hb hby at_82) rfl (feq (by decide : ¬ ((4 : Int32) = (3 : Int32)))).2 (by decide) (by decide) ?_
      show OwnS p e below s₁ (mkF m 118 #[iv p0, iv p1, iv p2, iv p3, iv p4, iv p5, iv 4, .unset, .unset, .unset, .unset, .unset] []) _
      refine XS.iload X0.here hx rfl (hb hby at_118) rfl ?_
      show OwnS p e below s₁ (mkF m 120 #[iv p0, iv p1, iv p2, iv p3, iv p4, iv p5, iv 4, .unset, .unset, .unset, .unset, .unset] [(.int 4)]) _
      refine XS.iconst X0.here hx rfl (hb hby at_120) ?_
      show OwnS p e below s₁ (mkF m 121 #[iv p0, iv p1, iv p2, iv p3, iv p4, iv p5, iv 4, .unset, .unset, .unset, .unset, .unset] [(.int 4), (.int 4)]) _
      refine XS.icmpNo X0.here hx rfl (hb hby at_121) rfl (teq (by decide : (4 : Int32) = (4 : Int32))).2 ?_
      show OwnS p e below s₁ (mkF m 124 #[iv p0, iv p1, iv p2, iv p3, iv p4, iv p5, iv 4, .unset, .unset, .unset, .unset, .unset] []) _
      refine XS.iconst X0.here hx rfl (hb hby at_124) ?_
      show OwnS p e below s₁ (mkF m 125 #[iv p0, iv p1, iv p2, iv p3, iv p4, iv p5, iv 4, .unset, .unset, .unset, .unset, .unset] [(.int 4)]) _
      refine st28 _ ?_
      show OwnS p e below T28 (mkF m 127 #[iv p0, iv p1, iv p2, iv p3, iv p4, iv p5, iv 4, .unset, .unset, .unset, .unset, .unset] [(.ref b28)]) _
      refine XS.dup X28.here hx rfl (hb hby at_127) rfl rfl ?_
      show OwnS p e below T28 (mkF m 128 #[iv p0, iv p1, iv p2, iv p3, iv p4, iv p5, iv 4, .unset, .unset, .unset, .unset, .unset] [(.ref b28), (.ref b28)]) _
      refine XS.iconst X28.here hx rfl (hb hby at_128) ?_
      show OwnS p e below T28 (mkF m 129 #[iv p0, iv p1, iv p2, iv p3, iv p4, iv p5, iv 4, .unset, .unset, .unset, .unset, .unset] [(.int 0), (.ref b28), (.ref b28)]) _
      refine XS.iloadN X28.here hx rfl (hb hby at_129) rfl ?_
      show OwnS p e below T28 (mkF m 130 #[iv p0, iv p1, iv p2, iv p3, iv p4, iv p5, iv 4, .unset, .unset, .unset, .unset, .unset] [(.int p1), (.int 0), (.ref b28), (.ref b28)]) _
      refine XS.i2dS X28.here hx rfl (hb hby at_130) rfl (i2d_w _) ?_
      show OwnS p e below T28 (mkF m 131 #[iv p0, iv p1, iv p2, iv p3, iv p4, iv p5, iv 4, .unset, .unset, .unset, .unset, .unset] [(.double (FP.l2d p1.toInt64)), (.int 0), (.ref b28), (.ref b28)]) _
      refine st31 _ ?_
      show OwnS p e below T31 (mkF m 132 #[iv p0, iv p1, iv p2, iv p3, iv p4, iv p5, iv 4, .unset, .unset, .unset, .unset, .unset] [(.ref b28)]) _
      refine XS.dup X31.here hx rfl (hb hby at_132) rfl rfl ?_
      show OwnS p e below T31 (mkF m 133 #[iv p0, iv p1, iv p2, iv p3, iv p4, iv p5, iv 4, .unset, .unset, .unset, .unset, .unset] [(.ref b28), (.ref b28)]) _
      refine XS.iconst X31.here hx rfl (hb hby at_133) ?_
      show OwnS p e below T31 (mkF m 134 #[iv p0, iv p1, iv p2, iv p3, iv p4, iv p5, iv 4, .unset, .unset, .unset, .unset, .unset] [(.int 1), (.ref b28), (.ref b28)]) _
      refine XS.iloadN X31.here hx rfl (hb hby at_134) rfl ?_
      show OwnS p e below T31 (mkF m 135 #[iv p0, iv p1, iv p2, iv p3, iv p4, iv p5, iv 4, .unset, .unset, .unset, .unset, .unset] [(.int p2), (.int 1), (.ref b28), (.ref b28)]) _
      refine XS.i2dS X31.here hx rfl (hb hby at_135) rfl (i2d_w _) ?_
      show OwnS p e below T31 (mkF m 136 #[iv p0, iv p1, iv p2, iv p3, iv p4, iv p5, iv 4, .unset, .unset, .unset, .unset, .unset] [(.double (FP.l2d p2.toInt64)), (.int 1), (.ref b28), (.ref b28)]) _
      refine st34 _ ?_
      show OwnS p e below T34 (mkF m 137 #[iv p0, iv p1, iv p2, iv p3, iv p4, iv p5, iv 4, .unset, .unset, .unset, .unset, .unset] [(.ref b28)]) _
      refine XS.dup X34.here hx rfl (hb hby at_137) rfl rfl ?_
      show OwnS p e below T34 (mkF m 138 #[iv p0, iv p1, iv p2, iv p3, iv p4, iv p5, iv 4, .unset, .unset, .unset, .unset, .unset] [(.ref b28), (.ref b28)]) _
      refine XS.iconst X34.here hx rfl (hb hby at_138) ?_
      show OwnS p e below T34 (mkF m 139 #[iv p0, iv p1, iv p2, iv p3, iv p4, iv p5, iv 4, .unset, .unset, .unset, .unset, .unset] [(.int 2), (.ref b28), (.ref b28)]) _
      refine XS.iloadN X34.here hx rfl (hb hby at_139) rfl ?_
      show OwnS p e below T34 (mkF m 140 #[iv p0, iv p1, iv p2, iv p3, iv p4, iv p5, iv 4, .unset, .unset, .unset, .unset, .unset] [(.int p3), (.int 2), (.ref b28), (.ref b28)]) _
      refine XS.i2dS X34.here hx rfl (hb hby at_140) rfl (i2d_w _) ?_
      show OwnS p e below T34 (mkF m 141 #[iv p0, iv p1, iv p2, iv p3, iv p4, iv p5, iv 4, .unset, .unset, .unset, .unset, .unset] [(.double (FP.l2d p3.toInt64)), (.int 2), (.ref b28), (.ref b28)]) _
      refine st37 _ ?_
      show OwnS p e below T37 (mkF m 142 #[iv p0, iv p1, iv p2, iv p3, iv p4, iv p5, iv 4, .unset, .unset, .unset, .unset, .unset] [(.ref b28)]) _
      refine XS.dup X37.here hx rfl (hb hby at_142) rfl rfl ?_
      show OwnS p e below T37 (mkF m 143 #[iv p0, iv p1, iv p2, iv p3, iv p4, iv p5, iv 4, .unset, .unset, .unset, .unset, .unset] [(.ref b28), (.ref b28)]) _
      refine XS.iconst X37.here hx rfl (hb hby at_143) ?_
      show OwnS p e below T37 (mkF m 144 #[iv p0, iv p1, iv p2, iv p3, iv p4, iv p5, iv 4, .unset, .unset, .unset, .unset, .unset] [(.int 3), (.ref b28), (.ref b28)]) _
      refine XS.iload X37.here hx rfl (hb hby at_144) rfl ?_
      show OwnS p e below T37 (mkF m 146 #[iv p0, iv p1, iv p2, iv p3, iv p4, iv p5, iv 4, .unset, .unset, .unset, .unset, .unset] [(.int p4), (.int 3), (.ref b28), (.ref b28)]) _
      refine XS.i2dS X37.here hx rfl (hb hby at_146) rfl (i2d_w _) ?_
      show OwnS p e below T37 (mkF m 147 #[iv p0, iv p1, iv p2, iv p3, iv p4, iv p5, iv 4, .unset, .unset, .unset, .unset, .unset] [(.double (FP.l2d p4.toInt64)), (.int 3), (.ref b28), (.ref b28)]) _
      refine st40 _ ?_
      show OwnS p e below T40 (mkF m 148 #[iv p0, iv p1, iv p2, iv p3, iv p4, iv p5, iv 4, .unset, .unset, .unset, .unset, .unset] [(.ref b28)]) _
      refine XS.astore X40.here hx rfl (hb hby at_148) rfl rfl (l' := #[iv p0, iv p1, iv p2, iv p3, iv p4, iv p5, iv 4, rv b28, .unset, .unset, .unset, .unset]) rfl ?_
      show OwnS p e below T40 (mkF m 150 #[iv p0, iv p1, iv p2, iv p3, iv p4, iv p5, iv 4, rv b28, .unset, .unset, .unset, .unset] []) _
      refine XS.iloadN X40.here hx rfl (hb hby at_150) rfl ?_
      show OwnS p e below T40 (mkF m 151 #[iv p0, iv p1, iv p2, iv p3, iv p4, iv p5, iv 4, rv b28, .unset, .unset, .unset, .unset] [(.int p1)]) _
      refine XS.i2l X40.here hx rfl (hb hby at_151) rfl ?_
      show OwnS p e below T40 (mkF m 152 #[iv p0, iv p1, iv p2, iv p3, iv p4, iv p5, iv 4, rv b28, .unset, .unset, .unset, .unset] [(.long (p1.toInt64))]) _
      refine XS.iloadN X40.here hx rfl (hb hby at_152) rfl ?_
      show OwnS p e below T40 (mkF m 153 #[iv p0, iv p1, iv p2, iv p3, iv p4, iv p5, iv 4, rv b28, .unset, .unset, .unset, .unset] [(.int p2), (.long (p1.toInt64))]) _
      refine XS.i2l X40.here hx rfl (hb hby at_153) rfl ?_
      show OwnS p e below T40 (mkF m 154 #[iv p0, iv p1, iv p2, iv p3, iv p4, iv p5, iv 4, rv b28, .unset, .unset, .unset, .unset] [(.long (p2.toInt64)), (.long (p1.toInt64))]) _
      refine XS.ladd X40.here hx rfl (hb hby at_154) rfl ?_
      show OwnS p e below T40 (mkF m 155 #[iv p0, iv p1, iv p2, iv p3, iv p4, iv p5, iv 4, rv b28, .unset, .unset, .unset, .unset] [(.long ((p1.toInt64) + (p2.toInt64)))]) _
      refine XS.iloadN X40.here hx rfl (hb hby at_155) rfl ?_
      show OwnS p e below T40 (mkF m 156 #[iv p0, iv p1, iv p2, iv p3, iv p4, iv p5, iv 4, rv b28, .unset, .unset, .unset, .unset] [(.int p3), (.long ((p1.toInt64) + (p2.toInt64)))]) _
      refine XS.i2l X40.here hx rfl (hb hby at_156) rfl ?_
      show OwnS p e below T40 (mkF m 157 #[iv p0, iv p1, iv p2, iv p3, iv p4, iv p5, iv 4, rv b28, .unset, .unset, .unset, .unset] [(.long (p3.toInt64)), (.long ((p1.toInt64) + (p2.toInt64)))]) _
      refine XS.ladd X40.here hx rfl (hb hby at_157) rfl ?_
      show OwnS p e below T40 (mkF m 158 #[iv p0, iv p1, iv p2, iv p3, iv p4, iv p5, iv 4, rv b28, .unset, .unset, .unset, .unset] [(.long (((p1.toInt64) + (p2.toInt64)) + (p3.toInt64)))]) _
      refine XS.iload X40.here hx rfl (hb hby at_158) rfl ?_
      show OwnS p e below T40 (mkF m 160 #[iv p0, iv p1, iv p2, iv p3, iv p4, iv p5, iv 4, rv b28, .unset, .unset, .unset, .unset] [(.int p4), (.long (((p1.toInt64) + (p2.toInt64)) + (p3.toInt64)))]) _
      refine XS.i2l X40.here hx rfl (hb hby at_160) rfl ?_
      show OwnS p e below T40 (mkF m 161 #[iv p0, iv p1, iv p2, iv p3, iv p4, iv p5, iv 4, rv b28, .unset, .unset, .unset, .unset] [(.long (p4.toInt64)), (.long (((p1.toInt64) + (p2.toInt64)) + (p3.toInt64)))]) _
      refine XS.ladd X40.here hx rfl (hb hby at_161) rfl ?_
      show OwnS p e below T40 (mkF m 162 #[iv p0, iv p1, iv p2, iv p3, iv p4, iv p5, iv 4, rv b28, .unset, .unset, .unset, .unset] [(.long ((((p1.toInt64) + (p2.toInt64)) + (p3.toInt64)) + (p4.toInt64)))]) _
      refine XS.lstore X40.here hx rfl (hb hby at_162) rfl (l' := #[iv p0, iv p1, iv p2, iv p3, iv p4, iv p5, iv 4, rv b28, .val (.long ((((p1.toInt64) + (p2.toInt64)) + (p3.toInt64)) + (p4.toInt64))), .second, .unset, .unset]) rfl ?_
      show OwnS p e below T40 (mkF m 164 #[iv p0, iv p1, iv p2, iv p3, iv p4, iv p5, iv 4, rv b28, .val (.long ((((p1.toInt64) + (p2.toInt64)) + (p3.toInt64)) + (p4.toInt64))), .second, .unset, .unset] []) _
      refine XS.goto X40.here hx rfl (pc0 := 164) (pc' := 217) rfl (hb hby at_164) (by decide) (by decide) ?_
      show OwnS p e below T40 (mkF m 217 #[iv p0, iv p1, iv p2, iv p3, iv p4, iv p5, iv 4, rv b28, .val (.long ((((p1.toInt64) + (p2.toInt64)) + (p3.toInt64)) + (p4.toInt64))), .second, .unset, .unset] []) _
      refine XS.aload X40.here hx rfl (hb hby at_217) rfl rfl ?_
      show OwnS p e below T40 (mkF m 219 #[iv p0, iv p1, iv p2, iv p3, iv p4, iv p5, iv 4, rv b28, .val (.long ((((p1.toInt64) + (p2.toInt64)) + (p3.toInt64)) + (p4.toInt64))), .second, .unset, .unset] [(.ref b28)]) _
      refine st41 _ ?_
      show OwnS p e below T41 (mkF m 222 #[iv p0, iv p1, iv p2, iv p3, iv p4, iv p5, iv 4, rv b28, .val (.long ((((p1.toInt64) + (p2.toInt64)) + (p3.toInt64)) + (p4.toInt64))), .second, .unset, .unset] [(.double (FP.l2d (((((0 : Int64) + p1.toInt64) + p2.toInt64) + p3.toInt64) + p4.toInt64)))]) _
      refine XS.dstore X41.here hx rfl (hb hby at_222) rfl (l' := #[iv p0, iv p1, iv p2, iv p3, iv p4, iv p5, iv 4, rv b28, .val (.long ((((p1.toInt64) + (p2.toInt64)) + (p3.toInt64)) + (p4.toInt64))), .second, .val (.double (FP.l2d (((((0 : Int64) + p1.toInt64) + p2.toInt64) + p3.toInt64) + p4.toInt64))), .second]) rfl ?_
      show OwnS p e below T41 (mkF m 224 #[iv p0, iv p1, iv p2, iv p3, iv p4, iv p5, iv 4, rv b28, .val (.long ((((p1.toInt64) + (p2.toInt64)) + (p3.toInt64)) + (p4.toInt64))), .second, .val (.double (FP.l2d (((((0 : Int64) + p1.toInt64) + p2.toInt64) + p3.toInt64) + p4.toInt64))), .second] []) _
      refine XS.dload X41.here hx rfl (hb hby at_224) rfl ?_
      show OwnS p e below T41 (mkF m 226 #[iv p0, iv p1, iv p2, iv p3, iv p4, iv p5, iv 4, rv b28, .val (.long ((((p1.toInt64) + (p2.toInt64)) + (p3.toInt64)) + (p4.toInt64))), .second, .val (.double (FP.l2d (((((0 : Int64) + p1.toInt64) + p2.toInt64) + p3.toInt64) + p4.toInt64))), .second] [(.double (FP.l2d (((((0 : Int64) + p1.toInt64) + p2.toInt64) + p3.toInt64) + p4.toInt64)))]) _
      refine XS.lload X41.here hx rfl (hb hby at_226) rfl ?_
      show OwnS p e below T41 (mkF m 228 #[iv p0, iv p1, iv p2, iv p3, iv p4, iv p5, iv 4, rv b28, .val (.long ((((p1.toInt64) + (p2.toInt64)) + (p3.toInt64)) + (p4.toInt64))), .second, .val (.double (FP.l2d (((((0 : Int64) + p1.toInt64) + p2.toInt64) + p3.toInt64) + p4.toInt64))), .second] [(.long ((((p1.toInt64) + (p2.toInt64)) + (p3.toInt64)) + (p4.toInt64))), (.double (FP.l2d (((((0 : Int64) + p1.toInt64) + p2.toInt64) + p3.toInt64) + p4.toInt64)))]) _
      refine XS.l2dS X41.here hx rfl (hb hby at_228) rfl rfl ?_
      show OwnS p e below T41 (mkF m 229 #[iv p0, iv p1, iv p2, iv p3, iv p4, iv p5, iv 4, rv b28, .val (.long ((((p1.toInt64) + (p2.toInt64)) + (p3.toInt64)) + (p4.toInt64))), .second, .val (.double (FP.l2d (((((0 : Int64) + p1.toInt64) + p2.toInt64) + p3.toInt64) + p4.toInt64))), .second] [(.double (FP.l2d ((((p1.toInt64) + (p2.toInt64)) + (p3.toInt64)) + (p4.toInt64)))), (.double (FP.l2d (((((0 : Int64) + p1.toInt64) + p2.toInt64) + p3.toInt64) + p4.toInt64)))]) _
      refine XS.dcmpS X41.here hx rfl (hb hby at_229) rfl (dcmpV_w (own_bs (own_sa (own_sa (own_sa (own_sa own_s0 p1 (by decide)) p2 (by decide)) p3 (by decide)) p4 (by decide)) (by decide)) (own_bs (own_sa (own_sa (own_sa (own_si p1) p2 (by decide)) p3 (by decide)) p4 (by decide)) (by decide)) _) ?_
      show OwnS p e below T41 (mkF m 230 #[iv p0, iv p1, iv p2, iv p3, iv p4, iv p5, iv 4, rv b28, .val (.long ((((p1.toInt64) + (p2.toInt64)) + (p3.toInt64)) + (p4.toInt64))), .second, .val (.double (FP.l2d (((((0 : Int64) + p1.toInt64) + p2.toInt64) + p3.toInt64) + p4.toInt64))), .second] [(.int (lcmpW (((((0 : Int64) + p1.toInt64) + p2.toInt64) + p3.toInt64) + p4.toInt64) ((((p1.toInt64) + (p2.toInt64)) + (p3.toInt64)) + (p4.toInt64))))]) _
      refine XS.ifNo X41.here hx rfl (hb hby at_230) rfl ((if0 _ _).trans (teq ((lw_eq _ _).mpr (by rw [Int64.zero_add]))).2) ?_
      show OwnS p e below T41 (mkF m 233 #[iv p0, iv p1, iv p2, iv p3, iv p4, iv p5, iv 4, rv b28, .val (.long ((((p1.toInt64) + (p2.toInt64)) + (p3.toInt64)) + (p4.toInt64))), .second, .val (.double (FP.l2d (((((0 : Int64) + p1.toInt64) + p2.toInt64) + p3.toInt64) + p4.toInt64))), .second] []) _
      refine XS.iconst X41.here hx rfl (hb hby at_233) ?_
      show OwnS p e below T41 (mkF m 234 #[iv p0, iv p1, iv p2, iv p3, iv p4, iv p5, iv 4, rv b28, .val (.long ((((p1.toInt64) + (p2.toInt64)) + (p3.toInt64)) + (p4.toInt64))), .second, .val (.double (FP.l2d (((((0 : Int64) + p1.toInt64) + p2.toInt64) + p3.toInt64) + p4.toInt64))), .second] [(.int 1)]) _
      refine XS.goto X41.here hx rfl (pc0 := 234) (pc' := 238) rfl (hb hby at_234) (by decide) (by decide) ?_
      show OwnS p e below T41 (mkF m 238 #[iv p0, iv p1, iv p2, iv p3, iv p4, iv p5, iv 4, rv b28, .val (.long ((((p1.toInt64) + (p2.toInt64)) + (p3.toInt64)) + (p4.toInt64))), .second, .val (.double (FP.l2d (((((0 : Int64) + p1.toInt64) + p2.toInt64) + p3.toInt64) + p4.toInt64))), .second] [(.int 1)]) _
      exact retN X41 hx (t := .boolean) Bd.returns (by simp) (hb hby at_238) hr
    · show Q_0 Z p0 p1 p2 p3 p4 p5 h0 n0 _ T41.heap _
      rw [e41]
      exact ⟨rfl, N41, trivial⟩
  · obtain ⟨T42, h42, k42, X42, e42, E42, A42, EA42, st42⟩ := newPE X0 hx hZ (own_at hw 1 rfl) e0 (g := (mkF m 168 #[iv p0, iv p1, iv p2, iv p3, iv p4, iv p5, iv 5, .unset, .unset, .unset, .unset, .unset] [(.int 5)])) rfl (hb hby at_168) rfl (by decide) (cap := 5) (by decide) (by decide) (by decide) (by decide) (ad := "[D") (by decide)
    obtain ⟨b42, g42⟩ : ∃ z, z = h0.size := ⟨_, rfl⟩
    rw [← g42] at A42 EA42 st42
    have g_b42 : n0 ≤ b42 := Nat.le_trans Z0 (Nat.le_of_eq g42.symm)
    have sz_b42 : h0.size ≤ b42 := Nat.le_trans (Keep.refl h0 []).1 (Nat.le_of_eq g42.symm)
    have V_b42 : Arv Z h42 b42 k42 .double (5 : Int32) [(.double (FP.l2d (0 : Int64))), (.double (FP.l2d (0 : Int64))), (.double (FP.l2d (0 : Int64))), (.double (FP.l2d (0 : Int64))), (.double (FP.l2d (0 : Int64)))] (.double (FP.l2d (0 : Int64))) := (Arv.newD A42 (by decide)).pad (pad_rep [] (.double (FP.l2d (0 : Int64))) 5)
    obtain ⟨cl_z43, Ar_z43, q_z43, S_z43, N_z43, H_z43, G_z43⟩ := id V_b42
    have hin44 : ¬ ((0 : Int32) < 0 ∨ cl_z43.slots.size ≤ ((0 : Int32)).toNatClampNeg) := inb_of S_z43 ⟨by decide, by decide⟩
    obtain ⟨T45, h45, X45, e45, W45, st45⟩ := stD X42 hx hZ e42 Ar_z43 (j := (0 : Int32)) hin44 (g := (mkF m 174 #[iv p0, iv p1, iv p2, iv p3, iv p4, iv p5, iv 5, .unset, .unset, .unset, .unset, .unset] [(.double (FP.l2d p1.toInt64)), (.int 0), (.ref b42), (.ref b42)])) rfl rfl (hb hby at_174)
    have V45 : Arv Z h45 b42 k42 .double (5 : Int32) [(.double (FP.l2d p1.toInt64)), (.double (FP.l2d (0 : Int64))), (.double (FP.l2d (0 : Int64))), (.double (FP.l2d (0 : Int64))), (.double (FP.l2d (0 : Int64)))] (.double (FP.l2d (0 : Int64))) := Arv.set Ar_z43 q_z43 S_z43 N_z43 H_z43 G_z43 rfl W45 0 rfl (Nat.le_of_ble_eq_true rfl)
    have N45 := Fr.snoc X45 N0 g_b42
    obtain ⟨cl_z46, Ar_z46, q_z46, S_z46, N_z46, H_z46, G_z46⟩ := id V45
    have hin47 : ¬ ((1 : Int32) < 0 ∨ cl_z46.slots.size ≤ ((1 : Int32)).toNatClampNeg) := inb_of S_z46 ⟨by decide, by decide⟩
    obtain ⟨T48, h48, X48, e48, W48, st48⟩ := stD X45 hx hZ e45 Ar_z46 (j := (1 : Int32)) hin47 (g := (mkF m 179 #[iv p0, iv p1, iv p2, iv p3, iv p4, iv p5, iv 5, .unset, .unset, .unset, .unset, .unset] [(.double (FP.l2d p2.toInt64)), (.int 1), (.ref b42), (.ref b42)])) rfl rfl (hb hby at_179)
    have V48 : Arv Z h48 b42 k42 .double (5 : Int32) [(.double (FP.l2d p1.toInt64)), (.double (FP.l2d p2.toInt64)), (.double (FP.l2d (0 : Int64))), (.double (FP.l2d (0 : Int64))), (.double (FP.l2d (0 : Int64)))] (.double (FP.l2d (0 : Int64))) := Arv.set Ar_z46 q_z46 S_z46 N_z46 H_z46 G_z46 rfl W48 1 rfl (Nat.le_of_ble_eq_true rfl)
    have N48 := Fr.snoc X48 N45 g_b42
    obtain ⟨cl_z49, Ar_z49, q_z49, S_z49, N_z49, H_z49, G_z49⟩ := id V48
    have hin50 : ¬ ((2 : Int32) < 0 ∨ cl_z49.slots.size ≤ ((2 : Int32)).toNatClampNeg) := inb_of S_z49 ⟨by decide, by decide⟩
    obtain ⟨T51, h51, X51, e51, W51, st51⟩ := stD X48 hx hZ e48 Ar_z49 (j := (2 : Int32)) hin50 (g := (mkF m 184 #[iv p0, iv p1, iv p2, iv p3, iv p4, iv p5, iv 5, .unset, .unset, .unset, .unset, .unset] [(.double (FP.l2d p3.toInt64)), (.int 2), (.ref b42), (.ref b42)])) rfl rfl (hb hby at_184)
    have V51 : Arv Z h51 b42 k42 .double (5 : Int32) [(.double (FP.l2d p1.toInt64)), (.double (FP.l2d p2.toInt64)), (.double (FP.l2d p3.toInt64)), (.double (FP.l2d (0 : Int64))), (.double (FP.l2d (0 : Int64)))] (.double (FP.l2d (0 : Int64))) := Arv.set Ar_z49 q_z49 S_z49 N_z49 H_z49 G_z49 rfl W51 2 rfl (Nat.le_of_ble_eq_true rfl)
    have N51 := Fr.snoc X51 N48 g_b42
    obtain ⟨cl_z52, Ar_z52, q_z52, S_z52, N_z52, H_z52, G_z52⟩ := id V51
    have hin53 : ¬ ((3 : Int32) < 0 ∨ cl_z52.slots.size ≤ ((3 : Int32)).toNatClampNeg) := inb_of S_z52 ⟨by decide, by decide⟩
    obtain ⟨T54, h54, X54, e54, W54, st54⟩ := stD X51 hx hZ e51 Ar_z52 (j := (3 : Int32)) hin53 (g := (mkF m 190 #[iv p0, iv p1, iv p2, iv p3, iv p4, iv p5, iv 5, .unset, .unset, .unset, .unset, .unset] [(.double (FP.l2d p4.toInt64)), (.int 3), (.ref b42), (.ref b42)])) rfl rfl (hb hby at_190)
    have V54 : Arv Z h54 b42 k42 .double (5 : Int32) [(.double (FP.l2d p1.toInt64)), (.double (FP.l2d p2.toInt64)), (.double (FP.l2d p3.toInt64)), (.double (FP.l2d p4.toInt64)), (.double (FP.l2d (0 : Int64)))] (.double (FP.l2d (0 : Int64))) := Arv.set Ar_z52 q_z52 S_z52 N_z52 H_z52 G_z52 rfl W54 3 rfl (Nat.le_of_ble_eq_true rfl)
    have N54 := Fr.snoc X54 N51 g_b42
    obtain ⟨cl_z55, Ar_z55, q_z55, S_z55, N_z55, H_z55, G_z55⟩ := id V54
    have hin56 : ¬ ((4 : Int32) < 0 ∨ cl_z55.slots.size ≤ ((4 : Int32)).toNatClampNeg) := inb_of S_z55 ⟨by decide, by decide⟩
    obtain ⟨T57, h57, X57, e57, W57, st57⟩ := stD X54 hx hZ e54 Ar_z55 (j := (4 : Int32)) hin56 (g := (mkF m 196 #[iv p0, iv p1, iv p2, iv p3, iv p4, iv p5, iv 5, .unset, .unset, .unset, .unset, .unset] [(.double (FP.l2d p5.toInt64)), (.int 4), (.ref b42), (.ref b42)])) rfl rfl (hb hby at_196)
    have V57 : Arv Z h57 b42 k42 .double (5 : Int32) [(.double (FP.l2d p1.toInt64)), (.double (FP.l2d p2.toInt64)), (.double (FP.l2d p3.toInt64)), (.double (FP.l2d p4.toInt64)), (.double (FP.l2d p5.toInt64))] (.double (FP.l2d (0 : Int64))) := Arv.set Ar_z55 q_z55 S_z55 N_z55 H_z55 G_z55 rfl W57 4 rfl (Nat.le_of_ble_eq_true rfl)
    have N57 := Fr.snoc X57 N54 g_b42
    obtain ⟨_, _, ⟨T58, L58, j58, i58⟩, -, X58, ⟨Lc58, hQ58, l58, y58, z58⟩, st58⟩ := Jvm.LawKit.callS X57 hx (y := (⟨cS0, "total", "([D)D"⟩ : MethodName)) hown (mvT hZ (own_at hw 2 rfl)) (mvT hZ (own_at hw 3 rfl)) (mvT hZ (own_at hw 4 rfl)) (mvT hZ (own_at hw 5 rfl)) (by decide) (backOf (W := 0) (rm1_5 l Z a0 hw [] b42 k42 p1.toInt64 p2.toInt64 p3.toInt64 p4.toInt64 p5.toInt64 h57 n0 (Nat.le_trans (Nat.le_trans (Nat.le_trans (Nat.le_trans (Nat.le_trans (Nat.le_trans Z0 E42.1) (Keep.of_wr W45).1) (Keep.of_wr W48).1) (Keep.of_wr W51).1) (Keep.of_wr W54).1) (Keep.of_wr W57).1) V57 (own_bs (own_si p1) (by decide)) (own_bs (own_si p2) (by decide)) (own_bs (own_si p3) (by decide)) (own_bs (own_si p4) (by decide)) (own_bs (own_si p5) (by decide)) (own_bs own_s0 (by decide)) (own_bs (own_sa own_s0 p1 (by decide)) (by decide)) (own_bs (own_sa (own_sa own_s0 p1 (by decide)) p2 (by decide)) (by decide)) (own_bs (own_sa (own_sa (own_sa own_s0 p1 (by decide)) p2 (by decide)) p3 (by decide)) (by decide)) (own_bs (own_sa (own_sa (own_sa (own_sa own_s0 p1 (by decide)) p2 (by decide)) p3 (by decide)) p4 (by decide)) (by decide))) hZ (own_at hw 5 rfl) (own_at hw 4 rfl) (by decide) (by decide)) (g := (mkF m 219 #[iv p0, iv p1, iv p2, iv p3, iv p4, iv p5, iv 5, rv b42, .val (.long (((((p1.toInt64) + (p2.toInt64)) + (p3.toInt64)) + (p4.toInt64)) + (p5.toInt64))), .second, .unset, .unset] [(.ref b42)])) rfl (by rw [hml]; rfl) (argsL := [(.ref b42)]) (rest := []) (lenOf pd_0 rfl) rfl (by show 2 * 0 + _ ≤ _; exact Nat.le_of_eq rfl) (hb hby at_219) (fun _ _ => ⟨rfl, e57, (by decide : 1 + 0 ≤ _), (by decide : 5 + 0 ≤ _)⟩)
    dsimp only [Pt.U, Pt.locs, Pt.cells, Pt.slots] at X58 l58 y58 z58 st58 hQ58
    subst l58 y58 z58
    obtain ⟨rfl, N58q, e58⟩ := hQ58
    have N58 := Fr.app N57 N58q
    obtain ⟨fs, hr, hrun, hended, hW, hsame⟩ := X58.leave (v := some (.int 1)) (fun h => by rw [Bd.returns] at h; cases h)
    refine ⟨_, _, k1 _ ?_, hrun, hended, _, _, rfl, ?_, ⟨_, rfl⟩, hW, hsame.mono (by decide) (by decide)⟩
    · rw [hk]
      show OwnS p e below s₁ (mkF m 7 #[iv p0, iv p1, iv p2, iv p3, iv p4, iv p5, .unset, .unset, .unset, .unset, .unset, .unset] [(.int 5)]) _
      refine XS.istore X0.here hx rfl (hb hby at_7) rfl (l' := #[iv p0, iv p1, iv p2, iv p3, iv p4, iv p5, iv 5, .unset, .unset, .unset, .unset, .unset]) rfl ?_
      show OwnS p e below s₁ (mkF m 9 #[iv p0, iv p1, iv p2, iv p3, iv p4, iv p5, iv 5, .unset, .unset, .unset, .unset, .unset] []) _
      refine XS.iload X0.here hx rfl (hb hby at_9) rfl ?_
      show OwnS p e below s₁ (mkF m 11 #[iv p0, iv p1, iv p2, iv p3, iv p4, iv p5, iv 5, .unset, .unset, .unset, .unset, .unset] [(.int 5)]) _
      refine XS.ifYes X0.here hx rfl (pc0 := 11) (pc' := 25) rfl (hb hby at_11) rfl ((if0 _ _).trans (feq (by decide : ¬ ((5 : Int32) = (0 : Int32)))).2) (by decide) (by decide) ?_
      show OwnS p e below s₁ (mkF m 25 #[iv p0, iv p1, iv p2, iv p3, iv p4, iv p5, iv 5, .unset, .unset, .unset, .unset, .unset] []) _
      refine XS.iload X0.here hx rfl (hb hby at_25) rfl ?_
      show OwnS p e below s₁ (mkF m 27 #[iv p0, iv p1, iv p2, iv p3, iv p4, iv p5, iv 5, .unset, .unset, .unset, .unset, .unset] [(.int 5)]) _
      refine XS.iconst X0.here hx rfl (hb hby at_27) ?_
      show OwnS p e below s₁ (mkF m 28 #[iv p0, iv p1, iv p2, iv p3, iv p4, iv p5, iv 5, .unset, .unset, .unset, .unset, .unset] [(.int 1), (.int 5)]) _
      refine XS.icmpYes X0.here hx rfl (pc0 := 28) (pc' := 48) rfl (hb hby at_28) rfl (feq (by decide : ¬ ((5 : Int32) = (1 : Int32)))).2 (by decide) (by decide) ?_
      show OwnS p e below s₁ (mkF m 48 #[iv p0, iv p1, iv p2, iv p3, iv p4, iv p5, iv 5, .unset, .unset, .unset, .unset, .unset] []) _
      refine XS.iload X0.here hx rfl (hb hby at_48) rfl ?_
      show OwnS p e below s₁ (mkF m 50 #[iv p0, iv p1, iv p2, iv p3, iv p4, iv p5, iv 5, .unset, .unset, .unset, .unset, .unset] [(.int 5)]) _
      refine XS.iconst X0.here hx rfl (hb hby at_50) ?_
      show OwnS p e below s₁ (mkF m 51 #[iv p0, iv p1, iv p2, iv p3, iv p4, iv p5, iv 5, .unset, .unset, .unset, .unset, .unset] [(.int 2), (.int 5)]) _
      refine XS.icmpYes X0.here hx rfl (pc0 := 51) (pc' := 79) rfl (hb hby at_51) rfl (feq (by decide : ¬ ((5 : Int32) = (2 : Int32)))).2 (by decide) (by decide) ?_
      show OwnS p e below s₁ (mkF m 79 #[iv p0, iv p1, iv p2, iv p3, iv p4, iv p5, iv 5, .unset, .unset, .unset, .unset, .unset] []) _
      refine XS.iload X0.here hx rfl (hb hby at_79) rfl ?_
      show OwnS p e below s₁ (mkF m 81 #[iv p0, iv p1, iv p2, iv p3, iv p4, iv p5, iv 5, .unset, .unset, .unset, .unset, .unset] [(.int 5)]) _
      refine XS.iconst X0.here hx rfl (hb hby at_81) ?_
      show OwnS p e below s₁ (mkF m 82 #[iv p0, iv p1, iv p2, iv p3, iv p4, iv p5, iv 5, .unset, .unset, .unset, .unset, .unset] [(.int 3), (.int 5)]) _
      refine XS.icmpYes X0.here hx rfl (pc0 := 82) (pc' := 118) rfl (hb hby at_82) rfl (feq (by decide : ¬ ((5 : Int32) = (3 : Int32)))).2 (by decide) (by decide) ?_
      show OwnS p e below s₁ (mkF m 118 #[iv p0, iv p1, iv p2, iv p3, iv p4, iv p5, iv 5, .unset, .unset, .unset, .unset, .unset] []) _
      refine XS.iload X0.here hx rfl (hb hby at_118) rfl ?_
      show OwnS p e below s₁ (mkF m 120 #[iv p0, iv p1, iv p2, iv p3, iv p4, iv p5, iv 5, .unset, .unset, .unset, .unset, .unset] [(.int 5)]) _
      refine XS.iconst X0.here hx rfl (hb hby at_120) ?_
      show OwnS p e below s₁ (mkF m 121 #[iv p0, iv p1, iv p2, iv p3, iv p4, iv p5, iv 5, .unset, .unset, .unset, .unset, .unset] [(.int 4), (.int 5)]) _
      refine XS.icmpYes X0.here hx rfl (pc0 := 121) (pc' := 167) rfl (hb hby at_121) rfl (feq (by decide : ¬ ((5 : Int32) = (4 : Int32)))).2 (by decide) (by decide) ?_
      show OwnS p e below s₁ (mkF m 167 #[iv p0, iv p1, iv p2, iv p3, iv p4, iv p5, iv 5, .unset, .unset, .unset, .unset, .unset] []) _
      refine XS.iconst X0.here hx rfl (hb hby at_167) ?_
      show OwnS p e below s₁ (mkF m 168 #[iv p0, iv p1, iv p2, iv p3, iv p4, iv p5, iv 5, .unset, .unset, .unset, .unset, .unset] [(.int 5)]) _
      refine st42 _ ?_
      show OwnS p e below T42 (mkF m 170 #[iv p0, iv p1, iv p2, iv p3, iv p4, iv p5, iv 5, .unset, .unset, .unset, .unset, .unset] [(.ref b42)]) _
      refine XS.dup X42.here hx rfl (hb hby at_170) rfl rfl ?_
      show OwnS p e below T42 (mkF m 171 #[iv p0, iv p1, iv p2, iv p3, iv p4, iv p5, iv 5, .unset, .unset, .unset, .unset, .unset] [(.ref b42), (.ref b42)]) _
      refine XS.iconst X42.here hx rfl (hb hby at_171) ?_
      show OwnS p e below T42 (mkF m 172 #[iv p0, iv p1, iv p2, iv p3, iv p4, iv p5, iv 5, .unset, .unset, .unset, .unset, .unset] [(.int 0), (.ref b42), (.ref b42)]) _
      refine XS.iloadN X42.here hx rfl (hb hby at_172) rfl ?_
      show OwnS p e below T42 (mkF m 173 #[iv p0, iv p1, iv p2, iv p3, iv p4, iv p5, iv 5, .unset, .unset, .unset, .unset, .unset] [(.int p1), (.int 0), (.ref b42), (.ref b42)]) _
      refine XS.i2dS X42.here hx rfl (hb hby at_173) rfl (i2d_w _) ?_
      show OwnS p e below T42 (mkF m 174 #[iv p0, iv p1, iv p2, iv p3, iv p4, iv p5, iv 5, .unset, .unset, .unset, .unset, .unset] [(.double (FP.l2d p1.toInt64)), (.int 0), (.ref b42), (.ref b42)]) _
      refine st45 _ ?_
      show OwnS p e below T45 (mkF m 175 #[iv p0, iv p1, iv p2, iv p3, iv p4, iv p5, iv 5, .unset, .unset, .unset, .unset, .unset] [(.ref b42)]) _
      refine XS.dup X45.here hx rfl (hb hby at_175) rfl rfl ?_
      show OwnS p e below T45 (mkF m 176 #[iv p0, iv p1, iv p2, iv p3, iv p4, iv p5, iv 5, .unset, .unset, .unset, .unset, .unset] [(.ref b42), (.ref b42)]) _
      refine XS.iconst X45.here hx rfl (hb hby at_176) ?_
      show OwnS p e below T45 (mkF m 177 #[iv p0, iv p1, iv p2, iv p3, iv p4, iv p5, iv 5, .unset, .unset, .unset, .unset, .unset] [(.int 1), (.ref b42), (.ref b42)]) _
      refine XS.iloadN X45.here hx rfl (hb hby at_177) rfl ?_
      show OwnS p e below T45 (mkF m 178 #[iv p0, iv p1, iv p2, iv p3, iv p4, iv p5, iv 5, .unset, .unset, .unset, .unset, .unset] [(.int p2), (.int 1), (.ref b42), (.ref b42)]) _
      refine XS.i2dS X45.here hx rfl (hb hby at_178) rfl (i2d_w _) ?_
      show OwnS p e below T45 (mkF m 179 #[iv p0, iv p1, iv p2, iv p3, iv p4, iv p5, iv 5, .unset, .unset, .unset, .unset, .unset] [(.double (FP.l2d p2.toInt64)), (.int 1), (.ref b42), (.ref b42)]) _
      refine st48 _ ?_
      show OwnS p e below T48 (mkF m 180 #[iv p0, iv p1, iv p2, iv p3, iv p4, iv p5, iv 5, .unset, .unset, .unset, .unset, .unset] [(.ref b42)]) _
      refine XS.dup X48.here hx rfl (hb hby at_180) rfl rfl ?_
      show OwnS p e below T48 (mkF m 181 #[iv p0, iv p1, iv p2, iv p3, iv p4, iv p5, iv 5, .unset, .unset, .unset, .unset, .unset] [(.ref b42), (.ref b42)]) _
      refine XS.iconst X48.here hx rfl (hb hby at_181) ?_
      show OwnS p e below T48 (mkF m 182 #[iv p0, iv p1, iv p2, iv p3, iv p4, iv p5, iv 5, .unset, .unset, .unset, .unset, .unset] [(.int 2), (.ref b42), (.ref b42)]) _
      refine XS.iloadN X48.here hx rfl (hb hby at_182) rfl ?_
      show OwnS p e below T48 (mkF m 183 #[iv p0, iv p1, iv p2, iv p3, iv p4, iv p5, iv 5, .unset, .unset, .unset, .unset, .unset] [(.int p3), (.int 2), (.ref b42), (.ref b42)]) _
      refine XS.i2dS X48.here hx rfl (hb hby at_183) rfl (i2d_w _) ?_
      show OwnS p e below T48 (mkF m 184 #[iv p0, iv p1, iv p2, iv p3, iv p4, iv p5, iv 5, .unset, .unset, .unset, .unset, .unset] [(.double (FP.l2d p3.toInt64)), (.int 2), (.ref b42), (.ref b42)]) _
      refine st51 _ ?_
      show OwnS p e below T51 (mkF m 185 #[iv p0, iv p1, iv p2, iv p3, iv p4, iv p5, iv 5, .unset, .unset, .unset, .unset, .unset] [(.ref b42)]) _
      refine XS.dup X51.here hx rfl (hb hby at_185) rfl rfl ?_
      show OwnS p e below T51 (mkF m 186 #[iv p0, iv p1, iv p2, iv p3, iv p4, iv p5, iv 5, .unset, .unset, .unset, .unset, .unset] [(.ref b42), (.ref b42)]) _
      refine XS.iconst X51.here hx rfl (hb hby at_186) ?_
      show OwnS p e below T51 (mkF m 187 #[iv p0, iv p1, iv p2, iv p3, iv p4, iv p5, iv 5, .unset, .unset, .unset, .unset, .unset] [(.int 3), (.ref b42), (.ref b42)]) _
      refine XS.iload X51.here hx rfl (hb hby at_187) rfl ?_
      show OwnS p e below T51 (mkF m 189 #[iv p0, iv p1, iv p2, iv p3, iv p4, iv p5, iv 5, .unset, .unset, .unset, .unset, .unset] [(.int p4), (.int 3), (.ref b42), (.ref b42)]) _
      refine XS.i2dS X51.here hx rfl (hb hby at_189) rfl (i2d_w _) ?_
      show OwnS p e below T51 (mkF m 190 #[iv p0, iv p1, iv p2, iv p3, iv p4, iv p5, iv 5, .unset, .unset, .unset, .unset, .unset] [(.double (FP.l2d p4.toInt64)), (.int 3), (.ref b42), (.ref b42)]) _
      refine st54 _ ?_
      show OwnS p e below T54 (mkF m 191 #[iv p0, iv p1, iv p2, iv p3, iv p4, iv p5, iv 5, .unset, .unset, .unset, .unset, .unset] [(.ref b42)]) _
      refine XS.dup X54.here hx rfl (hb hby at_191) rfl rfl ?_
      show OwnS p e below T54 (mkF m 192 #[iv p0, iv p1, iv p2, iv p3, iv p4, iv p5, iv 5, .unset, .unset, .unset, .unset, .unset] [(.ref b42), (.ref b42)]) _
      refine XS.iconst X54.here hx rfl (hb hby at_192) ?_
      show OwnS p e below T54 (mkF m 193 #[iv p0, iv p1, iv p2, iv p3, iv p4, iv p5, iv 5, .unset, .unset, .unset, .unset, .unset] [(.int 4), (.ref b42), (.ref b42)]) _
      refine XS.iload X54.here hx rfl (hb hby at_193) rfl ?_
      show OwnS p e below T54 (mkF m 195 #[iv p0, iv p1, iv p2, iv p3, iv p4, iv p5, iv 5, .unset, .unset, .unset, .unset, .unset] [(.int p5), (.int 4), (.ref b42), (.ref b42)]) _
      refine XS.i2dS X54.here hx rfl (hb hby at_195) rfl (i2d_w _) ?_
      show OwnS p e below T54 (mkF m 196 #[iv p0, iv p1, iv p2, iv p3, iv p4, iv p5, iv 5, .unset, .unset, .unset, .unset, .unset] [(.double (FP.l2d p5.toInt64)), (.int 4), (.ref b42), (.ref b42)]) _
      refine st57 _ ?_
      show OwnS p e below T57 (mkF m 197 #[iv p0, iv p1, iv p2, iv p3, iv p4, iv p5, iv 5, .unset, .unset, .unset, .unset, .unset] [(.ref b42)]) _
      refine XS.astore X57.here hx rfl (hb hby at_197) rfl rfl (l' := #[iv p0, iv p1, iv p2, iv p3, iv p4, iv p5, iv 5, rv b42, .unset, .unset, .unset, .unset]) rfl ?_
      show OwnS p e below T57 (mkF m 199 #[iv p0, iv p1, iv p2, iv p3, iv p4, iv p5, iv 5, rv b42, .unset, .unset, .unset, .unset] []) _
      refine XS.iloadN X57.here hx rfl (hb hby at_199) rfl ?_
      show OwnS p e below T57 (mkF m 200 #[iv p0, iv p1, iv p2, iv p3, iv p4, iv p5, iv 5, rv b42, .unset, .unset, .unset, .unset] [(.int p1)]) _
      refine XS.i2l X57.here hx rfl (hb hby at_200) rfl ?_
      show OwnS p e below T57 (mkF m 201 #[iv p0, iv p1, iv p2, iv p3, iv p4, iv p5, iv 5, rv b42, .unset, .unset, .unset, .unset] [(.long (p1.toInt64))]) _
      refine XS.iloadN X57.here hx rfl (hb hby at_201) rfl ?_
      show OwnS p e below T57 (mkF m 202 #[iv p0, iv p1, iv p2, iv p3, iv p4, iv p5, iv 5, rv b42, .unset, .unset, .unset, .unset] [(.int p2), (.long (p1.toInt64))]) _
      refine XS.i2l X57.here hx rfl (hb hby at_202) rfl ?_
      show OwnS p e below T57 (mkF m 203 #[iv p0, iv p1, iv p2, iv p3, iv p4, iv p5, iv 5, rv b42, .unset, .unset, .unset, .unset] [(.long (p2.toInt64)), (.long (p1.toInt64))]) _
      refine XS.ladd X57.here hx rfl (hb hby at_203) rfl ?_
      show OwnS p e below T57 (mkF m 204 #[iv p0, iv p1, iv p2, iv p3, iv p4, iv p5, iv 5, rv b42, .unset, .unset, .unset, .unset] [(.long ((p1.toInt64) + (p2.toInt64)))]) _
      refine XS.iloadN X57.here hx rfl (hb hby at_204) rfl ?_
      show OwnS p e below T57 (mkF m 205 #[iv p0, iv p1, iv p2, iv p3, iv p4, iv p5, iv 5, rv b42, .unset, .unset, .unset, .unset] [(.int p3), (.long ((p1.toInt64) + (p2.toInt64)))]) _
      refine XS.i2l X57.here hx rfl (hb hby at_205) rfl ?_
      show OwnS p e below T57 (mkF m 206 #[iv p0, iv p1, iv p2, iv p3, iv p4, iv p5, iv 5, rv b42, .unset, .unset, .unset, .unset] [(.long (p3.toInt64)), (.long ((p1.toInt64) + (p2.toInt64)))]) _
      refine XS.ladd X57.here hx rfl (hb hby at_206) rfl ?_
      show OwnS p e below T57 (mkF m 207 #[iv p0, iv p1, iv p2, iv p3, iv p4, iv p5, iv 5, rv b42, .unset, .unset, .unset, .unset] [(.long (((p1.toInt64) + (p2.toInt64)) + (p3.toInt64)))]) _
      refine XS.iload X57.here hx rfl (hb hby at_207) rfl ?_
      show OwnS p e below T57 (mkF m 209 #[iv p0, iv p1, iv p2, iv p3, iv p4, iv p5, iv 5, rv b42, .unset, .unset, .unset, .unset] [(.int p4), (.long (((p1.toInt64) + (p2.toInt64)) + (p3.toInt64)))]) _
      refine XS.i2l X57.here hx rfl (hb hby at_209) rfl ?_
      show OwnS p e below T57 (mkF m 210 #[iv p0, iv p1, iv p2, iv p3, iv p4, iv p5, iv 5, rv b42, .unset, .unset, .unset, .unset] [(.long (p4.toInt64)), (.long (((p1.toInt64) + (p2.toInt64)) + (p3.toInt64)))]) _
      refine XS.ladd X57.here hx rfl (hb hby at_210) rfl ?_
      show OwnS p e below T57 (mkF m 211 #[iv p0, iv p1, iv p2, iv p3, iv p4, iv p5, iv 5, rv b42, .unset, .unset, .unset, .unset] [(.long ((((p1.toInt64) + (p2.toInt64)) + (p3.toInt64)) + (p4.toInt64)))]) _
      refine XS.iload X57.here hx rfl (hb hby at_211) rfl ?_
      show OwnS p e below T57 (mkF m 213 #[iv p0, iv p1, iv p2, iv p3, iv p4, iv p5, iv 5, rv b42, .unset, .unset, .unset, .unset] [(.int p5), (.long ((((p1.toInt64) + (p2.toInt64)) + (p3.toInt64)) + (p4.toInt64)))]) _
      refine XS.i2l X57.here hx rfl (hb hby at_213) rfl ?_
      show OwnS p e below T57 (mkF m 214 #[iv p0, iv p1, iv p2, iv p3, iv p4, iv p5, iv 5, rv b42, .unset, .unset, .unset, .unset] [(.long (p5.toInt64)), (.long ((((p1.toInt64) + (p2.toInt64)) + (p3.toInt64)) + (p4.toInt64)))]) _
      refine XS.ladd X57.here hx rfl (hb hby at_214) rfl ?_
      show OwnS p e below T57 (mkF m 215 #[iv p0, iv p1, iv p2, iv p3, iv p4, iv p5, iv 5, rv b42, .unset, .unset, .unset, .unset] [(.long (((((p1.toInt64) + (p2.toInt64)) + (p3.toInt64)) + (p4.toInt64)) + (p5.toInt64)))]) _
      refine XS.lstore X57.here hx rfl (hb hby at_215) rfl (l' := #[iv p0, iv p1, iv p2, iv p3, iv p4, iv p5, iv 5, rv b42, .val (.long (((((p1.toInt64) + (p2.toInt64)) + (p3.toInt64)) + (p4.toInt64)) + (p5.toInt64))), .second, .unset, .unset]) rfl ?_
      show OwnS p e below T57 (mkF m 217 #[iv p0, iv p1, iv p2, iv p3, iv p4, iv p5, iv 5, rv b42, .val (.long (((((p1.toInt64) + (p2.toInt64)) + (p3.toInt64)) + (p4.toInt64)) + (p5.toInt64))), .second, .unset, .unset] []) _
      refine XS.aload X57.here hx rfl (hb hby at_217) rfl rfl ?_
      show OwnS p e below T57 (mkF m 219 #[iv p0, iv p1, iv p2, iv p3, iv p4, iv p5, iv 5, rv b42, .val (.long (((((p1.toInt64) + (p2.toInt64)) + (p3.toInt64)) + (p4.toInt64)) + (p5.toInt64))), .second, .unset, .unset] [(.ref b42)]) _
      refine st58 _ ?_
      show OwnS p e below T58 (mkF m 222 #[iv p0, iv p1, iv p2, iv p3, iv p4, iv p5, iv 5, rv b42, .val (.long (((((p1.toInt64) + (p2.toInt64)) + (p3.toInt64)) + (p4.toInt64)) + (p5.toInt64))), .second, .unset, .unset] [(.double (FP.l2d ((((((0 : Int64) + p1.toInt64) + p2.toInt64) + p3.toInt64) + p4.toInt64) + p5.toInt64)))]) _
      refine XS.dstore X58.here hx rfl (hb hby at_222) rfl (l' := #[iv p0, iv p1, iv p2, iv p3, iv p4, iv p5, iv 5, rv b42, .val (.long (((((p1.toInt64) + (p2.toInt64)) + (p3.toInt64)) + (p4.toInt64)) + (p5.toInt64))), .second, .val (.double (FP.l2d ((((((0 : Int64) + p1.toInt64) + p2.toInt64) + p3.toInt64) + p4.toInt64) + p5.toInt64))), .second]) rfl ?_
      show OwnS p e below T58 (mkF m 224 #[iv p0, iv p1, iv p2, iv p3, iv p4, iv p5, iv 5, rv b42, .val (.long (((((p1.toInt64) + (p2.toInt64)) + (p3.toInt64)) + (p4.toInt64)) + (p5.toInt64))), .second, .val (.double (FP.l2d ((((((0 : Int64) + p1.toInt64) + p2.toInt64) + p3.toInt64) + p4.toInt64) + p5.toInt64))), .second] []) _
      refine XS.dload X58.here hx rfl (hb hby at_224) rfl ?_
      show OwnS p e below T58 (mkF m 226 #[iv p0, iv p1, iv p2, iv p3, iv p4, iv p5, iv 5, rv b42, .val (.long (((((p1.toInt64) + (p2.toInt64)) + (p3.toInt64)) + (p4.toInt64)) + (p5.toInt64))), .second, .val (.double (FP.l2d ((((((0 : Int64) + p1.toInt64) + p2.toInt64) + p3.toInt64) + p4.toInt64) + p5.toInt64))), .second] [(.double (FP.l2d ((((((0 : Int64) + p1.toInt64) + p2.toInt64) + p3.toInt64) + p4.toInt64) + p5.toInt64)))]) _
      refine XS.lload X58.here hx rfl (hb hby at_226) rfl ?_
      show OwnS p e below T58 (mkF m 228 #[iv p0, iv p1, iv p2, iv p3, iv p4, iv p5, iv 5, rv b42, .val (.long (((((p1.toInt64) + (p2.toInt64)) + (p3.toInt64)) + (p4.toInt64)) + (p5.toInt64))), .second, .val (.double (FP.l2d ((((((0 : Int64) + p1.toInt64) + p2.toInt64) + p3.toInt64) + p4.toInt64) + p5.toInt64))), .second] [(.long (((((p1.toInt64) + (p2.toInt64)) + (p3.toInt64)) + (p4.toInt64)) + (p5.toInt64))), (.double (FP.l2d ((((((0 : Int64) + p1.toInt64) + p2.toInt64) + p3.toInt64) + p4.toInt64) + p5.toInt64)))]) _
      refine XS.l2dS X58.here hx rfl (hb hby at_228) rfl rfl ?_
      show OwnS p e below T58 (mkF m 229 #[iv p0, iv p1, iv p2, iv p3, iv p4, iv p5, iv 5, rv b42, .val (.long (((((p1.toInt64) + (p2.toInt64)) + (p3.toInt64)) + (p4.toInt64)) + (p5.toInt64))), .second, .val (.double (FP.l2d ((((((0 : Int64) + p1.toInt64) + p2.toInt64) + p3.toInt64) + p4.toInt64) + p5.toInt64))), .second] [(.double (FP.l2d (((((p1.toInt64) + (p2.toInt64)) + (p3.toInt64)) + (p4.toInt64)) + (p5.toInt64)))), (.double (FP.l2d ((((((0 : Int64) + p1.toInt64) + p2.toInt64) + p3.toInt64) + p4.toInt64) + p5.toInt64)))]) _
      refine XS.dcmpS X58.here hx rfl (hb hby at_229) rfl (dcmpV_w (own_bs (own_sa (own_sa (own_sa (own_sa (own_sa own_s0 p1 (by decide)) p2 (by decide)) p3 (by decide)) p4 (by decide)) p5 (by decide)) (by decide)) (own_bs (own_sa (own_sa (own_sa (own_sa (own_si p1) p2 (by decide)) p3 (by decide)) p4 (by decide)) p5 (by decide)) (by decide)) _) ?_
      show OwnS p e below T58 (mkF m 230 #[iv p0, iv p1, iv p2, iv p3, iv p4, iv p5, iv 5, rv b42, .val (.long (((((p1.toInt64) + (p2.toInt64)) + (p3.toInt64)) + (p4.toInt64)) + (p5.toInt64))), .second, .val (.double (FP.l2d ((((((0 : Int64) + p1.toInt64) + p2.toInt64) + p3.toInt64) + p4.toInt64) + p5.toInt64))), .second] [(.int (lcmpW ((((((0 : Int64) + p1.toInt64) + p2.toInt64) + p3.toInt64) + p4.toInt64) + p5.toInt64) (((((p1.toInt64) + (p2.toInt64)) + (p3.toInt64)) + (p4.toInt64)) + (p5.toInt64))))]) _
      refine XS.ifNo X58.here hx rfl (hb hby at_230) rfl ((if0 _ _).trans (teq ((lw_eq _ _).mpr (by rw [Int64.zero_add]))).2) ?_
      show OwnS p e below T58 (mkF m 233 #[iv p0, iv p1, iv p2, iv p3, iv p4, iv p5, iv 5, rv b42, .val (.long (((((p1.toInt64) + (p2.toInt64)) + (p3.toInt64)) + (p4.toInt64)) + (p5.toInt64))), .second, .val (.double (FP.l2d ((((((0 : Int64) + p1.toInt64) + p2.toInt64) + p3.toInt64) + p4.toInt64) + p5.toInt64))), .second] []) _
      refine XS.iconst X58.here hx rfl (hb hby at_233) ?_
      show OwnS p e below T58 (mkF m 234 #[iv p0, iv p1, iv p2, iv p3, iv p4, iv p5, iv 5, rv b42, .val (.long (((((p1.toInt64) + (p2.toInt64)) + (p3.toInt64)) + (p4.toInt64)) + (p5.toInt64))), .second, .val (.double (FP.l2d ((((((0 : Int64) + p1.toInt64) + p2.toInt64) + p3.toInt64) + p4.toInt64) + p5.toInt64))), .second] [(.int 1)]) _
      refine XS.goto X58.here hx rfl (pc0 := 234) (pc' := 238) rfl (hb hby at_234) (by decide) (by decide) ?_
      show OwnS p e below T58 (mkF m 238 #[iv p0, iv p1, iv p2, iv p3, iv p4, iv p5, iv 5, rv b42, .val (.long (((((p1.toInt64) + (p2.toInt64)) + (p3.toInt64)) + (p4.toInt64)) + (p5.toInt64))), .second, .val (.double (FP.l2d ((((((0 : Int64) + p1.toInt64) + p2.toInt64) + p3.toInt64) + p4.toInt64) + p5.toInt64))), .second] [(.int 1)]) _
      exact retN X58 hx (t := .boolean) Bd.returns (by simp) (hb hby at_238) hr
    · show Q_0 Z p0 p1 p2 p3 p4 p5 h0 n0 _ T58.heap _
      rw [e58]
      exact ⟨rfl, N58, trivial⟩
set_option maxRecDepth 65536 in
set_option maxHeartbeats 40000000 in
theorem comes_1 {Post : Tables → Env → Array Value → State → Outcome → State → Prop} (hpost : ∀ tb e args s v u, (limb_1_1.after args s (.returned v) u = true ∧ limb_1_2.after args s (.returned v) u = true ∧ True) → FrameEnd s (.returned v) u (Jvm.fieldLocs frame_1_writes args s ++ Jvm.arrayLocs frame_1_arrays args s ++ Jvm.staticLocs frame_1_statics s) 16 128 → Post tb e args s (.returned v) u) :
    ArmFor flags0 classFile x code maxLocals ret World_1 tables_1 room_1 Calls_1 rest_1 Pre_1 Post := by
  intro l hfl _ _ p e ha hc hk s m args below hf hA hF happ hP
  obtain ⟨hcalls, hrest, hpre⟩ := hP
  obtain ⟨-, -, -, hnamed, -, -, -, hat⟩ := (Spec.applies_iff hf).mp happ
  obtain ⟨hg, hn⟩ := and_e (Cond.before_iff.mp (show (Jvm.Cond.and given_1 narrow_1).before args s = true from hpre))
  have hw := fun d (hd : d ∈ tables_1) => atoms_spec (ws := Jvm.Cond.code x code maxLocals ret :: tables_1) hat d (List.mem_cons_of_mem _ hd)
  have hfit : Fit s := fun {y c} hc i hi => by
    obtain ⟨ha, rfl⟩ := Array.getElem?_eq_some_iff.mp hc
    have q := List.all_eq_true.mp ((Array.all_eq_true_iff_forall_mem.mp hF) _ (Array.getElem_mem ha)) i (List.mem_range.mpr hi)
    simpa [Array.getElem?_eq_getElem hi] using q
  obtain ⟨cj1, cj2⟩ := and_e hg
  obtain ⟨cj3, cj4⟩ := and_e cj2
  obtain ⟨cj5, cj6⟩ := and_e cj4
  obtain ⟨cj7, cj8⟩ := and_e cj6
  obtain ⟨cj9, cj10⟩ := and_e cj8
  obtain ⟨cj11, cj12⟩ := and_e cj10
  obtain ⟨w0, w1, w2, w3, w4, w5, rfl⟩ : ∃ w0 w1 w2 w3 w4 w5 : Value, args = #[w0, w1, w2, w3, w4, w5] := by
    have hs : args.size = 6 := by simpa [Cond.value, given_1] using cj1
    obtain ⟨L⟩ := args
    match L, hs with
    | [w0, w1, w2, w3, w4, w5], _ => exact ⟨w0, w1, w2, w3, w4, w5, rfl⟩
  obtain ⟨i0, ei0⟩ := is_v cj3
  obtain rfl : w0 = (.int i0) := Option.some.inj ei0
  obtain ⟨i1, ei1⟩ := is_v cj5
  obtain rfl : w1 = (.int i1) := Option.some.inj ei1
  obtain ⟨i2, ei2⟩ := is_v cj7
  obtain rfl : w2 = (.int i2) := Option.some.inj ei2
  obtain ⟨i3, ei3⟩ := is_v cj9
  obtain rfl : w3 = (.int i3) := Option.some.inj ei3
  obtain ⟨i4, ei4⟩ := is_v cj11
  obtain rfl : w4 = (.int i4) := Option.some.inj ei4
  obtain ⟨i5, ei5⟩ := is_v cj12
  obtain rfl : w5 = (.int i5) := Option.some.inj ei5
  obtain ⟨n, o, h1, h2, h3, _, L, rfl, ⟨rfl, N, -⟩, hq⟩ := rm0 l s _ hw tables_1 i0 i1 i2 i3 i4 i5 s.heap s.heap.size (Nat.le_refl _)  p e ha hc hk s m _ below hf ((Spec.applies_iff_loose hf).mp happ).1 ⟨rfl, State.Warmed39.refl s, rfl⟩ trivial
  refine ⟨n, _, h1, h2, h3, hpost _ _ _ _ _ _ ⟨Cond.after_iff.mpr rfl, Cond.after_iff.mpr (eq_i res_at (Term.int_eval (1)) rfl), trivial⟩ ⟨hq.1, hq.2.1, (hq.2.2.sift fun y hy => Or.inr (N y hy)).mono (by decide) (by decide)⟩⟩
theorem main_1_1 : Claimed_1_1 := comes_1 fun _ _ _ _ _ _ h hF => ⟨h.1, hF⟩
theorem main_1_2 : Claimed_1_2 := comes_1 fun _ _ _ _ _ _ h hF => ⟨h.2.1, hF⟩
end Jvm.Pilot.@@N@@
namespace Jvm.Pilot.@@N@@
open Jvm Jvm.ClassFile Sem Op Lib Jvm.Free Jvm.Stand Jvm.Pilot.@@N@@.Jvm.D
/-! MADE BY PROGRAM (witnessworld.py) out of the Statement's table words and the real class files: 9 classes; the members and pool entries that the words name. The judged class is class 1, her method 1. -/
namespace start1
open Jvm.ClassFile
def u (s : String) : CpInfo := .utf8 (stringToUtf16 s)
/-- a pool by its gaps: so many unusable entries, then the entry; so many at the end -/
def gap : Nat → List CpInfo → List CpInfo
  | 0, r => r
  | n + 1, r => .unusable :: gap n r
def poolList (es : List (Nat × CpInfo)) (last : Nat) : List CpInfo := es.foldr (fun e r => gap e.1 (e.2 :: r)) (gap last [])
def pool (es : List (Nat × CpInfo)) (last : Nat) : Array CpInfo := ⟨poolList es last⟩
def fileOf (pool : Array CpInfo) (this : Nat) (attrs : Array Attribute := #[]) (ms : Array MethodInfo := #[]) (fl : Nat := 33) (sup : Nat := 0) (ifs : Array Nat := #[]) (fds : Array FieldInfo := #[]) : ClassFile where
  minorVersion := 0
  majorVersion := 65
  constantPool := pool
  accessFlags := fl
  thisClass := this
  superClass := sup
  interfaces := ifs
  fields := fds
  methods := ms
  attributes := attrs
def plain (name : String) (sup : Option ClassId) : Class where
  name := name
  kind := .ordinary
  loader := none
  accessFlags := 33
  super := sup
  interfaces := #[]
  cf := none
  fields := #[]
  methods := #[]
  instanceTypes := #[]
  staticTypes := #[]
  resolved := #[]
  callSites := []
  init := .initialized
  statics := none
  mirror := none

def pool0 : Array CpInfo := pool [(5, u "<init>"), (0, u "()V"), (1, .class_ 10), (1, u "java/lang/Object")] 113

def k0m0 : Method := { name := "<init>", desc := "()V", sig := { parameters := [], returnType := none }, accessFlags := 1, code := none }
/-- java/lang/Object -/
def k0 : Class := { plain "java/lang/Object" none with
  accessFlags := 33
  interfaces := #[]
  cf := some (fileOf pool0 8 #[] #[{ accessFlags := 1, nameIndex := 5, descriptorIndex := 6, attributes := #[] }] 33 0 #[] #[])
  fields := #[]
  methods := #[k0m0]
  instanceTypes := #[]
  staticTypes := #[]
  resolved := Array.replicate 124 none
  statics := none }

def pool1 : Array CpInfo := pool [(2, .class_ 4), (1, u "java/lang/Object"), (0, u "<init>"), (0, u "()V"), (0, .integer 2147483647), (0, .methodref 9 10), (0, .class_ 11), (0, .nameAndType 12 13), (0, u "com/example/driftline/driftline/learn/TreeNode"), (0, u "total"), (0, u "([D)D"), (0, .class_ 15), (0, u "com/example/driftline/driftline/learn/TreeNodeTotalPinLaw"), (2, u "law"), (0, u "(IIIIII)Z")] 5

def k1m0 : Method := { name := "<init>", desc := "()V", sig := { parameters := [], returnType := none }, accessFlags := 1, code := none }
def k1c1 : Code := { maxStack := 5, maxLocals := 12, code := code, exceptionTable := #[], attributes := #[] }
def k1m1 : Method := { name := "law", desc := "(IIIIII)Z", sig := { parameters := [.int, .int, .int, .int, .int, .int], returnType := some .boolean }, accessFlags := 9, code := some k1c1 }
/-- com/example/driftline/driftline/learn/TreeNodeTotalPinLaw -/
def k1 : Class := { plain "com/example/driftline/driftline/learn/TreeNodeTotalPinLaw" (some 0) with
  accessFlags := 49
  interfaces := #[]
  cf := some (fileOf pool1 14 #[] #[{ accessFlags := 1, nameIndex := 5, descriptorIndex := 6, attributes := #[] }, { accessFlags := 9, nameIndex := 18, descriptorIndex := 19, attributes := #[] }] 49 2 #[] #[])
  fields := #[]
  methods := #[k1m0, k1m1]
  instanceTypes := #[]
  staticTypes := #[]
  resolved := Array.replicate 25 none
  statics := none }

def pool2 : Array CpInfo := pool [(2, .class_ 4), (1, u "java/lang/Object"), (3, .class_ 10), (1, u "com/example/driftline/driftline/learn/TreeNode"), (0, u "classWeights"), (0, u "[D"), (2, u "total"), (0, u "([D)D"), (2, u "probabilities"), (2, u "split"), (0, u "Lcom/example/driftline/driftline/learn/Split;"), (2, u "children"), (0, u "[Lcom/example/driftline/driftline/learn/TreeNode;"), (2, u "shares")] 18

def k2c0 : Code := { maxStack := 4, maxLocals := 8, code := prog_56_method_10_code, exceptionTable := #[], attributes := #[] }
def k2m0 : Method := { name := "total", desc := "([D)D", sig := { parameters := [(.array .double)], returnType := some .double }, accessFlags := 8, code := some k2c0 }
/-- com/example/driftline/driftline/learn/TreeNode -/
def k2 : Class := { plain "com/example/driftline/driftline/learn/TreeNode" (some 0) with
  accessFlags := 48
  interfaces := #[]
  cf := some (fileOf pool2 8 #[] #[{ accessFlags := 8, nameIndex := 15, descriptorIndex := 16, attributes := #[] }] 48 2 #[] #[{ accessFlags := 18, nameIndex := 11, descriptorIndex := 12, attributes := #[] }, { accessFlags := 18, nameIndex := 19, descriptorIndex := 12, attributes := #[] }, { accessFlags := 2, nameIndex := 22, descriptorIndex := 23, attributes := #[] }, { accessFlags := 2, nameIndex := 26, descriptorIndex := 27, attributes := #[] }, { accessFlags := 2, nameIndex := 30, descriptorIndex := 12, attributes := #[] }])
  fields := #[{ name := "classWeights", type := (.array .double), accessFlags := 18, slot := 0, constantValue := 0 }, { name := "probabilities", type := (.array .double), accessFlags := 18, slot := 1, constantValue := 0 }, { name := "split", type := (.object "com/example/driftline/driftline/learn/Split"), accessFlags := 2, slot := 2, constantValue := 0 }, { name := "children", type := (.array (.object "com/example/driftline/driftline/learn/TreeNode")), accessFlags := 2, slot := 3, constantValue := 0 }, { name := "shares", type := (.array .double), accessFlags := 2, slot := 4, constantValue := 0 }]
  methods := #[k2m0]
  instanceTypes := #[(.array .double), (.array .double), (.object "com/example/driftline/driftline/learn/Split"), (.array (.object "com/example/driftline/driftline/learn/TreeNode")), (.array .double)]
  staticTypes := #[]
  resolved := Array.replicate 49 none
  statics := none }

def pool3 : Array CpInfo := pool [(1, u "java/lang/Cloneable"), (0, .class_ 1), (0, u "java/lang/Object"), (0, .class_ 3)] 3

/-- java/lang/Cloneable -/
def k3 : Class := { plain "java/lang/Cloneable" (some 0) with
  accessFlags := 1537
  interfaces := #[]
  cf := some (fileOf pool3 2 #[] #[] 1537 4 #[] #[])
  fields := #[]
  methods := #[]
  instanceTypes := #[]
  staticTypes := #[]
  resolved := Array.replicate 8 none
  statics := none }

def pool4 : Array CpInfo := pool [(1, u "java/io/Serializable"), (0, .class_ 1), (0, u "java/lang/Object"), (0, .class_ 3)] 3

/-- java/io/Serializable -/
def k4 : Class := { plain "java/io/Serializable" (some 0) with
  accessFlags := 1537
  interfaces := #[]
  cf := some (fileOf pool4 2 #[] #[] 1537 4 #[] #[])
  fields := #[]
  methods := #[]
  instanceTypes := #[]
  staticTypes := #[]
  resolved := Array.replicate 8 none
  statics := none }

/-- the primitive byte -/
def k5 : Class := { plain "byte" none with kind := .primitive 'B', accessFlags := 0x411 }
/-- [B -/
def k6 : Class := { plain "[B" (some 0) with kind := .array 5 .byte, interfaces := #[3, 4], accessFlags := 1041 }

/-- the primitive int -/
def k7 : Class := { plain "int" none with kind := .primitive 'I', accessFlags := 0x411 }
/-- [I -/
def k8 : Class := { plain "[I" (some 0) with kind := .array 7 .int, interfaces := #[3, 4], accessFlags := 1041 }

def heap : Heap := #[]
def k9 : Class := { plain "double" none with kind := .primitive 'D', accessFlags := 0x411 }
def k10 : Class := { plain "[D" (some 0) with kind := .array 9 .double, interfaces := k8.interfaces, accessFlags := 1041 }
def classes : Array Class := #[k0, k1, k2, k3, k4, k5, k6, k7, k8, k9, k10]
def interned : List (Array UInt16 × Addr) := []
def slotsUsed : Nat := 0
def theMethod : MethodId := ⟨1, 1⟩
def args0 : Array Value := #[.int 3, .int 0, .int 1, .int 2, .int 3, .int 4]
def aboutOver (below : List Frame) : State where
  vm := { classes := classes, interned := interned.toArray }
  heap := heap
  slotsUsed := slotsUsed
  threads := #[{ frames := .invoking theMethod args0 :: below }]
def below0 : List Frame := [.native { method := ⟨0, 0⟩, args := #[] }]
def about1 : State := aboutOver below0
def p0 : Program := .bare "" "" ""
def e0 : Env := launch0.env 0 0 0
theorem w_frames : about1.frames = Frame.invoking theMethod args0 :: below0 := rfl
set_option maxRecDepth 65536 in
theorem w_args : argsFit about1.vm theMethod args0 = true := by decide +kernel
set_option maxRecDepth 65536 in
theorem w_heap : heapFits about1 = true := by decide +kernel
set_option maxRecDepth 65536 in
theorem w_runnable : about1.curStatus? = some .runnable := by decide +kernel
set_option maxRecDepth 65536 in
theorem w_alone : about1.alone = true := by decide +kernel
set_option maxRecDepth 65536 in
theorem w_named : about1.methodNamed? x = some theMethod := by decide +kernel
set_option maxRecDepth 65536 in
theorem w_hears : about1.hears theMethod below0 = true := by decide +kernel
set_option maxRecDepth 65536 in
theorem w_ripe : about1.ripe theMethod args0 below0 = true := by decide +kernel
theorem w_running : about1.status = .running := rfl
set_option maxRecDepth 65536 in
theorem w_room : about1.hasRoom e0.platform room_1 = true :=
  launch0.hasRoom_least _ room_1 (by decide +kernel) (by decide +kernel) (by decide +kernel) (by decide +kernel) (by decide +kernel) (by decide +kernel)
theorem allAtoms_all (ts : List Jvm.Cond) (a : Array Jvm.Value) (st : Jvm.State) : (allAtoms ts).before a st = ts.all (fun c => c.before a st) := by
  induction ts with
  | nil => rfl
  | cons c t ih =>
    show (Jvm.Cond.and c (allAtoms t)).before a st = _
    rw [Jvm.Cond.before_and, ih, List.all_cons]
def words1 : List Jvm.Cond := Jvm.Cond.code x code maxLocals ret :: tables_1
/-- a 'code' word, met by the world's own term for the bytes: nothing is compared byte by byte -/
theorem code_word {y : MethodName} {bytes : ByteArray} {mx : Nat} {rt : Option FieldType} {a : Array Value} {s : State} {m : MethodId} {meth : Method} {c : Code} (h1 : s.methodNamed? y = some m) (h2 : s.vm.method? m = some meth) (h3 : meth.code = some c) (h4 : c.code = bytes)
    (h5 : (c.maxLocals == mx && c.exceptionTable.isEmpty && decide (c.maxStack ≤ mostOperands) && decide (meth.sig.returnType = rt) && !meth.locks && decide (parseMethodDescriptor y.desc = some meth.sig)) = true) : (Jvm.Cond.code y bytes mx rt).before a s = true := by
  simp only [Bool.and_eq_true, beq_iff_eq, Bool.not_eq_true', decide_eq_true_eq] at h5
  obtain ⟨⟨⟨⟨⟨g1, g2⟩, g3⟩, g4⟩, g5⟩, g6⟩ := h5
  simp [Cond.before, Cond.holds, Cond.value, h1, h2, h3, h4, g1, g2, g3, g4, g5, g6]
def isCode : Jvm.Cond → Bool
  | .code _ _ _ _ => true
  | _ => false
theorem all_split {L : List Jvm.Cond} {P : Jvm.Cond → Bool} (h1 : L.all (fun c => isCode c || P c) = true) (h2 : ∀ c ∈ L.filter isCode, P c = true) : L.all P = true := by
  refine List.all_eq_true.mpr fun c hc => ?_
  have h := List.all_eq_true.mp h1 c hc
  rcases Bool.eq_false_or_eq_true (isCode c) with hi | hi
  · exact h2 c (List.mem_filter.mpr ⟨hc, hi⟩)
  · simpa [hi] using h
set_option maxRecDepth 65536 in
theorem w_c0 : (Jvm.Cond.code x code maxLocals ret).before args0 about1 = true := code_word (m := ⟨1, 1⟩) (meth := k1m1) (c := k1c1) (by decide +kernel) rfl rfl rfl (by decide +kernel)
set_option maxRecDepth 65536 in
theorem w_c1 : (Jvm.Cond.code ({ cls := "com/example/driftline/driftline/learn/TreeNode", name := "total", desc := "([D)D" } : Jvm.MethodName) prog_56_method_10_code (8 : Nat) (Option.some Jvm.ClassFile.FieldType.double)).before args0 about1 = true := code_word (m := ⟨2, 0⟩) (meth := k2m0) (c := k2c0) (by decide +kernel) rfl rfl rfl (by decide +kernel)
def codes1 : List Jvm.Cond := [Jvm.Cond.code x code maxLocals ret, Jvm.Cond.code ({ cls := "com/example/driftline/driftline/learn/TreeNode", name := "total", desc := "([D)D" } : Jvm.MethodName) prog_56_method_10_code (8 : Nat) (Option.some Jvm.ClassFile.FieldType.double)]
set_option maxRecDepth 65536 in
theorem codes_eq : words1.filter isCode = codes1 := rfl
theorem w_codes : ∀ c ∈ words1.filter isCode, c.before args0 about1 = true := by
  rw [codes_eq]
  intro c hc
  simp only [codes1, List.mem_cons, List.not_mem_nil, or_false] at hc
  rcases hc with rfl | rfl
  · exact w_c0
  · exact w_c1
set_option maxRecDepth 65536 in
theorem w_t1 : words1.all (fun c => isCode c || c.before args0 about1) = true := by decide +kernel
theorem w_tables : (allAtoms (Jvm.Cond.code x code maxLocals ret :: tables_1)).before args0 about1 = true := by
  rw [allAtoms_all]
  show words1.all (fun c => c.before args0 about1) = true
  refine all_split ?_ w_codes
  rw [w_t1]
set_option maxRecDepth 65536 in
theorem w_case : (Jvm.Cond.and given_1 narrow_1).before args0 about1 = true := by decide +kernel
theorem w_applies : (headSpec (Jvm.Cond.code x code maxLocals ret :: tables_1) room_1).applies x e0.platform about1 = true :=
  (Spec.applies_iff w_frames).mpr ⟨w_running, w_runnable, w_alone, w_named, w_hears, w_ripe, w_room, w_tables⟩
theorem atStart : AtStart classFile x code maxLocals ret World_1 tables_1 room_1 Calls_1 rest_1 Pre_1 launch0 p0 e0 about1 theMethod args0 below0 :=
  ⟨lists_1, trivial, launch0.admits_env _ _ _, launch0.least_env, fairChoices_fair.cas, fairChoices_fair.clock, w_frames, w_args, w_heap, w_applies, trivial, trivial, w_case⟩
end start1
theorem witness_1 : WitnessClaimed_1 := ⟨start1.p0, start1.e0, start1.about1, start1.theMethod, start1.args0, start1.below0, start1.atStart⟩
end Jvm.Pilot.@@N@@
