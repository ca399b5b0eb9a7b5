import JvmDerived
import JvmDerived.Pilot.@@N@@Statement
import JvmDerived.Pilot.@@N@@Code
set_option linter.unusedVariables false
set_option linter.unusedSimpArgs false
namespace Jvm.RoadKit
open Sem ClassFile Op Lib Jvm.Stand Jvm.Free Jvm.LawKit
section New
variable {p : Program} {l : Launch} {e : Env} {R : Room} {s : State} {m : MethodId} {args : Array Value} {below : List Frame} {meth : Method} {c : Code} {T : State} {locs : List Loc} {cells slots : Nat}
theorem retI (X : Stand p l e R s m args below meth c T locs cells slots) (hx : p.tables.exec = Jvm.exec) {pc : Nat} {Ls : Array Slot} {z : Int32} {rest : List Value} (hret : meth.sig.returnType = some .int) (hd : decode c.code pc = .ok (.ireturn, 1)) {fs : List Frame}
    (hl : ∀ (f : JFrame) (acts : List Action), f.method = m → f.locked = none → f.entered = [] → (doReturn e (T.setTop f) acts (some (.int z))).1 = T.setFrames fs) : Steps p.tables e below (T.setTop (mkF m pc Ls (.int z :: rest))) (T.setFrames fs) := by
  have hm' : T.vm.method? m = some meth := X.method'
  have hn : narrow .int (.int z) = .int z := rfl
  show Steps p.tables e below (T.setTop { method := m, pc := pc, locals := Ls, stack := _ :: rest, locked := none }) _
  jvm_step X.here [X.here.top, hx, hd, hm', hret, hn]
  first | (intro acts; rw [hl _ acts rfl rfl rfl]) | rw [hl _ _ rfl rfl rfl]
  exact Steps.refl _
end New
end Jvm.RoadKit
namespace Jvm.Pilot.@@N@@
open Jvm Jvm.ClassFile Sem Op Lib Jvm.Free Jvm.Stand Jvm.LawKit Jvm.RoadKit Bundle Jvm.Pilot.@@N@@.Jvm.D
abbrev OwnS (p : Program) (e : Env) (below : List Frame) (T : State) (g : JFrame) (t : State) : Prop := Steps p.tables e below (T.setTop g) t
theorem own_selpriv {s : State} {args : Array Value} {y : MethodName} {n : Nat} (hy : y.cls ≠ "java/lang/invoke/MethodHandle" ∧ y.cls ≠ "java/lang/invoke/VarHandle") (hins : (Jvm.Cond.instantiable y.cls n).before args s = true) (hp : (Jvm.Cond.privateMethod y).before args s = true) (hi : (Jvm.Cond.instanceMethod y).before args s = true) : (Jvm.Cond.selects y.cls y y).before args s = true := by
  obtain ⟨c, k, hc, hk, -, hniab, -⟩ := Cond.instantiable_spec hins
  exact selects_self_of_private hc hk (Bool.or_eq_false_iff.mp hniab).1 (Cond.privateMethod_at hp) hi hy
theorem own_irr (x : Int32) : ¬ (x < x) := by rw [Int32.lt_iff_toInt_lt]; omega
theorem own_asymm {x y : Int32} (h : x < y) : ¬ (y < x) := by rw [Int32.lt_iff_toInt_lt] at *; omega
theorem own_ne {x y : Int32} (h : x < y) : ¬ (x = y) := fun q => own_irr x (by rw [← q] at h; exact h)
theorem own_ne' {x y : Int32} (h : x < y) : ¬ (y = x) := fun q => own_irr x (by rw [q] at h; exact h)
theorem own_tri (x y : Int32) : x < y ∨ x = y ∨ y < x := by
  rw [Int32.lt_iff_toInt_lt, Int32.lt_iff_toInt_lt, ← Int32.toInt_inj]; omega
theorem own_ns {Z : State} {h : Heap} {a : Addr} {C : String} (F : Exa Z h a C) : ∃ cell : Cell, h[a]? = some cell ∧ cell.vm.isStatics = false := by
  obtain ⟨cell, k, h1, -, -, h4, -⟩ := F; exact ⟨cell, h1, h4⟩
theorem own_sta_keep {Z : State} {h h' : Heap} {ws : List Addr} {C n d : String} {v : Value} (F : Sta Z h C n d v) (K : Keep h h' ws) (q : ∀ x ∈ ws, ∃ cell : Cell, h[x]? = some cell ∧ cell.vm.isStatics = false) : Sta Z h' C n d v := by
  obtain ⟨cf, i, k, f, st, cell, h1, h2, h3, h4, h5, h6, h7⟩ := F
  refine ⟨cf, i, k, f, st, cell, h1, h2, h3, h4, K.2.1 st cell h5 fun r => ?_, h6, h7⟩
  obtain ⟨c2, g1, g2⟩ := q st r
  cases h5.symm.trans g1
  rw [g2] at h6; cases h6
theorem own_eq_int {args : Array Value} {first s : State} {o : Option Outcome} {idx : List Nat} {t : Term} {k : Int32} (h : (Jvm.Cond.eq t (.int k)).value args first o s idx = some true) : t.eval args first o idx s = some (.int k) := by
  simp only [Cond.value, Term.eval] at h
  cases ht : t.eval args first o idx s with
  | none => simp [ht] at h
  | some x => cases x <;> simp [ht] at h ⊢; exact h
abbrev cS0 : String := "com/example/strict_lock/strictlock/LockScope"
abbrev cS1 : String := "(Lcom/example/strict_lock/strictlock/LockScope;)Z"
abbrev cS2 : String := "com/example/strict_lock/strictlock/LockScopeConflictsWithPinLaw"
abbrev cS3 : String := "(Z)Lcom/example/strict_lock/strictlock/LockScope;"
abbrev cS4 : String := "Lcom/example/strict_lock/strictlock/LockScope;"
theorem own_at {Z : State} {a0 : Array Value} (hw : ∀ d ∈ tables_1, d.before a0 Z = true) (i : Nat) {d : Jvm.Cond} (h : tables_1[i]? = some d) : d.before a0 Z = true := hw _ (List.mem_of_getElem? h)
theorem d1_0 : decode method_2_code 0 = .ok (.iload_n 0, 1) := by decide +kernel
theorem d1_1 : decode method_2_code 1 = .ok (.ifCond .eq 9, 3) := by decide +kernel
theorem d1_4 : decode method_2_code 4 = .ok (.getstatic 7, 3) := by decide +kernel
theorem d1_7 : decode method_2_code 7 = .ok (.goto 6, 3) := by decide +kernel
theorem d1_13 : decode method_2_code 13 = .ok (.areturn, 1) := by decide +kernel
theorem pn_com_example_strict_lock_strictlock_LockScopeConflictsWithPinLaw : plainName cS2 = true := by first | (simp [plainName, overriddenIn]; done) | decide +kernel
theorem ef_1 (m : MethodId) (x0 : Int32) : entryFrame m #[(.int x0)] 1 = mkF m 0 #[.val (.int x0)] [] := by first | (simp [entryFrame, mkF, argsToLocals, Value.category]; done) | rfl
def Q_1_f (Z : State) (p0 : Int32) (w_EXCLUSIVE : Addr) (h0 : Heap) (n0 : Nat) (v : Option Value) (h : Heap) (L : List Loc) : Prop := v = some (.ref w_EXCLUSIVE) ∧ Fr n0 L ∧ h = h0
set_option maxRecDepth 65536 in
set_option maxHeartbeats 40000000 in
theorem rm1_f (l : Launch) (Z : State) (a0 : Array Value) (hw : ∀ d ∈ tables_1, d.before a0 Z = true) (ws : List Jvm.Cond) (p0 : Int32) (w_EXCLUSIVE : Addr) (h0 : Heap) (n0 : Nat) (Z0 : n0 ≤ h0.size) (hc1 : ¬ (p0 = (0 : Int32))) (S_EXCLUSIVE : Sta Z h0 cS0 "EXCLUSIVE" cS4 (.ref w_EXCLUSIVE)) :
    MetFree l (⟨cS2, "pick", cS3⟩ : MethodName) (head1 (Jvm.Cond.code (⟨cS2, "pick", cS3⟩ : MethodName) method_2_code 1 (some (.object cS0)) :: ws) ({ frames := 0, cells := 0, slots := 0, locals := 0 } : Room)) (fun a U => a = #[(.int p0)] ∧ Z.Warmed39 U.vm ∧ U.heap = h0) (fun _ _ _ _ _ => True) (fun _ U o U' => ∃ v L, o = .returned v ∧ Q_1_f Z p0 w_EXCLUSIVE h0 n0 v U'.heap L ∧ FrameEnd U o U' L ({ frames := 0, cells := 0, slots := 0, locals := 0 } : Room).cells ({ frames := 0, cells := 0, slots := 0, locals := 0 } : Room).slots) := by
  refine MetFree.of_bodySF (plainFor_of_name pn_com_example_strict_lock_strictlock_LockScopeConflictsWithPinLaw) hisR ?_
  intro p e s m args below meth c s₁ Bd hml0 hP hK
  obtain ⟨rfl, hZ, hh⟩ := hP
  have hx := Bd.exec
  have hby := Bd.bytes
  have hml : c.maxLocals = 1 := hml0
  have hown : s.vm.findClass cS2 = some m.cls := findClass_of_methodNamed Bd.named
  have hnm := (name_of_methodNamed Bd.named Bd.method).1
  have X0 : Stand p l e ({ frames := 0, cells := 0, slots := 0, locals := 0 } : Room) s m #[(.int p0)] below meth c s₁ [] 0 0 := Stand.of_body Bd
  have e0 : s₁.heap = h0 := by rw [← hh, Bd.state]; rfl
  have N0 := Fr.nil n0
  have k0 : ∀ t, OwnS p e below s₁ (mkF m 0 #[iv p0] []) t → OwnS p e below s₁ (entryFrame m #[(.int p0)] 1) t := fun t k => castTop (ef_1 m p0) k
  obtain ⟨T1, X1, e1, st1⟩ := getS2 X0 hx hZ hown (host := "") (Or.inl (own_at hw 4 rfl)) Via.refl e0 S_EXCLUSIVE (g := (mkF m 4 #[iv p0] [])) rfl (hb hby d1_4)
  obtain ⟨fs, hr, hrun, hended, hW, hsame⟩ := X1.leave (v := some (.ref w_EXCLUSIVE)) (fun h => by rw [Bd.returns] at h; cases h)
  refine ⟨_, _, k0 _ ?_, hrun, hended, _, _, rfl, ?_, ⟨_, rfl⟩, hW, hsame.mono (by decide) (by decide)⟩
  · show OwnS p e below s₁ (mkF m 0 #[iv p0] []) _
    refine XS.iloadN X0.here hx rfl (hb hby d1_0) rfl ?_
    show OwnS p e below s₁ (mkF m 1 #[iv p0] [(.int p0)]) _
    refine XS.ifNo X0.here hx rfl (hb hby d1_1) rfl ((if0 _ _).trans (feq hc1).1) ?_
    show OwnS p e below s₁ (mkF m 4 #[iv p0] []) _
    refine st1 _ ?_
    show OwnS p e below T1 (mkF m 7 #[iv p0] [(.ref w_EXCLUSIVE)]) _
    refine XS.goto X1.here hx rfl (pc0 := 7) (pc' := 13) rfl (hb hby d1_7) (by decide) (by decide) ?_
    show OwnS p e below T1 (mkF m 13 #[iv p0] [(.ref w_EXCLUSIVE)]) _
    jvm_step X1.here [X1.here.top, hx, (hb hby d1_13), X1.method', Bd.returns, Value.isRef, FieldType.isReference]
    first | (intro acts; rw [hr _ acts rfl rfl rfl]) | rw [hr _ _ rfl rfl rfl]
    exact Steps.refl _
  · show Q_1_f Z p0 w_EXCLUSIVE h0 n0 _ T1.heap _
    rw [e1]
    exact ⟨rfl, N0, rfl⟩
theorem d1_10 : decode method_2_code 10 = .ok (.getstatic 13, 3) := by decide +kernel
def Q_1_t (Z : State) (p0 : Int32) (w_SHARED : Addr) (h0 : Heap) (n0 : Nat) (v : Option Value) (h : Heap) (L : List Loc) : Prop := v = some (.ref w_SHARED) ∧ Fr n0 L ∧ h = h0
set_option maxRecDepth 65536 in
set_option maxHeartbeats 40000000 in
theorem rm1_t (l : Launch) (Z : State) (a0 : Array Value) (hw : ∀ d ∈ tables_1, d.before a0 Z = true) (ws : List Jvm.Cond) (p0 : Int32) (w_SHARED : Addr) (h0 : Heap) (n0 : Nat) (Z0 : n0 ≤ h0.size) (hc1 : p0 = (0 : Int32)) (S_SHARED : Sta Z h0 cS0 "SHARED" cS4 (.ref w_SHARED)) :
    MetFree l (⟨cS2, "pick", cS3⟩ : MethodName) (head1 (Jvm.Cond.code (⟨cS2, "pick", cS3⟩ : MethodName) method_2_code 1 (some (.object cS0)) :: ws) ({ frames := 0, cells := 0, slots := 0, locals := 0 } : Room)) (fun a U => a = #[(.int p0)] ∧ Z.Warmed39 U.vm ∧ U.heap = h0) (fun _ _ _ _ _ => True) (fun _ U o U' => ∃ v L, o = .returned v ∧ Q_1_t Z p0 w_SHARED h0 n0 v U'.heap L ∧ FrameEnd U o U' L ({ frames := 0, cells := 0, slots := 0, locals := 0 } : Room).cells ({ frames := 0, cells := 0, slots := 0, locals := 0 } : Room).slots) := by
  refine MetFree.of_bodySF (plainFor_of_name pn_com_example_strict_lock_strictlock_LockScopeConflictsWithPinLaw) hisR ?_
  intro p e s m args below meth c s₁ Bd hml0 hP hK
  obtain ⟨rfl, hZ, hh⟩ := hP
  have hx := Bd.exec
  have hby := Bd.bytes
  have hml : c.maxLocals = 1 := hml0
  have hown : s.vm.findClass cS2 = some m.cls := findClass_of_methodNamed Bd.named
  have hnm := (name_of_methodNamed Bd.named Bd.method).1
  have X0 : Stand p l e ({ frames := 0, cells := 0, slots := 0, locals := 0 } : Room) s m #[(.int p0)] below meth c s₁ [] 0 0 := Stand.of_body Bd
  have e0 : s₁.heap = h0 := by rw [← hh, Bd.state]; rfl
  have N0 := Fr.nil n0
  have k0 : ∀ t, OwnS p e below s₁ (mkF m 0 #[iv p0] []) t → OwnS p e below s₁ (entryFrame m #[(.int p0)] 1) t := fun t k => castTop (ef_1 m p0) k
  obtain ⟨T1, X1, e1, st1⟩ := getS2 X0 hx hZ hown (host := "") (Or.inl (own_at hw 7 rfl)) Via.refl e0 S_SHARED (g := (mkF m 10 #[iv p0] [])) rfl (hb hby d1_10)
  obtain ⟨fs, hr, hrun, hended, hW, hsame⟩ := X1.leave (v := some (.ref w_SHARED)) (fun h => by rw [Bd.returns] at h; cases h)
  refine ⟨_, _, k0 _ ?_, hrun, hended, _, _, rfl, ?_, ⟨_, rfl⟩, hW, hsame.mono (by decide) (by decide)⟩
  · show OwnS p e below s₁ (mkF m 0 #[iv p0] []) _
    refine XS.iloadN X0.here hx rfl (hb hby d1_0) rfl ?_
    show OwnS p e below s₁ (mkF m 1 #[iv p0] [(.int p0)]) _
    refine XS.ifYes X0.here hx rfl (pc0 := 1) (pc' := 10) rfl (hb hby d1_1) rfl ((if0 _ _).trans (teq hc1).1) (by decide) (by decide) ?_
    show OwnS p e below s₁ (mkF m 10 #[iv p0] []) _
    refine st1 _ ?_
    show OwnS p e below T1 (mkF m 13 #[iv p0] [(.ref w_SHARED)]) _
    jvm_step X1.here [X1.here.top, hx, (hb hby d1_13), X1.method', Bd.returns, Value.isRef, FieldType.isReference]
    first | (intro acts; rw [hr _ acts rfl rfl rfl]) | rw [hr _ _ rfl rfl rfl]
    exact Steps.refl _
  · show Q_1_t Z p0 w_SHARED h0 n0 _ T1.heap _
    rw [e1]
    exact ⟨rfl, N0, rfl⟩
theorem d2_0 : decode prog_20_method_5_code 0 = .ok (.aload_n 0, 1) := by decide +kernel
theorem d2_1 : decode prog_20_method_5_code 1 = .ok (.getstatic 3, 3) := by decide +kernel
theorem d2_4 : decode prog_20_method_5_code 4 = .ok (.if_acmp .eq 10, 3) := by decide +kernel
theorem d2_14 : decode prog_20_method_5_code 14 = .ok (.iconst 1, 1) := by decide +kernel
theorem d2_15 : decode prog_20_method_5_code 15 = .ok (.goto 4, 3) := by decide +kernel
theorem d2_19 : decode prog_20_method_5_code 19 = .ok (.ireturn, 1) := by decide +kernel
theorem pn_com_example_strict_lock_strictlock_LockScope : plainName cS0 = true := by first | (simp [plainName, overriddenIn]; done) | decide +kernel
theorem ef_2 (m : MethodId) (x0 : Addr) (x1 : Addr) : entryFrame m #[(.ref x0), (.ref x1)] 2 = mkF m 0 #[.val (.ref x0), .val (.ref x1)] [] := by first | (simp [entryFrame, mkF, argsToLocals, Value.category]; done) | rfl
def Q_2_e (Z : State) (w_EXCLUSIVE : Addr) (r1 : Addr) (h0 : Heap) (n0 : Nat) (v : Option Value) (h : Heap) (L : List Loc) : Prop := v = some (.int 1) ∧ Fr n0 L ∧ h = h0
set_option maxRecDepth 65536 in
set_option maxHeartbeats 40000000 in
theorem rm2_e (l : Launch) (Z : State) (a0 : Array Value) (hw : ∀ d ∈ tables_1, d.before a0 Z = true) (ws : List Jvm.Cond) (w_EXCLUSIVE : Addr) (r1 : Addr) (h0 : Heap) (n0 : Nat) (Z0 : n0 ≤ h0.size) (S_EXCLUSIVE : Sta Z h0 cS0 "EXCLUSIVE" cS4 (.ref w_EXCLUSIVE)) :
    MetFree l (⟨cS0, "conflictsWith", cS1⟩ : MethodName) (head1 (Jvm.Cond.code (⟨cS0, "conflictsWith", cS1⟩ : MethodName) prog_20_method_5_code 2 (some .boolean) :: ws) ({ frames := 0, cells := 0, slots := 0, locals := 0 } : Room)) (fun a U => a = #[(.ref w_EXCLUSIVE), (.ref r1)] ∧ Z.Warmed39 U.vm ∧ U.heap = h0) (fun _ _ _ _ _ => True) (fun _ U o U' => ∃ v L, o = .returned v ∧ Q_2_e Z w_EXCLUSIVE r1 h0 n0 v U'.heap L ∧ FrameEnd U o U' L ({ frames := 0, cells := 0, slots := 0, locals := 0 } : Room).cells ({ frames := 0, cells := 0, slots := 0, locals := 0 } : Room).slots) := by
  refine MetFree.of_bodySF (plainFor_of_name pn_com_example_strict_lock_strictlock_LockScope) hisR ?_
  intro p e s m args below meth c s₁ Bd hml0 hP hK
  obtain ⟨rfl, hZ, hh⟩ := hP
  have hx := Bd.exec
  have hby := Bd.bytes
  have hml : c.maxLocals = 2 := hml0
  have hown : s.vm.findClass cS0 = some m.cls := findClass_of_methodNamed Bd.named
  have hnm := (name_of_methodNamed Bd.named Bd.method).1
  have X0 : Stand p l e ({ frames := 0, cells := 0, slots := 0, locals := 0 } : Room) s m #[(.ref w_EXCLUSIVE), (.ref r1)] below meth c s₁ [] 0 0 := Stand.of_body Bd
  have e0 : s₁.heap = h0 := by rw [← hh, Bd.state]; rfl
  have N0 := Fr.nil n0
  have k0 : ∀ t, OwnS p e below s₁ (mkF m 0 #[rv w_EXCLUSIVE, rv r1] []) t → OwnS p e below s₁ (entryFrame m #[(.ref w_EXCLUSIVE), (.ref r1)] 2) t := fun t k => castTop (ef_2 m w_EXCLUSIVE r1) k
  obtain ⟨T1, X1, e1, st1⟩ := getS2 X0 hx hZ hown (host := "") (Or.inl (own_at hw 14 rfl)) Via.refl e0 S_EXCLUSIVE (g := (mkF m 1 #[rv w_EXCLUSIVE, rv r1] [(.ref w_EXCLUSIVE)])) rfl (hb hby d2_1)
  obtain ⟨fs, hr, hrun, hended, hW, hsame⟩ := X1.leave (v := some (.int 1)) (fun h => by rw [Bd.returns] at h; cases h)
  refine ⟨_, _, k0 _ ?_, hrun, hended, _, _, rfl, ?_, ⟨_, rfl⟩, hW, hsame.mono (by decide) (by decide)⟩
  · show OwnS p e below s₁ (mkF m 0 #[rv w_EXCLUSIVE, rv r1] []) _
    refine XS.aloadN X0.here hx rfl (hb hby d2_0) rfl rfl ?_
    show OwnS p e below s₁ (mkF m 1 #[rv w_EXCLUSIVE, rv r1] [(.ref w_EXCLUSIVE)]) _
    refine st1 _ ?_
    show OwnS p e below T1 (mkF m 4 #[rv w_EXCLUSIVE, rv r1] [(.ref w_EXCLUSIVE), (.ref w_EXCLUSIVE)]) _
    refine Jvm.RoadKit.acmp (g := (mkF m 4 #[rv w_EXCLUSIVE, rv r1] [(.ref w_EXCLUSIVE), (.ref w_EXCLUSIVE)])) X1 hx rfl rfl rfl (pc0 := 4) (pc' := 14) (same := true) rfl (hb hby d2_4) rfl (decide_eq_true rfl) (by decide) (by decide) ?_
    show OwnS p e below T1 (mkF m 14 #[rv w_EXCLUSIVE, rv r1] []) _
    refine XS.iconst X1.here hx rfl (hb hby d2_14) ?_
    show OwnS p e below T1 (mkF m 15 #[rv w_EXCLUSIVE, rv r1] [(.int 1)]) _
    refine XS.goto X1.here hx rfl (pc0 := 15) (pc' := 19) rfl (hb hby d2_15) (by decide) (by decide) ?_
    show OwnS p e below T1 (mkF m 19 #[rv w_EXCLUSIVE, rv r1] [(.int 1)]) _
    exact retN X1 hx (t := .boolean) Bd.returns (by simp) (hb hby d2_19) hr
  · show Q_2_e Z w_EXCLUSIVE r1 h0 n0 _ T1.heap _
    rw [e1]
    exact ⟨rfl, N0, rfl⟩
theorem d2_7 : decode prog_20_method_5_code 7 = .ok (.aload_n 1, 1) := by decide +kernel
theorem d2_8 : decode prog_20_method_5_code 8 = .ok (.getstatic 3, 3) := by decide +kernel
theorem d2_11 : decode prog_20_method_5_code 11 = .ok (.if_acmp .ne 7, 3) := by decide +kernel
def Q_2_oe (Z : State) (r0 : Addr) (w_EXCLUSIVE : Addr) (h0 : Heap) (n0 : Nat) (v : Option Value) (h : Heap) (L : List Loc) : Prop := v = some (.int 1) ∧ Fr n0 L ∧ h = h0
set_option maxRecDepth 65536 in
set_option maxHeartbeats 40000000 in
theorem rm2_oe (l : Launch) (Z : State) (a0 : Array Value) (hw : ∀ d ∈ tables_1, d.before a0 Z = true) (ws : List Jvm.Cond) (r0 : Addr) (w_EXCLUSIVE : Addr) (h0 : Heap) (n0 : Nat) (Z0 : n0 ≤ h0.size) (S_EXCLUSIVE : Sta Z h0 cS0 "EXCLUSIVE" cS4 (.ref w_EXCLUSIVE)) (ha4 : ¬ (r0 = w_EXCLUSIVE)) :
    MetFree l (⟨cS0, "conflictsWith", cS1⟩ : MethodName) (head1 (Jvm.Cond.code (⟨cS0, "conflictsWith", cS1⟩ : MethodName) prog_20_method_5_code 2 (some .boolean) :: ws) ({ frames := 0, cells := 0, slots := 0, locals := 0 } : Room)) (fun a U => a = #[(.ref r0), (.ref w_EXCLUSIVE)] ∧ Z.Warmed39 U.vm ∧ U.heap = h0) (fun _ _ _ _ _ => True) (fun _ U o U' => ∃ v L, o = .returned v ∧ Q_2_oe Z r0 w_EXCLUSIVE h0 n0 v U'.heap L ∧ FrameEnd U o U' L ({ frames := 0, cells := 0, slots := 0, locals := 0 } : Room).cells ({ frames := 0, cells := 0, slots := 0, locals := 0 } : Room).slots) := by
  refine MetFree.of_bodySF (plainFor_of_name pn_com_example_strict_lock_strictlock_LockScope) hisR ?_
  intro p e s m args below meth c s₁ Bd hml0 hP hK
  obtain ⟨rfl, hZ, hh⟩ := hP
  have hx := Bd.exec
  have hby := Bd.bytes
  have hml : c.maxLocals = 2 := hml0
  have hown : s.vm.findClass cS0 = some m.cls := findClass_of_methodNamed Bd.named
  have hnm := (name_of_methodNamed Bd.named Bd.method).1
  have X0 : Stand p l e ({ frames := 0, cells := 0, slots := 0, locals := 0 } : Room) s m #[(.ref r0), (.ref w_EXCLUSIVE)] below meth c s₁ [] 0 0 := Stand.of_body Bd
  have e0 : s₁.heap = h0 := by rw [← hh, Bd.state]; rfl
  have N0 := Fr.nil n0
  have k0 : ∀ t, OwnS p e below s₁ (mkF m 0 #[rv r0, rv w_EXCLUSIVE] []) t → OwnS p e below s₁ (entryFrame m #[(.ref r0), (.ref w_EXCLUSIVE)] 2) t := fun t k => castTop (ef_2 m r0 w_EXCLUSIVE) k
  obtain ⟨T1, X1, e1, st1⟩ := getS2 X0 hx hZ hown (host := "") (Or.inl (own_at hw 14 rfl)) Via.refl e0 S_EXCLUSIVE (g := (mkF m 1 #[rv r0, rv w_EXCLUSIVE] [(.ref r0)])) rfl (hb hby d2_1)
  obtain ⟨T2, X2, e2, st2⟩ := getS2 X1 hx hZ hown (host := "") (Or.inl (own_at hw 14 rfl)) Via.refl e1 S_EXCLUSIVE (g := (mkF m 8 #[rv r0, rv w_EXCLUSIVE] [(.ref w_EXCLUSIVE)])) rfl (hb hby d2_8)
  obtain ⟨fs, hr, hrun, hended, hW, hsame⟩ := X2.leave (v := some (.int 1)) (fun h => by rw [Bd.returns] at h; cases h)
  refine ⟨_, _, k0 _ ?_, hrun, hended, _, _, rfl, ?_, ⟨_, rfl⟩, hW, hsame.mono (by decide) (by decide)⟩
  · show OwnS p e below s₁ (mkF m 0 #[rv r0, rv w_EXCLUSIVE] []) _
    refine XS.aloadN X0.here hx rfl (hb hby d2_0) rfl rfl ?_
    show OwnS p e below s₁ (mkF m 1 #[rv r0, rv w_EXCLUSIVE] [(.ref r0)]) _
    refine st1 _ ?_
    show OwnS p e below T1 (mkF m 4 #[rv r0, rv w_EXCLUSIVE] [(.ref w_EXCLUSIVE), (.ref r0)]) _
    refine Jvm.RoadKit.acmp (g := (mkF m 4 #[rv r0, rv w_EXCLUSIVE] [(.ref w_EXCLUSIVE), (.ref r0)])) X1 hx rfl rfl rfl (pc0 := 4) (pc' := 7) (same := false) rfl (hb hby d2_4) rfl (decide_eq_false fun q => ha4 (Value.ref.inj q)) (by decide) (by decide) ?_
    show OwnS p e below T1 (mkF m 7 #[rv r0, rv w_EXCLUSIVE] []) _
    refine XS.aloadN X1.here hx rfl (hb hby d2_7) rfl rfl ?_
    show OwnS p e below T1 (mkF m 8 #[rv r0, rv w_EXCLUSIVE] [(.ref w_EXCLUSIVE)]) _
    refine st2 _ ?_
    show OwnS p e below T2 (mkF m 11 #[rv r0, rv w_EXCLUSIVE] [(.ref w_EXCLUSIVE), (.ref w_EXCLUSIVE)]) _
    refine Jvm.RoadKit.acmp (g := (mkF m 11 #[rv r0, rv w_EXCLUSIVE] [(.ref w_EXCLUSIVE), (.ref w_EXCLUSIVE)])) X2 hx rfl rfl rfl (pc0 := 11) (pc' := 14) (same := true) rfl (hb hby d2_11) rfl (decide_eq_true rfl) (by decide) (by decide) ?_
    show OwnS p e below T2 (mkF m 14 #[rv r0, rv w_EXCLUSIVE] []) _
    refine XS.iconst X2.here hx rfl (hb hby d2_14) ?_
    show OwnS p e below T2 (mkF m 15 #[rv r0, rv w_EXCLUSIVE] [(.int 1)]) _
    refine XS.goto X2.here hx rfl (pc0 := 15) (pc' := 19) rfl (hb hby d2_15) (by decide) (by decide) ?_
    show OwnS p e below T2 (mkF m 19 #[rv r0, rv w_EXCLUSIVE] [(.int 1)]) _
    exact retN X2 hx (t := .boolean) Bd.returns (by simp) (hb hby d2_19) hr
  · show Q_2_oe Z r0 w_EXCLUSIVE h0 n0 _ T2.heap _
    rw [e2]
    exact ⟨rfl, N0, rfl⟩
theorem d2_18 : decode prog_20_method_5_code 18 = .ok (.iconst 0, 1) := by decide +kernel
def Q_2_oo (Z : State) (r0 : Addr) (r1 : Addr) (w_EXCLUSIVE : Addr) (h0 : Heap) (n0 : Nat) (v : Option Value) (h : Heap) (L : List Loc) : Prop := v = some (.int 0) ∧ Fr n0 L ∧ h = h0
set_option maxRecDepth 65536 in
set_option maxHeartbeats 40000000 in
theorem rm2_oo (l : Launch) (Z : State) (a0 : Array Value) (hw : ∀ d ∈ tables_1, d.before a0 Z = true) (ws : List Jvm.Cond) (r0 : Addr) (r1 : Addr) (w_EXCLUSIVE : Addr) (h0 : Heap) (n0 : Nat) (Z0 : n0 ≤ h0.size) (S_EXCLUSIVE : Sta Z h0 cS0 "EXCLUSIVE" cS4 (.ref w_EXCLUSIVE)) (ha4 : ¬ (r0 = w_EXCLUSIVE)) (ha11 : ¬ (r1 = w_EXCLUSIVE)) :
    MetFree l (⟨cS0, "conflictsWith", cS1⟩ : MethodName) (head1 (Jvm.Cond.code (⟨cS0, "conflictsWith", cS1⟩ : MethodName) prog_20_method_5_code 2 (some .boolean) :: ws) ({ frames := 0, cells := 0, slots := 0, locals := 0 } : Room)) (fun a U => a = #[(.ref r0), (.ref r1)] ∧ Z.Warmed39 U.vm ∧ U.heap = h0) (fun _ _ _ _ _ => True) (fun _ U o U' => ∃ v L, o = .returned v ∧ Q_2_oo Z r0 r1 w_EXCLUSIVE h0 n0 v U'.heap L ∧ FrameEnd U o U' L ({ frames := 0, cells := 0, slots := 0, locals := 0 } : Room).cells ({ frames := 0, cells := 0, slots := 0, locals := 0 } : Room).slots) := by
  refine MetFree.of_bodySF (plainFor_of_name pn_com_example_strict_lock_strictlock_LockScope) hisR ?_
  intro p e s m args below meth c s₁ Bd hml0 hP hK
  obtain ⟨rfl, hZ, hh⟩ := hP
  have hx := Bd.exec
  have hby := Bd.bytes
  have hml : c.maxLocals = 2 := hml0
  have hown : s.vm.findClass cS0 = some m.cls := findClass_of_methodNamed Bd.named
  have hnm := (name_of_methodNamed Bd.named Bd.method).1
  have X0 : Stand p l e ({ frames := 0, cells := 0, slots := 0, locals := 0 } : Room) s m #[(.ref r0), (.ref r1)] below meth c s₁ [] 0 0 := Stand.of_body Bd
  have e0 : s₁.heap = h0 := by rw [← hh, Bd.state]; rfl
  have N0 := Fr.nil n0
  have k0 : ∀ t, OwnS p e below s₁ (mkF m 0 #[rv r0, rv r1] []) t → OwnS p e below s₁ (entryFrame m #[(.ref r0), (.ref r1)] 2) t := fun t k => castTop (ef_2 m r0 r1) k
  obtain ⟨T1, X1, e1, st1⟩ := getS2 X0 hx hZ hown (host := "") (Or.inl (own_at hw 14 rfl)) Via.refl e0 S_EXCLUSIVE (g := (mkF m 1 #[rv r0, rv r1] [(.ref r0)])) rfl (hb hby d2_1)
  obtain ⟨T2, X2, e2, st2⟩ := getS2 X1 hx hZ hown (host := "") (Or.inl (own_at hw 14 rfl)) Via.refl e1 S_EXCLUSIVE (g := (mkF m 8 #[rv r0, rv r1] [(.ref r1)])) rfl (hb hby d2_8)
  obtain ⟨fs, hr, hrun, hended, hW, hsame⟩ := X2.leave (v := some (.int 0)) (fun h => by rw [Bd.returns] at h; cases h)
  refine ⟨_, _, k0 _ ?_, hrun, hended, _, _, rfl, ?_, ⟨_, rfl⟩, hW, hsame.mono (by decide) (by decide)⟩
  · show OwnS p e below s₁ (mkF m 0 #[rv r0, rv r1] []) _
    refine XS.aloadN X0.here hx rfl (hb hby d2_0) rfl rfl ?_
    show OwnS p e below s₁ (mkF m 1 #[rv r0, rv r1] [(.ref r0)]) _
    refine st1 _ ?_
    show OwnS p e below T1 (mkF m 4 #[rv r0, rv r1] [(.ref w_EXCLUSIVE), (.ref r0)]) _
    refine Jvm.RoadKit.acmp (g := (mkF m 4 #[rv r0, rv r1] [(.ref w_EXCLUSIVE), (.ref r0)])) X1 hx rfl rfl rfl (pc0 := 4) (pc' := 7) (same := false) rfl (hb hby d2_4) rfl (decide_eq_false fun q => ha4 (Value.ref.inj q)) (by decide) (by decide) ?_
    show OwnS p e below T1 (mkF m 7 #[rv r0, rv r1] []) _
    refine XS.aloadN X1.here hx rfl (hb hby d2_7) rfl rfl ?_
    show OwnS p e below T1 (mkF m 8 #[rv r0, rv r1] [(.ref r1)]) _
    refine st2 _ ?_
    show OwnS p e below T2 (mkF m 11 #[rv r0, rv r1] [(.ref w_EXCLUSIVE), (.ref r1)]) _
    refine Jvm.RoadKit.acmp (g := (mkF m 11 #[rv r0, rv r1] [(.ref w_EXCLUSIVE), (.ref r1)])) X2 hx rfl rfl rfl (pc0 := 11) (pc' := 18) (same := false) rfl (hb hby d2_11) rfl (decide_eq_false fun q => ha11 (Value.ref.inj q)) (by decide) (by decide) ?_
    show OwnS p e below T2 (mkF m 18 #[rv r0, rv r1] []) _
    refine XS.iconst X2.here hx rfl (hb hby d2_18) ?_
    show OwnS p e below T2 (mkF m 19 #[rv r0, rv r1] [(.int 0)]) _
    exact retN X2 hx (t := .boolean) Bd.returns (by simp) (hb hby d2_19) hr
  · show Q_2_oo Z r0 r1 w_EXCLUSIVE h0 n0 _ T2.heap _
    rw [e2]
    exact ⟨rfl, N0, rfl⟩
theorem pd_0 : parseMethodDescriptor cS3 = some ⟨[.boolean], some (.object cS0)⟩ := by decide +kernel
theorem pd_1 : parseMethodDescriptor cS1 = some ⟨[(.object cS0)], some .boolean⟩ := by decide +kernel
theorem ef_0 (m : MethodId) (x0 : Int32) (x1 : Int32) : entryFrame m #[(.int x0), (.int x1)] maxLocals = mkF m 0 #[.val (.int x0), .val (.int x1), .unset, .unset, .unset, .unset, .unset, .unset, .unset, .unset] [] := by first | (simp [entryFrame, mkF, argsToLocals, Value.category, maxLocals]; done) | rfl
def Q_0 (Z : State) (p0 : Int32) (p1 : Int32) (w_EXCLUSIVE : Addr) (w_SHARED : Addr) (h0 : Heap) (n0 : Nat) (v : Option Value) (h : Heap) (L : List Loc) : Prop := v = some (.int 1) ∧ Fr n0 L ∧ True
set_option maxRecDepth 65536 in
set_option maxHeartbeats 40000000 in
theorem rm0 (l : Launch) (Z : State) (a0 : Array Value) (hw : ∀ d ∈ tables_1, d.before a0 Z = true) (ws : List Jvm.Cond) (p0 : Int32) (p1 : Int32) (w_EXCLUSIVE : Addr) (w_SHARED : Addr) (h0 : Heap) (n0 : Nat) (Z0 : n0 ≤ h0.size) (S_EXCLUSIVE : Sta Z h0 cS0 "EXCLUSIVE" cS4 (.ref w_EXCLUSIVE)) (S_SHARED : Sta Z h0 cS0 "SHARED" cS4 (.ref w_SHARED)) (E_w_EXCLUSIVE : Exa Z h0 w_EXCLUSIVE cS0) (E_w_SHARED : Exa Z h0 w_SHARED cS0) (ne : ¬ (w_SHARED = w_EXCLUSIVE)) :
    MetFree l x (head1 (Jvm.Cond.code x code maxLocals ret :: ws) room_1) (fun a U => a = #[(.int p0), (.int p1)] ∧ Z.Warmed39 U.vm ∧ U.heap = h0) (fun _ _ _ _ _ => True) (fun _ U o U' => ∃ v L, o = .returned v ∧ Q_0 Z p0 p1 w_EXCLUSIVE w_SHARED h0 n0 v U'.heap L ∧ FrameEnd U o U' L room_1.cells room_1.slots) := by
  refine MetFree.of_bodySF (plainFor_of_name pn_com_example_strict_lock_strictlock_LockScopeConflictsWithPinLaw) hisR ?_
  intro p e s m args below meth c s₁ Bd hml0 hP hK
  obtain ⟨rfl, hZ, hh⟩ := hP
  have hx := Bd.exec
  have hby := Bd.bytes
  have hml : c.maxLocals = 10 := hml0
  have hown : s.vm.findClass cS2 = some m.cls := findClass_of_methodNamed Bd.named
  have hnm := (name_of_methodNamed Bd.named Bd.method).1
  have X0 : Stand p l e room_1 s m #[(.int p0), (.int p1)] below meth c s₁ [] 0 0 := Stand.of_body Bd
  have e0 : s₁.heap = h0 := by rw [← hh, Bd.state]; rfl
  have N0 := Fr.nil n0
  have k0 : ∀ t, OwnS p e below s₁ (mkF m 0 #[iv p0, iv p1, .unset, .unset, .unset, .unset, .unset, .unset, .unset, .unset] []) t → OwnS p e below s₁ (entryFrame m #[(.int p0), (.int p1)] maxLocals) t := fun t k => castTop (ef_0 m p0 p1) k
  have k2 : ∀ t, OwnS p e below s₁ (mkF m 3 #[iv p0, iv p1, .unset, .unset, .unset, .unset, .unset, .unset, .unset, .unset] [(.int (p0 &&& (1 : Int32)))]) t → OwnS p e below s₁ (entryFrame m #[(.int p0), (.int p1)] maxLocals) t := fun t q => by
    refine k0 t ?_
    show OwnS p e below s₁ (mkF m 0 #[iv p0, iv p1, .unset, .unset, .unset, .unset, .unset, .unset, .unset, .unset] []) _
    refine XS.iloadN X0.here hx rfl (hb hby at_0) rfl ?_
    show OwnS p e below s₁ (mkF m 1 #[iv p0, iv p1, .unset, .unset, .unset, .unset, .unset, .unset, .unset, .unset] [(.int p0)]) _
    refine XS.iconst X0.here hx rfl (hb hby at_1) ?_
    show OwnS p e below s₁ (mkF m 2 #[iv p0, iv p1, .unset, .unset, .unset, .unset, .unset, .unset, .unset, .unset] [(.int 1), (.int p0)]) _
    refine XS.iand X0.here hx rfl (hb hby at_2) rfl ?_
    exact q
  by_cases hc3_1 : (p0 &&& (1 : Int32)) = (0 : Int32)
  · have k4 : ∀ t, OwnS p e below s₁ (mkF m 15 #[iv p0, iv p1, iv 1, .unset, .unset, .unset, .unset, .unset, .unset, .unset] [(.int (p1 &&& (1 : Int32)))]) t → OwnS p e below s₁ (entryFrame m #[(.int p0), (.int p1)] maxLocals) t := fun t q => by
      refine k2 t ?_
      show OwnS p e below s₁ (mkF m 3 #[iv p0, iv p1, .unset, .unset, .unset, .unset, .unset, .unset, .unset, .unset] [(.int (p0 &&& (1 : Int32)))]) _
      refine XS.ifNo X0.here hx rfl (hb hby at_3) rfl ((if0 _ _).trans (teq hc3_1).2) ?_
      show OwnS p e below s₁ (mkF m 6 #[iv p0, iv p1, .unset, .unset, .unset, .unset, .unset, .unset, .unset, .unset] []) _
      refine XS.iconst X0.here hx rfl (hb hby at_6) ?_
      show OwnS p e below s₁ (mkF m 7 #[iv p0, iv p1, .unset, .unset, .unset, .unset, .unset, .unset, .unset, .unset] [(.int 1)]) _
      refine XS.goto X0.here hx rfl (pc0 := 7) (pc' := 11) rfl (hb hby at_7) (by decide) (by decide) ?_
      show OwnS p e below s₁ (mkF m 11 #[iv p0, iv p1, .unset, .unset, .unset, .unset, .unset, .unset, .unset, .unset] [(.int 1)]) _
      refine XS.istoreN X0.here hx rfl (hb hby at_11) rfl (l' := #[iv p0, iv p1, iv 1, .unset, .unset, .unset, .unset, .unset, .unset, .unset]) rfl ?_
      show OwnS p e below s₁ (mkF m 12 #[iv p0, iv p1, iv 1, .unset, .unset, .unset, .unset, .unset, .unset, .unset] []) _
      refine XS.iloadN X0.here hx rfl (hb hby at_12) rfl ?_
      show OwnS p e below s₁ (mkF m 13 #[iv p0, iv p1, iv 1, .unset, .unset, .unset, .unset, .unset, .unset, .unset] [(.int p1)]) _
      refine XS.iconst X0.here hx rfl (hb hby at_13) ?_
      show OwnS p e below s₁ (mkF m 14 #[iv p0, iv p1, iv 1, .unset, .unset, .unset, .unset, .unset, .unset, .unset] [(.int 1), (.int p1)]) _
      refine XS.iand X0.here hx rfl (hb hby at_14) rfl ?_
      exact q
    by_cases hc15_3 : (p1 &&& (1 : Int32)) = (0 : Int32)
    · obtain ⟨_, _, ⟨T5, L5, j5, i5⟩, -, X5, ⟨Lc5, hQ5, l5, y5, z5⟩, st5⟩ := Jvm.LawKit.callS X0 hx (y := (⟨cS2, "pick", cS3⟩ : MethodName)) hown (mvT hZ (own_at hw 0 rfl)) (mvT hZ (own_at hw 1 rfl)) (mvT hZ (own_at hw 2 rfl)) (mvT hZ (own_at hw 3 rfl)) (by decide) (backOf (W := 0) (rm1_f l Z a0 hw [] (1 : Int32) w_EXCLUSIVE h0 n0 Z0 (by decide : ¬ ((1 : Int32) = (0 : Int32))) S_EXCLUSIVE) hZ (own_at hw 3 rfl) (own_at hw 2 rfl) (by decide) (by decide)) (g := (mkF m 25 #[iv p0, iv p1, iv 1, iv 1, .unset, .unset, .unset, .unset, .unset, .unset] [(.int 1)])) rfl (by rw [hml]; rfl) (argsL := [(.int 1)]) (rest := []) (lenOf pd_0 rfl) rfl (by show 2 * 0 + _ ≤ _; exact Nat.le_of_eq rfl) (hb hby at_25) (fun _ _ => ⟨rfl, e0, (by decide : 0 + 0 ≤ _), (by decide : 0 + 0 ≤ _)⟩)
      dsimp only [Pt.U, Pt.locs, Pt.cells, Pt.slots] at X5 l5 y5 z5 st5 hQ5
      subst l5 y5 z5
      obtain ⟨rfl, N5q, e5⟩ := hQ5
      have N5 := Fr.app N0 N5q
      obtain ⟨_, _, ⟨T6, L6, j6, i6⟩, -, X6, ⟨Lc6, hQ6, l6, y6, z6⟩, st6⟩ := Jvm.LawKit.callS X5 hx (y := (⟨cS2, "pick", cS3⟩ : MethodName)) hown (mvT hZ (own_at hw 0 rfl)) (mvT hZ (own_at hw 1 rfl)) (mvT hZ (own_at hw 2 rfl)) (mvT hZ (own_at hw 3 rfl)) (by decide) (backOf (W := 0) (rm1_f l Z a0 hw [] (1 : Int32) w_EXCLUSIVE h0 n0 Z0 (by decide : ¬ ((1 : Int32) = (0 : Int32))) S_EXCLUSIVE) hZ (own_at hw 3 rfl) (own_at hw 2 rfl) (by decide) (by decide)) (g := (mkF m 31 #[iv p0, iv p1, iv 1, iv 1, rv w_EXCLUSIVE, .unset, .unset, .unset, .unset, .unset] [(.int 1)])) rfl (by rw [hml]; rfl) (argsL := [(.int 1)]) (rest := []) (lenOf pd_0 rfl) rfl (by show 2 * 0 + _ ≤ _; exact Nat.le_of_eq rfl) (hb hby at_31) (fun _ _ => ⟨rfl, e5, (by decide : 0 + 0 ≤ _), (by decide : 0 + 0 ≤ _)⟩)
      dsimp only [Pt.U, Pt.locs, Pt.cells, Pt.slots] at X6 l6 y6 z6 st6 hQ6
      subst l6 y6 z6
      obtain ⟨rfl, N6q, e6⟩ := hQ6
      have N6 := Fr.app N5 N6q
      obtain ⟨cq7, kq7, q7a, q7b, q7c⟩ := isOf hZ e6 E_w_EXCLUSIVE
      obtain ⟨_, _, ⟨T7, L7, j7, i7⟩, -, X7, ⟨Lc7, hQ7, l7, y7, z7⟩, st7⟩ := X6.virtualBack hx (y := (⟨cS0, "conflictsWith", cS1⟩ : MethodName)) (z := (⟨cS0, "conflictsWith", cS1⟩ : MethodName)) hown (mvT hZ (own_at hw 9 rfl)) (mvT hZ (own_at hw 10 rfl)) (notFace_of_selects (args := #[]) (mvT hZ (own_at hw 12 rfl))) (mvT hZ (own_at hw 12 rfl)) (mvT hZ (own_at hw 11 rfl)) (by decide) (backOf (W := 0) (rm2_e l Z a0 hw [] w_EXCLUSIVE w_EXCLUSIVE h0 n0 Z0 S_EXCLUSIVE) hZ (own_at hw 13 rfl) (own_at hw 5 rfl) (by decide) (by decide)) q7a q7c (g := (mkF m 67 #[iv p0, iv p1, iv 1, iv 1, rv w_EXCLUSIVE, rv w_EXCLUSIVE, iv 0, iv 1, .unset, .unset] [(.ref w_EXCLUSIVE), (.ref w_EXCLUSIVE)])) rfl (by rw [hml]; rfl) (Steps.refl _) (argsL := [(.ref w_EXCLUSIVE)]) (rest := []) (lenOf pd_1 rfl) rfl (by show 2 * 0 + _ ≤ _; exact Nat.le_of_eq rfl) (hb hby at_67) (fun _ _ => ⟨rfl, e6, (by decide : 0 + 0 ≤ _), (by decide : 0 + 0 ≤ _)⟩)
      dsimp only [Pt.U, Pt.locs, Pt.cells, Pt.slots] at X7 l7 y7 z7 st7 hQ7
      subst l7 y7 z7
      obtain ⟨rfl, N7q, e7⟩ := hQ7
      have N7 := Fr.app N6 N7q
      obtain ⟨cq8, kq8, q8a, q8b, q8c⟩ := isOf hZ e7 E_w_EXCLUSIVE
      obtain ⟨_, _, ⟨T8, L8, j8, i8⟩, -, X8, ⟨Lc8, hQ8, l8, y8, z8⟩, st8⟩ := X7.virtualBack hx (y := (⟨cS0, "conflictsWith", cS1⟩ : MethodName)) (z := (⟨cS0, "conflictsWith", cS1⟩ : MethodName)) hown (mvT hZ (own_at hw 9 rfl)) (mvT hZ (own_at hw 10 rfl)) (notFace_of_selects (args := #[]) (mvT hZ (own_at hw 12 rfl))) (mvT hZ (own_at hw 12 rfl)) (mvT hZ (own_at hw 11 rfl)) (by decide) (backOf (W := 0) (rm2_e l Z a0 hw [] w_EXCLUSIVE w_EXCLUSIVE h0 n0 Z0 S_EXCLUSIVE) hZ (own_at hw 13 rfl) (own_at hw 5 rfl) (by decide) (by decide)) q8a q8c (g := (mkF m 76 #[iv p0, iv p1, iv 1, iv 1, rv w_EXCLUSIVE, rv w_EXCLUSIVE, iv 0, iv 1, iv 1, .unset] [(.ref w_EXCLUSIVE), (.ref w_EXCLUSIVE)])) rfl (by rw [hml]; rfl) (Steps.refl _) (argsL := [(.ref w_EXCLUSIVE)]) (rest := []) (lenOf pd_1 rfl) rfl (by show 2 * 0 + _ ≤ _; exact Nat.le_of_eq rfl) (hb hby at_76) (fun _ _ => ⟨rfl, e7, (by decide : 0 + 0 ≤ _), (by decide : 0 + 0 ≤ _)⟩)
      dsimp only [Pt.U, Pt.locs, Pt.cells, Pt.slots] at X8 l8 y8 z8 st8 hQ8
      subst l8 y8 z8
      obtain ⟨rfl, N8q, e8⟩ := hQ8
      have N8 := Fr.app N7 N8q
      obtain ⟨fs, hr, hrun, hended, hW, hsame⟩ := X8.leave (v := some (.int 1)) (fun h => by rw [Bd.returns] at h; cases h)
      refine ⟨_, _, k4 _ ?_, hrun, hended, _, _, rfl, ?_, ⟨_, rfl⟩, hW, hsame.mono (by decide) (by decide)⟩
      · show OwnS p e below s₁ (mkF m 15 #[iv p0, iv p1, iv 1, .unset, .unset, .unset, .unset, .unset, .unset, .unset] [(.int (p1 &&& (1 : Int32)))]) _
        refine XS.ifNo X0.here hx rfl (hb hby at_15) rfl ((if0 _ _).trans (teq hc15_3).2) ?_
        show OwnS p e below s₁ (mkF m 18 #[iv p0, iv p1, iv 1, .unset, .unset, .unset, .unset, .unset, .unset, .unset] []) _
        refine XS.iconst X0.here hx rfl (hb hby at_18) ?_
        show OwnS p e below s₁ (mkF m 19 #[iv p0, iv p1, iv 1, .unset, .unset, .unset, .unset, .unset, .unset, .unset] [(.int 1)]) _
        refine XS.goto X0.here hx rfl (pc0 := 19) (pc' := 23) rfl (hb hby at_19) (by decide) (by decide) ?_
        show OwnS p e below s₁ (mkF m 23 #[iv p0, iv p1, iv 1, .unset, .unset, .unset, .unset, .unset, .unset, .unset] [(.int 1)]) _
        refine XS.istoreN X0.here hx rfl (hb hby at_23) rfl (l' := #[iv p0, iv p1, iv 1, iv 1, .unset, .unset, .unset, .unset, .unset, .unset]) rfl ?_
        show OwnS p e below s₁ (mkF m 24 #[iv p0, iv p1, iv 1, iv 1, .unset, .unset, .unset, .unset, .unset, .unset] []) _
        refine XS.iloadN X0.here hx rfl (hb hby at_24) rfl ?_
        show OwnS p e below s₁ (mkF m 25 #[iv p0, iv p1, iv 1, iv 1, .unset, .unset, .unset, .unset, .unset, .unset] [(.int 1)]) _
        refine st5 _ ?_
        show OwnS p e below T5 (mkF m 28 #[iv p0, iv p1, iv 1, iv 1, .unset, .unset, .unset, .unset, .unset, .unset] [(.ref w_EXCLUSIVE)]) _
        refine XS.astore X5.here hx rfl (hb hby at_28) rfl rfl (l' := #[iv p0, iv p1, iv 1, iv 1, rv w_EXCLUSIVE, .unset, .unset, .unset, .unset, .unset]) rfl ?_
        show OwnS p e below T5 (mkF m 30 #[iv p0, iv p1, iv 1, iv 1, rv w_EXCLUSIVE, .unset, .unset, .unset, .unset, .unset] []) _
        refine XS.iloadN X5.here hx rfl (hb hby at_30) rfl ?_
        show OwnS p e below T5 (mkF m 31 #[iv p0, iv p1, iv 1, iv 1, rv w_EXCLUSIVE, .unset, .unset, .unset, .unset, .unset] [(.int 1)]) _
        refine st6 _ ?_
        show OwnS p e below T6 (mkF m 34 #[iv p0, iv p1, iv 1, iv 1, rv w_EXCLUSIVE, .unset, .unset, .unset, .unset, .unset] [(.ref w_EXCLUSIVE)]) _
        refine XS.astore X6.here hx rfl (hb hby at_34) rfl rfl (l' := #[iv p0, iv p1, iv 1, iv 1, rv w_EXCLUSIVE, rv w_EXCLUSIVE, .unset, .unset, .unset, .unset]) rfl ?_
        show OwnS p e below T6 (mkF m 36 #[iv p0, iv p1, iv 1, iv 1, rv w_EXCLUSIVE, rv w_EXCLUSIVE, .unset, .unset, .unset, .unset] []) _
        refine XS.iloadN X6.here hx rfl (hb hby at_36) rfl ?_
        show OwnS p e below T6 (mkF m 37 #[iv p0, iv p1, iv 1, iv 1, rv w_EXCLUSIVE, rv w_EXCLUSIVE, .unset, .unset, .unset, .unset] [(.int 1)]) _
        refine XS.ifYes X6.here hx rfl (pc0 := 37) (pc' := 48) rfl (hb hby at_37) rfl ((if0 _ _).trans (feq (by decide : ¬ ((1 : Int32) = (0 : Int32)))).2) (by decide) (by decide) ?_
        show OwnS p e below T6 (mkF m 48 #[iv p0, iv p1, iv 1, iv 1, rv w_EXCLUSIVE, rv w_EXCLUSIVE, .unset, .unset, .unset, .unset] []) _
        refine XS.iconst X6.here hx rfl (hb hby at_48) ?_
        show OwnS p e below T6 (mkF m 49 #[iv p0, iv p1, iv 1, iv 1, rv w_EXCLUSIVE, rv w_EXCLUSIVE, .unset, .unset, .unset, .unset] [(.int 0)]) _
        refine XS.istore X6.here hx rfl (hb hby at_49) rfl (l' := #[iv p0, iv p1, iv 1, iv 1, rv w_EXCLUSIVE, rv w_EXCLUSIVE, iv 0, .unset, .unset, .unset]) rfl ?_
        show OwnS p e below T6 (mkF m 51 #[iv p0, iv p1, iv 1, iv 1, rv w_EXCLUSIVE, rv w_EXCLUSIVE, iv 0, .unset, .unset, .unset] []) _
        refine XS.iload X6.here hx rfl (hb hby at_51) rfl ?_
        show OwnS p e below T6 (mkF m 53 #[iv p0, iv p1, iv 1, iv 1, rv w_EXCLUSIVE, rv w_EXCLUSIVE, iv 0, .unset, .unset, .unset] [(.int 0)]) _
        refine XS.ifNo X6.here hx rfl (hb hby at_53) rfl ((if0 _ _).trans (teq (by decide : (0 : Int32) = (0 : Int32))).2) ?_
        show OwnS p e below T6 (mkF m 56 #[iv p0, iv p1, iv 1, iv 1, rv w_EXCLUSIVE, rv w_EXCLUSIVE, iv 0, .unset, .unset, .unset] []) _
        refine XS.iconst X6.here hx rfl (hb hby at_56) ?_
        show OwnS p e below T6 (mkF m 57 #[iv p0, iv p1, iv 1, iv 1, rv w_EXCLUSIVE, rv w_EXCLUSIVE, iv 0, .unset, .unset, .unset] [(.int 1)]) _
        refine XS.goto X6.here hx rfl (pc0 := 57) (pc' := 61) rfl (hb hby at_57) (by decide) (by decide) ?_
        show OwnS p e below T6 (mkF m 61 #[iv p0, iv p1, iv 1, iv 1, rv w_EXCLUSIVE, rv w_EXCLUSIVE, iv 0, .unset, .unset, .unset] [(.int 1)]) _
        refine XS.istore X6.here hx rfl (hb hby at_61) rfl (l' := #[iv p0, iv p1, iv 1, iv 1, rv w_EXCLUSIVE, rv w_EXCLUSIVE, iv 0, iv 1, .unset, .unset]) rfl ?_
        show OwnS p e below T6 (mkF m 63 #[iv p0, iv p1, iv 1, iv 1, rv w_EXCLUSIVE, rv w_EXCLUSIVE, iv 0, iv 1, .unset, .unset] []) _
        refine XS.aload X6.here hx rfl (hb hby at_63) rfl rfl ?_
        show OwnS p e below T6 (mkF m 65 #[iv p0, iv p1, iv 1, iv 1, rv w_EXCLUSIVE, rv w_EXCLUSIVE, iv 0, iv 1, .unset, .unset] [(.ref w_EXCLUSIVE)]) _
        refine XS.aload X6.here hx rfl (hb hby at_65) rfl rfl ?_
        show OwnS p e below T6 (mkF m 67 #[iv p0, iv p1, iv 1, iv 1, rv w_EXCLUSIVE, rv w_EXCLUSIVE, iv 0, iv 1, .unset, .unset] [(.ref w_EXCLUSIVE), (.ref w_EXCLUSIVE)]) _
        refine st7.trans ?_
        show OwnS p e below T7 (mkF m 70 #[iv p0, iv p1, iv 1, iv 1, rv w_EXCLUSIVE, rv w_EXCLUSIVE, iv 0, iv 1, .unset, .unset] [(.int 1)]) _
        refine XS.istore X7.here hx rfl (hb hby at_70) rfl (l' := #[iv p0, iv p1, iv 1, iv 1, rv w_EXCLUSIVE, rv w_EXCLUSIVE, iv 0, iv 1, iv 1, .unset]) rfl ?_
        show OwnS p e below T7 (mkF m 72 #[iv p0, iv p1, iv 1, iv 1, rv w_EXCLUSIVE, rv w_EXCLUSIVE, iv 0, iv 1, iv 1, .unset] []) _
        refine XS.aload X7.here hx rfl (hb hby at_72) rfl rfl ?_
        show OwnS p e below T7 (mkF m 74 #[iv p0, iv p1, iv 1, iv 1, rv w_EXCLUSIVE, rv w_EXCLUSIVE, iv 0, iv 1, iv 1, .unset] [(.ref w_EXCLUSIVE)]) _
        refine XS.aload X7.here hx rfl (hb hby at_74) rfl rfl ?_
        show OwnS p e below T7 (mkF m 76 #[iv p0, iv p1, iv 1, iv 1, rv w_EXCLUSIVE, rv w_EXCLUSIVE, iv 0, iv 1, iv 1, .unset] [(.ref w_EXCLUSIVE), (.ref w_EXCLUSIVE)]) _
        refine st8.trans ?_
        show OwnS p e below T8 (mkF m 79 #[iv p0, iv p1, iv 1, iv 1, rv w_EXCLUSIVE, rv w_EXCLUSIVE, iv 0, iv 1, iv 1, .unset] [(.int 1)]) _
        refine XS.istore X8.here hx rfl (hb hby at_79) rfl (l' := #[iv p0, iv p1, iv 1, iv 1, rv w_EXCLUSIVE, rv w_EXCLUSIVE, iv 0, iv 1, iv 1, iv 1]) rfl ?_
        show OwnS p e below T8 (mkF m 81 #[iv p0, iv p1, iv 1, iv 1, rv w_EXCLUSIVE, rv w_EXCLUSIVE, iv 0, iv 1, iv 1, iv 1] []) _
        refine XS.iload X8.here hx rfl (hb hby at_81) rfl ?_
        show OwnS p e below T8 (mkF m 83 #[iv p0, iv p1, iv 1, iv 1, rv w_EXCLUSIVE, rv w_EXCLUSIVE, iv 0, iv 1, iv 1, iv 1] [(.int 1)]) _
        refine XS.iload X8.here hx rfl (hb hby at_83) rfl ?_
        show OwnS p e below T8 (mkF m 85 #[iv p0, iv p1, iv 1, iv 1, rv w_EXCLUSIVE, rv w_EXCLUSIVE, iv 0, iv 1, iv 1, iv 1] [(.int 1), (.int 1)]) _
        refine XS.icmpNo X8.here hx rfl (hb hby at_85) rfl (teq (by decide : (1 : Int32) = (1 : Int32))).2 ?_
        show OwnS p e below T8 (mkF m 88 #[iv p0, iv p1, iv 1, iv 1, rv w_EXCLUSIVE, rv w_EXCLUSIVE, iv 0, iv 1, iv 1, iv 1] []) _
        refine XS.iload X8.here hx rfl (hb hby at_88) rfl ?_
        show OwnS p e below T8 (mkF m 90 #[iv p0, iv p1, iv 1, iv 1, rv w_EXCLUSIVE, rv w_EXCLUSIVE, iv 0, iv 1, iv 1, iv 1] [(.int 1)]) _
        refine XS.iload X8.here hx rfl (hb hby at_90) rfl ?_
        show OwnS p e below T8 (mkF m 92 #[iv p0, iv p1, iv 1, iv 1, rv w_EXCLUSIVE, rv w_EXCLUSIVE, iv 0, iv 1, iv 1, iv 1] [(.int 1), (.int 1)]) _
        refine XS.icmpNo X8.here hx rfl (hb hby at_92) rfl (teq (by decide : (1 : Int32) = (1 : Int32))).2 ?_
        show OwnS p e below T8 (mkF m 95 #[iv p0, iv p1, iv 1, iv 1, rv w_EXCLUSIVE, rv w_EXCLUSIVE, iv 0, iv 1, iv 1, iv 1] []) _
        refine XS.iconst X8.here hx rfl (hb hby at_95) ?_
        show OwnS p e below T8 (mkF m 96 #[iv p0, iv p1, iv 1, iv 1, rv w_EXCLUSIVE, rv w_EXCLUSIVE, iv 0, iv 1, iv 1, iv 1] [(.int 1)]) _
        refine XS.goto X8.here hx rfl (pc0 := 96) (pc' := 100) rfl (hb hby at_96) (by decide) (by decide) ?_
        show OwnS p e below T8 (mkF m 100 #[iv p0, iv p1, iv 1, iv 1, rv w_EXCLUSIVE, rv w_EXCLUSIVE, iv 0, iv 1, iv 1, iv 1] [(.int 1)]) _
        exact retN X8 hx (t := .boolean) Bd.returns (by simp) (hb hby at_100) hr
      · show Q_0 Z p0 p1 w_EXCLUSIVE w_SHARED h0 n0 _ T8.heap _
        rw [e8]
        exact ⟨rfl, N8, trivial⟩
    · obtain ⟨_, _, ⟨T9, L9, j9, i9⟩, -, X9, ⟨Lc9, hQ9, l9, y9, z9⟩, st9⟩ := Jvm.LawKit.callS X0 hx (y := (⟨cS2, "pick", cS3⟩ : MethodName)) hown (mvT hZ (own_at hw 0 rfl)) (mvT hZ (own_at hw 1 rfl)) (mvT hZ (own_at hw 2 rfl)) (mvT hZ (own_at hw 3 rfl)) (by decide) (backOf (W := 0) (rm1_f l Z a0 hw [] (1 : Int32) w_EXCLUSIVE h0 n0 Z0 (by decide : ¬ ((1 : Int32) = (0 : Int32))) S_EXCLUSIVE) hZ (own_at hw 3 rfl) (own_at hw 2 rfl) (by decide) (by decide)) (g := (mkF m 25 #[iv p0, iv p1, iv 1, iv 0, .unset, .unset, .unset, .unset, .unset, .unset] [(.int 1)])) rfl (by rw [hml]; rfl) (argsL := [(.int 1)]) (rest := []) (lenOf pd_0 rfl) rfl (by show 2 * 0 + _ ≤ _; exact Nat.le_of_eq rfl) (hb hby at_25) (fun _ _ => ⟨rfl, e0, (by decide : 0 + 0 ≤ _), (by decide : 0 + 0 ≤ _)⟩)
      dsimp only [Pt.U, Pt.locs, Pt.cells, Pt.slots] at X9 l9 y9 z9 st9 hQ9
      subst l9 y9 z9
      obtain ⟨rfl, N9q, e9⟩ := hQ9
      have N9 := Fr.app N0 N9q
      obtain ⟨_, _, ⟨T10, L10, j10, i10⟩, -, X10, ⟨Lc10, hQ10, l10, y10, z10⟩, st10⟩ := Jvm.LawKit.callS X9 hx (y := (⟨cS2, "pick", cS3⟩ : MethodName)) hown (mvT hZ (own_at hw 0 rfl)) (mvT hZ (own_at hw 1 rfl)) (mvT hZ (own_at hw 2 rfl)) (mvT hZ (own_at hw 3 rfl)) (by decide) (backOf (W := 0) (rm1_t l Z a0 hw [] (0 : Int32) w_SHARED h0 n0 Z0 (by decide : (0 : Int32) = (0 : Int32)) S_SHARED) hZ (own_at hw 3 rfl) (own_at hw 2 rfl) (by decide) (by decide)) (g := (mkF m 31 #[iv p0, iv p1, iv 1, iv 0, rv w_EXCLUSIVE, .unset, .unset, .unset, .unset, .unset] [(.int 0)])) rfl (by rw [hml]; rfl) (argsL := [(.int 0)]) (rest := []) (lenOf pd_0 rfl) rfl (by show 2 * 0 + _ ≤ _; exact Nat.le_of_eq rfl) (hb hby at_31) (fun _ _ => ⟨rfl, e9, (by decide : 0 + 0 ≤ _), (by decide : 0 + 0 ≤ _)⟩)
      dsimp only [Pt.U, Pt.locs, Pt.cells, Pt.slots] at X10 l10 y10 z10 st10 hQ10
      subst l10 y10 z10
      obtain ⟨rfl, N10q, e10⟩ := hQ10
      have N10 := Fr.app N9 N10q
      obtain ⟨cq11, kq11, q11a, q11b, q11c⟩ := isOf hZ e10 E_w_EXCLUSIVE
      obtain ⟨_, _, ⟨T11, L11, j11, i11⟩, -, X11, ⟨Lc11, hQ11, l11, y11, z11⟩, st11⟩ := X10.virtualBack hx (y := (⟨cS0, "conflictsWith", cS1⟩ : MethodName)) (z := (⟨cS0, "conflictsWith", cS1⟩ : MethodName)) hown (mvT hZ (own_at hw 9 rfl)) (mvT hZ (own_at hw 10 rfl)) (notFace_of_selects (args := #[]) (mvT hZ (own_at hw 12 rfl))) (mvT hZ (own_at hw 12 rfl)) (mvT hZ (own_at hw 11 rfl)) (by decide) (backOf (W := 0) (rm2_e l Z a0 hw [] w_EXCLUSIVE w_SHARED h0 n0 Z0 S_EXCLUSIVE) hZ (own_at hw 13 rfl) (own_at hw 5 rfl) (by decide) (by decide)) q11a q11c (g := (mkF m 67 #[iv p0, iv p1, iv 1, iv 0, rv w_EXCLUSIVE, rv w_SHARED, iv 0, iv 1, .unset, .unset] [(.ref w_SHARED), (.ref w_EXCLUSIVE)])) rfl (by rw [hml]; rfl) (Steps.refl _) (argsL := [(.ref w_SHARED)]) (rest := []) (lenOf pd_1 rfl) rfl (by show 2 * 0 + _ ≤ _; exact Nat.le_of_eq rfl) (hb hby at_67) (fun _ _ => ⟨rfl, e10, (by decide : 0 + 0 ≤ _), (by decide : 0 + 0 ≤ _)⟩)
      dsimp only [Pt.U, Pt.locs, Pt.cells, Pt.slots] at X11 l11 y11 z11 st11 hQ11
      subst l11 y11 z11
      obtain ⟨rfl, N11q, e11⟩ := hQ11
      have N11 := Fr.app N10 N11q
      obtain ⟨cq12, kq12, q12a, q12b, q12c⟩ := isOf hZ e11 E_w_SHARED
      obtain ⟨_, _, ⟨T12, L12, j12, i12⟩, -, X12, ⟨Lc12, hQ12, l12, y12, z12⟩, st12⟩ := X11.virtualBack hx (y := (⟨cS0, "conflictsWith", cS1⟩ : MethodName)) (z := (⟨cS0, "conflictsWith", cS1⟩ : MethodName)) hown (mvT hZ (own_at hw 9 rfl)) (mvT hZ (own_at hw 10 rfl)) (notFace_of_selects (args := #[]) (mvT hZ (own_at hw 12 rfl))) (mvT hZ (own_at hw 12 rfl)) (mvT hZ (own_at hw 11 rfl)) (by decide) (backOf (W := 0) (rm2_oe l Z a0 hw [] w_SHARED w_EXCLUSIVE h0 n0 Z0 S_EXCLUSIVE ne) hZ (own_at hw 13 rfl) (own_at hw 5 rfl) (by decide) (by decide)) q12a q12c (g := (mkF m 76 #[iv p0, iv p1, iv 1, iv 0, rv w_EXCLUSIVE, rv w_SHARED, iv 0, iv 1, iv 1, .unset] [(.ref w_EXCLUSIVE), (.ref w_SHARED)])) rfl (by rw [hml]; rfl) (Steps.refl _) (argsL := [(.ref w_EXCLUSIVE)]) (rest := []) (lenOf pd_1 rfl) rfl (by show 2 * 0 + _ ≤ _; exact Nat.le_of_eq rfl) (hb hby at_76) (fun _ _ => ⟨rfl, e11, (by decide : 0 + 0 ≤ _), (by decide : 0 + 0 ≤ _)⟩)
      dsimp only [Pt.U, Pt.locs, Pt.cells, Pt.slots] at X12 l12 y12 z12 st12 hQ12
      subst l12 y12 z12
      obtain ⟨rfl, N12q, e12⟩ := hQ12
      have N12 := Fr.app N11 N12q
      obtain ⟨fs, hr, hrun, hended, hW, hsame⟩ := X12.leave (v := some (.int 1)) (fun h => by rw [Bd.returns] at h; cases h)
      refine ⟨_, _, k4 _ ?_, hrun, hended, _, _, rfl, ?_, ⟨_, rfl⟩, hW, hsame.mono (by decide) (by decide)⟩
      · show OwnS p e below s₁ (mkF m 15 #[iv p0, iv p1, iv 1, .unset, .unset, .unset, .unset, .unset, .unset, .unset] [(.int (p1 &&& (1 : Int32)))]) _
        refine XS.ifYes X0.here hx rfl (pc0 := 15) (pc' := 22) rfl (hb hby at_15) rfl ((if0 _ _).trans (feq hc15_3).2) (by decide) (by decide) ?_
        show OwnS p e below s₁ (mkF m 22 #[iv p0, iv p1, iv 1, .unset, .unset, .unset, .unset, .unset, .unset, .unset] []) _
        refine XS.iconst X0.here hx rfl (hb hby at_22) ?_
        show OwnS p e below s₁ (mkF m 23 #[iv p0, iv p1, iv 1, .unset, .unset, .unset, .unset, .unset, .unset, .unset] [(.int 0)]) _
        refine XS.istoreN X0.here hx rfl (hb hby at_23) rfl (l' := #[iv p0, iv p1, iv 1, iv 0, .unset, .unset, .unset, .unset, .unset, .unset]) rfl ?_
        show OwnS p e below s₁ (mkF m 24 #[iv p0, iv p1, iv 1, iv 0, .unset, .unset, .unset, .unset, .unset, .unset] []) _
        refine XS.iloadN X0.here hx rfl (hb hby at_24) rfl ?_
        show OwnS p e below s₁ (mkF m 25 #[iv p0, iv p1, iv 1, iv 0, .unset, .unset, .unset, .unset, .unset, .unset] [(.int 1)]) _
        refine st9 _ ?_
        show OwnS p e below T9 (mkF m 28 #[iv p0, iv p1, iv 1, iv 0, .unset, .unset, .unset, .unset, .unset, .unset] [(.ref w_EXCLUSIVE)]) _
        refine XS.astore X9.here hx rfl (hb hby at_28) rfl rfl (l' := #[iv p0, iv p1, iv 1, iv 0, rv w_EXCLUSIVE, .unset, .unset, .unset, .unset, .unset]) rfl ?_
        show OwnS p e below T9 (mkF m 30 #[iv p0, iv p1, iv 1, iv 0, rv w_EXCLUSIVE, .unset, .unset, .unset, .unset, .unset] []) _
        refine XS.iloadN X9.here hx rfl (hb hby at_30) rfl ?_
        show OwnS p e below T9 (mkF m 31 #[iv p0, iv p1, iv 1, iv 0, rv w_EXCLUSIVE, .unset, .unset, .unset, .unset, .unset] [(.int 0)]) _
        refine st10 _ ?_
        show OwnS p e below T10 (mkF m 34 #[iv p0, iv p1, iv 1, iv 0, rv w_EXCLUSIVE, .unset, .unset, .unset, .unset, .unset] [(.ref w_SHARED)]) _
        refine XS.astore X10.here hx rfl (hb hby at_34) rfl rfl (l' := #[iv p0, iv p1, iv 1, iv 0, rv w_EXCLUSIVE, rv w_SHARED, .unset, .unset, .unset, .unset]) rfl ?_
        show OwnS p e below T10 (mkF m 36 #[iv p0, iv p1, iv 1, iv 0, rv w_EXCLUSIVE, rv w_SHARED, .unset, .unset, .unset, .unset] []) _
        refine XS.iloadN X10.here hx rfl (hb hby at_36) rfl ?_
        show OwnS p e below T10 (mkF m 37 #[iv p0, iv p1, iv 1, iv 0, rv w_EXCLUSIVE, rv w_SHARED, .unset, .unset, .unset, .unset] [(.int 1)]) _
        refine XS.ifYes X10.here hx rfl (pc0 := 37) (pc' := 48) rfl (hb hby at_37) rfl ((if0 _ _).trans (feq (by decide : ¬ ((1 : Int32) = (0 : Int32)))).2) (by decide) (by decide) ?_
        show OwnS p e below T10 (mkF m 48 #[iv p0, iv p1, iv 1, iv 0, rv w_EXCLUSIVE, rv w_SHARED, .unset, .unset, .unset, .unset] []) _
        refine XS.iconst X10.here hx rfl (hb hby at_48) ?_
        show OwnS p e below T10 (mkF m 49 #[iv p0, iv p1, iv 1, iv 0, rv w_EXCLUSIVE, rv w_SHARED, .unset, .unset, .unset, .unset] [(.int 0)]) _
        refine XS.istore X10.here hx rfl (hb hby at_49) rfl (l' := #[iv p0, iv p1, iv 1, iv 0, rv w_EXCLUSIVE, rv w_SHARED, iv 0, .unset, .unset, .unset]) rfl ?_
        show OwnS p e below T10 (mkF m 51 #[iv p0, iv p1, iv 1, iv 0, rv w_EXCLUSIVE, rv w_SHARED, iv 0, .unset, .unset, .unset] []) _
        refine XS.iload X10.here hx rfl (hb hby at_51) rfl ?_
        show OwnS p e below T10 (mkF m 53 #[iv p0, iv p1, iv 1, iv 0, rv w_EXCLUSIVE, rv w_SHARED, iv 0, .unset, .unset, .unset] [(.int 0)]) _
        refine XS.ifNo X10.here hx rfl (hb hby at_53) rfl ((if0 _ _).trans (teq (by decide : (0 : Int32) = (0 : Int32))).2) ?_
        show OwnS p e below T10 (mkF m 56 #[iv p0, iv p1, iv 1, iv 0, rv w_EXCLUSIVE, rv w_SHARED, iv 0, .unset, .unset, .unset] []) _
        refine XS.iconst X10.here hx rfl (hb hby at_56) ?_
        show OwnS p e below T10 (mkF m 57 #[iv p0, iv p1, iv 1, iv 0, rv w_EXCLUSIVE, rv w_SHARED, iv 0, .unset, .unset, .unset] [(.int 1)]) _
        refine XS.goto X10.here hx rfl (pc0 := 57) (pc' := 61) rfl (hb hby at_57) (by decide) (by decide) ?_
        show OwnS p e below T10 (mkF m 61 #[iv p0, iv p1, iv 1, iv 0, rv w_EXCLUSIVE, rv w_SHARED, iv 0, .unset, .unset, .unset] [(.int 1)]) _
        refine XS.istore X10.here hx rfl (hb hby at_61) rfl (l' := #[iv p0, iv p1, iv 1, iv 0, rv w_EXCLUSIVE, rv w_SHARED, iv 0, iv 1, .unset, .unset]) rfl ?_
        show OwnS p e below T10 (mkF m 63 #[iv p0, iv p1, iv 1, iv 0, rv w_EXCLUSIVE, rv w_SHARED, iv 0, iv 1, .unset, .unset] []) _
        refine XS.aload X10.here hx rfl (hb hby at_63) rfl rfl ?_
        show OwnS p e below T10 (mkF m 65 #[iv p0, iv p1, iv 1, iv 0, rv w_EXCLUSIVE, rv w_SHARED, iv 0, iv 1, .unset, .unset] [(.ref w_EXCLUSIVE)]) _
        refine XS.aload X10.here hx rfl (hb hby at_65) rfl rfl ?_
        show OwnS p e below T10 (mkF m 67 #[iv p0, iv p1, iv 1, iv 0, rv w_EXCLUSIVE, rv w_SHARED, iv 0, iv 1, .unset, .unset] [(.ref w_SHARED), (.ref w_EXCLUSIVE)]) _
        refine st11.trans ?_
        show OwnS p e below T11 (mkF m 70 #[iv p0, iv p1, iv 1, iv 0, rv w_EXCLUSIVE, rv w_SHARED, iv 0, iv 1, .unset, .unset] [(.int 1)]) _
        refine XS.istore X11.here hx rfl (hb hby at_70) rfl (l' := #[iv p0, iv p1, iv 1, iv 0, rv w_EXCLUSIVE, rv w_SHARED, iv 0, iv 1, iv 1, .unset]) rfl ?_
        show OwnS p e below T11 (mkF m 72 #[iv p0, iv p1, iv 1, iv 0, rv w_EXCLUSIVE, rv w_SHARED, iv 0, iv 1, iv 1, .unset] []) _
        refine XS.aload X11.here hx rfl (hb hby at_72) rfl rfl ?_
        show OwnS p e below T11 (mkF m 74 #[iv p0, iv p1, iv 1, iv 0, rv w_EXCLUSIVE, rv w_SHARED, iv 0, iv 1, iv 1, .unset] [(.ref w_SHARED)]) _
        refine XS.aload X11.here hx rfl (hb hby at_74) rfl rfl ?_
        show OwnS p e below T11 (mkF m 76 #[iv p0, iv p1, iv 1, iv 0, rv w_EXCLUSIVE, rv w_SHARED, iv 0, iv 1, iv 1, .unset] [(.ref w_EXCLUSIVE), (.ref w_SHARED)]) _
        refine st12.trans ?_
        show OwnS p e below T12 (mkF m 79 #[iv p0, iv p1, iv 1, iv 0, rv w_EXCLUSIVE, rv w_SHARED, iv 0, iv 1, iv 1, .unset] [(.int 1)]) _
        refine XS.istore X12.here hx rfl (hb hby at_79) rfl (l' := #[iv p0, iv p1, iv 1, iv 0, rv w_EXCLUSIVE, rv w_SHARED, iv 0, iv 1, iv 1, iv 1]) rfl ?_
        show OwnS p e below T12 (mkF m 81 #[iv p0, iv p1, iv 1, iv 0, rv w_EXCLUSIVE, rv w_SHARED, iv 0, iv 1, iv 1, iv 1] []) _
        refine XS.iload X12.here hx rfl (hb hby at_81) rfl ?_
        show OwnS p e below T12 (mkF m 83 #[iv p0, iv p1, iv 1, iv 0, rv w_EXCLUSIVE, rv w_SHARED, iv 0, iv 1, iv 1, iv 1] [(.int 1)]) _
        refine XS.iload X12.here hx rfl (hb hby at_83) rfl ?_
        show OwnS p e below T12 (mkF m 85 #[iv p0, iv p1, iv 1, iv 0, rv w_EXCLUSIVE, rv w_SHARED, iv 0, iv 1, iv 1, iv 1] [(.int 1), (.int 1)]) _
        refine XS.icmpNo X12.here hx rfl (hb hby at_85) rfl (teq (by decide : (1 : Int32) = (1 : Int32))).2 ?_
        show OwnS p e below T12 (mkF m 88 #[iv p0, iv p1, iv 1, iv 0, rv w_EXCLUSIVE, rv w_SHARED, iv 0, iv 1, iv 1, iv 1] []) _
        refine XS.iload X12.here hx rfl (hb hby at_88) rfl ?_
        show OwnS p e below T12 (mkF m 90 #[iv p0, iv p1, iv 1, iv 0, rv w_EXCLUSIVE, rv w_SHARED, iv 0, iv 1, iv 1, iv 1] [(.int 1)]) _
        refine XS.iload X12.here hx rfl (hb hby at_90) rfl ?_
        show OwnS p e below T12 (mkF m 92 #[iv p0, iv p1, iv 1, iv 0, rv w_EXCLUSIVE, rv w_SHARED, iv 0, iv 1, iv 1, iv 1] [(.int 1), (.int 1)]) _
        refine XS.icmpNo X12.here hx rfl (hb hby at_92) rfl (teq (by decide : (1 : Int32) = (1 : Int32))).2 ?_
        show OwnS p e below T12 (mkF m 95 #[iv p0, iv p1, iv 1, iv 0, rv w_EXCLUSIVE, rv w_SHARED, iv 0, iv 1, iv 1, iv 1] []) _
        refine XS.iconst X12.here hx rfl (hb hby at_95) ?_
        show OwnS p e below T12 (mkF m 96 #[iv p0, iv p1, iv 1, iv 0, rv w_EXCLUSIVE, rv w_SHARED, iv 0, iv 1, iv 1, iv 1] [(.int 1)]) _
        refine XS.goto X12.here hx rfl (pc0 := 96) (pc' := 100) rfl (hb hby at_96) (by decide) (by decide) ?_
        show OwnS p e below T12 (mkF m 100 #[iv p0, iv p1, iv 1, iv 0, rv w_EXCLUSIVE, rv w_SHARED, iv 0, iv 1, iv 1, iv 1] [(.int 1)]) _
        exact retN X12 hx (t := .boolean) Bd.returns (by simp) (hb hby at_100) hr
      · show Q_0 Z p0 p1 w_EXCLUSIVE w_SHARED h0 n0 _ T12.heap _
        rw [e12]
        exact ⟨rfl, N12, trivial⟩
  · have k14 : ∀ t, OwnS p e below s₁ (mkF m 15 #[iv p0, iv p1, iv 0, .unset, .unset, .unset, .unset, .unset, .unset, .unset] [(.int (p1 &&& (1 : Int32)))]) t → OwnS p e below s₁ (entryFrame m #[(.int p0), (.int p1)] maxLocals) t := fun t q => by
      refine k2 t ?_
      show OwnS p e below s₁ (mkF m 3 #[iv p0, iv p1, .unset, .unset, .unset, .unset, .unset, .unset, .unset, .unset] [(.int (p0 &&& (1 : Int32)))]) _
      refine XS.ifYes X0.here hx rfl (pc0 := 3) (pc' := 10) rfl (hb hby at_3) rfl ((if0 _ _).trans (feq hc3_1).2) (by decide) (by decide) ?_
      show OwnS p e below s₁ (mkF m 10 #[iv p0, iv p1, .unset, .unset, .unset, .unset, .unset, .unset, .unset, .unset] []) _
      refine XS.iconst X0.here hx rfl (hb hby at_10) ?_
      show OwnS p e below s₁ (mkF m 11 #[iv p0, iv p1, .unset, .unset, .unset, .unset, .unset, .unset, .unset, .unset] [(.int 0)]) _
      refine XS.istoreN X0.here hx rfl (hb hby at_11) rfl (l' := #[iv p0, iv p1, iv 0, .unset, .unset, .unset, .unset, .unset, .unset, .unset]) rfl ?_
      show OwnS p e below s₁ (mkF m 12 #[iv p0, iv p1, iv 0, .unset, .unset, .unset, .unset, .unset, .unset, .unset] []) _
      refine XS.iloadN X0.here hx rfl (hb hby at_12) rfl ?_
      show OwnS p e below s₁ (mkF m 13 #[iv p0, iv p1, iv 0, .unset, .unset, .unset, .unset, .unset, .unset, .unset] [(.int p1)]) _
      refine XS.iconst X0.here hx rfl (hb hby at_13) ?_
      show OwnS p e below s₁ (mkF m 14 #[iv p0, iv p1, iv 0, .unset, .unset, .unset, .unset, .unset, .unset, .unset] [(.int 1), (.int p1)]) _
      refine XS.iand X0.here hx rfl (hb hby at_14) rfl ?_
      exact q
    by_cases hc15_13 : (p1 &&& (1 : Int32)) = (0 : Int32)
    · obtain ⟨_, _, ⟨T15, L15, j15, i15⟩, -, X15, ⟨Lc15, hQ15, l15, y15, z15⟩, st15⟩ := Jvm.LawKit.callS X0 hx (y := (⟨cS2, "pick", cS3⟩ : MethodName)) hown (mvT hZ (own_at hw 0 rfl)) (mvT hZ (own_at hw 1 rfl)) (mvT hZ (own_at hw 2 rfl)) (mvT hZ (own_at hw 3 rfl)) (by decide) (backOf (W := 0) (rm1_t l Z a0 hw [] (0 : Int32) w_SHARED h0 n0 Z0 (by decide : (0 : Int32) = (0 : Int32)) S_SHARED) hZ (own_at hw 3 rfl) (own_at hw 2 rfl) (by decide) (by decide)) (g := (mkF m 25 #[iv p0, iv p1, iv 0, iv 1, .unset, .unset, .unset, .unset, .unset, .unset] [(.int 0)])) rfl (by rw [hml]; rfl) (argsL := [(.int 0)]) (rest := []) (lenOf pd_0 rfl) rfl (by show 2 * 0 + _ ≤ _; exact Nat.le_of_eq rfl) (hb hby at_25) (fun _ _ => ⟨rfl, e0, (by decide : 0 + 0 ≤ _), (by decide : 0 + 0 ≤ _)⟩)
      dsimp only [Pt.U, Pt.locs, Pt.cells, Pt.slots] at X15 l15 y15 z15 st15 hQ15
      subst l15 y15 z15
      obtain ⟨rfl, N15q, e15⟩ := hQ15
      have N15 := Fr.app N0 N15q
      obtain ⟨_, _, ⟨T16, L16, j16, i16⟩, -, X16, ⟨Lc16, hQ16, l16, y16, z16⟩, st16⟩ := Jvm.LawKit.callS X15 hx (y := (⟨cS2, "pick", cS3⟩ : MethodName)) hown (mvT hZ (own_at hw 0 rfl)) (mvT hZ (own_at hw 1 rfl)) (mvT hZ (own_at hw 2 rfl)) (mvT hZ (own_at hw 3 rfl)) (by decide) (backOf (W := 0) (rm1_f l Z a0 hw [] (1 : Int32) w_EXCLUSIVE h0 n0 Z0 (by decide : ¬ ((1 : Int32) = (0 : Int32))) S_EXCLUSIVE) hZ (own_at hw 3 rfl) (own_at hw 2 rfl) (by decide) (by decide)) (g := (mkF m 31 #[iv p0, iv p1, iv 0, iv 1, rv w_SHARED, .unset, .unset, .unset, .unset, .unset] [(.int 1)])) rfl (by rw [hml]; rfl) (argsL := [(.int 1)]) (rest := []) (lenOf pd_0 rfl) rfl (by show 2 * 0 + _ ≤ _; exact Nat.le_of_eq rfl) (hb hby at_31) (fun _ _ => ⟨rfl, e15, (by decide : 0 + 0 ≤ _), (by decide : 0 + 0 ≤ _)⟩)
      dsimp only [Pt.U, Pt.locs, Pt.cells, Pt.slots] at X16 l16 y16 z16 st16 hQ16
      subst l16 y16 z16
      obtain ⟨rfl, N16q, e16⟩ := hQ16
      have N16 := Fr.app N15 N16q
      obtain ⟨cq17, kq17, q17a, q17b, q17c⟩ := isOf hZ e16 E_w_SHARED
      obtain ⟨_, _, ⟨T17, L17, j17, i17⟩, -, X17, ⟨Lc17, hQ17, l17, y17, z17⟩, st17⟩ := X16.virtualBack hx (y := (⟨cS0, "conflictsWith", cS1⟩ : MethodName)) (z := (⟨cS0, "conflictsWith", cS1⟩ : MethodName)) hown (mvT hZ (own_at hw 9 rfl)) (mvT hZ (own_at hw 10 rfl)) (notFace_of_selects (args := #[]) (mvT hZ (own_at hw 12 rfl))) (mvT hZ (own_at hw 12 rfl)) (mvT hZ (own_at hw 11 rfl)) (by decide) (backOf (W := 0) (rm2_oe l Z a0 hw [] w_SHARED w_EXCLUSIVE h0 n0 Z0 S_EXCLUSIVE ne) hZ (own_at hw 13 rfl) (own_at hw 5 rfl) (by decide) (by decide)) q17a q17c (g := (mkF m 67 #[iv p0, iv p1, iv 0, iv 1, rv w_SHARED, rv w_EXCLUSIVE, iv 0, iv 1, .unset, .unset] [(.ref w_EXCLUSIVE), (.ref w_SHARED)])) rfl (by rw [hml]; rfl) (Steps.refl _) (argsL := [(.ref w_EXCLUSIVE)]) (rest := []) (lenOf pd_1 rfl) rfl (by show 2 * 0 + _ ≤ _; exact Nat.le_of_eq rfl) (hb hby at_67) (fun _ _ => ⟨rfl, e16, (by decide : 0 + 0 ≤ _), (by decide : 0 + 0 ≤ _)⟩)
      dsimp only [Pt.U, Pt.locs, Pt.cells, Pt.slots] at X17 l17 y17 z17 st17 hQ17
      subst l17 y17 z17
      obtain ⟨rfl, N17q, e17⟩ := hQ17
      have N17 := Fr.app N16 N17q
      obtain ⟨cq18, kq18, q18a, q18b, q18c⟩ := isOf hZ e17 E_w_EXCLUSIVE
      obtain ⟨_, _, ⟨T18, L18, j18, i18⟩, -, X18, ⟨Lc18, hQ18, l18, y18, z18⟩, st18⟩ := X17.virtualBack hx (y := (⟨cS0, "conflictsWith", cS1⟩ : MethodName)) (z := (⟨cS0, "conflictsWith", cS1⟩ : MethodName)) hown (mvT hZ (own_at hw 9 rfl)) (mvT hZ (own_at hw 10 rfl)) (notFace_of_selects (args := #[]) (mvT hZ (own_at hw 12 rfl))) (mvT hZ (own_at hw 12 rfl)) (mvT hZ (own_at hw 11 rfl)) (by decide) (backOf (W := 0) (rm2_e l Z a0 hw [] w_EXCLUSIVE w_SHARED h0 n0 Z0 S_EXCLUSIVE) hZ (own_at hw 13 rfl) (own_at hw 5 rfl) (by decide) (by decide)) q18a q18c (g := (mkF m 76 #[iv p0, iv p1, iv 0, iv 1, rv w_SHARED, rv w_EXCLUSIVE, iv 0, iv 1, iv 1, .unset] [(.ref w_SHARED), (.ref w_EXCLUSIVE)])) rfl (by rw [hml]; rfl) (Steps.refl _) (argsL := [(.ref w_SHARED)]) (rest := []) (lenOf pd_1 rfl) rfl (by show 2 * 0 + _ ≤ _; exact Nat.le_of_eq rfl) (hb hby at_76) (fun _ _ => ⟨rfl, e17, (by decide : 0 + 0 ≤ _), (by decide : 0 + 0 ≤ _)⟩)
      dsimp only [Pt.U, Pt.locs, Pt.cells, Pt.slots] at X18 l18 y18 z18 st18 hQ18
      subst l18 y18 z18
      obtain ⟨rfl, N18q, e18⟩ := hQ18
      have N18 := Fr.app N17 N18q
      obtain ⟨fs, hr, hrun, hended, hW, hsame⟩ := X18.leave (v := some (.int 1)) (fun h => by rw [Bd.returns] at h; cases h)
      refine ⟨_, _, k14 _ ?_, hrun, hended, _, _, rfl, ?_, ⟨_, rfl⟩, hW, hsame.mono (by decide) (by decide)⟩
      · show OwnS p e below s₁ (mkF m 15 #[iv p0, iv p1, iv 0, .unset, .unset, .unset, .unset, .unset, .unset, .unset] [(.int (p1 &&& (1 : Int32)))]) _
        refine XS.ifNo X0.here hx rfl (hb hby at_15) rfl ((if0 _ _).trans (teq hc15_13).2) ?_
        show OwnS p e below s₁ (mkF m 18 #[iv p0, iv p1, iv 0, .unset, .unset, .unset, .unset, .unset, .unset, .unset] []) _
        refine XS.iconst X0.here hx rfl (hb hby at_18) ?_
        show OwnS p e below s₁ (mkF m 19 #[iv p0, iv p1, iv 0, .unset, .unset, .unset, .unset, .unset, .unset, .unset] [(.int 1)]) _
        refine XS.goto X0.here hx rfl (pc0 := 19) (pc' := 23) rfl (hb hby at_19) (by decide) (by decide) ?_
        show OwnS p e below s₁ (mkF m 23 #[iv p0, iv p1, iv 0, .unset, .unset, .unset, .unset, .unset, .unset, .unset] [(.int 1)]) _
        refine XS.istoreN X0.here hx rfl (hb hby at_23) rfl (l' := #[iv p0, iv p1, iv 0, iv 1, .unset, .unset, .unset, .unset, .unset, .unset]) rfl ?_
        show OwnS p e below s₁ (mkF m 24 #[iv p0, iv p1, iv 0, iv 1, .unset, .unset, .unset, .unset, .unset, .unset] []) _
        refine XS.iloadN X0.here hx rfl (hb hby at_24) rfl ?_
        show OwnS p e below s₁ (mkF m 25 #[iv p0, iv p1, iv 0, iv 1, .unset, .unset, .unset, .unset, .unset, .unset] [(.int 0)]) _
        refine st15 _ ?_
        show OwnS p e below T15 (mkF m 28 #[iv p0, iv p1, iv 0, iv 1, .unset, .unset, .unset, .unset, .unset, .unset] [(.ref w_SHARED)]) _
        refine XS.astore X15.here hx rfl (hb hby at_28) rfl rfl (l' := #[iv p0, iv p1, iv 0, iv 1, rv w_SHARED, .unset, .unset, .unset, .unset, .unset]) rfl ?_
        show OwnS p e below T15 (mkF m 30 #[iv p0, iv p1, iv 0, iv 1, rv w_SHARED, .unset, .unset, .unset, .unset, .unset] []) _
        refine XS.iloadN X15.here hx rfl (hb hby at_30) rfl ?_
        show OwnS p e below T15 (mkF m 31 #[iv p0, iv p1, iv 0, iv 1, rv w_SHARED, .unset, .unset, .unset, .unset, .unset] [(.int 1)]) _
        refine st16 _ ?_
        show OwnS p e below T16 (mkF m 34 #[iv p0, iv p1, iv 0, iv 1, rv w_SHARED, .unset, .unset, .unset, .unset, .unset] [(.ref w_EXCLUSIVE)]) _
        refine XS.astore X16.here hx rfl (hb hby at_34) rfl rfl (l' := #[iv p0, iv p1, iv 0, iv 1, rv w_SHARED, rv w_EXCLUSIVE, .unset, .unset, .unset, .unset]) rfl ?_
        show OwnS p e below T16 (mkF m 36 #[iv p0, iv p1, iv 0, iv 1, rv w_SHARED, rv w_EXCLUSIVE, .unset, .unset, .unset, .unset] []) _
        refine XS.iloadN X16.here hx rfl (hb hby at_36) rfl ?_
        show OwnS p e below T16 (mkF m 37 #[iv p0, iv p1, iv 0, iv 1, rv w_SHARED, rv w_EXCLUSIVE, .unset, .unset, .unset, .unset] [(.int 0)]) _
        refine XS.ifNo X16.here hx rfl (hb hby at_37) rfl ((if0 _ _).trans (teq (by decide : (0 : Int32) = (0 : Int32))).2) ?_
        show OwnS p e below T16 (mkF m 40 #[iv p0, iv p1, iv 0, iv 1, rv w_SHARED, rv w_EXCLUSIVE, .unset, .unset, .unset, .unset] []) _
        refine XS.iloadN X16.here hx rfl (hb hby at_40) rfl ?_
        show OwnS p e below T16 (mkF m 41 #[iv p0, iv p1, iv 0, iv 1, rv w_SHARED, rv w_EXCLUSIVE, .unset, .unset, .unset, .unset] [(.int 1)]) _
        refine XS.ifYes X16.here hx rfl (pc0 := 41) (pc' := 48) rfl (hb hby at_41) rfl ((if0 _ _).trans (feq (by decide : ¬ ((1 : Int32) = (0 : Int32)))).2) (by decide) (by decide) ?_
        show OwnS p e below T16 (mkF m 48 #[iv p0, iv p1, iv 0, iv 1, rv w_SHARED, rv w_EXCLUSIVE, .unset, .unset, .unset, .unset] []) _
        refine XS.iconst X16.here hx rfl (hb hby at_48) ?_
        show OwnS p e below T16 (mkF m 49 #[iv p0, iv p1, iv 0, iv 1, rv w_SHARED, rv w_EXCLUSIVE, .unset, .unset, .unset, .unset] [(.int 0)]) _
        refine XS.istore X16.here hx rfl (hb hby at_49) rfl (l' := #[iv p0, iv p1, iv 0, iv 1, rv w_SHARED, rv w_EXCLUSIVE, iv 0, .unset, .unset, .unset]) rfl ?_
        show OwnS p e below T16 (mkF m 51 #[iv p0, iv p1, iv 0, iv 1, rv w_SHARED, rv w_EXCLUSIVE, iv 0, .unset, .unset, .unset] []) _
        refine XS.iload X16.here hx rfl (hb hby at_51) rfl ?_
        show OwnS p e below T16 (mkF m 53 #[iv p0, iv p1, iv 0, iv 1, rv w_SHARED, rv w_EXCLUSIVE, iv 0, .unset, .unset, .unset] [(.int 0)]) _
        refine XS.ifNo X16.here hx rfl (hb hby at_53) rfl ((if0 _ _).trans (teq (by decide : (0 : Int32) = (0 : Int32))).2) ?_
        show OwnS p e below T16 (mkF m 56 #[iv p0, iv p1, iv 0, iv 1, rv w_SHARED, rv w_EXCLUSIVE, iv 0, .unset, .unset, .unset] []) _
        refine XS.iconst X16.here hx rfl (hb hby at_56) ?_
        show OwnS p e below T16 (mkF m 57 #[iv p0, iv p1, iv 0, iv 1, rv w_SHARED, rv w_EXCLUSIVE, iv 0, .unset, .unset, .unset] [(.int 1)]) _
        refine XS.goto X16.here hx rfl (pc0 := 57) (pc' := 61) rfl (hb hby at_57) (by decide) (by decide) ?_
        show OwnS p e below T16 (mkF m 61 #[iv p0, iv p1, iv 0, iv 1, rv w_SHARED, rv w_EXCLUSIVE, iv 0, .unset, .unset, .unset] [(.int 1)]) _
        refine XS.istore X16.here hx rfl (hb hby at_61) rfl (l' := #[iv p0, iv p1, iv 0, iv 1, rv w_SHARED, rv w_EXCLUSIVE, iv 0, iv 1, .unset, .unset]) rfl ?_
        show OwnS p e below T16 (mkF m 63 #[iv p0, iv p1, iv 0, iv 1, rv w_SHARED, rv w_EXCLUSIVE, iv 0, iv 1, .unset, .unset] []) _
        refine XS.aload X16.here hx rfl (hb hby at_63) rfl rfl ?_
        show OwnS p e below T16 (mkF m 65 #[iv p0, iv p1, iv 0, iv 1, rv w_SHARED, rv w_EXCLUSIVE, iv 0, iv 1, .unset, .unset] [(.ref w_SHARED)]) _
        refine XS.aload X16.here hx rfl (hb hby at_65) rfl rfl ?_
        show OwnS p e below T16 (mkF m 67 #[iv p0, iv p1, iv 0, iv 1, rv w_SHARED, rv w_EXCLUSIVE, iv 0, iv 1, .unset, .unset] [(.ref w_EXCLUSIVE), (.ref w_SHARED)]) _
        refine st17.trans ?_
        show OwnS p e below T17 (mkF m 70 #[iv p0, iv p1, iv 0, iv 1, rv w_SHARED, rv w_EXCLUSIVE, iv 0, iv 1, .unset, .unset] [(.int 1)]) _
        refine XS.istore X17.here hx rfl (hb hby at_70) rfl (l' := #[iv p0, iv p1, iv 0, iv 1, rv w_SHARED, rv w_EXCLUSIVE, iv 0, iv 1, iv 1, .unset]) rfl ?_
        show OwnS p e below T17 (mkF m 72 #[iv p0, iv p1, iv 0, iv 1, rv w_SHARED, rv w_EXCLUSIVE, iv 0, iv 1, iv 1, .unset] []) _
        refine XS.aload X17.here hx rfl (hb hby at_72) rfl rfl ?_
        show OwnS p e below T17 (mkF m 74 #[iv p0, iv p1, iv 0, iv 1, rv w_SHARED, rv w_EXCLUSIVE, iv 0, iv 1, iv 1, .unset] [(.ref w_EXCLUSIVE)]) _
        refine XS.aload X17.here hx rfl (hb hby at_74) rfl rfl ?_
        show OwnS p e below T17 (mkF m 76 #[iv p0, iv p1, iv 0, iv 1, rv w_SHARED, rv w_EXCLUSIVE, iv 0, iv 1, iv 1, .unset] [(.ref w_SHARED), (.ref w_EXCLUSIVE)]) _
        refine st18.trans ?_
        show OwnS p e below T18 (mkF m 79 #[iv p0, iv p1, iv 0, iv 1, rv w_SHARED, rv w_EXCLUSIVE, iv 0, iv 1, iv 1, .unset] [(.int 1)]) _
        refine XS.istore X18.here hx rfl (hb hby at_79) rfl (l' := #[iv p0, iv p1, iv 0, iv 1, rv w_SHARED, rv w_EXCLUSIVE, iv 0, iv 1, iv 1, iv 1]) rfl ?_
        show OwnS p e below T18 (mkF m 81 #[iv p0, iv p1, iv 0, iv 1, rv w_SHARED, rv w_EXCLUSIVE, iv 0, iv 1, iv 1, iv 1] []) _
        refine XS.iload X18.here hx rfl (hb hby at_81) rfl ?_
        show OwnS p e below T18 (mkF m 83 #[iv p0, iv p1, iv 0, iv 1, rv w_SHARED, rv w_EXCLUSIVE, iv 0, iv 1, iv 1, iv 1] [(.int 1)]) _
        refine XS.iload X18.here hx rfl (hb hby at_83) rfl ?_
        show OwnS p e below T18 (mkF m 85 #[iv p0, iv p1, iv 0, iv 1, rv w_SHARED, rv w_EXCLUSIVE, iv 0, iv 1, iv 1, iv 1] [(.int 1), (.int 1)]) _
        refine XS.icmpNo X18.here hx rfl (hb hby at_85) rfl (teq (by decide : (1 : Int32) = (1 : Int32))).2 ?_
        show OwnS p e below T18 (mkF m 88 #[iv p0, iv p1, iv 0, iv 1, rv w_SHARED, rv w_EXCLUSIVE, iv 0, iv 1, iv 1, iv 1] []) _
        refine XS.iload X18.here hx rfl (hb hby at_88) rfl ?_
        show OwnS p e below T18 (mkF m 90 #[iv p0, iv p1, iv 0, iv 1, rv w_SHARED, rv w_EXCLUSIVE, iv 0, iv 1, iv 1, iv 1] [(.int 1)]) _
        refine XS.iload X18.here hx rfl (hb hby at_90) rfl ?_
        show OwnS p e below T18 (mkF m 92 #[iv p0, iv p1, iv 0, iv 1, rv w_SHARED, rv w_EXCLUSIVE, iv 0, iv 1, iv 1, iv 1] [(.int 1), (.int 1)]) _
        refine XS.icmpNo X18.here hx rfl (hb hby at_92) rfl (teq (by decide : (1 : Int32) = (1 : Int32))).2 ?_
        show OwnS p e below T18 (mkF m 95 #[iv p0, iv p1, iv 0, iv 1, rv w_SHARED, rv w_EXCLUSIVE, iv 0, iv 1, iv 1, iv 1] []) _
        refine XS.iconst X18.here hx rfl (hb hby at_95) ?_
        show OwnS p e below T18 (mkF m 96 #[iv p0, iv p1, iv 0, iv 1, rv w_SHARED, rv w_EXCLUSIVE, iv 0, iv 1, iv 1, iv 1] [(.int 1)]) _
        refine XS.goto X18.here hx rfl (pc0 := 96) (pc' := 100) rfl (hb hby at_96) (by decide) (by decide) ?_
        show OwnS p e below T18 (mkF m 100 #[iv p0, iv p1, iv 0, iv 1, rv w_SHARED, rv w_EXCLUSIVE, iv 0, iv 1, iv 1, iv 1] [(.int 1)]) _
        exact retN X18 hx (t := .boolean) Bd.returns (by simp) (hb hby at_100) hr
      · show Q_0 Z p0 p1 w_EXCLUSIVE w_SHARED h0 n0 _ T18.heap _
        rw [e18]
        exact ⟨rfl, N18, trivial⟩
    · obtain ⟨_, _, ⟨T19, L19, j19, i19⟩, -, X19, ⟨Lc19, hQ19, l19, y19, z19⟩, st19⟩ := Jvm.LawKit.callS X0 hx (y := (⟨cS2, "pick", cS3⟩ : MethodName)) hown (mvT hZ (own_at hw 0 rfl)) (mvT hZ (own_at hw 1 rfl)) (mvT hZ (own_at hw 2 rfl)) (mvT hZ (own_at hw 3 rfl)) (by decide) (backOf (W := 0) (rm1_t l Z a0 hw [] (0 : Int32) w_SHARED h0 n0 Z0 (by decide : (0 : Int32) = (0 : Int32)) S_SHARED) hZ (own_at hw 3 rfl) (own_at hw 2 rfl) (by decide) (by decide)) (g := (mkF m 25 #[iv p0, iv p1, iv 0, iv 0, .unset, .unset, .unset, .unset, .unset, .unset] [(.int 0)])) rfl (by rw [hml]; rfl) (argsL := [(.int 0)]) (rest := []) (lenOf pd_0 rfl) rfl (by show 2 * 0 + _ ≤ _; exact Nat.le_of_eq rfl) (hb hby at_25) (fun _ _ => ⟨rfl, e0, (by decide : 0 + 0 ≤ _), (by decide : 0 + 0 ≤ _)⟩)
      dsimp only [Pt.U, Pt.locs, Pt.cells, Pt.slots] at X19 l19 y19 z19 st19 hQ19
      subst l19 y19 z19
      obtain ⟨rfl, N19q, e19⟩ := hQ19
      have N19 := Fr.app N0 N19q
      obtain ⟨_, _, ⟨T20, L20, j20, i20⟩, -, X20, ⟨Lc20, hQ20, l20, y20, z20⟩, st20⟩ := Jvm.LawKit.callS X19 hx (y := (⟨cS2, "pick", cS3⟩ : MethodName)) hown (mvT hZ (own_at hw 0 rfl)) (mvT hZ (own_at hw 1 rfl)) (mvT hZ (own_at hw 2 rfl)) (mvT hZ (own_at hw 3 rfl)) (by decide) (backOf (W := 0) (rm1_t l Z a0 hw [] (0 : Int32) w_SHARED h0 n0 Z0 (by decide : (0 : Int32) = (0 : Int32)) S_SHARED) hZ (own_at hw 3 rfl) (own_at hw 2 rfl) (by decide) (by decide)) (g := (mkF m 31 #[iv p0, iv p1, iv 0, iv 0, rv w_SHARED, .unset, .unset, .unset, .unset, .unset] [(.int 0)])) rfl (by rw [hml]; rfl) (argsL := [(.int 0)]) (rest := []) (lenOf pd_0 rfl) rfl (by show 2 * 0 + _ ≤ _; exact Nat.le_of_eq rfl) (hb hby at_31) (fun _ _ => ⟨rfl, e19, (by decide : 0 + 0 ≤ _), (by decide : 0 + 0 ≤ _)⟩)
      dsimp only [Pt.U, Pt.locs, Pt.cells, Pt.slots] at X20 l20 y20 z20 st20 hQ20
      subst l20 y20 z20
      obtain ⟨rfl, N20q, e20⟩ := hQ20
      have N20 := Fr.app N19 N20q
      obtain ⟨cq21, kq21, q21a, q21b, q21c⟩ := isOf hZ e20 E_w_SHARED
      obtain ⟨_, _, ⟨T21, L21, j21, i21⟩, -, X21, ⟨Lc21, hQ21, l21, y21, z21⟩, st21⟩ := X20.virtualBack hx (y := (⟨cS0, "conflictsWith", cS1⟩ : MethodName)) (z := (⟨cS0, "conflictsWith", cS1⟩ : MethodName)) hown (mvT hZ (own_at hw 9 rfl)) (mvT hZ (own_at hw 10 rfl)) (notFace_of_selects (args := #[]) (mvT hZ (own_at hw 12 rfl))) (mvT hZ (own_at hw 12 rfl)) (mvT hZ (own_at hw 11 rfl)) (by decide) (backOf (W := 0) (rm2_oo l Z a0 hw [] w_SHARED w_SHARED w_EXCLUSIVE h0 n0 Z0 S_EXCLUSIVE ne ne) hZ (own_at hw 13 rfl) (own_at hw 5 rfl) (by decide) (by decide)) q21a q21c (g := (mkF m 67 #[iv p0, iv p1, iv 0, iv 0, rv w_SHARED, rv w_SHARED, iv 1, iv 0, .unset, .unset] [(.ref w_SHARED), (.ref w_SHARED)])) rfl (by rw [hml]; rfl) (Steps.refl _) (argsL := [(.ref w_SHARED)]) (rest := []) (lenOf pd_1 rfl) rfl (by show 2 * 0 + _ ≤ _; exact Nat.le_of_eq rfl) (hb hby at_67) (fun _ _ => ⟨rfl, e20, (by decide : 0 + 0 ≤ _), (by decide : 0 + 0 ≤ _)⟩)
      dsimp only [Pt.U, Pt.locs, Pt.cells, Pt.slots] at X21 l21 y21 z21 st21 hQ21
      subst l21 y21 z21
      obtain ⟨rfl, N21q, e21⟩ := hQ21
      have N21 := Fr.app N20 N21q
      obtain ⟨cq22, kq22, q22a, q22b, q22c⟩ := isOf hZ e21 E_w_SHARED
      obtain ⟨_, _, ⟨T22, L22, j22, i22⟩, -, X22, ⟨Lc22, hQ22, l22, y22, z22⟩, st22⟩ := X21.virtualBack hx (y := (⟨cS0, "conflictsWith", cS1⟩ : MethodName)) (z := (⟨cS0, "conflictsWith", cS1⟩ : MethodName)) hown (mvT hZ (own_at hw 9 rfl)) (mvT hZ (own_at hw 10 rfl)) (notFace_of_selects (args := #[]) (mvT hZ (own_at hw 12 rfl))) (mvT hZ (own_at hw 12 rfl)) (mvT hZ (own_at hw 11 rfl)) (by decide) (backOf (W := 0) (rm2_oo l Z a0 hw [] w_SHARED w_SHARED w_EXCLUSIVE h0 n0 Z0 S_EXCLUSIVE ne ne) hZ (own_at hw 13 rfl) (own_at hw 5 rfl) (by decide) (by decide)) q22a q22c (g := (mkF m 76 #[iv p0, iv p1, iv 0, iv 0, rv w_SHARED, rv w_SHARED, iv 1, iv 0, iv 0, .unset] [(.ref w_SHARED), (.ref w_SHARED)])) rfl (by rw [hml]; rfl) (Steps.refl _) (argsL := [(.ref w_SHARED)]) (rest := []) (lenOf pd_1 rfl) rfl (by show 2 * 0 + _ ≤ _; exact Nat.le_of_eq rfl) (hb hby at_76) (fun _ _ => ⟨rfl, e21, (by decide : 0 + 0 ≤ _), (by decide : 0 + 0 ≤ _)⟩)
      dsimp only [Pt.U, Pt.locs, Pt.cells, Pt.slots] at X22 l22 y22 z22 st22 hQ22
      subst l22 y22 z22
      obtain ⟨rfl, N22q, e22⟩ := hQ22
      have N22 := Fr.app N21 N22q
      obtain ⟨fs, hr, hrun, hended, hW, hsame⟩ := X22.leave (v := some (.int 1)) (fun h => by rw [Bd.returns] at h; cases h)
      refine ⟨_, _, k14 _ ?_, hrun, hended, _, _, rfl, ?_, ⟨_, rfl⟩, hW, hsame.mono (by decide) (by decide)⟩
      · show OwnS p e below s₁ (mkF m 15 #[iv p0, iv p1, iv 0, .unset, .unset, .unset, .unset, .unset, .unset, .unset] [(.int (p1 &&& (1 : Int32)))]) _
        refine XS.ifYes X0.here hx rfl (pc0 := 15) (pc' := 22) rfl (hb hby at_15) rfl ((if0 _ _).trans (feq hc15_13).2) (by decide) (by decide) ?_
        show OwnS p e below s₁ (mkF m 22 #[iv p0, iv p1, iv 0, .unset, .unset, .unset, .unset, .unset, .unset, .unset] []) _
        refine XS.iconst X0.here hx rfl (hb hby at_22) ?_
        show OwnS p e below s₁ (mkF m 23 #[iv p0, iv p1, iv 0, .unset, .unset, .unset, .unset, .unset, .unset, .unset] [(.int 0)]) _
        refine XS.istoreN X0.here hx rfl (hb hby at_23) rfl (l' := #[iv p0, iv p1, iv 0, iv 0, .unset, .unset, .unset, .unset, .unset, .unset]) rfl ?_
        show OwnS p e below s₁ (mkF m 24 #[iv p0, iv p1, iv 0, iv 0, .unset, .unset, .unset, .unset, .unset, .unset] []) _
        refine XS.iloadN X0.here hx rfl (hb hby at_24) rfl ?_
        show OwnS p e below s₁ (mkF m 25 #[iv p0, iv p1, iv 0, iv 0, .unset, .unset, .unset, .unset, .unset, .unset] [(.int 0)]) _
        refine st19 _ ?_
        show OwnS p e below T19 (mkF m 28 #[iv p0, iv p1, iv 0, iv 0, .unset, .unset, .unset, .unset, .unset, .unset] [(.ref w_SHARED)]) _
        refine XS.astore X19.here hx rfl (hb hby at_28) rfl rfl (l' := #[iv p0, iv p1, iv 0, iv 0, rv w_SHARED, .unset, .unset, .unset, .unset, .unset]) rfl ?_
        show OwnS p e below T19 (mkF m 30 #[iv p0, iv p1, iv 0, iv 0, rv w_SHARED, .unset, .unset, .unset, .unset, .unset] []) _
        refine XS.iloadN X19.here hx rfl (hb hby at_30) rfl ?_
        show OwnS p e below T19 (mkF m 31 #[iv p0, iv p1, iv 0, iv 0, rv w_SHARED, .unset, .unset, .unset, .unset, .unset] [(.int 0)]) _
        refine st20 _ ?_
        show OwnS p e below T20 (mkF m 34 #[iv p0, iv p1, iv 0, iv 0, rv w_SHARED, .unset, .unset, .unset, .unset, .unset] [(.ref w_SHARED)]) _
        refine XS.astore X20.here hx rfl (hb hby at_34) rfl rfl (l' := #[iv p0, iv p1, iv 0, iv 0, rv w_SHARED, rv w_SHARED, .unset, .unset, .unset, .unset]) rfl ?_
        show OwnS p e below T20 (mkF m 36 #[iv p0, iv p1, iv 0, iv 0, rv w_SHARED, rv w_SHARED, .unset, .unset, .unset, .unset] []) _
        refine XS.iloadN X20.here hx rfl (hb hby at_36) rfl ?_
        show OwnS p e below T20 (mkF m 37 #[iv p0, iv p1, iv 0, iv 0, rv w_SHARED, rv w_SHARED, .unset, .unset, .unset, .unset] [(.int 0)]) _
        refine XS.ifNo X20.here hx rfl (hb hby at_37) rfl ((if0 _ _).trans (teq (by decide : (0 : Int32) = (0 : Int32))).2) ?_
        show OwnS p e below T20 (mkF m 40 #[iv p0, iv p1, iv 0, iv 0, rv w_SHARED, rv w_SHARED, .unset, .unset, .unset, .unset] []) _
        refine XS.iloadN X20.here hx rfl (hb hby at_40) rfl ?_
        show OwnS p e below T20 (mkF m 41 #[iv p0, iv p1, iv 0, iv 0, rv w_SHARED, rv w_SHARED, .unset, .unset, .unset, .unset] [(.int 0)]) _
        refine XS.ifNo X20.here hx rfl (hb hby at_41) rfl ((if0 _ _).trans (teq (by decide : (0 : Int32) = (0 : Int32))).2) ?_
        show OwnS p e below T20 (mkF m 44 #[iv p0, iv p1, iv 0, iv 0, rv w_SHARED, rv w_SHARED, .unset, .unset, .unset, .unset] []) _
        refine XS.iconst X20.here hx rfl (hb hby at_44) ?_
        show OwnS p e below T20 (mkF m 45 #[iv p0, iv p1, iv 0, iv 0, rv w_SHARED, rv w_SHARED, .unset, .unset, .unset, .unset] [(.int 1)]) _
        refine XS.goto X20.here hx rfl (pc0 := 45) (pc' := 49) rfl (hb hby at_45) (by decide) (by decide) ?_
        show OwnS p e below T20 (mkF m 49 #[iv p0, iv p1, iv 0, iv 0, rv w_SHARED, rv w_SHARED, .unset, .unset, .unset, .unset] [(.int 1)]) _
        refine XS.istore X20.here hx rfl (hb hby at_49) rfl (l' := #[iv p0, iv p1, iv 0, iv 0, rv w_SHARED, rv w_SHARED, iv 1, .unset, .unset, .unset]) rfl ?_
        show OwnS p e below T20 (mkF m 51 #[iv p0, iv p1, iv 0, iv 0, rv w_SHARED, rv w_SHARED, iv 1, .unset, .unset, .unset] []) _
        refine XS.iload X20.here hx rfl (hb hby at_51) rfl ?_
        show OwnS p e below T20 (mkF m 53 #[iv p0, iv p1, iv 0, iv 0, rv w_SHARED, rv w_SHARED, iv 1, .unset, .unset, .unset] [(.int 1)]) _
        refine XS.ifYes X20.here hx rfl (pc0 := 53) (pc' := 60) rfl (hb hby at_53) rfl ((if0 _ _).trans (feq (by decide : ¬ ((1 : Int32) = (0 : Int32)))).2) (by decide) (by decide) ?_
        show OwnS p e below T20 (mkF m 60 #[iv p0, iv p1, iv 0, iv 0, rv w_SHARED, rv w_SHARED, iv 1, .unset, .unset, .unset] []) _
        refine XS.iconst X20.here hx rfl (hb hby at_60) ?_
        show OwnS p e below T20 (mkF m 61 #[iv p0, iv p1, iv 0, iv 0, rv w_SHARED, rv w_SHARED, iv 1, .unset, .unset, .unset] [(.int 0)]) _
        refine XS.istore X20.here hx rfl (hb hby at_61) rfl (l' := #[iv p0, iv p1, iv 0, iv 0, rv w_SHARED, rv w_SHARED, iv 1, iv 0, .unset, .unset]) rfl ?_
        show OwnS p e below T20 (mkF m 63 #[iv p0, iv p1, iv 0, iv 0, rv w_SHARED, rv w_SHARED, iv 1, iv 0, .unset, .unset] []) _
        refine XS.aload X20.here hx rfl (hb hby at_63) rfl rfl ?_
        show OwnS p e below T20 (mkF m 65 #[iv p0, iv p1, iv 0, iv 0, rv w_SHARED, rv w_SHARED, iv 1, iv 0, .unset, .unset] [(.ref w_SHARED)]) _
        refine XS.aload X20.here hx rfl (hb hby at_65) rfl rfl ?_
        show OwnS p e below T20 (mkF m 67 #[iv p0, iv p1, iv 0, iv 0, rv w_SHARED, rv w_SHARED, iv 1, iv 0, .unset, .unset] [(.ref w_SHARED), (.ref w_SHARED)]) _
        refine st21.trans ?_
        show OwnS p e below T21 (mkF m 70 #[iv p0, iv p1, iv 0, iv 0, rv w_SHARED, rv w_SHARED, iv 1, iv 0, .unset, .unset] [(.int 0)]) _
        refine XS.istore X21.here hx rfl (hb hby at_70) rfl (l' := #[iv p0, iv p1, iv 0, iv 0, rv w_SHARED, rv w_SHARED, iv 1, iv 0, iv 0, .unset]) rfl ?_
        show OwnS p e below T21 (mkF m 72 #[iv p0, iv p1, iv 0, iv 0, rv w_SHARED, rv w_SHARED, iv 1, iv 0, iv 0, .unset] []) _
        refine XS.aload X21.here hx rfl (hb hby at_72) rfl rfl ?_
        show OwnS p e below T21 (mkF m 74 #[iv p0, iv p1, iv 0, iv 0, rv w_SHARED, rv w_SHARED, iv 1, iv 0, iv 0, .unset] [(.ref w_SHARED)]) _
        refine XS.aload X21.here hx rfl (hb hby at_74) rfl rfl ?_
        show OwnS p e below T21 (mkF m 76 #[iv p0, iv p1, iv 0, iv 0, rv w_SHARED, rv w_SHARED, iv 1, iv 0, iv 0, .unset] [(.ref w_SHARED), (.ref w_SHARED)]) _
        refine st22.trans ?_
        show OwnS p e below T22 (mkF m 79 #[iv p0, iv p1, iv 0, iv 0, rv w_SHARED, rv w_SHARED, iv 1, iv 0, iv 0, .unset] [(.int 0)]) _
        refine XS.istore X22.here hx rfl (hb hby at_79) rfl (l' := #[iv p0, iv p1, iv 0, iv 0, rv w_SHARED, rv w_SHARED, iv 1, iv 0, iv 0, iv 0]) rfl ?_
        show OwnS p e below T22 (mkF m 81 #[iv p0, iv p1, iv 0, iv 0, rv w_SHARED, rv w_SHARED, iv 1, iv 0, iv 0, iv 0] []) _
        refine XS.iload X22.here hx rfl (hb hby at_81) rfl ?_
        show OwnS p e below T22 (mkF m 83 #[iv p0, iv p1, iv 0, iv 0, rv w_SHARED, rv w_SHARED, iv 1, iv 0, iv 0, iv 0] [(.int 0)]) _
        refine XS.iload X22.here hx rfl (hb hby at_83) rfl ?_
        show OwnS p e below T22 (mkF m 85 #[iv p0, iv p1, iv 0, iv 0, rv w_SHARED, rv w_SHARED, iv 1, iv 0, iv 0, iv 0] [(.int 0), (.int 0)]) _
        refine XS.icmpNo X22.here hx rfl (hb hby at_85) rfl (teq (by decide : (0 : Int32) = (0 : Int32))).2 ?_
        show OwnS p e below T22 (mkF m 88 #[iv p0, iv p1, iv 0, iv 0, rv w_SHARED, rv w_SHARED, iv 1, iv 0, iv 0, iv 0] []) _
        refine XS.iload X22.here hx rfl (hb hby at_88) rfl ?_
        show OwnS p e below T22 (mkF m 90 #[iv p0, iv p1, iv 0, iv 0, rv w_SHARED, rv w_SHARED, iv 1, iv 0, iv 0, iv 0] [(.int 0)]) _
        refine XS.iload X22.here hx rfl (hb hby at_90) rfl ?_
        show OwnS p e below T22 (mkF m 92 #[iv p0, iv p1, iv 0, iv 0, rv w_SHARED, rv w_SHARED, iv 1, iv 0, iv 0, iv 0] [(.int 0), (.int 0)]) _
        refine XS.icmpNo X22.here hx rfl (hb hby at_92) rfl (teq (by decide : (0 : Int32) = (0 : Int32))).2 ?_
        show OwnS p e below T22 (mkF m 95 #[iv p0, iv p1, iv 0, iv 0, rv w_SHARED, rv w_SHARED, iv 1, iv 0, iv 0, iv 0] []) _
        refine XS.iconst X22.here hx rfl (hb hby at_95) ?_
        show OwnS p e below T22 (mkF m 96 #[iv p0, iv p1, iv 0, iv 0, rv w_SHARED, rv w_SHARED, iv 1, iv 0, iv 0, iv 0] [(.int 1)]) _
        refine XS.goto X22.here hx rfl (pc0 := 96) (pc' := 100) rfl (hb hby at_96) (by decide) (by decide) ?_
        show OwnS p e below T22 (mkF m 100 #[iv p0, iv p1, iv 0, iv 0, rv w_SHARED, rv w_SHARED, iv 1, iv 0, iv 0, iv 0] [(.int 1)]) _
        exact retN X22 hx (t := .boolean) Bd.returns (by simp) (hb hby at_100) hr
      · show Q_0 Z p0 p1 w_EXCLUSIVE w_SHARED h0 n0 _ T22.heap _
        rw [e22]
        exact ⟨rfl, N22, trivial⟩
set_option maxRecDepth 65536 in
set_option maxHeartbeats 40000000 in
theorem comes_1 {Post : Tables → Env → Array Value → State → Outcome → State → Prop} (hpost : ∀ tb e args s v u, (limb_1_1.after args s (.returned v) u = true ∧ limb_1_2.after args s (.returned v) u = true ∧ True) → FrameEnd s (.returned v) u (Jvm.fieldLocs frame_1_writes args s ++ Jvm.arrayLocs frame_1_arrays args s ++ Jvm.staticLocs frame_1_statics s) 0 0 → Post tb e args s (.returned v) u) :
    ArmFor flags0 classFile x code maxLocals ret World_1 tables_1 room_1 Calls_1 rest_1 Pre_1 Post := by
  intro l hfl _ _ p e ha hc hk s m args below hf hA hF happ hP
  obtain ⟨hcalls, hrest, hpre⟩ := hP
  obtain ⟨-, -, -, hnamed, -, -, -, hat⟩ := (Spec.applies_iff hf).mp happ
  obtain ⟨hg, hn⟩ := and_e (Cond.before_iff.mp (show (Jvm.Cond.and given_1 narrow_1).before args s = true from hpre))
  have hw := fun d (hd : d ∈ tables_1) => atoms_spec (ws := Jvm.Cond.code x code maxLocals ret :: tables_1) hat d (List.mem_cons_of_mem _ hd)
  have hfit : Fit s := fun {y c} hc i hi => by
    obtain ⟨ha, rfl⟩ := Array.getElem?_eq_some_iff.mp hc
    have q := List.all_eq_true.mp ((Array.all_eq_true_iff_forall_mem.mp hF) _ (Array.getElem_mem ha)) i (List.mem_range.mpr hi)
    simpa [Array.getElem?_eq_getElem hi] using q
  obtain ⟨cj1, cj2⟩ := and_e hg
  obtain ⟨cj3, cj4⟩ := and_e cj2
  obtain ⟨cj5, cj6⟩ := and_e hn
  obtain ⟨cj7, cj8⟩ := and_e cj6
  obtain ⟨cj9, cj10⟩ := and_e cj8
  obtain ⟨w0, w1, rfl⟩ : ∃ w0 w1 : Value, args = #[w0, w1] := by
    have hs : args.size = 2 := by simpa [Cond.value, given_1] using cj1
    obtain ⟨L⟩ := args
    match L, hs with
    | [w0, w1], _ => exact ⟨w0, w1, rfl⟩
  obtain ⟨i0, ei0⟩ := is_v cj3
  obtain rfl : w0 = (.int i0) := Option.some.inj ei0
  obtain ⟨i1, ei1⟩ := is_v cj4
  obtain rfl : w1 = (.int i1) := Option.some.inj ei1
  obtain ⟨w_EXCLUSIVE, ev_EXCLUSIVE⟩ := exa_v cj5
  have S_EXCLUSIVE : Sta s s.heap cS0 "EXCLUSIVE" cS4 (.ref w_EXCLUSIVE) := Sta.start ev_EXCLUSIVE (Or.inr ⟨(own_at hw 5 rfl), (own_at hw 6 rfl)⟩)
  have E_w_EXCLUSIVE : Exa s s.heap w_EXCLUSIVE cS0 := Exa.start ev_EXCLUSIVE cj5
  obtain ⟨w_SHARED, ev_SHARED⟩ := exa_v cj7
  have S_SHARED : Sta s s.heap cS0 "SHARED" cS4 (.ref w_SHARED) := Sta.start ev_SHARED (Or.inr ⟨(own_at hw 5 rfl), (own_at hw 8 rfl)⟩)
  have E_w_SHARED : Exa s s.heap w_SHARED cS0 := Exa.start ev_SHARED cj7
  have F_ordinal_w_SHARED : Fld s s.heap w_SHARED "java/lang/Enum" "ordinal" "I" (.int (1 : Int32)) := Fld.start ((fld_at ev_SHARED).symm.trans (own_eq_int cj9))
  have F_ordinal_w_EXCLUSIVE : Fld s s.heap w_EXCLUSIVE "java/lang/Enum" "ordinal" "I" (.int (0 : Int32)) := Fld.start ((fld_at ev_EXCLUSIVE).symm.trans (own_eq_int cj10))
  obtain ⟨n, o, h1, h2, h3, _, L, rfl, ⟨rfl, N, -⟩, hq⟩ := rm0 l s _ hw tables_1 i0 i1 w_EXCLUSIVE w_SHARED s.heap s.heap.size (Nat.le_refl _) S_EXCLUSIVE S_SHARED E_w_EXCLUSIVE E_w_SHARED (Fld.ne F_ordinal_w_SHARED F_ordinal_w_EXCLUSIVE (by decide)) p e ha hc hk s m _ below hf ((Spec.applies_iff_loose hf).mp happ).1 ⟨rfl, State.Warmed39.refl s, rfl⟩ trivial
  refine ⟨n, _, h1, h2, h3, hpost _ _ _ _ _ _ ⟨Cond.after_iff.mpr rfl, Cond.after_iff.mpr (eq_i res_at (Term.int_eval (1)) rfl), trivial⟩ ⟨hq.1, hq.2.1, (hq.2.2.sift fun y hy => Or.inr (N y hy)).mono (by decide) (by decide)⟩⟩
theorem main_1_1 : Claimed_1_1 := comes_1 fun _ _ _ _ _ _ h hF => ⟨h.1, hF⟩
theorem main_1_2 : Claimed_1_2 := comes_1 fun _ _ _ _ _ _ h hF => ⟨h.2.1, hF⟩
end Jvm.Pilot.@@N@@
namespace Jvm.Pilot.@@N@@
open Jvm Jvm.ClassFile Sem Op Lib Jvm.Free Jvm.Stand Jvm.Pilot.@@N@@.Jvm.D
/-! MADE BY PROGRAM (witnessworld.py) out of the Statement's table words and the real class files: 12 classes; the members and pool entries that the words name. The judged class is class 1, her method 2. -/
namespace start1
open Jvm.ClassFile
def u (s : String) : CpInfo := .utf8 (stringToUtf16 s)
/-- a pool by its gaps: so many unusable entries, then the entry; so many at the end -/
def gap : Nat → List CpInfo → List CpInfo
  | 0, r => r
  | n + 1, r => .unusable :: gap n r
def poolList (es : List (Nat × CpInfo)) (last : Nat) : List CpInfo := es.foldr (fun e r => gap e.1 (e.2 :: r)) (gap last [])
def pool (es : List (Nat × CpInfo)) (last : Nat) : Array CpInfo := ⟨poolList es last⟩
def fileOf (pool : Array CpInfo) (this : Nat) (attrs : Array Attribute := #[]) (ms : Array MethodInfo := #[]) (fl : Nat := 33) (sup : Nat := 0) (ifs : Array Nat := #[]) (fds : Array FieldInfo := #[]) : ClassFile where
  minorVersion := 0
  majorVersion := 65
  constantPool := pool
  accessFlags := fl
  thisClass := this
  superClass := sup
  interfaces := ifs
  fields := fds
  methods := ms
  attributes := attrs
def plain (name : String) (sup : Option ClassId) : Class where
  name := name
  kind := .ordinary
  loader := none
  accessFlags := 33
  super := sup
  interfaces := #[]
  cf := none
  fields := #[]
  methods := #[]
  instanceTypes := #[]
  staticTypes := #[]
  resolved := #[]
  callSites := []
  init := .initialized
  statics := none
  mirror := none

def pool0 : Array CpInfo := pool [(5, u "<init>"), (0, u "()V"), (1, .class_ 10), (1, u "java/lang/Object")] 113

def k0m0 : Method := { name := "<init>", desc := "()V", sig := { parameters := [], returnType := none }, accessFlags := 1, code := none }
/-- java/lang/Object -/
def k0 : Class := { plain "java/lang/Object" none with
  accessFlags := 33
  interfaces := #[]
  cf := some (fileOf pool0 8 #[] #[{ accessFlags := 1, nameIndex := 5, descriptorIndex := 6, attributes := #[] }] 33 0 #[] #[])
  fields := #[]
  methods := #[k0m0]
  instanceTypes := #[]
  staticTypes := #[]
  resolved := Array.replicate 124 none
  statics := none }

def pool1 : Array CpInfo := pool [(2, .class_ 4), (1, u "java/lang/Object"), (0, u "<init>"), (0, u "()V"), (0, .fieldref 8 9), (0, .class_ 10), (0, .nameAndType 11 12), (0, u "com/example/strict_lock/strictlock/LockScope"), (0, u "EXCLUSIVE"), (0, u "Lcom/example/strict_lock/strictlock/LockScope;"), (0, .fieldref 8 14), (0, .nameAndType 15 12), (0, u "SHARED"), (0, .methodref 17 18), (0, .class_ 19), (0, .nameAndType 20 21), (0, u "com/example/strict_lock/strictlock/LockScopeConflictsWithPinLaw"), (0, u "pick"), (0, u "(Z)Lcom/example/strict_lock/strictlock/LockScope;"), (0, .methodref 8 23), (0, .nameAndType 24 25), (0, u "conflictsWith"), (0, u "(Lcom/example/strict_lock/strictlock/LockScope;)Z"), (3, u "law"), (0, u "(II)Z")] 2

def k1m0 : Method := { name := "<init>", desc := "()V", sig := { parameters := [], returnType := none }, accessFlags := 2, code := none }
def k1c1 : Code := { maxStack := 1, maxLocals := 1, code := method_2_code, exceptionTable := #[], attributes := #[] }
def k1m1 : Method := { name := "pick", desc := "(Z)Lcom/example/strict_lock/strictlock/LockScope;", sig := { parameters := [.boolean], returnType := some (.object "com/example/strict_lock/strictlock/LockScope") }, accessFlags := 10, code := some k1c1 }
def k1c2 : Code := { maxStack := 2, maxLocals := 10, code := code, exceptionTable := #[], attributes := #[] }
def k1m2 : Method := { name := "law", desc := "(II)Z", sig := { parameters := [.int, .int], returnType := some .boolean }, accessFlags := 9, code := some k1c2 }
/-- com/example/strict_lock/strictlock/LockScopeConflictsWithPinLaw -/
def k1 : Class := { plain "com/example/strict_lock/strictlock/LockScopeConflictsWithPinLaw" (some 0) with
  accessFlags := 49
  interfaces := #[]
  cf := some (fileOf pool1 17 #[] #[{ accessFlags := 2, nameIndex := 5, descriptorIndex := 6, attributes := #[] }, { accessFlags := 10, nameIndex := 20, descriptorIndex := 21, attributes := #[] }, { accessFlags := 9, nameIndex := 29, descriptorIndex := 30, attributes := #[] }] 49 2 #[] #[])
  fields := #[]
  methods := #[k1m0, k1m1, k1m2]
  instanceTypes := #[]
  staticTypes := #[]
  resolved := Array.replicate 33 none
  statics := none }

def pool2 : Array CpInfo := pool [(1, .class_ 2), (0, u "java/lang/constant/Constable"), (0, .class_ 4), (0, u "java/lang/Object")] 6

/-- java/lang/constant/Constable -/
def k2 : Class := { plain "java/lang/constant/Constable" (some 0) with
  accessFlags := 1537
  interfaces := #[]
  cf := some (fileOf pool2 1 #[] #[] 1537 3 #[] #[])
  fields := #[]
  methods := #[]
  instanceTypes := #[]
  staticTypes := #[]
  resolved := Array.replicate 11 none
  statics := none }

def pool3 : Array CpInfo := pool [(1, .class_ 2), (0, u "java/lang/Comparable"), (0, .class_ 4), (0, u "java/lang/Object")] 7

/-- java/lang/Comparable -/
def k3 : Class := { plain "java/lang/Comparable" (some 0) with
  accessFlags := 1537
  interfaces := #[]
  cf := some (fileOf pool3 1 #[] #[] 1537 3 #[] #[])
  fields := #[]
  methods := #[]
  instanceTypes := #[]
  staticTypes := #[]
  resolved := Array.replicate 12 none
  statics := none }

def pool4 : Array CpInfo := pool [(1, .class_ 2), (0, u "java/io/Serializable"), (0, .class_ 4), (0, u "java/lang/Object")] 2

/-- java/io/Serializable -/
def k4 : Class := { plain "java/io/Serializable" (some 0) with
  accessFlags := 1537
  interfaces := #[]
  cf := some (fileOf pool4 1 #[] #[] 1537 3 #[] #[])
  fields := #[]
  methods := #[]
  instanceTypes := #[]
  staticTypes := #[]
  resolved := Array.replicate 7 none
  statics := none }

def pool5 : Array CpInfo := pool [(2, .class_ 4), (1, u "java/lang/Enum"), (0, u "name"), (0, u "Ljava/lang/String;"), (2, u "ordinal"), (0, u "I"), (1, .class_ 14), (1, u "java/lang/Object"), (4, u "hash"), (86, .class_ 108), (1, u "java/lang/Enum$EnumDesc"), (2, .class_ 112), (0, u "java/lang/constant/Constable"), (0, .class_ 114), (0, u "java/lang/Comparable"), (0, .class_ 116), (0, u "java/io/Serializable")] 87

/-- java/lang/Enum -/
def k5 : Class := { plain "java/lang/Enum" (some 0) with
  accessFlags := 1057
  interfaces := #[2, 3, 4]
  cf := some (fileOf pool5 2 #[.nestMembers #[106]] #[] 1057 12 #[111, 113, 115] #[{ accessFlags := 18, nameIndex := 5, descriptorIndex := 6, attributes := #[] }, { accessFlags := 18, nameIndex := 9, descriptorIndex := 10, attributes := #[] }, { accessFlags := 2, nameIndex := 19, descriptorIndex := 10, attributes := #[] }])
  fields := #[{ name := "name", type := (.object "java/lang/String"), accessFlags := 18, slot := 0, constantValue := 0 }, { name := "ordinal", type := .int, accessFlags := 18, slot := 1, constantValue := 0 }, { name := "hash", type := .int, accessFlags := 2, slot := 2, constantValue := 0 }]
  methods := #[]
  instanceTypes := #[(.object "java/lang/String"), .int, .int]
  staticTypes := #[]
  resolved := Array.replicate 204 none
  statics := none }

def pool6 : Array CpInfo := pool [(1, .class_ 2), (0, u "com/example/strict_lock/strictlock/LockScope"), (0, .fieldref 1 4), (0, .nameAndType 5 6), (0, u "EXCLUSIVE"), (0, u "Lcom/example/strict_lock/strictlock/LockScope;"), (2, u "SHARED"), (2, u "$VALUES"), (0, u "[Lcom/example/strict_lock/strictlock/LockScope;"), (6, .class_ 22), (1, u "java/lang/Enum"), (8, u "elementName"), (0, u "Ljava/lang/String;"), (21, u "conflictsWith"), (0, u "(Lcom/example/strict_lock/strictlock/LockScope;)Z")] 6

def k6c0 : Code := { maxStack := 2, maxLocals := 2, code := prog_20_method_5_code, exceptionTable := #[], attributes := #[] }
def k6m0 : Method := { name := "conflictsWith", desc := "(Lcom/example/strict_lock/strictlock/LockScope;)Z", sig := { parameters := [(.object "com/example/strict_lock/strictlock/LockScope")], returnType := some .boolean }, accessFlags := 0, code := some k6c0 }
/-- com/example/strict_lock/strictlock/LockScope -/
def k6 : Class := { plain "com/example/strict_lock/strictlock/LockScope" (some 5) with
  accessFlags := 16432
  interfaces := #[]
  cf := some (fileOf pool6 1 #[] #[{ accessFlags := 0, nameIndex := 54, descriptorIndex := 55, attributes := #[] }] 16432 20 #[] #[{ accessFlags := 16409, nameIndex := 5, descriptorIndex := 6, attributes := #[] }, { accessFlags := 16409, nameIndex := 9, descriptorIndex := 6, attributes := #[] }, { accessFlags := 18, nameIndex := 31, descriptorIndex := 32, attributes := #[] }, { accessFlags := 4122, nameIndex := 12, descriptorIndex := 13, attributes := #[] }])
  fields := #[{ name := "EXCLUSIVE", type := (.object "com/example/strict_lock/strictlock/LockScope"), accessFlags := 16409, slot := 0, constantValue := 0 }, { name := "SHARED", type := (.object "com/example/strict_lock/strictlock/LockScope"), accessFlags := 16409, slot := 1, constantValue := 0 }, { name := "elementName", type := (.object "java/lang/String"), accessFlags := 18, slot := 3, constantValue := 0 }, { name := "$VALUES", type := (.array (.object "com/example/strict_lock/strictlock/LockScope")), accessFlags := 4122, slot := 2, constantValue := 0 }]
  methods := #[k6m0]
  instanceTypes := #[(.object "java/lang/String"), .int, .int, (.object "java/lang/String")]
  staticTypes := #[(.object "com/example/strict_lock/strictlock/LockScope"), (.object "com/example/strict_lock/strictlock/LockScope"), (.array (.object "com/example/strict_lock/strictlock/LockScope"))]
  resolved := Array.replicate 62 none
  statics := some 0 }

def pool7 : Array CpInfo := pool [(1, u "java/lang/Cloneable"), (0, .class_ 1), (0, u "java/lang/Object"), (0, .class_ 3)] 3

/-- java/lang/Cloneable -/
def k7 : Class := { plain "java/lang/Cloneable" (some 0) with
  accessFlags := 1537
  interfaces := #[]
  cf := some (fileOf pool7 2 #[] #[] 1537 4 #[] #[])
  fields := #[]
  methods := #[]
  instanceTypes := #[]
  staticTypes := #[]
  resolved := Array.replicate 8 none
  statics := none }

/-- the primitive byte -/
def k8 : Class := { plain "byte" none with kind := .primitive 'B', accessFlags := 0x411 }
/-- [B -/
def k9 : Class := { plain "[B" (some 0) with kind := .array 8 .byte, interfaces := #[7, 4], accessFlags := 1041 }

/-- the primitive int -/
def k10 : Class := { plain "int" none with kind := .primitive 'I', accessFlags := 0x411 }
/-- [I -/
def k11 : Class := { plain "[I" (some 0) with kind := .array 10 .int, interfaces := #[7, 4], accessFlags := 1041 }

def heap : Heap := #[{ cls := 6, slots := #[.ref 1, .ref 2, .null], vm := .statics 6 },
  { cls := 6, slots := #[.null, .int 0, .int 0, .null], vm := .none },
  { cls := 6, slots := #[.null, .int 1, .int 0, .null], vm := .none }]
def classes : Array Class := #[k0, k1, k2, k3, k4, k5, k6, k7, k8, k9, k10, k11]
def interned : List (Array UInt16 × Addr) := []
def slotsUsed : Nat := 11
def theMethod : MethodId := ⟨1, 2⟩
def args0 : Array Value := #[.int 5, .int 6]
def aboutOver (below : List Frame) : State where
  vm := { classes := classes, interned := interned.toArray }
  heap := heap
  slotsUsed := slotsUsed
  threads := #[{ frames := .invoking theMethod args0 :: below }]
def below0 : List Frame := [.native { method := ⟨0, 0⟩, args := #[] }]
def about1 : State := aboutOver below0
def p0 : Program := .bare "" "" ""
def e0 : Env := launch0.env 0 0 0
theorem w_frames : about1.frames = Frame.invoking theMethod args0 :: below0 := rfl
set_option maxRecDepth 65536 in
theorem w_args : argsFit about1.vm theMethod args0 = true := by decide +kernel
set_option maxRecDepth 65536 in
theorem w_heap : heapFits about1 = true := by decide +kernel
set_option maxRecDepth 65536 in
theorem w_runnable : about1.curStatus? = some .runnable := by decide +kernel
set_option maxRecDepth 65536 in
theorem w_alone : about1.alone = true := by decide +kernel
set_option maxRecDepth 65536 in
theorem w_named : about1.methodNamed? x = some theMethod := by decide +kernel
set_option maxRecDepth 65536 in
theorem w_hears : about1.hears theMethod below0 = true := by decide +kernel
set_option maxRecDepth 65536 in
theorem w_ripe : about1.ripe theMethod args0 below0 = true := by decide +kernel
theorem w_running : about1.status = .running := rfl
set_option maxRecDepth 65536 in
theorem w_room : about1.hasRoom e0.platform room_1 = true :=
  launch0.hasRoom_least _ room_1 (by decide +kernel) (by decide +kernel) (by decide +kernel) (by decide +kernel) (by decide +kernel) (by decide +kernel)
theorem allAtoms_all (ts : List Jvm.Cond) (a : Array Jvm.Value) (st : Jvm.State) : (allAtoms ts).before a st = ts.all (fun c => c.before a st) := by
  induction ts with
  | nil => rfl
  | cons c t ih =>
    show (Jvm.Cond.and c (allAtoms t)).before a st = _
    rw [Jvm.Cond.before_and, ih, List.all_cons]
def words1 : List Jvm.Cond := Jvm.Cond.code x code maxLocals ret :: tables_1
/-- a 'code' word, met by the world's own term for the bytes: nothing is compared byte by byte -/
theorem code_word {y : MethodName} {bytes : ByteArray} {mx : Nat} {rt : Option FieldType} {a : Array Value} {s : State} {m : MethodId} {meth : Method} {c : Code} (h1 : s.methodNamed? y = some m) (h2 : s.vm.method? m = some meth) (h3 : meth.code = some c) (h4 : c.code = bytes)
    (h5 : (c.maxLocals == mx && c.exceptionTable.isEmpty && decide (c.maxStack ≤ mostOperands) && decide (meth.sig.returnType = rt) && !meth.locks && decide (parseMethodDescriptor y.desc = some meth.sig)) = true) : (Jvm.Cond.code y bytes mx rt).before a s = true := by
  simp only [Bool.and_eq_true, beq_iff_eq, Bool.not_eq_true', decide_eq_true_eq] at h5
  obtain ⟨⟨⟨⟨⟨g1, g2⟩, g3⟩, g4⟩, g5⟩, g6⟩ := h5
  simp [Cond.before, Cond.holds, Cond.value, h1, h2, h3, h4, g1, g2, g3, g4, g5, g6]
def isCode : Jvm.Cond → Bool
  | .code _ _ _ _ => true
  | _ => false
theorem all_split {L : List Jvm.Cond} {P : Jvm.Cond → Bool} (h1 : L.all (fun c => isCode c || P c) = true) (h2 : ∀ c ∈ L.filter isCode, P c = true) : L.all P = true := by
  refine List.all_eq_true.mpr fun c hc => ?_
  have h := List.all_eq_true.mp h1 c hc
  rcases Bool.eq_false_or_eq_true (isCode c) with hi | hi
  · exact h2 c (List.mem_filter.mpr ⟨hc, hi⟩)
  · simpa [hi] using h
set_option maxRecDepth 65536 in
theorem w_c0 : (Jvm.Cond.code x code maxLocals ret).before args0 about1 = true := code_word (m := ⟨1, 2⟩) (meth := k1m2) (c := k1c2) (by decide +kernel) rfl rfl rfl (by decide +kernel)
set_option maxRecDepth 65536 in
theorem w_c1 : (Jvm.Cond.code ({ cls := "com/example/strict_lock/strictlock/LockScopeConflictsWithPinLaw", name := "pick", desc := "(Z)Lcom/example/strict_lock/strictlock/LockScope;" } : Jvm.MethodName) method_2_code (1 : Nat) (Option.some (Jvm.ClassFile.FieldType.object "com/example/strict_lock/strictlock/LockScope"))).before args0 about1 = true := code_word (m := ⟨1, 1⟩) (meth := k1m1) (c := k1c1) (by decide +kernel) rfl rfl rfl (by decide +kernel)
set_option maxRecDepth 65536 in
theorem w_c2 : (Jvm.Cond.code ({ cls := "com/example/strict_lock/strictlock/LockScope", name := "conflictsWith", desc := "(Lcom/example/strict_lock/strictlock/LockScope;)Z" } : Jvm.MethodName) prog_20_method_5_code (2 : Nat) (Option.some Jvm.ClassFile.FieldType.boolean)).before args0 about1 = true := code_word (m := ⟨6, 0⟩) (meth := k6m0) (c := k6c0) (by decide +kernel) rfl rfl rfl (by decide +kernel)
def codes1 : List Jvm.Cond := [Jvm.Cond.code x code maxLocals ret, Jvm.Cond.code ({ cls := "com/example/strict_lock/strictlock/LockScopeConflictsWithPinLaw", name := "pick", desc := "(Z)Lcom/example/strict_lock/strictlock/LockScope;" } : Jvm.MethodName) method_2_code (1 : Nat) (Option.some (Jvm.ClassFile.FieldType.object "com/example/strict_lock/strictlock/LockScope")), Jvm.Cond.code ({ cls := "com/example/strict_lock/strictlock/LockScope", name := "conflictsWith", desc := "(Lcom/example/strict_lock/strictlock/LockScope;)Z" } : Jvm.MethodName) prog_20_method_5_code (2 : Nat) (Option.some Jvm.ClassFile.FieldType.boolean)]
set_option maxRecDepth 65536 in
theorem codes_eq : words1.filter isCode = codes1 := rfl
theorem w_codes : ∀ c ∈ words1.filter isCode, c.before args0 about1 = true := by
  rw [codes_eq]
  intro c hc
  simp only [codes1, List.mem_cons, List.not_mem_nil, or_false] at hc
  rcases hc with rfl | rfl | rfl
  · exact w_c0
  · exact w_c1
  · exact w_c2
set_option maxRecDepth 65536 in
theorem w_t1 : words1.all (fun c => isCode c || c.before args0 about1) = true := by decide +kernel
theorem w_tables : (allAtoms (Jvm.Cond.code x code maxLocals ret :: tables_1)).before args0 about1 = true := by
  rw [allAtoms_all]
  show words1.all (fun c => c.before args0 about1) = true
  refine all_split ?_ w_codes
  rw [w_t1]
set_option maxRecDepth 65536 in
theorem w_case : (Jvm.Cond.and given_1 narrow_1).before args0 about1 = true := by decide +kernel
theorem w_applies : (headSpec (Jvm.Cond.code x code maxLocals ret :: tables_1) room_1).applies x e0.platform about1 = true :=
  (Spec.applies_iff w_frames).mpr ⟨w_running, w_runnable, w_alone, w_named, w_hears, w_ripe, w_room, w_tables⟩
theorem atStart : AtStart classFile x code maxLocals ret World_1 tables_1 room_1 Calls_1 rest_1 Pre_1 launch0 p0 e0 about1 theMethod args0 below0 :=
  ⟨lists_1, trivial, launch0.admits_env _ _ _, launch0.least_env, fairChoices_fair.cas, fairChoices_fair.clock, w_frames, w_args, w_heap, w_applies, trivial, trivial, w_case⟩
end start1
theorem witness_1 : WitnessClaimed_1 := ⟨start1.p0, start1.e0, start1.about1, start1.theMethod, start1.args0, start1.below0, start1.atStart⟩
end Jvm.Pilot.@@N@@
