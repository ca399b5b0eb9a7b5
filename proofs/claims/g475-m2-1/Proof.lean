import JvmDerived
import JvmDerived.Pilot.@@N@@Statement
import JvmDerived.Pilot.@@N@@Code
set_option linter.unusedVariables false
set_option linter.unusedSimpArgs false
namespace Jvm.RoadKit
open Sem ClassFile Op Lib Jvm.Stand Jvm.Free Jvm.LawKit
section New
variable {p : Program} {l : Launch} {e : Env} {R : Room} {s : State} {m : MethodId} {args : Array Value} {below : List Frame} {meth : Method} {c : Code} {T : State} {locs : List Loc} {cells slots : Nat}
theorem retI (X : Stand p l e R s m args below meth c T locs cells slots) (hx : p.tables.exec = Jvm.exec) {pc : Nat} {Ls : Array Slot} {z : Int32} {rest : List Value} (hret : meth.sig.returnType = some .int) (hd : decode c.code pc = .ok (.ireturn, 1)) {fs : List Frame}
    (hl : ∀ (f : JFrame) (acts : List Action), f.method = m → f.locked = none → f.entered = [] → (doReturn e (T.setTop f) acts (some (.int z))).1 = T.setFrames fs) : Steps p.tables e below (T.setTop (mkF m pc Ls (.int z :: rest))) (T.setFrames fs) := by
  have hm' : T.vm.method? m = some meth := X.method'
  have hn : narrow .int (.int z) = .int z := rfl
  show Steps p.tables e below (T.setTop { method := m, pc := pc, locals := Ls, stack := _ :: rest, locked := none }) _
  jvm_step X.here [X.here.top, hx, hd, hm', hret, hn]
  first | (intro acts; rw [hl _ acts rfl rfl rfl]) | rw [hl _ _ rfl rfl rfl]
  exact Steps.refl _
end New
end Jvm.RoadKit
namespace Jvm.Pilot.@@N@@
open Jvm Jvm.ClassFile Sem Op Lib Jvm.Free Jvm.Stand Jvm.LawKit Jvm.RoadKit Bundle Jvm.Pilot.@@N@@.Jvm.D
abbrev OwnS (p : Program) (e : Env) (below : List Frame) (T : State) (g : JFrame) (t : State) : Prop := Steps p.tables e below (T.setTop g) t
theorem own_selpriv {s : State} {args : Array Value} {y : MethodName} {n : Nat} (hy : y.cls ≠ "java/lang/invoke/MethodHandle" ∧ y.cls ≠ "java/lang/invoke/VarHandle") (hins : (Jvm.Cond.instantiable y.cls n).before args s = true) (hp : (Jvm.Cond.privateMethod y).before args s = true) (hi : (Jvm.Cond.instanceMethod y).before args s = true) : (Jvm.Cond.selects y.cls y y).before args s = true := by
  obtain ⟨c, k, hc, hk, -, hniab, -⟩ := Cond.instantiable_spec hins
  exact selects_self_of_private hc hk (Bool.or_eq_false_iff.mp hniab).1 (Cond.privateMethod_at hp) hi hy
theorem own_irr (x : Int32) : ¬ (x < x) := by rw [Int32.lt_iff_toInt_lt]; omega
theorem own_asymm {x y : Int32} (h : x < y) : ¬ (y < x) := by rw [Int32.lt_iff_toInt_lt] at *; omega
theorem own_ne {x y : Int32} (h : x < y) : ¬ (x = y) := fun q => own_irr x (by rw [← q] at h; exact h)
theorem own_ne' {x y : Int32} (h : x < y) : ¬ (y = x) := fun q => own_irr x (by rw [q] at h; exact h)
theorem own_tri (x y : Int32) : x < y ∨ x = y ∨ y < x := by
  rw [Int32.lt_iff_toInt_lt, Int32.lt_iff_toInt_lt, ← Int32.toInt_inj]; omega
theorem own_ns {Z : State} {h : Heap} {a : Addr} {C : String} (F : Exa Z h a C) : ∃ cell : Cell, h[a]? = some cell ∧ cell.vm.isStatics = false := by
  obtain ⟨cell, k, h1, -, -, h4, -⟩ := F; exact ⟨cell, h1, h4⟩
theorem own_sta_keep {Z : State} {h h' : Heap} {ws : List Addr} {C n d : String} {v : Value} (F : Sta Z h C n d v) (K : Keep h h' ws) (q : ∀ x ∈ ws, ∃ cell : Cell, h[x]? = some cell ∧ cell.vm.isStatics = false) : Sta Z h' C n d v := by
  obtain ⟨cf, i, k, f, st, cell, h1, h2, h3, h4, h5, h6, h7⟩ := F
  refine ⟨cf, i, k, f, st, cell, h1, h2, h3, h4, K.2.1 st cell h5 fun r => ?_, h6, h7⟩
  obtain ⟨c2, g1, g2⟩ := q st r
  cases h5.symm.trans g1
  rw [g2] at h6; cases h6
theorem own_eq_int {args : Array Value} {first s : State} {o : Option Outcome} {idx : List Nat} {t : Term} {k : Int32} (h : (Jvm.Cond.eq t (.int k)).value args first o s idx = some true) : t.eval args first o idx s = some (.int k) := by
  simp only [Cond.value, Term.eval] at h
  cases ht : t.eval args first o idx s with
  | none => simp [ht] at h
  | some x => cases x <;> simp [ht] at h ⊢; exact h
abbrev cS0 : String := "com/example/riskgate/riskgate/xacml/Effect"
abbrev cS1 : String := "()Lcom/example/riskgate/riskgate/xacml/Effect;"
theorem own_at {Z : State} {a0 : Array Value} (hw : ∀ d ∈ tables_1, d.before a0 Z = true) (i : Nat) {d : Jvm.Cond} (h : tables_1[i]? = some d) : d.before a0 Z = true := hw _ (List.mem_of_getElem? h)
theorem d1_0 : decode prog_31_method_4_code 0 = .ok (.aload_n 0, 1) := by decide +kernel
theorem d1_1 : decode prog_31_method_4_code 1 = .ok (.getstatic 3, 3) := by decide +kernel
theorem d1_4 : decode prog_31_method_4_code 4 = .ok (.if_acmp .ne 9, 3) := by decide +kernel
theorem d1_7 : decode prog_31_method_4_code 7 = .ok (.getstatic 7, 3) := by decide +kernel
theorem d1_10 : decode prog_31_method_4_code 10 = .ok (.goto 6, 3) := by decide +kernel
theorem d1_16 : decode prog_31_method_4_code 16 = .ok (.areturn, 1) := by decide +kernel
theorem pn_com_example_riskgate_riskgate_xacml_Effect : plainName cS0 = true := by first | (simp [plainName, overriddenIn]; done) | decide +kernel
theorem ef_1 (m : MethodId) (x0 : Addr) : entryFrame m #[(.ref x0)] 1 = mkF m 0 #[.val (.ref x0)] [] := by first | (simp [entryFrame, mkF, argsToLocals, Value.category]; done) | rfl
def Q_1_p (Z : State) (w_PERMIT : Addr) (w_DENY : Addr) (h0 : Heap) (n0 : Nat) (v : Option Value) (h : Heap) (L : List Loc) : Prop := v = some (.ref w_DENY) ∧ Fr n0 L ∧ h = h0
set_option maxRecDepth 65536 in
set_option maxHeartbeats 40000000 in
theorem rm1_p (l : Launch) (Z : State) (a0 : Array Value) (hw : ∀ d ∈ tables_1, d.before a0 Z = true) (ws : List Jvm.Cond) (w_PERMIT : Addr) (w_DENY : Addr) (h0 : Heap) (n0 : Nat) (Z0 : n0 ≤ h0.size) (S_PERMIT : Sta Z h0 cS0 "PERMIT" "Lcom/example/riskgate/riskgate/xacml/Effect;" (.ref w_PERMIT)) (S_DENY : Sta Z h0 cS0 "DENY" "Lcom/example/riskgate/riskgate/xacml/Effect;" (.ref w_DENY)) :
    MetFree l (⟨cS0, "opposite", cS1⟩ : MethodName) (head1 (Jvm.Cond.code (⟨cS0, "opposite", cS1⟩ : MethodName) prog_31_method_4_code 1 (some (.object cS0)) :: ws) ({ frames := 0, cells := 0, slots := 0, locals := 0 } : Room)) (fun a U => a = #[(.ref w_PERMIT)] ∧ Z.Warmed39 U.vm ∧ U.heap = h0) (fun _ _ _ _ _ => True) (fun _ U o U' => ∃ v L, o = .returned v ∧ Q_1_p Z w_PERMIT w_DENY h0 n0 v U'.heap L ∧ FrameEnd U o U' L ({ frames := 0, cells := 0, slots := 0, locals := 0 } : Room).cells ({ frames := 0, cells := 0, slots := 0, locals := 0 } : Room).slots) := by
  refine MetFree.of_bodySF (plainFor_of_name pn_com_example_riskgate_riskgate_xacml_Effect) hisR ?_
  intro p e s m args below meth c s₁ Bd hml0 hP hK
  obtain ⟨rfl, hZ, hh⟩ := hP
  have hx := Bd.exec
  have hby := Bd.bytes
  have hml : c.maxLocals = 1 := hml0
  have hown : s.vm.findClass cS0 = some m.cls := findClass_of_methodNamed Bd.named
  have hnm := (name_of_methodNamed Bd.named Bd.method).1
  have X0 : Stand p l e ({ frames := 0, cells := 0, slots := 0, locals := 0 } : Room) s m #[(.ref w_PERMIT)] below meth c s₁ [] 0 0 := Stand.of_body Bd
  have e0 : s₁.heap = h0 := by rw [← hh, Bd.state]; rfl
  have N0 := Fr.nil n0
  have k0 : ∀ t, OwnS p e below s₁ (mkF m 0 #[rv w_PERMIT] []) t → OwnS p e below s₁ (entryFrame m #[(.ref w_PERMIT)] 1) t := fun t k => castTop (ef_1 m w_PERMIT) k
  obtain ⟨T1, X1, e1, st1⟩ := getS2 X0 hx hZ hown (host := "") (Or.inl (own_at hw 8 rfl)) Via.refl e0 S_PERMIT (g := (mkF m 1 #[rv w_PERMIT] [(.ref w_PERMIT)])) rfl (hb hby d1_1)
  obtain ⟨T2, X2, e2, st2⟩ := getS2 X1 hx hZ hown (host := "") (Or.inl (own_at hw 10 rfl)) Via.refl e1 S_DENY (g := (mkF m 7 #[rv w_PERMIT] [])) rfl (hb hby d1_7)
  obtain ⟨fs, hr, hrun, hended, hW, hsame⟩ := X2.leave (v := some (.ref w_DENY)) (fun h => by rw [Bd.returns] at h; cases h)
  refine ⟨_, _, k0 _ ?_, hrun, hended, _, _, rfl, ?_, ⟨_, rfl⟩, hW, hsame.mono (by decide) (by decide)⟩
  · show OwnS p e below s₁ (mkF m 0 #[rv w_PERMIT] []) _
    refine XS.aloadN X0.here hx rfl (hb hby d1_0) rfl rfl ?_
    show OwnS p e below s₁ (mkF m 1 #[rv w_PERMIT] [(.ref w_PERMIT)]) _
    refine st1 _ ?_
    show OwnS p e below T1 (mkF m 4 #[rv w_PERMIT] [(.ref w_PERMIT), (.ref w_PERMIT)]) _
    refine Jvm.RoadKit.acmp (g := (mkF m 4 #[rv w_PERMIT] [(.ref w_PERMIT), (.ref w_PERMIT)])) X1 hx rfl rfl rfl (pc0 := 4) (pc' := 7) (same := true) rfl (hb hby d1_4) rfl (decide_eq_true rfl) (by decide) (by decide) ?_
    show OwnS p e below T1 (mkF m 7 #[rv w_PERMIT] []) _
    refine st2 _ ?_
    show OwnS p e below T2 (mkF m 10 #[rv w_PERMIT] [(.ref w_DENY)]) _
    refine XS.goto X2.here hx rfl (pc0 := 10) (pc' := 16) rfl (hb hby d1_10) (by decide) (by decide) ?_
    show OwnS p e below T2 (mkF m 16 #[rv w_PERMIT] [(.ref w_DENY)]) _
    jvm_step X2.here [X2.here.top, hx, (hb hby d1_16), X2.method', Bd.returns, Value.isRef, FieldType.isReference]
    first | (intro acts; rw [hr _ acts rfl rfl rfl]) | rw [hr _ _ rfl rfl rfl]
    exact Steps.refl _
  · show Q_1_p Z w_PERMIT w_DENY h0 n0 _ T2.heap _
    rw [e2]
    exact ⟨rfl, N0, rfl⟩
theorem d1_13 : decode prog_31_method_4_code 13 = .ok (.getstatic 3, 3) := by decide +kernel
def Q_1_o (Z : State) (r0 : Addr) (w_PERMIT : Addr) (h0 : Heap) (n0 : Nat) (v : Option Value) (h : Heap) (L : List Loc) : Prop := v = some (.ref w_PERMIT) ∧ Fr n0 L ∧ h = h0
set_option maxRecDepth 65536 in
set_option maxHeartbeats 40000000 in
theorem rm1_o (l : Launch) (Z : State) (a0 : Array Value) (hw : ∀ d ∈ tables_1, d.before a0 Z = true) (ws : List Jvm.Cond) (r0 : Addr) (w_PERMIT : Addr) (h0 : Heap) (n0 : Nat) (Z0 : n0 ≤ h0.size) (S_PERMIT : Sta Z h0 cS0 "PERMIT" "Lcom/example/riskgate/riskgate/xacml/Effect;" (.ref w_PERMIT)) (ha4 : ¬ (r0 = w_PERMIT)) :
    MetFree l (⟨cS0, "opposite", cS1⟩ : MethodName) (head1 (Jvm.Cond.code (⟨cS0, "opposite", cS1⟩ : MethodName) prog_31_method_4_code 1 (some (.object cS0)) :: ws) ({ frames := 0, cells := 0, slots := 0, locals := 0 } : Room)) (fun a U => a = #[(.ref r0)] ∧ Z.Warmed39 U.vm ∧ U.heap = h0) (fun _ _ _ _ _ => True) (fun _ U o U' => ∃ v L, o = .returned v ∧ Q_1_o Z r0 w_PERMIT h0 n0 v U'.heap L ∧ FrameEnd U o U' L ({ frames := 0, cells := 0, slots := 0, locals := 0 } : Room).cells ({ frames := 0, cells := 0, slots := 0, locals := 0 } : Room).slots) := by
  refine MetFree.of_bodySF (plainFor_of_name pn_com_example_riskgate_riskgate_xacml_Effect) hisR ?_
  intro p e s m args below meth c s₁ Bd hml0 hP hK
  obtain ⟨rfl, hZ, hh⟩ := hP
  have hx := Bd.exec
  have hby := Bd.bytes
  have hml : c.maxLocals = 1 := hml0
  have hown : s.vm.findClass cS0 = some m.cls := findClass_of_methodNamed Bd.named
  have hnm := (name_of_methodNamed Bd.named Bd.method).1
  have X0 : Stand p l e ({ frames := 0, cells := 0, slots := 0, locals := 0 } : Room) s m #[(.ref r0)] below meth c s₁ [] 0 0 := Stand.of_body Bd
  have e0 : s₁.heap = h0 := by rw [← hh, Bd.state]; rfl
  have N0 := Fr.nil n0
  have k0 : ∀ t, OwnS p e below s₁ (mkF m 0 #[rv r0] []) t → OwnS p e below s₁ (entryFrame m #[(.ref r0)] 1) t := fun t k => castTop (ef_1 m r0) k
  obtain ⟨T1, X1, e1, st1⟩ := getS2 X0 hx hZ hown (host := "") (Or.inl (own_at hw 8 rfl)) Via.refl e0 S_PERMIT (g := (mkF m 1 #[rv r0] [(.ref r0)])) rfl (hb hby d1_1)
  obtain ⟨T2, X2, e2, st2⟩ := getS2 X1 hx hZ hown (host := "") (Or.inl (own_at hw 8 rfl)) Via.refl e1 S_PERMIT (g := (mkF m 13 #[rv r0] [])) rfl (hb hby d1_13)
  obtain ⟨fs, hr, hrun, hended, hW, hsame⟩ := X2.leave (v := some (.ref w_PERMIT)) (fun h => by rw [Bd.returns] at h; cases h)
  refine ⟨_, _, k0 _ ?_, hrun, hended, _, _, rfl, ?_, ⟨_, rfl⟩, hW, hsame.mono (by decide) (by decide)⟩
  · show OwnS p e below s₁ (mkF m 0 #[rv r0] []) _
    refine XS.aloadN X0.here hx rfl (hb hby d1_0) rfl rfl ?_
    show OwnS p e below s₁ (mkF m 1 #[rv r0] [(.ref r0)]) _
    refine st1 _ ?_
    show OwnS p e below T1 (mkF m 4 #[rv r0] [(.ref w_PERMIT), (.ref r0)]) _
    refine Jvm.RoadKit.acmp (g := (mkF m 4 #[rv r0] [(.ref w_PERMIT), (.ref r0)])) X1 hx rfl rfl rfl (pc0 := 4) (pc' := 13) (same := false) rfl (hb hby d1_4) rfl (decide_eq_false fun q => ha4 (Value.ref.inj q)) (by decide) (by decide) ?_
    show OwnS p e below T1 (mkF m 13 #[rv r0] []) _
    refine st2 _ ?_
    show OwnS p e below T2 (mkF m 16 #[rv r0] [(.ref w_PERMIT)]) _
    jvm_step X2.here [X2.here.top, hx, (hb hby d1_16), X2.method', Bd.returns, Value.isRef, FieldType.isReference]
    first | (intro acts; rw [hr _ acts rfl rfl rfl]) | rw [hr _ _ rfl rfl rfl]
    exact Steps.refl _
  · show Q_1_o Z r0 w_PERMIT h0 n0 _ T2.heap _
    rw [e2]
    exact ⟨rfl, N0, rfl⟩
theorem pd_0 : parseMethodDescriptor cS1 = some ⟨[], some (.object cS0)⟩ := by decide +kernel
theorem pn_com_example_riskgate_riskgate_xacml_EffectOppositePinLaw : plainName "com/example/riskgate/riskgate/xacml/EffectOppositePinLaw" = true := by first | (simp [plainName, overriddenIn]; done) | decide +kernel
theorem ef_0 (m : MethodId) (x0 : Int32) : entryFrame m #[(.int x0)] maxLocals = mkF m 0 #[.val (.int x0), .unset, .unset, .unset, .unset] [] := by first | (simp [entryFrame, mkF, argsToLocals, Value.category, maxLocals]; done) | rfl
def Q_0 (Z : State) (p0 : Int32) (w_PERMIT : Addr) (w_DENY : Addr) (h0 : Heap) (n0 : Nat) (v : Option Value) (h : Heap) (L : List Loc) : Prop := v = some (.int 1) ∧ Fr n0 L ∧ True
set_option maxRecDepth 65536 in
set_option maxHeartbeats 40000000 in
theorem rm0 (l : Launch) (Z : State) (a0 : Array Value) (hw : ∀ d ∈ tables_1, d.before a0 Z = true) (ws : List Jvm.Cond) (p0 : Int32) (w_PERMIT : Addr) (w_DENY : Addr) (h0 : Heap) (n0 : Nat) (Z0 : n0 ≤ h0.size) (S_PERMIT : Sta Z h0 cS0 "PERMIT" "Lcom/example/riskgate/riskgate/xacml/Effect;" (.ref w_PERMIT)) (S_DENY : Sta Z h0 cS0 "DENY" "Lcom/example/riskgate/riskgate/xacml/Effect;" (.ref w_DENY)) (E_w_PERMIT : Exa Z h0 w_PERMIT cS0) (E_w_DENY : Exa Z h0 w_DENY cS0) (ne : ¬ (w_PERMIT = w_DENY)) :
    MetFree l x (head1 (Jvm.Cond.code x code maxLocals ret :: ws) room_1) (fun a U => a = #[(.int p0)] ∧ Z.Warmed39 U.vm ∧ U.heap = h0) (fun _ _ _ _ _ => True) (fun _ U o U' => ∃ v L, o = .returned v ∧ Q_0 Z p0 w_PERMIT w_DENY h0 n0 v U'.heap L ∧ FrameEnd U o U' L room_1.cells room_1.slots) := by
  refine MetFree.of_bodySF (plainFor_of_name pn_com_example_riskgate_riskgate_xacml_EffectOppositePinLaw) hisR ?_
  intro p e s m args below meth c s₁ Bd hml0 hP hK
  obtain ⟨rfl, hZ, hh⟩ := hP
  have hx := Bd.exec
  have hby := Bd.bytes
  have hml : c.maxLocals = 5 := hml0
  have hown : s.vm.findClass "com/example/riskgate/riskgate/xacml/EffectOppositePinLaw" = some m.cls := findClass_of_methodNamed Bd.named
  have hnm := (name_of_methodNamed Bd.named Bd.method).1
  have X0 : Stand p l e room_1 s m #[(.int p0)] below meth c s₁ [] 0 0 := Stand.of_body Bd
  have e0 : s₁.heap = h0 := by rw [← hh, Bd.state]; rfl
  have N0 := Fr.nil n0
  have k0 : ∀ t, OwnS p e below s₁ (mkF m 0 #[iv p0, .unset, .unset, .unset, .unset] []) t → OwnS p e below s₁ (entryFrame m #[(.int p0)] maxLocals) t := fun t k => castTop (ef_0 m p0) k
  have k2 : ∀ t, OwnS p e below s₁ (mkF m 3 #[iv p0, .unset, .unset, .unset, .unset] [(.int (p0 &&& (1 : Int32)))]) t → OwnS p e below s₁ (entryFrame m #[(.int p0)] maxLocals) t := fun t q => by
    refine k0 t ?_
    show OwnS p e below s₁ (mkF m 0 #[iv p0, .unset, .unset, .unset, .unset] []) _
    refine XS.iloadN X0.here hx rfl (hb hby at_0) rfl ?_
    show OwnS p e below s₁ (mkF m 1 #[iv p0, .unset, .unset, .unset, .unset] [(.int p0)]) _
    refine XS.iconst X0.here hx rfl (hb hby at_1) ?_
    show OwnS p e below s₁ (mkF m 2 #[iv p0, .unset, .unset, .unset, .unset] [(.int 1), (.int p0)]) _
    refine XS.iand X0.here hx rfl (hb hby at_2) rfl ?_
    exact q
  by_cases hc3_1 : (p0 &&& (1 : Int32)) = (0 : Int32)
  · obtain ⟨T3, X3, e3, st3⟩ := getS2 X0 hx hZ hown (host := "") (Or.inl (own_at hw 0 rfl)) Via.refl e0 S_DENY (g := (mkF m 22 #[iv p0, iv 0, .unset, .unset, .unset] [])) rfl (hb hby at_22)
    obtain ⟨cq4, kq4, q4a, q4b, q4c⟩ := isOf hZ e3 E_w_DENY
    obtain ⟨_, _, ⟨T4, L4, j4, i4⟩, -, X4, ⟨Lc4, hQ4, l4, y4, z4⟩, st4⟩ := X3.virtualBack hx (y := (⟨cS0, "opposite", cS1⟩ : MethodName)) (z := (⟨cS0, "opposite", cS1⟩ : MethodName)) hown (mvT hZ (own_at hw 3 rfl)) (mvT hZ (own_at hw 4 rfl)) (notFace_of_selects (args := #[]) (mvT hZ (own_at hw 6 rfl))) (mvT hZ (own_at hw 6 rfl)) (mvT hZ (own_at hw 5 rfl)) (by decide) (backOf (W := 0) (rm1_o l Z a0 hw [] w_DENY w_PERMIT h0 n0 Z0 S_PERMIT (fun q => ne q.symm)) hZ (own_at hw 7 rfl) (own_at hw 1 rfl) (by decide) (by decide)) q4a q4c (g := (mkF m 27 #[iv p0, iv 0, rv w_DENY, .unset, .unset] [(.ref w_DENY)])) rfl (by rw [hml]; rfl) (Steps.refl _) (argsL := []) (rest := []) (lenOf pd_0 rfl) rfl (by show 2 * 0 + _ ≤ _; exact Nat.le_of_eq rfl) (hb hby at_27) (fun _ _ => ⟨rfl, e3, (by decide : 0 + 0 ≤ _), (by decide : 0 + 0 ≤ _)⟩)
    dsimp only [Pt.U, Pt.locs, Pt.cells, Pt.slots] at X4 l4 y4 z4 st4 hQ4
    subst l4 y4 z4
    obtain ⟨rfl, N4q, e4⟩ := hQ4
    have N4 := Fr.app N0 N4q
    obtain ⟨cq5, kq5, q5a, q5b, q5c⟩ := isOf hZ e4 E_w_PERMIT
    obtain ⟨_, _, ⟨T5, L5, j5, i5⟩, -, X5, ⟨Lc5, hQ5, l5, y5, z5⟩, st5⟩ := X4.virtualBack hx (y := (⟨cS0, "opposite", cS1⟩ : MethodName)) (z := (⟨cS0, "opposite", cS1⟩ : MethodName)) hown (mvT hZ (own_at hw 3 rfl)) (mvT hZ (own_at hw 4 rfl)) (notFace_of_selects (args := #[]) (mvT hZ (own_at hw 6 rfl))) (mvT hZ (own_at hw 6 rfl)) (mvT hZ (own_at hw 5 rfl)) (by decide) (backOf (W := 0) (rm1_p l Z a0 hw [] w_PERMIT w_DENY h0 n0 Z0 S_PERMIT S_DENY) hZ (own_at hw 7 rfl) (own_at hw 1 rfl) (by decide) (by decide)) q5a q5c (g := (mkF m 45 #[iv p0, iv 0, rv w_DENY, rv w_PERMIT, .unset] [(.ref w_PERMIT)])) rfl (by rw [hml]; rfl) (Steps.refl _) (argsL := []) (rest := []) (lenOf pd_0 rfl) rfl (by show 2 * 0 + _ ≤ _; exact Nat.le_of_eq rfl) (hb hby at_45) (fun _ _ => ⟨rfl, e4, (by decide : 0 + 0 ≤ _), (by decide : 0 + 0 ≤ _)⟩)
    dsimp only [Pt.U, Pt.locs, Pt.cells, Pt.slots] at X5 l5 y5 z5 st5 hQ5
    subst l5 y5 z5
    obtain ⟨rfl, N5q, e5⟩ := hQ5
    have N5 := Fr.app N4 N5q
    obtain ⟨fs, hr, hrun, hended, hW, hsame⟩ := X5.leave (v := some (.int 1)) (fun h => by rw [Bd.returns] at h; cases h)
    refine ⟨_, _, k2 _ ?_, hrun, hended, _, _, rfl, ?_, ⟨_, rfl⟩, hW, hsame.mono (by decide) (by decide)⟩
    · show OwnS p e below s₁ (mkF m 3 #[iv p0, .unset, .unset, .unset, .unset] [(.int (p0 &&& (1 : Int32)))]) _
      refine XS.ifYes X0.here hx rfl (pc0 := 3) (pc' := 10) rfl (hb hby at_3) rfl ((if0 _ _).trans (teq hc3_1).1) (by decide) (by decide) ?_
      show OwnS p e below s₁ (mkF m 10 #[iv p0, .unset, .unset, .unset, .unset] []) _
      refine XS.iconst X0.here hx rfl (hb hby at_10) ?_
      show OwnS p e below s₁ (mkF m 11 #[iv p0, .unset, .unset, .unset, .unset] [(.int 0)]) _
      refine XS.istoreN X0.here hx rfl (hb hby at_11) rfl (l' := #[iv p0, iv 0, .unset, .unset, .unset]) rfl ?_
      show OwnS p e below s₁ (mkF m 12 #[iv p0, iv 0, .unset, .unset, .unset] []) _
      refine XS.iloadN X0.here hx rfl (hb hby at_12) rfl ?_
      show OwnS p e below s₁ (mkF m 13 #[iv p0, iv 0, .unset, .unset, .unset] [(.int 0)]) _
      refine XS.ifYes X0.here hx rfl (pc0 := 13) (pc' := 22) rfl (hb hby at_13) rfl ((if0 _ _).trans (teq (by decide : (0 : Int32) = (0 : Int32))).1) (by decide) (by decide) ?_
      show OwnS p e below s₁ (mkF m 22 #[iv p0, iv 0, .unset, .unset, .unset] []) _
      refine st3 _ ?_
      show OwnS p e below T3 (mkF m 25 #[iv p0, iv 0, .unset, .unset, .unset] [(.ref w_DENY)]) _
      refine XS.astoreN X3.here hx rfl (hb hby at_25) rfl rfl (l' := #[iv p0, iv 0, rv w_DENY, .unset, .unset]) rfl ?_
      show OwnS p e below T3 (mkF m 26 #[iv p0, iv 0, rv w_DENY, .unset, .unset] []) _
      refine XS.aloadN X3.here hx rfl (hb hby at_26) rfl rfl ?_
      show OwnS p e below T3 (mkF m 27 #[iv p0, iv 0, rv w_DENY, .unset, .unset] [(.ref w_DENY)]) _
      refine st4.trans ?_
      show OwnS p e below T4 (mkF m 30 #[iv p0, iv 0, rv w_DENY, .unset, .unset] [(.ref w_PERMIT)]) _
      refine XS.astoreN X4.here hx rfl (hb hby at_30) rfl rfl (l' := #[iv p0, iv 0, rv w_DENY, rv w_PERMIT, .unset]) rfl ?_
      show OwnS p e below T4 (mkF m 31 #[iv p0, iv 0, rv w_DENY, rv w_PERMIT, .unset] []) _
      refine XS.aloadN X4.here hx rfl (hb hby at_31) rfl rfl ?_
      show OwnS p e below T4 (mkF m 32 #[iv p0, iv 0, rv w_DENY, rv w_PERMIT, .unset] [(.ref w_PERMIT)]) _
      refine XS.ifnonnullYes X4.here hx rfl (pc0 := 32) (pc' := 37) rfl (hb hby at_32) rfl (by decide) (by decide) ?_
      show OwnS p e below T4 (mkF m 37 #[iv p0, iv 0, rv w_DENY, rv w_PERMIT, .unset] []) _
      refine XS.aloadN X4.here hx rfl (hb hby at_37) rfl rfl ?_
      show OwnS p e below T4 (mkF m 38 #[iv p0, iv 0, rv w_DENY, rv w_PERMIT, .unset] [(.ref w_PERMIT)]) _
      refine XS.aloadN X4.here hx rfl (hb hby at_38) rfl rfl ?_
      show OwnS p e below T4 (mkF m 39 #[iv p0, iv 0, rv w_DENY, rv w_PERMIT, .unset] [(.ref w_DENY), (.ref w_PERMIT)]) _
      refine Jvm.RoadKit.acmp (g := (mkF m 39 #[iv p0, iv 0, rv w_DENY, rv w_PERMIT, .unset] [(.ref w_DENY), (.ref w_PERMIT)])) X4 hx rfl rfl rfl (pc0 := 39) (pc' := 44) (same := false) rfl (hb hby at_39) rfl (decide_eq_false fun q => ne (Value.ref.inj q)) (by decide) (by decide) ?_
      show OwnS p e below T4 (mkF m 44 #[iv p0, iv 0, rv w_DENY, rv w_PERMIT, .unset] []) _
      refine XS.aloadN X4.here hx rfl (hb hby at_44) rfl rfl ?_
      show OwnS p e below T4 (mkF m 45 #[iv p0, iv 0, rv w_DENY, rv w_PERMIT, .unset] [(.ref w_PERMIT)]) _
      refine st5.trans ?_
      show OwnS p e below T5 (mkF m 48 #[iv p0, iv 0, rv w_DENY, rv w_PERMIT, .unset] [(.ref w_DENY)]) _
      refine XS.astore X5.here hx rfl (hb hby at_48) rfl rfl (l' := #[iv p0, iv 0, rv w_DENY, rv w_PERMIT, rv w_DENY]) rfl ?_
      show OwnS p e below T5 (mkF m 50 #[iv p0, iv 0, rv w_DENY, rv w_PERMIT, rv w_DENY] []) _
      refine XS.aload X5.here hx rfl (hb hby at_50) rfl rfl ?_
      show OwnS p e below T5 (mkF m 52 #[iv p0, iv 0, rv w_DENY, rv w_PERMIT, rv w_DENY] [(.ref w_DENY)]) _
      refine XS.aloadN X5.here hx rfl (hb hby at_52) rfl rfl ?_
      show OwnS p e below T5 (mkF m 53 #[iv p0, iv 0, rv w_DENY, rv w_PERMIT, rv w_DENY] [(.ref w_DENY), (.ref w_DENY)]) _
      refine Jvm.RoadKit.acmp (g := (mkF m 53 #[iv p0, iv 0, rv w_DENY, rv w_PERMIT, rv w_DENY] [(.ref w_DENY), (.ref w_DENY)])) X5 hx rfl rfl rfl (pc0 := 53) (pc' := 56) (same := true) rfl (hb hby at_53) rfl (decide_eq_true rfl) (by decide) (by decide) ?_
      show OwnS p e below T5 (mkF m 56 #[iv p0, iv 0, rv w_DENY, rv w_PERMIT, rv w_DENY] []) _
      refine XS.iconst X5.here hx rfl (hb hby at_56) ?_
      show OwnS p e below T5 (mkF m 57 #[iv p0, iv 0, rv w_DENY, rv w_PERMIT, rv w_DENY] [(.int 1)]) _
      refine XS.goto X5.here hx rfl (pc0 := 57) (pc' := 61) rfl (hb hby at_57) (by decide) (by decide) ?_
      show OwnS p e below T5 (mkF m 61 #[iv p0, iv 0, rv w_DENY, rv w_PERMIT, rv w_DENY] [(.int 1)]) _
      exact retN X5 hx (t := .boolean) Bd.returns (by simp) (hb hby at_61) hr
    · show Q_0 Z p0 w_PERMIT w_DENY h0 n0 _ T5.heap _
      rw [e5]
      exact ⟨rfl, N5, trivial⟩
  · obtain ⟨T6, X6, e6, st6⟩ := getS2 X0 hx hZ hown (host := "") (Or.inl (own_at hw 11 rfl)) Via.refl e0 S_PERMIT (g := (mkF m 16 #[iv p0, iv 1, .unset, .unset, .unset] [])) rfl (hb hby at_16)
    obtain ⟨cq7, kq7, q7a, q7b, q7c⟩ := isOf hZ e6 E_w_PERMIT
    obtain ⟨_, _, ⟨T7, L7, j7, i7⟩, -, X7, ⟨Lc7, hQ7, l7, y7, z7⟩, st7⟩ := X6.virtualBack hx (y := (⟨cS0, "opposite", cS1⟩ : MethodName)) (z := (⟨cS0, "opposite", cS1⟩ : MethodName)) hown (mvT hZ (own_at hw 3 rfl)) (mvT hZ (own_at hw 4 rfl)) (notFace_of_selects (args := #[]) (mvT hZ (own_at hw 6 rfl))) (mvT hZ (own_at hw 6 rfl)) (mvT hZ (own_at hw 5 rfl)) (by decide) (backOf (W := 0) (rm1_p l Z a0 hw [] w_PERMIT w_DENY h0 n0 Z0 S_PERMIT S_DENY) hZ (own_at hw 7 rfl) (own_at hw 1 rfl) (by decide) (by decide)) q7a q7c (g := (mkF m 27 #[iv p0, iv 1, rv w_PERMIT, .unset, .unset] [(.ref w_PERMIT)])) rfl (by rw [hml]; rfl) (Steps.refl _) (argsL := []) (rest := []) (lenOf pd_0 rfl) rfl (by show 2 * 0 + _ ≤ _; exact Nat.le_of_eq rfl) (hb hby at_27) (fun _ _ => ⟨rfl, e6, (by decide : 0 + 0 ≤ _), (by decide : 0 + 0 ≤ _)⟩)
    dsimp only [Pt.U, Pt.locs, Pt.cells, Pt.slots] at X7 l7 y7 z7 st7 hQ7
    subst l7 y7 z7
    obtain ⟨rfl, N7q, e7⟩ := hQ7
    have N7 := Fr.app N0 N7q
    obtain ⟨cq8, kq8, q8a, q8b, q8c⟩ := isOf hZ e7 E_w_DENY
    obtain ⟨_, _, ⟨T8, L8, j8, i8⟩, -, X8, ⟨Lc8, hQ8, l8, y8, z8⟩, st8⟩ := X7.virtualBack hx (y := (⟨cS0, "opposite", cS1⟩ : MethodName)) (z := (⟨cS0, "opposite", cS1⟩ : MethodName)) hown (mvT hZ (own_at hw 3 rfl)) (mvT hZ (own_at hw 4 rfl)) (notFace_of_selects (args := #[]) (mvT hZ (own_at hw 6 rfl))) (mvT hZ (own_at hw 6 rfl)) (mvT hZ (own_at hw 5 rfl)) (by decide) (backOf (W := 0) (rm1_o l Z a0 hw [] w_DENY w_PERMIT h0 n0 Z0 S_PERMIT (fun q => ne q.symm)) hZ (own_at hw 7 rfl) (own_at hw 1 rfl) (by decide) (by decide)) q8a q8c (g := (mkF m 45 #[iv p0, iv 1, rv w_PERMIT, rv w_DENY, .unset] [(.ref w_DENY)])) rfl (by rw [hml]; rfl) (Steps.refl _) (argsL := []) (rest := []) (lenOf pd_0 rfl) rfl (by show 2 * 0 + _ ≤ _; exact Nat.le_of_eq rfl) (hb hby at_45) (fun _ _ => ⟨rfl, e7, (by decide : 0 + 0 ≤ _), (by decide : 0 + 0 ≤ _)⟩)
    dsimp only [Pt.U, Pt.locs, Pt.cells, Pt.slots] at X8 l8 y8 z8 st8 hQ8
    subst l8 y8 z8
    obtain ⟨rfl, N8q, e8⟩ := hQ8
    have N8 := Fr.app N7 N8q
    obtain ⟨fs, hr, hrun, hended, hW, hsame⟩ := X8.leave (v := some (.int 1)) (fun h => by rw [Bd.returns] at h; cases h)
    refine ⟨_, _, k2 _ ?_, hrun, hended, _, _, rfl, ?_, ⟨_, rfl⟩, hW, hsame.mono (by decide) (by decide)⟩
    · show OwnS p e below s₁ (mkF m 3 #[iv p0, .unset, .unset, .unset, .unset] [(.int (p0 &&& (1 : Int32)))]) _
      refine XS.ifNo X0.here hx rfl (hb hby at_3) rfl ((if0 _ _).trans (feq hc3_1).1) ?_
      show OwnS p e below s₁ (mkF m 6 #[iv p0, .unset, .unset, .unset, .unset] []) _
      refine XS.iconst X0.here hx rfl (hb hby at_6) ?_
      show OwnS p e below s₁ (mkF m 7 #[iv p0, .unset, .unset, .unset, .unset] [(.int 1)]) _
      refine XS.goto X0.here hx rfl (pc0 := 7) (pc' := 11) rfl (hb hby at_7) (by decide) (by decide) ?_
      show OwnS p e below s₁ (mkF m 11 #[iv p0, .unset, .unset, .unset, .unset] [(.int 1)]) _
      refine XS.istoreN X0.here hx rfl (hb hby at_11) rfl (l' := #[iv p0, iv 1, .unset, .unset, .unset]) rfl ?_
      show OwnS p e below s₁ (mkF m 12 #[iv p0, iv 1, .unset, .unset, .unset] []) _
      refine XS.iloadN X0.here hx rfl (hb hby at_12) rfl ?_
      show OwnS p e below s₁ (mkF m 13 #[iv p0, iv 1, .unset, .unset, .unset] [(.int 1)]) _
      refine XS.ifNo X0.here hx rfl (hb hby at_13) rfl ((if0 _ _).trans (feq (by decide : ¬ ((1 : Int32) = (0 : Int32)))).1) ?_
      show OwnS p e below s₁ (mkF m 16 #[iv p0, iv 1, .unset, .unset, .unset] []) _
      refine st6 _ ?_
      show OwnS p e below T6 (mkF m 19 #[iv p0, iv 1, .unset, .unset, .unset] [(.ref w_PERMIT)]) _
      refine XS.goto X6.here hx rfl (pc0 := 19) (pc' := 25) rfl (hb hby at_19) (by decide) (by decide) ?_
      show OwnS p e below T6 (mkF m 25 #[iv p0, iv 1, .unset, .unset, .unset] [(.ref w_PERMIT)]) _
      refine XS.astoreN X6.here hx rfl (hb hby at_25) rfl rfl (l' := #[iv p0, iv 1, rv w_PERMIT, .unset, .unset]) rfl ?_
      show OwnS p e below T6 (mkF m 26 #[iv p0, iv 1, rv w_PERMIT, .unset, .unset] []) _
      refine XS.aloadN X6.here hx rfl (hb hby at_26) rfl rfl ?_
      show OwnS p e below T6 (mkF m 27 #[iv p0, iv 1, rv w_PERMIT, .unset, .unset] [(.ref w_PERMIT)]) _
      refine st7.trans ?_
      show OwnS p e below T7 (mkF m 30 #[iv p0, iv 1, rv w_PERMIT, .unset, .unset] [(.ref w_DENY)]) _
      refine XS.astoreN X7.here hx rfl (hb hby at_30) rfl rfl (l' := #[iv p0, iv 1, rv w_PERMIT, rv w_DENY, .unset]) rfl ?_
      show OwnS p e below T7 (mkF m 31 #[iv p0, iv 1, rv w_PERMIT, rv w_DENY, .unset] []) _
      refine XS.aloadN X7.here hx rfl (hb hby at_31) rfl rfl ?_
      show OwnS p e below T7 (mkF m 32 #[iv p0, iv 1, rv w_PERMIT, rv w_DENY, .unset] [(.ref w_DENY)]) _
      refine XS.ifnonnullYes X7.here hx rfl (pc0 := 32) (pc' := 37) rfl (hb hby at_32) rfl (by decide) (by decide) ?_
      show OwnS p e below T7 (mkF m 37 #[iv p0, iv 1, rv w_PERMIT, rv w_DENY, .unset] []) _
      refine XS.aloadN X7.here hx rfl (hb hby at_37) rfl rfl ?_
      show OwnS p e below T7 (mkF m 38 #[iv p0, iv 1, rv w_PERMIT, rv w_DENY, .unset] [(.ref w_DENY)]) _
      refine XS.aloadN X7.here hx rfl (hb hby at_38) rfl rfl ?_
      show OwnS p e below T7 (mkF m 39 #[iv p0, iv 1, rv w_PERMIT, rv w_DENY, .unset] [(.ref w_PERMIT), (.ref w_DENY)]) _
      refine Jvm.RoadKit.acmp (g := (mkF m 39 #[iv p0, iv 1, rv w_PERMIT, rv w_DENY, .unset] [(.ref w_PERMIT), (.ref w_DENY)])) X7 hx rfl rfl rfl (pc0 := 39) (pc' := 44) (same := false) rfl (hb hby at_39) rfl (decide_eq_false fun q => (fun q => ne q.symm) (Value.ref.inj q)) (by decide) (by decide) ?_
      show OwnS p e below T7 (mkF m 44 #[iv p0, iv 1, rv w_PERMIT, rv w_DENY, .unset] []) _
      refine XS.aloadN X7.here hx rfl (hb hby at_44) rfl rfl ?_
      show OwnS p e below T7 (mkF m 45 #[iv p0, iv 1, rv w_PERMIT, rv w_DENY, .unset] [(.ref w_DENY)]) _
      refine st8.trans ?_
      show OwnS p e below T8 (mkF m 48 #[iv p0, iv 1, rv w_PERMIT, rv w_DENY, .unset] [(.ref w_PERMIT)]) _
      refine XS.astore X8.here hx rfl (hb hby at_48) rfl rfl (l' := #[iv p0, iv 1, rv w_PERMIT, rv w_DENY, rv w_PERMIT]) rfl ?_
      show OwnS p e below T8 (mkF m 50 #[iv p0, iv 1, rv w_PERMIT, rv w_DENY, rv w_PERMIT] []) _
      refine XS.aload X8.here hx rfl (hb hby at_50) rfl rfl ?_
      show OwnS p e below T8 (mkF m 52 #[iv p0, iv 1, rv w_PERMIT, rv w_DENY, rv w_PERMIT] [(.ref w_PERMIT)]) _
      refine XS.aloadN X8.here hx rfl (hb hby at_52) rfl rfl ?_
      show OwnS p e below T8 (mkF m 53 #[iv p0, iv 1, rv w_PERMIT, rv w_DENY, rv w_PERMIT] [(.ref w_PERMIT), (.ref w_PERMIT)]) _
      refine Jvm.RoadKit.acmp (g := (mkF m 53 #[iv p0, iv 1, rv w_PERMIT, rv w_DENY, rv w_PERMIT] [(.ref w_PERMIT), (.ref w_PERMIT)])) X8 hx rfl rfl rfl (pc0 := 53) (pc' := 56) (same := true) rfl (hb hby at_53) rfl (decide_eq_true rfl) (by decide) (by decide) ?_
      show OwnS p e below T8 (mkF m 56 #[iv p0, iv 1, rv w_PERMIT, rv w_DENY, rv w_PERMIT] []) _
      refine XS.iconst X8.here hx rfl (hb hby at_56) ?_
      show OwnS p e below T8 (mkF m 57 #[iv p0, iv 1, rv w_PERMIT, rv w_DENY, rv w_PERMIT] [(.int 1)]) _
      refine XS.goto X8.here hx rfl (pc0 := 57) (pc' := 61) rfl (hb hby at_57) (by decide) (by decide) ?_
      show OwnS p e below T8 (mkF m 61 #[iv p0, iv 1, rv w_PERMIT, rv w_DENY, rv w_PERMIT] [(.int 1)]) _
      exact retN X8 hx (t := .boolean) Bd.returns (by simp) (hb hby at_61) hr
    · show Q_0 Z p0 w_PERMIT w_DENY h0 n0 _ T8.heap _
      rw [e8]
      exact ⟨rfl, N8, trivial⟩
set_option maxRecDepth 65536 in
set_option maxHeartbeats 40000000 in
theorem comes_1 {Post : Tables → Env → Array Value → State → Outcome → State → Prop} (hpost : ∀ tb e args s v u, (limb_1_1.after args s (.returned v) u = true ∧ limb_1_2.after args s (.returned v) u = true ∧ True) → FrameEnd s (.returned v) u (Jvm.fieldLocs frame_1_writes args s ++ Jvm.arrayLocs frame_1_arrays args s ++ Jvm.staticLocs frame_1_statics s) 0 0 → Post tb e args s (.returned v) u) :
    ArmFor flags0 classFile x code maxLocals ret World_1 tables_1 room_1 Calls_1 rest_1 Pre_1 Post := by
  intro l hfl _ _ p e ha hc hk s m args below hf hA hF happ hP
  obtain ⟨hcalls, hrest, hpre⟩ := hP
  obtain ⟨-, -, -, hnamed, -, -, -, hat⟩ := (Spec.applies_iff hf).mp happ
  obtain ⟨hg, hn⟩ := and_e (Cond.before_iff.mp (show (Jvm.Cond.and given_1 narrow_1).before args s = true from hpre))
  have hw := fun d (hd : d ∈ tables_1) => atoms_spec (ws := Jvm.Cond.code x code maxLocals ret :: tables_1) hat d (List.mem_cons_of_mem _ hd)
  have hfit : Fit s := fun {y c} hc i hi => by
    obtain ⟨ha, rfl⟩ := Array.getElem?_eq_some_iff.mp hc
    have q := List.all_eq_true.mp ((Array.all_eq_true_iff_forall_mem.mp hF) _ (Array.getElem_mem ha)) i (List.mem_range.mpr hi)
    simpa [Array.getElem?_eq_getElem hi] using q
  obtain ⟨cj1, cj2⟩ := and_e hg
  obtain ⟨cj3, cj4⟩ := and_e hn
  obtain ⟨cj5, cj6⟩ := and_e cj4
  obtain ⟨cj7, cj8⟩ := and_e cj6
  obtain ⟨w0, rfl⟩ : ∃ w0 : Value, args = #[w0] := by
    have hs : args.size = 1 := by simpa [Cond.value, given_1] using cj1
    obtain ⟨L⟩ := args
    match L, hs with
    | [w0], _ => exact ⟨w0, rfl⟩
  obtain ⟨i0, ei0⟩ := is_v cj2
  obtain rfl : w0 = (.int i0) := Option.some.inj ei0
  obtain ⟨w_DENY, ev_DENY⟩ := exa_v cj3
  have S_DENY : Sta s s.heap cS0 "DENY" "Lcom/example/riskgate/riskgate/xacml/Effect;" (.ref w_DENY) := Sta.start ev_DENY (Or.inr ⟨(own_at hw 1 rfl), (own_at hw 2 rfl)⟩)
  have E_w_DENY : Exa s s.heap w_DENY cS0 := Exa.start ev_DENY cj3
  obtain ⟨w_PERMIT, ev_PERMIT⟩ := exa_v cj5
  have S_PERMIT : Sta s s.heap cS0 "PERMIT" "Lcom/example/riskgate/riskgate/xacml/Effect;" (.ref w_PERMIT) := Sta.start ev_PERMIT (Or.inr ⟨(own_at hw 1 rfl), (own_at hw 9 rfl)⟩)
  have E_w_PERMIT : Exa s s.heap w_PERMIT cS0 := Exa.start ev_PERMIT cj5
  have F_ordinal_w_DENY : Fld s s.heap w_DENY "java/lang/Enum" "ordinal" "I" (.int (1 : Int32)) := Fld.start ((fld_at ev_DENY).symm.trans (own_eq_int cj7))
  have F_ordinal_w_PERMIT : Fld s s.heap w_PERMIT "java/lang/Enum" "ordinal" "I" (.int (0 : Int32)) := Fld.start ((fld_at ev_PERMIT).symm.trans (own_eq_int cj8))
  obtain ⟨n, o, h1, h2, h3, _, L, rfl, ⟨rfl, N, -⟩, hq⟩ := rm0 l s _ hw tables_1 i0 w_PERMIT w_DENY s.heap s.heap.size (Nat.le_refl _) S_PERMIT S_DENY E_w_PERMIT E_w_DENY (Fld.ne F_ordinal_w_PERMIT F_ordinal_w_DENY (by decide)) p e ha hc hk s m _ below hf ((Spec.applies_iff_loose hf).mp happ).1 ⟨rfl, State.Warmed39.refl s, rfl⟩ trivial
  refine ⟨n, _, h1, h2, h3, hpost _ _ _ _ _ _ ⟨Cond.after_iff.mpr rfl, Cond.after_iff.mpr (eq_i res_at (Term.int_eval (1)) rfl), trivial⟩ ⟨hq.1, hq.2.1, (hq.2.2.sift fun y hy => Or.inr (N y hy)).mono (by decide) (by decide)⟩⟩
theorem main_1_1 : Claimed_1_1 := comes_1 fun _ _ _ _ _ _ h hF => ⟨h.1, hF⟩
theorem main_1_2 : Claimed_1_2 := comes_1 fun _ _ _ _ _ _ h hF => ⟨h.2.1, hF⟩
end Jvm.Pilot.@@N@@
namespace Jvm.Pilot.@@N@@
open Jvm Jvm.ClassFile Sem Op Lib Jvm.Free Jvm.Stand Jvm.Pilot.@@N@@.Jvm.D
/-! MADE BY PROGRAM (witnessworld.py) out of the Statement's table words and the real class files: 10 classes; the members and pool entries that the words name. The judged class is class 1, her method 1. -/
namespace start1
open Jvm.ClassFile
def u (s : String) : CpInfo := .utf8 (stringToUtf16 s)
/-- a pool by its gaps: so many unusable entries, then the entry; so many at the end -/
def gap : Nat → List CpInfo → List CpInfo
  | 0, r => r
  | n + 1, r => .unusable :: gap n r
def poolList (es : List (Nat × CpInfo)) (last : Nat) : List CpInfo := es.foldr (fun e r => gap e.1 (e.2 :: r)) (gap last [])
def pool (es : List (Nat × CpInfo)) (last : Nat) : Array CpInfo := ⟨poolList es last⟩
def fileOf (pool : Array CpInfo) (this : Nat) (attrs : Array Attribute := #[]) (ms : Array MethodInfo := #[]) (fl : Nat := 33) (sup : Nat := 0) (ifs : Array Nat := #[]) (fds : Array FieldInfo := #[]) : ClassFile where
  minorVersion := 0
  majorVersion := 65
  constantPool := pool
  accessFlags := fl
  thisClass := this
  superClass := sup
  interfaces := ifs
  fields := fds
  methods := ms
  attributes := attrs
def plain (name : String) (sup : Option ClassId) : Class where
  name := name
  kind := .ordinary
  loader := none
  accessFlags := 33
  super := sup
  interfaces := #[]
  cf := none
  fields := #[]
  methods := #[]
  instanceTypes := #[]
  staticTypes := #[]
  resolved := #[]
  callSites := []
  init := .initialized
  statics := none
  mirror := none

def pool0 : Array CpInfo := pool [(5, u "<init>"), (0, u "()V"), (1, .class_ 10), (1, u "java/lang/Object")] 113

def k0m0 : Method := { name := "<init>", desc := "()V", sig := { parameters := [], returnType := none }, accessFlags := 1, code := none }
/-- java/lang/Object -/
def k0 : Class := { plain "java/lang/Object" none with
  accessFlags := 33
  interfaces := #[]
  cf := some (fileOf pool0 8 #[] #[{ accessFlags := 1, nameIndex := 5, descriptorIndex := 6, attributes := #[] }] 33 0 #[] #[])
  fields := #[]
  methods := #[k0m0]
  instanceTypes := #[]
  staticTypes := #[]
  resolved := Array.replicate 124 none
  statics := none }

def pool1 : Array CpInfo := pool [(2, .class_ 4), (1, u "java/lang/Object"), (0, u "<init>"), (0, u "()V"), (0, .fieldref 8 9), (0, .class_ 10), (0, .nameAndType 11 12), (0, u "com/example/riskgate/riskgate/xacml/Effect"), (0, u "PERMIT"), (0, u "Lcom/example/riskgate/riskgate/xacml/Effect;"), (0, .fieldref 8 14), (0, .nameAndType 15 12), (0, u "DENY"), (0, .methodref 8 17), (0, .nameAndType 18 19), (0, u "opposite"), (0, u "()Lcom/example/riskgate/riskgate/xacml/Effect;"), (0, .class_ 21), (0, u "com/example/riskgate/riskgate/xacml/EffectOppositePinLaw"), (2, u "law"), (0, u "(I)Z")] 3

def k1m0 : Method := { name := "<init>", desc := "()V", sig := { parameters := [], returnType := none }, accessFlags := 2, code := none }
def k1c1 : Code := { maxStack := 2, maxLocals := 5, code := code, exceptionTable := #[], attributes := #[] }
def k1m1 : Method := { name := "law", desc := "(I)Z", sig := { parameters := [.int], returnType := some .boolean }, accessFlags := 9, code := some k1c1 }
/-- com/example/riskgate/riskgate/xacml/EffectOppositePinLaw -/
def k1 : Class := { plain "com/example/riskgate/riskgate/xacml/EffectOppositePinLaw" (some 0) with
  accessFlags := 49
  interfaces := #[]
  cf := some (fileOf pool1 20 #[] #[{ accessFlags := 2, nameIndex := 5, descriptorIndex := 6, attributes := #[] }, { accessFlags := 9, nameIndex := 24, descriptorIndex := 25, attributes := #[] }] 49 2 #[] #[])
  fields := #[]
  methods := #[k1m0, k1m1]
  instanceTypes := #[]
  staticTypes := #[]
  resolved := Array.replicate 29 none
  statics := none }

def pool2 : Array CpInfo := pool [(1, .class_ 2), (0, u "java/lang/constant/Constable"), (0, .class_ 4), (0, u "java/lang/Object")] 6

/-- java/lang/constant/Constable -/
def k2 : Class := { plain "java/lang/constant/Constable" (some 0) with
  accessFlags := 1537
  interfaces := #[]
  cf := some (fileOf pool2 1 #[] #[] 1537 3 #[] #[])
  fields := #[]
  methods := #[]
  instanceTypes := #[]
  staticTypes := #[]
  resolved := Array.replicate 11 none
  statics := none }

def pool3 : Array CpInfo := pool [(1, .class_ 2), (0, u "java/lang/Comparable"), (0, .class_ 4), (0, u "java/lang/Object")] 7

/-- java/lang/Comparable -/
def k3 : Class := { plain "java/lang/Comparable" (some 0) with
  accessFlags := 1537
  interfaces := #[]
  cf := some (fileOf pool3 1 #[] #[] 1537 3 #[] #[])
  fields := #[]
  methods := #[]
  instanceTypes := #[]
  staticTypes := #[]
  resolved := Array.replicate 12 none
  statics := none }

def pool4 : Array CpInfo := pool [(1, .class_ 2), (0, u "java/io/Serializable"), (0, .class_ 4), (0, u "java/lang/Object")] 2

/-- java/io/Serializable -/
def k4 : Class := { plain "java/io/Serializable" (some 0) with
  accessFlags := 1537
  interfaces := #[]
  cf := some (fileOf pool4 1 #[] #[] 1537 3 #[] #[])
  fields := #[]
  methods := #[]
  instanceTypes := #[]
  staticTypes := #[]
  resolved := Array.replicate 7 none
  statics := none }

def pool5 : Array CpInfo := pool [(2, .class_ 4), (1, u "java/lang/Enum"), (0, u "name"), (0, u "Ljava/lang/String;"), (2, u "ordinal"), (0, u "I"), (1, .class_ 14), (1, u "java/lang/Object"), (4, u "hash"), (86, .class_ 108), (1, u "java/lang/Enum$EnumDesc"), (2, .class_ 112), (0, u "java/lang/constant/Constable"), (0, .class_ 114), (0, u "java/lang/Comparable"), (0, .class_ 116), (0, u "java/io/Serializable")] 87

/-- java/lang/Enum -/
def k5 : Class := { plain "java/lang/Enum" (some 0) with
  accessFlags := 1057
  interfaces := #[2, 3, 4]
  cf := some (fileOf pool5 2 #[.nestMembers #[106]] #[] 1057 12 #[111, 113, 115] #[{ accessFlags := 18, nameIndex := 5, descriptorIndex := 6, attributes := #[] }, { accessFlags := 18, nameIndex := 9, descriptorIndex := 10, attributes := #[] }, { accessFlags := 2, nameIndex := 19, descriptorIndex := 10, attributes := #[] }])
  fields := #[{ name := "name", type := (.object "java/lang/String"), accessFlags := 18, slot := 0, constantValue := 0 }, { name := "ordinal", type := .int, accessFlags := 18, slot := 1, constantValue := 0 }, { name := "hash", type := .int, accessFlags := 2, slot := 2, constantValue := 0 }]
  methods := #[]
  instanceTypes := #[(.object "java/lang/String"), .int, .int]
  staticTypes := #[]
  resolved := Array.replicate 204 none
  statics := none }

def pool6 : Array CpInfo := pool [(1, .class_ 2), (0, u "com/example/riskgate/riskgate/xacml/Effect"), (0, .fieldref 1 4), (0, .nameAndType 5 6), (0, u "PERMIT"), (0, u "Lcom/example/riskgate/riskgate/xacml/Effect;"), (0, .fieldref 1 8), (0, .nameAndType 9 6), (0, u "DENY"), (2, u "$VALUES"), (0, u "[Lcom/example/riskgate/riskgate/xacml/Effect;"), (6, .class_ 22), (1, u "java/lang/Enum"), (20, u "opposite"), (0, u "()Lcom/example/riskgate/riskgate/xacml/Effect;")] 5

def k6c0 : Code := { maxStack := 2, maxLocals := 1, code := prog_31_method_4_code, exceptionTable := #[], attributes := #[] }
def k6m0 : Method := { name := "opposite", desc := "()Lcom/example/riskgate/riskgate/xacml/Effect;", sig := { parameters := [], returnType := some (.object "com/example/riskgate/riskgate/xacml/Effect") }, accessFlags := 0, code := some k6c0 }
/-- com/example/riskgate/riskgate/xacml/Effect -/
def k6 : Class := { plain "com/example/riskgate/riskgate/xacml/Effect" (some 5) with
  accessFlags := 16432
  interfaces := #[]
  cf := some (fileOf pool6 1 #[] #[{ accessFlags := 0, nameIndex := 43, descriptorIndex := 44, attributes := #[] }] 16432 20 #[] #[{ accessFlags := 16409, nameIndex := 5, descriptorIndex := 6, attributes := #[] }, { accessFlags := 16409, nameIndex := 9, descriptorIndex := 6, attributes := #[] }, { accessFlags := 4122, nameIndex := 12, descriptorIndex := 13, attributes := #[] }])
  fields := #[{ name := "PERMIT", type := (.object "com/example/riskgate/riskgate/xacml/Effect"), accessFlags := 16409, slot := 0, constantValue := 0 }, { name := "DENY", type := (.object "com/example/riskgate/riskgate/xacml/Effect"), accessFlags := 16409, slot := 1, constantValue := 0 }, { name := "$VALUES", type := (.array (.object "com/example/riskgate/riskgate/xacml/Effect")), accessFlags := 4122, slot := 2, constantValue := 0 }]
  methods := #[k6m0]
  instanceTypes := #[(.object "java/lang/String"), .int, .int]
  staticTypes := #[(.object "com/example/riskgate/riskgate/xacml/Effect"), (.object "com/example/riskgate/riskgate/xacml/Effect"), (.array (.object "com/example/riskgate/riskgate/xacml/Effect"))]
  resolved := Array.replicate 50 none
  statics := some 0 }

def pool7 : Array CpInfo := pool [(1, u "java/lang/Cloneable"), (0, .class_ 1), (0, u "java/lang/Object"), (0, .class_ 3)] 3

/-- java/lang/Cloneable -/
def k7 : Class := { plain "java/lang/Cloneable" (some 0) with
  accessFlags := 1537
  interfaces := #[]
  cf := some (fileOf pool7 2 #[] #[] 1537 4 #[] #[])
  fields := #[]
  methods := #[]
  instanceTypes := #[]
  staticTypes := #[]
  resolved := Array.replicate 8 none
  statics := none }

/-- the primitive byte -/
def k8 : Class := { plain "byte" none with kind := .primitive 'B', accessFlags := 0x411 }
/-- [B -/
def k9 : Class := { plain "[B" (some 0) with kind := .array 8 .byte, interfaces := #[7, 4], accessFlags := 1041 }

def heap : Heap := #[{ cls := 6, slots := #[.ref 1, .ref 2, .null], vm := .statics 6 },
  { cls := 6, slots := #[.null, .int 0, .int 0], vm := .none },
  { cls := 6, slots := #[.null, .int 1, .int 0], vm := .none }]
def classes : Array Class := #[k0, k1, k2, k3, k4, k5, k6, k7, k8, k9]
def interned : List (Array UInt16 × Addr) := []
def slotsUsed : Nat := 9
def theMethod : MethodId := ⟨1, 1⟩
def args0 : Array Value := #[.int 5]
def aboutOver (below : List Frame) : State where
  vm := { classes := classes, interned := interned.toArray }
  heap := heap
  slotsUsed := slotsUsed
  threads := #[{ frames := .invoking theMethod args0 :: below }]
def below0 : List Frame := [.native { method := ⟨0, 0⟩, args := #[] }]
def about1 : State := aboutOver below0
def p0 : Program := .bare "" "" ""
def e0 : Env := launch0.env 0 0 0
theorem w_frames : about1.frames = Frame.invoking theMethod args0 :: below0 := rfl
set_option maxRecDepth 65536 in
theorem w_args : argsFit about1.vm theMethod args0 = true := by decide +kernel
set_option maxRecDepth 65536 in
theorem w_heap : heapFits about1 = true := by decide +kernel
set_option maxRecDepth 65536 in
theorem w_runnable : about1.curStatus? = some .runnable := by decide +kernel
set_option maxRecDepth 65536 in
theorem w_alone : about1.alone = true := by decide +kernel
set_option maxRecDepth 65536 in
theorem w_named : about1.methodNamed? x = some theMethod := by decide +kernel
set_option maxRecDepth 65536 in
theorem w_hears : about1.hears theMethod below0 = true := by decide +kernel
set_option maxRecDepth 65536 in
theorem w_ripe : about1.ripe theMethod args0 below0 = true := by decide +kernel
theorem w_running : about1.status = .running := rfl
set_option maxRecDepth 65536 in
theorem w_room : about1.hasRoom e0.platform room_1 = true :=
  launch0.hasRoom_least _ room_1 (by decide +kernel) (by decide +kernel) (by decide +kernel) (by decide +kernel) (by decide +kernel) (by decide +kernel)
theorem allAtoms_all (ts : List Jvm.Cond) (a : Array Jvm.Value) (st : Jvm.State) : (allAtoms ts).before a st = ts.all (fun c => c.before a st) := by
  induction ts with
  | nil => rfl
  | cons c t ih =>
    show (Jvm.Cond.and c (allAtoms t)).before a st = _
    rw [Jvm.Cond.before_and, ih, List.all_cons]
def words1 : List Jvm.Cond := Jvm.Cond.code x code maxLocals ret :: tables_1
/-- a 'code' word, met by the world's own term for the bytes: nothing is compared byte by byte -/
theorem code_word {y : MethodName} {bytes : ByteArray} {mx : Nat} {rt : Option FieldType} {a : Array Value} {s : State} {m : MethodId} {meth : Method} {c : Code} (h1 : s.methodNamed? y = some m) (h2 : s.vm.method? m = some meth) (h3 : meth.code = some c) (h4 : c.code = bytes)
    (h5 : (c.maxLocals == mx && c.exceptionTable.isEmpty && decide (c.maxStack ≤ mostOperands) && decide (meth.sig.returnType = rt) && !meth.locks && decide (parseMethodDescriptor y.desc = some meth.sig)) = true) : (Jvm.Cond.code y bytes mx rt).before a s = true := by
  simp only [Bool.and_eq_true, beq_iff_eq, Bool.not_eq_true', decide_eq_true_eq] at h5
  obtain ⟨⟨⟨⟨⟨g1, g2⟩, g3⟩, g4⟩, g5⟩, g6⟩ := h5
  simp [Cond.before, Cond.holds, Cond.value, h1, h2, h3, h4, g1, g2, g3, g4, g5, g6]
def isCode : Jvm.Cond → Bool
  | .code _ _ _ _ => true
  | _ => false
theorem all_split {L : List Jvm.Cond} {P : Jvm.Cond → Bool} (h1 : L.all (fun c => isCode c || P c) = true) (h2 : ∀ c ∈ L.filter isCode, P c = true) : L.all P = true := by
  refine List.all_eq_true.mpr fun c hc => ?_
  have h := List.all_eq_true.mp h1 c hc
  rcases Bool.eq_false_or_eq_true (isCode c) with hi | hi
  · exact h2 c (List.mem_filter.mpr ⟨hc, hi⟩)
  · simpa [hi] using h
set_option maxRecDepth 65536 in
theorem w_c0 : (Jvm.Cond.code x code maxLocals ret).before args0 about1 = true := code_word (m := ⟨1, 1⟩) (meth := k1m1) (c := k1c1) (by decide +kernel) rfl rfl rfl (by decide +kernel)
set_option maxRecDepth 65536 in
theorem w_c1 : (Jvm.Cond.code ({ cls := "com/example/riskgate/riskgate/xacml/Effect", name := "opposite", desc := "()Lcom/example/riskgate/riskgate/xacml/Effect;" } : Jvm.MethodName) prog_31_method_4_code (1 : Nat) (Option.some (Jvm.ClassFile.FieldType.object "com/example/riskgate/riskgate/xacml/Effect"))).before args0 about1 = true := code_word (m := ⟨6, 0⟩) (meth := k6m0) (c := k6c0) (by decide +kernel) rfl rfl rfl (by decide +kernel)
def codes1 : List Jvm.Cond := [Jvm.Cond.code x code maxLocals ret, Jvm.Cond.code ({ cls := "com/example/riskgate/riskgate/xacml/Effect", name := "opposite", desc := "()Lcom/example/riskgate/riskgate/xacml/Effect;" } : Jvm.MethodName) prog_31_method_4_code (1 : Nat) (Option.some (Jvm.ClassFile.FieldType.object "com/example/riskgate/riskgate/xacml/Effect"))]
set_option maxRecDepth 65536 in
theorem codes_eq : words1.filter isCode = codes1 := rfl
theorem w_codes : ∀ c ∈ words1.filter isCode, c.before args0 about1 = true := by
  rw [codes_eq]
  intro c hc
  simp only [codes1, List.mem_cons, List.not_mem_nil, or_false] at hc
  rcases hc with rfl | rfl
  · exact w_c0
  · exact w_c1
set_option maxRecDepth 65536 in
theorem w_t1 : words1.all (fun c => isCode c || c.before args0 about1) = true := by decide +kernel
theorem w_tables : (allAtoms (Jvm.Cond.code x code maxLocals ret :: tables_1)).before args0 about1 = true := by
  rw [allAtoms_all]
  show words1.all (fun c => c.before args0 about1) = true
  refine all_split ?_ w_codes
  rw [w_t1]
set_option maxRecDepth 65536 in
theorem w_case : (Jvm.Cond.and given_1 narrow_1).before args0 about1 = true := by decide +kernel
theorem w_applies : (headSpec (Jvm.Cond.code x code maxLocals ret :: tables_1) room_1).applies x e0.platform about1 = true :=
  (Spec.applies_iff w_frames).mpr ⟨w_running, w_runnable, w_alone, w_named, w_hears, w_ripe, w_room, w_tables⟩
theorem atStart : AtStart classFile x code maxLocals ret World_1 tables_1 room_1 Calls_1 rest_1 Pre_1 launch0 p0 e0 about1 theMethod args0 below0 :=
  ⟨lists_1, trivial, launch0.admits_env _ _ _, launch0.least_env, fairChoices_fair.cas, fairChoices_fair.clock, w_frames, w_args, w_heap, w_applies, trivial, trivial, w_case⟩
end start1
theorem witness_1 : WitnessClaimed_1 := ⟨start1.p0, start1.e0, start1.about1, start1.theMethod, start1.args0, start1.below0, start1.atStart⟩
end Jvm.Pilot.@@N@@
