import JvmDerived
import JvmDerived.Pilot.@@N@@Statement
import JvmDerived.Pilot.@@N@@Code
set_option linter.unusedVariables false
set_option linter.unusedSimpArgs false
namespace Jvm.RoadKit
open Sem ClassFile Op Lib Jvm.Stand Jvm.Free Jvm.LawKit
section New
variable {p : Program} {l : Launch} {e : Env} {R : Room} {s : State} {m : MethodId} {args : Array Value} {below : List Frame} {meth : Method} {c : Code} {T : State} {locs : List Loc} {cells slots : Nat}
theorem retI (X : Stand p l e R s m args below meth c T locs cells slots) (hx : p.tables.exec = Jvm.exec) {pc : Nat} {Ls : Array Slot} {z : Int32} {rest : List Value} (hret : meth.sig.returnType = some .int) (hd : decode c.code pc = .ok (.ireturn, 1)) {fs : List Frame}
    (hl : ∀ (f : JFrame) (acts : List Action), f.method = m → f.locked = none → f.entered = [] → (doReturn e (T.setTop f) acts (some (.int z))).1 = T.setFrames fs) : Steps p.tables e below (T.setTop (mkF m pc Ls (.int z :: rest))) (T.setFrames fs) := by
  have hm' : T.vm.method? m = some meth := X.method'
  have hn : narrow .int (.int z) = .int z := rfl
  show Steps p.tables e below (T.setTop { method := m, pc := pc, locals := Ls, stack := _ :: rest, locked := none }) _
  jvm_step X.here [X.here.top, hx, hd, hm', hret, hn]
  first | (intro acts; rw [hl _ acts rfl rfl rfl]) | rw [hl _ _ rfl rfl rfl]
  exact Steps.refl _
end New
end Jvm.RoadKit
namespace Jvm.Pilot.@@N@@
open Jvm Jvm.ClassFile Sem Op Lib Jvm.Free Jvm.Stand Jvm.LawKit Jvm.RoadKit Bundle Jvm.Pilot.@@N@@.Jvm.D
abbrev OwnS (p : Program) (e : Env) (below : List Frame) (T : State) (g : JFrame) (t : State) : Prop := Steps p.tables e below (T.setTop g) t
theorem own_selpriv {s : State} {args : Array Value} {y : MethodName} {n : Nat} (hy : y.cls ≠ "java/lang/invoke/MethodHandle" ∧ y.cls ≠ "java/lang/invoke/VarHandle") (hins : (Jvm.Cond.instantiable y.cls n).before args s = true) (hp : (Jvm.Cond.privateMethod y).before args s = true) (hi : (Jvm.Cond.instanceMethod y).before args s = true) : (Jvm.Cond.selects y.cls y y).before args s = true := by
  obtain ⟨c, k, hc, hk, -, hniab, -⟩ := Cond.instantiable_spec hins
  exact selects_self_of_private hc hk (Bool.or_eq_false_iff.mp hniab).1 (Cond.privateMethod_at hp) hi hy
theorem own_irr (x : Int32) : ¬ (x < x) := by rw [Int32.lt_iff_toInt_lt]; omega
theorem own_asymm {x y : Int32} (h : x < y) : ¬ (y < x) := by rw [Int32.lt_iff_toInt_lt] at *; omega
theorem own_ne {x y : Int32} (h : x < y) : ¬ (x = y) := fun q => own_irr x (by rw [← q] at h; exact h)
theorem own_ne' {x y : Int32} (h : x < y) : ¬ (y = x) := fun q => own_irr x (by rw [q] at h; exact h)
theorem own_tri (x y : Int32) : x < y ∨ x = y ∨ y < x := by
  rw [Int32.lt_iff_toInt_lt, Int32.lt_iff_toInt_lt, ← Int32.toInt_inj]; omega
theorem own_ns {Z : State} {h : Heap} {a : Addr} {C : String} (F : Exa Z h a C) : ∃ cell : Cell, h[a]? = some cell ∧ cell.vm.isStatics = false := by
  obtain ⟨cell, k, h1, -, -, h4, -⟩ := F; exact ⟨cell, h1, h4⟩
theorem own_sta_keep {Z : State} {h h' : Heap} {ws : List Addr} {C n d : String} {v : Value} (F : Sta Z h C n d v) (K : Keep h h' ws) (q : ∀ x ∈ ws, ∃ cell : Cell, h[x]? = some cell ∧ cell.vm.isStatics = false) : Sta Z h' C n d v := by
  obtain ⟨cf, i, k, f, st, cell, h1, h2, h3, h4, h5, h6, h7⟩ := F
  refine ⟨cf, i, k, f, st, cell, h1, h2, h3, h4, K.2.1 st cell h5 fun r => ?_, h6, h7⟩
  obtain ⟨c2, g1, g2⟩ := q st r
  cases h5.symm.trans g1
  rw [g2] at h6; cases h6
theorem own_eq_int {args : Array Value} {first s : State} {o : Option Outcome} {idx : List Nat} {t : Term} {k : Int32} (h : (Jvm.Cond.eq t (.int k)).value args first o s idx = some true) : t.eval args first o idx s = some (.int k) := by
  simp only [Cond.value, Term.eval] at h
  cases ht : t.eval args first o idx s with
  | none => simp [ht] at h
  | some x => cases x <;> simp [ht] at h ⊢; exact h
theorem own_mod6 (p : Int32) : (p &&& (2147483647 : Int32)) % (6 : Int32) = (0 : Int32) ∨ (p &&& (2147483647 : Int32)) % (6 : Int32) = (1 : Int32) ∨ (p &&& (2147483647 : Int32)) % (6 : Int32) = (2 : Int32) ∨ (p &&& (2147483647 : Int32)) % (6 : Int32) = (3 : Int32) ∨ (p &&& (2147483647 : Int32)) % (6 : Int32) = (4 : Int32) ∨ (p &&& (2147483647 : Int32)) % (6 : Int32) = (5 : Int32) := by
  have h := (c_irem (p &&& 2147483647) 6 6 rfl).1 (c_and p 2147483647 (by decide)).1
  have h2 : ((p &&& (2147483647 : Int32)) % (6 : Int32)).toInt = 0 ∨ ((p &&& (2147483647 : Int32)) % (6 : Int32)).toInt = 1 ∨ ((p &&& (2147483647 : Int32)) % (6 : Int32)).toInt = 2 ∨ ((p &&& (2147483647 : Int32)) % (6 : Int32)).toInt = 3 ∨ ((p &&& (2147483647 : Int32)) % (6 : Int32)).toInt = 4 ∨ ((p &&& (2147483647 : Int32)) % (6 : Int32)).toInt = 5 := by omega
  rcases h2 with q | q | q | q | q | q
  · exact Or.inl (Int32.toInt_inj.mp q)
  · exact Or.inr (Or.inl (Int32.toInt_inj.mp q))
  · exact Or.inr (Or.inr (Or.inl (Int32.toInt_inj.mp q)))
  · exact Or.inr (Or.inr (Or.inr (Or.inl (Int32.toInt_inj.mp q))))
  · exact Or.inr (Or.inr (Or.inr (Or.inr (Or.inl (Int32.toInt_inj.mp q)))))
  · exact Or.inr (Or.inr (Or.inr (Or.inr (Or.inr ((Int32.toInt_inj.mp q))))))
abbrev cS0 : String := "com/example/riskgate/riskgate/xacml/ExtendedDecision"
abbrev cS1 : String := "()Lcom/example/riskgate/riskgate/xacml/ExtendedDecision;"
abbrev cS2 : String := "Lcom/example/riskgate/riskgate/xacml/ExtendedDecision;"
abbrev cS3 : String := "underIndeterminateTarget"
theorem own_at {Z : State} {a0 : Array Value} (hw : ∀ d ∈ tables_1, d.before a0 Z = true) (i : Nat) {d : Jvm.Cond} (h : tables_1[i]? = some d) : d.before a0 Z = true := hw _ (List.mem_of_getElem? h)
theorem d1_0 : decode prog_32_method_8_code 0 = .ok (.aload_n 0, 1) := by decide +kernel
theorem d1_1 : decode prog_32_method_8_code 1 = .ok (.astore_n 1, 1) := by decide +kernel
theorem d1_2 : decode prog_32_method_8_code 2 = .ok (.aload_n 0, 1) := by decide +kernel
theorem d1_3 : decode prog_32_method_8_code 3 = .ok (.getstatic 3, 3) := by decide +kernel
theorem d1_6 : decode prog_32_method_8_code 6 = .ok (.if_acmp .ne 10, 3) := by decide +kernel
theorem d1_9 : decode prog_32_method_8_code 9 = .ok (.getstatic 13, 3) := by decide +kernel
theorem d1_12 : decode prog_32_method_8_code 12 = .ok (.astore_n 1, 1) := by decide +kernel
theorem d1_13 : decode prog_32_method_8_code 13 = .ok (.goto 14, 3) := by decide +kernel
theorem d1_27 : decode prog_32_method_8_code 27 = .ok (.aload_n 1, 1) := by decide +kernel
theorem d1_28 : decode prog_32_method_8_code 28 = .ok (.areturn, 1) := by decide +kernel
theorem pn_com_example_riskgate_riskgate_xacml_ExtendedDecision : plainName cS0 = true := by first | (simp [plainName, overriddenIn]; done) | decide +kernel
theorem ef_1 (m : MethodId) (x0 : Addr) : entryFrame m #[(.ref x0)] 2 = mkF m 0 #[.val (.ref x0), .unset] [] := by first | (simp [entryFrame, mkF, argsToLocals, Value.category]; done) | rfl
def Q_1_p (Z : State) (w_PERMIT : Addr) (w_INDETERMINATE_P : Addr) (h0 : Heap) (n0 : Nat) (v : Option Value) (h : Heap) (L : List Loc) : Prop := v = some (.ref w_INDETERMINATE_P) ∧ Fr n0 L ∧ h = h0
set_option maxRecDepth 65536 in
set_option maxHeartbeats 40000000 in
theorem rm1_p (l : Launch) (Z : State) (a0 : Array Value) (hw : ∀ d ∈ tables_1, d.before a0 Z = true) (ws : List Jvm.Cond) (w_PERMIT : Addr) (w_INDETERMINATE_P : Addr) (h0 : Heap) (n0 : Nat) (Z0 : n0 ≤ h0.size) (S_PERMIT : Sta Z h0 cS0 "PERMIT" cS2 (.ref w_PERMIT)) (S_INDETERMINATE_P : Sta Z h0 cS0 "INDETERMINATE_P" cS2 (.ref w_INDETERMINATE_P)) :
    MetFree l (⟨cS0, cS3, cS1⟩ : MethodName) (head1 (Jvm.Cond.code (⟨cS0, cS3, cS1⟩ : MethodName) prog_32_method_8_code 2 (some (.object cS0)) :: ws) ({ frames := 0, cells := 0, slots := 0, locals := 0 } : Room)) (fun a U => a = #[(.ref w_PERMIT)] ∧ Z.Warmed39 U.vm ∧ U.heap = h0) (fun _ _ _ _ _ => True) (fun _ U o U' => ∃ v L, o = .returned v ∧ Q_1_p Z w_PERMIT w_INDETERMINATE_P h0 n0 v U'.heap L ∧ FrameEnd U o U' L ({ frames := 0, cells := 0, slots := 0, locals := 0 } : Room).cells ({ frames := 0, cells := 0, slots := 0, locals := 0 } : Room).slots) := by
  refine MetFree.of_bodySF (plainFor_of_name pn_com_example_riskgate_riskgate_xacml_ExtendedDecision) hisR ?_
  intro p e s m args below meth c s₁ Bd hml0 hP hK
  obtain ⟨rfl, hZ, hh⟩ := hP
  have hx := Bd.exec
  have hby := Bd.bytes
  have hml : c.maxLocals = 2 := hml0
  have hown : s.vm.findClass cS0 = some m.cls := findClass_of_methodNamed Bd.named
  have hnm := (name_of_methodNamed Bd.named Bd.method).1
  have X0 : Stand p l e ({ frames := 0, cells := 0, slots := 0, locals := 0 } : Room) s m #[(.ref w_PERMIT)] below meth c s₁ [] 0 0 := Stand.of_body Bd
  have e0 : s₁.heap = h0 := by rw [← hh, Bd.state]; rfl
  have N0 := Fr.nil n0
  have k0 : ∀ t, OwnS p e below s₁ (mkF m 0 #[rv w_PERMIT, .unset] []) t → OwnS p e below s₁ (entryFrame m #[(.ref w_PERMIT)] 2) t := fun t k => castTop (ef_1 m w_PERMIT) k
  obtain ⟨T1, X1, e1, st1⟩ := getS2 X0 hx hZ hown (host := "") (Or.inl (own_at hw 22 rfl)) Via.refl e0 S_PERMIT (g := (mkF m 3 #[rv w_PERMIT, rv w_PERMIT] [(.ref w_PERMIT)])) rfl (hb hby d1_3)
  obtain ⟨T2, X2, e2, st2⟩ := getS2 X1 hx hZ hown (host := "") (Or.inl (own_at hw 23 rfl)) Via.refl e1 S_INDETERMINATE_P (g := (mkF m 9 #[rv w_PERMIT, rv w_PERMIT] [])) rfl (hb hby d1_9)
  obtain ⟨fs, hr, hrun, hended, hW, hsame⟩ := X2.leave (v := some (.ref w_INDETERMINATE_P)) (fun h => by rw [Bd.returns] at h; cases h)
  refine ⟨_, _, k0 _ ?_, hrun, hended, _, _, rfl, ?_, ⟨_, rfl⟩, hW, hsame.mono (by decide) (by decide)⟩
  · show OwnS p e below s₁ (mkF m 0 #[rv w_PERMIT, .unset] []) _
    refine XS.aloadN X0.here hx rfl (hb hby d1_0) rfl rfl ?_
    show OwnS p e below s₁ (mkF m 1 #[rv w_PERMIT, .unset] [(.ref w_PERMIT)]) _
    refine XS.astoreN X0.here hx rfl (hb hby d1_1) rfl rfl (l' := #[rv w_PERMIT, rv w_PERMIT]) rfl ?_
    show OwnS p e below s₁ (mkF m 2 #[rv w_PERMIT, rv w_PERMIT] []) _
    refine XS.aloadN X0.here hx rfl (hb hby d1_2) rfl rfl ?_
    show OwnS p e below s₁ (mkF m 3 #[rv w_PERMIT, rv w_PERMIT] [(.ref w_PERMIT)]) _
    refine st1 _ ?_
    show OwnS p e below T1 (mkF m 6 #[rv w_PERMIT, rv w_PERMIT] [(.ref w_PERMIT), (.ref w_PERMIT)]) _
    refine Jvm.RoadKit.acmp (g := (mkF m 6 #[rv w_PERMIT, rv w_PERMIT] [(.ref w_PERMIT), (.ref w_PERMIT)])) X1 hx rfl rfl rfl (pc0 := 6) (pc' := 9) (same := true) rfl (hb hby d1_6) rfl (decide_eq_true rfl) (by decide) (by decide) ?_
    show OwnS p e below T1 (mkF m 9 #[rv w_PERMIT, rv w_PERMIT] []) _
    refine st2 _ ?_
    show OwnS p e below T2 (mkF m 12 #[rv w_PERMIT, rv w_PERMIT] [(.ref w_INDETERMINATE_P)]) _
    refine XS.astoreN X2.here hx rfl (hb hby d1_12) rfl rfl (l' := #[rv w_PERMIT, rv w_INDETERMINATE_P]) rfl ?_
    show OwnS p e below T2 (mkF m 13 #[rv w_PERMIT, rv w_INDETERMINATE_P] []) _
    refine XS.goto X2.here hx rfl (pc0 := 13) (pc' := 27) rfl (hb hby d1_13) (by decide) (by decide) ?_
    show OwnS p e below T2 (mkF m 27 #[rv w_PERMIT, rv w_INDETERMINATE_P] []) _
    refine XS.aloadN X2.here hx rfl (hb hby d1_27) rfl rfl ?_
    show OwnS p e below T2 (mkF m 28 #[rv w_PERMIT, rv w_INDETERMINATE_P] [(.ref w_INDETERMINATE_P)]) _
    jvm_step X2.here [X2.here.top, hx, (hb hby d1_28), X2.method', Bd.returns, Value.isRef, FieldType.isReference]
    first | (intro acts; rw [hr _ acts rfl rfl rfl]) | rw [hr _ _ rfl rfl rfl]
    exact Steps.refl _
  · show Q_1_p Z w_PERMIT w_INDETERMINATE_P h0 n0 _ T2.heap _
    rw [e2]
    exact ⟨rfl, N0, rfl⟩
theorem d1_16 : decode prog_32_method_8_code 16 = .ok (.aload_n 0, 1) := by decide +kernel
theorem d1_17 : decode prog_32_method_8_code 17 = .ok (.getstatic 7, 3) := by decide +kernel
theorem d1_20 : decode prog_32_method_8_code 20 = .ok (.if_acmp .ne 7, 3) := by decide +kernel
theorem d1_23 : decode prog_32_method_8_code 23 = .ok (.getstatic 16, 3) := by decide +kernel
theorem d1_26 : decode prog_32_method_8_code 26 = .ok (.astore_n 1, 1) := by decide +kernel
def Q_1_d (Z : State) (w_DENY : Addr) (w_PERMIT : Addr) (w_INDETERMINATE_D : Addr) (h0 : Heap) (n0 : Nat) (v : Option Value) (h : Heap) (L : List Loc) : Prop := v = some (.ref w_INDETERMINATE_D) ∧ Fr n0 L ∧ h = h0
set_option maxRecDepth 65536 in
set_option maxHeartbeats 40000000 in
theorem rm1_d (l : Launch) (Z : State) (a0 : Array Value) (hw : ∀ d ∈ tables_1, d.before a0 Z = true) (ws : List Jvm.Cond) (w_DENY : Addr) (w_PERMIT : Addr) (w_INDETERMINATE_D : Addr) (h0 : Heap) (n0 : Nat) (Z0 : n0 ≤ h0.size) (S_DENY : Sta Z h0 cS0 "DENY" cS2 (.ref w_DENY)) (S_PERMIT : Sta Z h0 cS0 "PERMIT" cS2 (.ref w_PERMIT)) (ha6 : ¬ (w_DENY = w_PERMIT)) (S_INDETERMINATE_D : Sta Z h0 cS0 "INDETERMINATE_D" cS2 (.ref w_INDETERMINATE_D)) :
    MetFree l (⟨cS0, cS3, cS1⟩ : MethodName) (head1 (Jvm.Cond.code (⟨cS0, cS3, cS1⟩ : MethodName) prog_32_method_8_code 2 (some (.object cS0)) :: ws) ({ frames := 0, cells := 0, slots := 0, locals := 0 } : Room)) (fun a U => a = #[(.ref w_DENY)] ∧ Z.Warmed39 U.vm ∧ U.heap = h0) (fun _ _ _ _ _ => True) (fun _ U o U' => ∃ v L, o = .returned v ∧ Q_1_d Z w_DENY w_PERMIT w_INDETERMINATE_D h0 n0 v U'.heap L ∧ FrameEnd U o U' L ({ frames := 0, cells := 0, slots := 0, locals := 0 } : Room).cells ({ frames := 0, cells := 0, slots := 0, locals := 0 } : Room).slots) := by
  refine MetFree.of_bodySF (plainFor_of_name pn_com_example_riskgate_riskgate_xacml_ExtendedDecision) hisR ?_
  intro p e s m args below meth c s₁ Bd hml0 hP hK
  obtain ⟨rfl, hZ, hh⟩ := hP
  have hx := Bd.exec
  have hby := Bd.bytes
  have hml : c.maxLocals = 2 := hml0
  have hown : s.vm.findClass cS0 = some m.cls := findClass_of_methodNamed Bd.named
  have hnm := (name_of_methodNamed Bd.named Bd.method).1
  have X0 : Stand p l e ({ frames := 0, cells := 0, slots := 0, locals := 0 } : Room) s m #[(.ref w_DENY)] below meth c s₁ [] 0 0 := Stand.of_body Bd
  have e0 : s₁.heap = h0 := by rw [← hh, Bd.state]; rfl
  have N0 := Fr.nil n0
  have k0 : ∀ t, OwnS p e below s₁ (mkF m 0 #[rv w_DENY, .unset] []) t → OwnS p e below s₁ (entryFrame m #[(.ref w_DENY)] 2) t := fun t k => castTop (ef_1 m w_DENY) k
  obtain ⟨T1, X1, e1, st1⟩ := getS2 X0 hx hZ hown (host := "") (Or.inl (own_at hw 22 rfl)) Via.refl e0 S_PERMIT (g := (mkF m 3 #[rv w_DENY, rv w_DENY] [(.ref w_DENY)])) rfl (hb hby d1_3)
  obtain ⟨T2, X2, e2, st2⟩ := getS2 X1 hx hZ hown (host := "") (Or.inl (own_at hw 24 rfl)) Via.refl e1 S_DENY (g := (mkF m 17 #[rv w_DENY, rv w_DENY] [(.ref w_DENY)])) rfl (hb hby d1_17)
  obtain ⟨T3, X3, e3, st3⟩ := getS2 X2 hx hZ hown (host := "") (Or.inl (own_at hw 25 rfl)) Via.refl e2 S_INDETERMINATE_D (g := (mkF m 23 #[rv w_DENY, rv w_DENY] [])) rfl (hb hby d1_23)
  obtain ⟨fs, hr, hrun, hended, hW, hsame⟩ := X3.leave (v := some (.ref w_INDETERMINATE_D)) (fun h => by rw [Bd.returns] at h; cases h)
  refine ⟨_, _, k0 _ ?_, hrun, hended, _, _, rfl, ?_, ⟨_, rfl⟩, hW, hsame.mono (by decide) (by decide)⟩
  · show OwnS p e below s₁ (mkF m 0 #[rv w_DENY, .unset] []) _
    refine XS.aloadN X0.here hx rfl (hb hby d1_0) rfl rfl ?_
    show OwnS p e below s₁ (mkF m 1 #[rv w_DENY, .unset] [(.ref w_DENY)]) _
    refine XS.astoreN X0.here hx rfl (hb hby d1_1) rfl rfl (l' := #[rv w_DENY, rv w_DENY]) rfl ?_
    show OwnS p e below s₁ (mkF m 2 #[rv w_DENY, rv w_DENY] []) _
    refine XS.aloadN X0.here hx rfl (hb hby d1_2) rfl rfl ?_
    show OwnS p e below s₁ (mkF m 3 #[rv w_DENY, rv w_DENY] [(.ref w_DENY)]) _
    refine st1 _ ?_
    show OwnS p e below T1 (mkF m 6 #[rv w_DENY, rv w_DENY] [(.ref w_PERMIT), (.ref w_DENY)]) _
    refine Jvm.RoadKit.acmp (g := (mkF m 6 #[rv w_DENY, rv w_DENY] [(.ref w_PERMIT), (.ref w_DENY)])) X1 hx rfl rfl rfl (pc0 := 6) (pc' := 16) (same := false) rfl (hb hby d1_6) rfl (decide_eq_false fun q => ha6 (Value.ref.inj q)) (by decide) (by decide) ?_
    show OwnS p e below T1 (mkF m 16 #[rv w_DENY, rv w_DENY] []) _
    refine XS.aloadN X1.here hx rfl (hb hby d1_16) rfl rfl ?_
    show OwnS p e below T1 (mkF m 17 #[rv w_DENY, rv w_DENY] [(.ref w_DENY)]) _
    refine st2 _ ?_
    show OwnS p e below T2 (mkF m 20 #[rv w_DENY, rv w_DENY] [(.ref w_DENY), (.ref w_DENY)]) _
    refine Jvm.RoadKit.acmp (g := (mkF m 20 #[rv w_DENY, rv w_DENY] [(.ref w_DENY), (.ref w_DENY)])) X2 hx rfl rfl rfl (pc0 := 20) (pc' := 23) (same := true) rfl (hb hby d1_20) rfl (decide_eq_true rfl) (by decide) (by decide) ?_
    show OwnS p e below T2 (mkF m 23 #[rv w_DENY, rv w_DENY] []) _
    refine st3 _ ?_
    show OwnS p e below T3 (mkF m 26 #[rv w_DENY, rv w_DENY] [(.ref w_INDETERMINATE_D)]) _
    refine XS.astoreN X3.here hx rfl (hb hby d1_26) rfl rfl (l' := #[rv w_DENY, rv w_INDETERMINATE_D]) rfl ?_
    show OwnS p e below T3 (mkF m 27 #[rv w_DENY, rv w_INDETERMINATE_D] []) _
    refine XS.aloadN X3.here hx rfl (hb hby d1_27) rfl rfl ?_
    show OwnS p e below T3 (mkF m 28 #[rv w_DENY, rv w_INDETERMINATE_D] [(.ref w_INDETERMINATE_D)]) _
    jvm_step X3.here [X3.here.top, hx, (hb hby d1_28), X3.method', Bd.returns, Value.isRef, FieldType.isReference]
    first | (intro acts; rw [hr _ acts rfl rfl rfl]) | rw [hr _ _ rfl rfl rfl]
    exact Steps.refl _
  · show Q_1_d Z w_DENY w_PERMIT w_INDETERMINATE_D h0 n0 _ T3.heap _
    rw [e3]
    exact ⟨rfl, N0, rfl⟩
def Q_1_o (Z : State) (r0 : Addr) (w_PERMIT : Addr) (w_DENY : Addr) (h0 : Heap) (n0 : Nat) (v : Option Value) (h : Heap) (L : List Loc) : Prop := v = some (.ref r0) ∧ Fr n0 L ∧ h = h0
set_option maxRecDepth 65536 in
set_option maxHeartbeats 40000000 in
theorem rm1_o (l : Launch) (Z : State) (a0 : Array Value) (hw : ∀ d ∈ tables_1, d.before a0 Z = true) (ws : List Jvm.Cond) (r0 : Addr) (w_PERMIT : Addr) (w_DENY : Addr) (h0 : Heap) (n0 : Nat) (Z0 : n0 ≤ h0.size) (S_PERMIT : Sta Z h0 cS0 "PERMIT" cS2 (.ref w_PERMIT)) (ha6 : ¬ (r0 = w_PERMIT)) (S_DENY : Sta Z h0 cS0 "DENY" cS2 (.ref w_DENY)) (ha20 : ¬ (r0 = w_DENY)) :
    MetFree l (⟨cS0, cS3, cS1⟩ : MethodName) (head1 (Jvm.Cond.code (⟨cS0, cS3, cS1⟩ : MethodName) prog_32_method_8_code 2 (some (.object cS0)) :: ws) ({ frames := 0, cells := 0, slots := 0, locals := 0 } : Room)) (fun a U => a = #[(.ref r0)] ∧ Z.Warmed39 U.vm ∧ U.heap = h0) (fun _ _ _ _ _ => True) (fun _ U o U' => ∃ v L, o = .returned v ∧ Q_1_o Z r0 w_PERMIT w_DENY h0 n0 v U'.heap L ∧ FrameEnd U o U' L ({ frames := 0, cells := 0, slots := 0, locals := 0 } : Room).cells ({ frames := 0, cells := 0, slots := 0, locals := 0 } : Room).slots) := by
  refine MetFree.of_bodySF (plainFor_of_name pn_com_example_riskgate_riskgate_xacml_ExtendedDecision) hisR ?_
  intro p e s m args below meth c s₁ Bd hml0 hP hK
  obtain ⟨rfl, hZ, hh⟩ := hP
  have hx := Bd.exec
  have hby := Bd.bytes
  have hml : c.maxLocals = 2 := hml0
  have hown : s.vm.findClass cS0 = some m.cls := findClass_of_methodNamed Bd.named
  have hnm := (name_of_methodNamed Bd.named Bd.method).1
  have X0 : Stand p l e ({ frames := 0, cells := 0, slots := 0, locals := 0 } : Room) s m #[(.ref r0)] below meth c s₁ [] 0 0 := Stand.of_body Bd
  have e0 : s₁.heap = h0 := by rw [← hh, Bd.state]; rfl
  have N0 := Fr.nil n0
  have k0 : ∀ t, OwnS p e below s₁ (mkF m 0 #[rv r0, .unset] []) t → OwnS p e below s₁ (entryFrame m #[(.ref r0)] 2) t := fun t k => castTop (ef_1 m r0) k
  obtain ⟨T1, X1, e1, st1⟩ := getS2 X0 hx hZ hown (host := "") (Or.inl (own_at hw 22 rfl)) Via.refl e0 S_PERMIT (g := (mkF m 3 #[rv r0, rv r0] [(.ref r0)])) rfl (hb hby d1_3)
  obtain ⟨T2, X2, e2, st2⟩ := getS2 X1 hx hZ hown (host := "") (Or.inl (own_at hw 24 rfl)) Via.refl e1 S_DENY (g := (mkF m 17 #[rv r0, rv r0] [(.ref r0)])) rfl (hb hby d1_17)
  obtain ⟨fs, hr, hrun, hended, hW, hsame⟩ := X2.leave (v := some (.ref r0)) (fun h => by rw [Bd.returns] at h; cases h)
  refine ⟨_, _, k0 _ ?_, hrun, hended, _, _, rfl, ?_, ⟨_, rfl⟩, hW, hsame.mono (by decide) (by decide)⟩
  · show OwnS p e below s₁ (mkF m 0 #[rv r0, .unset] []) _
    refine XS.aloadN X0.here hx rfl (hb hby d1_0) rfl rfl ?_
    show OwnS p e below s₁ (mkF m 1 #[rv r0, .unset] [(.ref r0)]) _
    refine XS.astoreN X0.here hx rfl (hb hby d1_1) rfl rfl (l' := #[rv r0, rv r0]) rfl ?_
    show OwnS p e below s₁ (mkF m 2 #[rv r0, rv r0] []) _
    refine XS.aloadN X0.here hx rfl (hb hby d1_2) rfl rfl ?_
    show OwnS p e below s₁ (mkF m 3 #[rv r0, rv r0] [(.ref r0)]) _
    refine st1 _ ?_
    show OwnS p e below T1 (mkF m 6 #[rv r0, rv r0] [(.ref w_PERMIT), (.ref r0)]) _
    refine Jvm.RoadKit.acmp (g := (mkF m 6 #[rv r0, rv r0] [(.ref w_PERMIT), (.ref r0)])) X1 hx rfl rfl rfl (pc0 := 6) (pc' := 16) (same := false) rfl (hb hby d1_6) rfl (decide_eq_false fun q => ha6 (Value.ref.inj q)) (by decide) (by decide) ?_
    show OwnS p e below T1 (mkF m 16 #[rv r0, rv r0] []) _
    refine XS.aloadN X1.here hx rfl (hb hby d1_16) rfl rfl ?_
    show OwnS p e below T1 (mkF m 17 #[rv r0, rv r0] [(.ref r0)]) _
    refine st2 _ ?_
    show OwnS p e below T2 (mkF m 20 #[rv r0, rv r0] [(.ref w_DENY), (.ref r0)]) _
    refine Jvm.RoadKit.acmp (g := (mkF m 20 #[rv r0, rv r0] [(.ref w_DENY), (.ref r0)])) X2 hx rfl rfl rfl (pc0 := 20) (pc' := 27) (same := false) rfl (hb hby d1_20) rfl (decide_eq_false fun q => ha20 (Value.ref.inj q)) (by decide) (by decide) ?_
    show OwnS p e below T2 (mkF m 27 #[rv r0, rv r0] []) _
    refine XS.aloadN X2.here hx rfl (hb hby d1_27) rfl rfl ?_
    show OwnS p e below T2 (mkF m 28 #[rv r0, rv r0] [(.ref r0)]) _
    jvm_step X2.here [X2.here.top, hx, (hb hby d1_28), X2.method', Bd.returns, Value.isRef, FieldType.isReference]
    first | (intro acts; rw [hr _ acts rfl rfl rfl]) | rw [hr _ _ rfl rfl rfl]
    exact Steps.refl _
  · show Q_1_o Z r0 w_PERMIT w_DENY h0 n0 _ T2.heap _
    rw [e2]
    exact ⟨rfl, N0, rfl⟩
theorem pd_0 : parseMethodDescriptor cS1 = some ⟨[], some (.object cS0)⟩ := by decide +kernel
theorem pn_com_example_riskgate_riskgate_xacml_ExtendedDecisionUnderIndeterminateTargetPinLaw : plainName "com/example/riskgate/riskgate/xacml/ExtendedDecisionUnderIndeterminateTargetPinLaw" = true := by first | (simp [plainName, overriddenIn]; done) | decide +kernel
theorem ef_0 (m : MethodId) (x0 : Int32) : entryFrame m #[(.int x0)] maxLocals = mkF m 0 #[.val (.int x0), .unset, .unset, .unset] [] := by first | (simp [entryFrame, mkF, argsToLocals, Value.category, maxLocals]; done) | rfl
def Q_0 (Z : State) (p0 : Int32) (w_PERMIT : Addr) (w_DENY : Addr) (w_NOT_APPLICABLE : Addr) (w_INDETERMINATE_P : Addr) (w_INDETERMINATE_D : Addr) (w_INDETERMINATE_DP : Addr) (h0 : Heap) (n0 : Nat) (v : Option Value) (h : Heap) (L : List Loc) : Prop := v = some (.int 1) ∧ Fr n0 L ∧ True
set_option maxRecDepth 65536 in
set_option maxHeartbeats 40000000 in
theorem rm0 (l : Launch) (Z : State) (a0 : Array Value) (hw : ∀ d ∈ tables_1, d.before a0 Z = true) (ws : List Jvm.Cond) (p0 : Int32) (w_PERMIT : Addr) (w_DENY : Addr) (w_NOT_APPLICABLE : Addr) (w_INDETERMINATE_P : Addr) (w_INDETERMINATE_D : Addr) (w_INDETERMINATE_DP : Addr) (h0 : Heap) (n0 : Nat) (Z0 : n0 ≤ h0.size) (S_PERMIT : Sta Z h0 cS0 "PERMIT" cS2 (.ref w_PERMIT)) (S_DENY : Sta Z h0 cS0 "DENY" cS2 (.ref w_DENY)) (S_NOT_APPLICABLE : Sta Z h0 cS0 "NOT_APPLICABLE" cS2 (.ref w_NOT_APPLICABLE)) (S_INDETERMINATE_P : Sta Z h0 cS0 "INDETERMINATE_P" cS2 (.ref w_INDETERMINATE_P)) (S_INDETERMINATE_D : Sta Z h0 cS0 "INDETERMINATE_D" cS2 (.ref w_INDETERMINATE_D)) (S_INDETERMINATE_DP : Sta Z h0 cS0 "INDETERMINATE_DP" cS2 (.ref w_INDETERMINATE_DP)) (E_w_PERMIT : Exa Z h0 w_PERMIT cS0) (E_w_DENY : Exa Z h0 w_DENY cS0) (E_w_NOT_APPLICABLE : Exa Z h0 w_NOT_APPLICABLE cS0) (E_w_INDETERMINATE_P : Exa Z h0 w_INDETERMINATE_P cS0) (E_w_INDETERMINATE_D : Exa Z h0 w_INDETERMINATE_D cS0) (E_w_INDETERMINATE_DP : Exa Z h0 w_INDETERMINATE_DP cS0) (ne_DENY_PERMIT : ¬ (w_DENY = w_PERMIT)) (ne_NOT_APPLICABLE_PERMIT : ¬ (w_NOT_APPLICABLE = w_PERMIT)) (ne_INDETERMINATE_P_PERMIT : ¬ (w_INDETERMINATE_P = w_PERMIT)) (ne_INDETERMINATE_D_PERMIT : ¬ (w_INDETERMINATE_D = w_PERMIT)) (ne_INDETERMINATE_DP_PERMIT : ¬ (w_INDETERMINATE_DP = w_PERMIT)) (ne_NOT_APPLICABLE_DENY : ¬ (w_NOT_APPLICABLE = w_DENY)) (ne_INDETERMINATE_P_DENY : ¬ (w_INDETERMINATE_P = w_DENY)) (ne_INDETERMINATE_D_DENY : ¬ (w_INDETERMINATE_D = w_DENY)) (ne_INDETERMINATE_DP_DENY : ¬ (w_INDETERMINATE_DP = w_DENY)) :
    MetFree l x (head1 (Jvm.Cond.code x code maxLocals ret :: ws) room_1) (fun a U => a = #[(.int p0)] ∧ Z.Warmed39 U.vm ∧ U.heap = h0) (fun _ _ _ _ _ => True) (fun _ U o U' => ∃ v L, o = .returned v ∧ Q_0 Z p0 w_PERMIT w_DENY w_NOT_APPLICABLE w_INDETERMINATE_P w_INDETERMINATE_D w_INDETERMINATE_DP h0 n0 v U'.heap L ∧ FrameEnd U o U' L room_1.cells room_1.slots) := by
  refine MetFree.of_bodySF (plainFor_of_name pn_com_example_riskgate_riskgate_xacml_ExtendedDecisionUnderIndeterminateTargetPinLaw) hisR ?_
  intro p e s m args below meth c s₁ Bd hml0 hP hK
  obtain ⟨rfl, hZ, hh⟩ := hP
  have hx := Bd.exec
  have hby := Bd.bytes
  have hml : c.maxLocals = 4 := hml0
  have hown : s.vm.findClass "com/example/riskgate/riskgate/xacml/ExtendedDecisionUnderIndeterminateTargetPinLaw" = some m.cls := findClass_of_methodNamed Bd.named
  have hnm := (name_of_methodNamed Bd.named Bd.method).1
  have X0 : Stand p l e room_1 s m #[(.int p0)] below meth c s₁ [] 0 0 := Stand.of_body Bd
  have e0 : s₁.heap = h0 := by rw [← hh, Bd.state]; rfl
  have N0 := Fr.nil n0
  have k0 : ∀ t, OwnS p e below s₁ (mkF m 0 #[iv p0, .unset, .unset, .unset] []) t → OwnS p e below s₁ (entryFrame m #[(.int p0)] maxLocals) t := fun t k => castTop (ef_0 m p0) k
  obtain ⟨T1, h1, k1, X1, e1, E1, A1, EA1, O1, st1⟩ := newRE X0 hx hZ hown (own_at hw 0 rfl) (own_at hw 1 rfl) e0 (g := (mkF m 2 #[iv p0, .unset, .unset, .unset] [(.int 6)])) rfl (hb hby at_2) rfl (by decide) (cap := 6) (by decide) (by decide) (by decide) (by decide) (ad := "[Lcom/example/riskgate/riskgate/xacml/ExtendedDecision;") (by decide)
  obtain ⟨b1, g1⟩ : ∃ z, z = h0.size := ⟨_, rfl⟩
  rw [← g1] at A1 EA1 st1
  have g_b1 : n0 ≤ b1 := Nat.le_trans Z0 (Nat.le_of_eq g1.symm)
  have sz_b1 : h0.size ≤ b1 := Nat.le_trans (Keep.refl h0 []).1 (Nat.le_of_eq g1.symm)
  have V_b1 : Arv Z h1 b1 k1 (.object cS0) (6 : Int32) [.null, .null, .null, .null, .null, .null] .null := (Arv.new A1 (by decide)).pad (pad_rep [] .null 6)
  have f2 := (S_PERMIT.ext E1)
  obtain ⟨T3, X3, e3, st3⟩ := getS2 X1 hx hZ hown (host := "") (Or.inl (own_at hw 2 rfl)) Via.refl e1 f2 (g := (mkF m 7 #[iv p0, .unset, .unset, .unset] [(.int 0), (.ref b1), (.ref b1)])) rfl (hb hby at_7)
  obtain ⟨cl_z4, Ar_z4, q_z4, S_z4, N_z4, H_z4, G_z4⟩ := V_b1
  have hin5 : ¬ ((0 : Int32) < 0 ∨ cl_z4.slots.size ≤ ((0 : Int32)).toNatClampNeg) := inb_of S_z4 ⟨by decide, by decide⟩
  have f6 := (E_w_PERMIT.ext E1)
  obtain ⟨T7, h7, X7, e7, W7, st7⟩ := stR X3 hx hZ e3 Ar_z4 (j := (0 : Int32)) hin5 rfl (Sto.ofV Ar_z4 q_z4 O1 (Ins.self f6)) (g := (mkF m 10 #[iv p0, .unset, .unset, .unset] [(.ref w_PERMIT), (.int 0), (.ref b1), (.ref b1)])) rfl rfl (hb hby at_10)
  have V7 : Arv Z h7 b1 k1 (.object cS0) (6 : Int32) [(.ref w_PERMIT), .null, .null, .null, .null, .null] .null := Arv.set Ar_z4 q_z4 S_z4 N_z4 H_z4 G_z4 rfl W7 0 rfl (Nat.le_of_ble_eq_true rfl)
  have N7 := Fr.snoc X7 N0 g_b1
  have f8 := ((S_DENY.ext E1).wr W7)
  obtain ⟨T9, X9, e9, st9⟩ := getS2 X7 hx hZ hown (host := "") (Or.inl (own_at hw 6 rfl)) Via.refl e7 f8 (g := (mkF m 13 #[iv p0, .unset, .unset, .unset] [(.int 1), (.ref b1), (.ref b1)])) rfl (hb hby at_13)
  obtain ⟨cl_z10, Ar_z10, q_z10, S_z10, N_z10, H_z10, G_z10⟩ := V7
  have hin11 : ¬ ((1 : Int32) < 0 ∨ cl_z10.slots.size ≤ ((1 : Int32)).toNatClampNeg) := inb_of S_z10 ⟨by decide, by decide⟩
  have f12 := ((E_w_DENY.ext E1).wr W7)
  obtain ⟨T13, h13, X13, e13, W13, st13⟩ := stR X9 hx hZ e9 Ar_z10 (j := (1 : Int32)) hin11 rfl (Sto.ofV Ar_z10 q_z10 O1 (Ins.self f12)) (g := (mkF m 16 #[iv p0, .unset, .unset, .unset] [(.ref w_DENY), (.int 1), (.ref b1), (.ref b1)])) rfl rfl (hb hby at_16)
  have V13 : Arv Z h13 b1 k1 (.object cS0) (6 : Int32) [(.ref w_PERMIT), (.ref w_DENY), .null, .null, .null, .null] .null := Arv.set Ar_z10 q_z10 S_z10 N_z10 H_z10 G_z10 rfl W13 1 rfl (Nat.le_of_ble_eq_true rfl)
  have N13 := Fr.snoc X13 N7 g_b1
  have f14 := (((S_NOT_APPLICABLE.ext E1).wr W7).wr W13)
  obtain ⟨T15, X15, e15, st15⟩ := getS2 X13 hx hZ hown (host := "") (Or.inl (own_at hw 8 rfl)) Via.refl e13 f14 (g := (mkF m 19 #[iv p0, .unset, .unset, .unset] [(.int 2), (.ref b1), (.ref b1)])) rfl (hb hby at_19)
  obtain ⟨cl_z16, Ar_z16, q_z16, S_z16, N_z16, H_z16, G_z16⟩ := V13
  have hin17 : ¬ ((2 : Int32) < 0 ∨ cl_z16.slots.size ≤ ((2 : Int32)).toNatClampNeg) := inb_of S_z16 ⟨by decide, by decide⟩
  have f18 := (((E_w_NOT_APPLICABLE.ext E1).wr W7).wr W13)
  obtain ⟨T19, h19, X19, e19, W19, st19⟩ := stR X15 hx hZ e15 Ar_z16 (j := (2 : Int32)) hin17 rfl (Sto.ofV Ar_z16 q_z16 O1 (Ins.self f18)) (g := (mkF m 22 #[iv p0, .unset, .unset, .unset] [(.ref w_NOT_APPLICABLE), (.int 2), (.ref b1), (.ref b1)])) rfl rfl (hb hby at_22)
  have V19 : Arv Z h19 b1 k1 (.object cS0) (6 : Int32) [(.ref w_PERMIT), (.ref w_DENY), (.ref w_NOT_APPLICABLE), .null, .null, .null] .null := Arv.set Ar_z16 q_z16 S_z16 N_z16 H_z16 G_z16 rfl W19 2 rfl (Nat.le_of_ble_eq_true rfl)
  have N19 := Fr.snoc X19 N13 g_b1
  have f20 := ((((S_INDETERMINATE_P.ext E1).wr W7).wr W13).wr W19)
  obtain ⟨T21, X21, e21, st21⟩ := getS2 X19 hx hZ hown (host := "") (Or.inl (own_at hw 10 rfl)) Via.refl e19 f20 (g := (mkF m 25 #[iv p0, .unset, .unset, .unset] [(.int 3), (.ref b1), (.ref b1)])) rfl (hb hby at_25)
  obtain ⟨cl_z22, Ar_z22, q_z22, S_z22, N_z22, H_z22, G_z22⟩ := V19
  have hin23 : ¬ ((3 : Int32) < 0 ∨ cl_z22.slots.size ≤ ((3 : Int32)).toNatClampNeg) := inb_of S_z22 ⟨by decide, by decide⟩
  have f24 := ((((E_w_INDETERMINATE_P.ext E1).wr W7).wr W13).wr W19)
  obtain ⟨T25, h25, X25, e25, W25, st25⟩ := stR X21 hx hZ e21 Ar_z22 (j := (3 : Int32)) hin23 rfl (Sto.ofV Ar_z22 q_z22 O1 (Ins.self f24)) (g := (mkF m 28 #[iv p0, .unset, .unset, .unset] [(.ref w_INDETERMINATE_P), (.int 3), (.ref b1), (.ref b1)])) rfl rfl (hb hby at_28)
  have V25 : Arv Z h25 b1 k1 (.object cS0) (6 : Int32) [(.ref w_PERMIT), (.ref w_DENY), (.ref w_NOT_APPLICABLE), (.ref w_INDETERMINATE_P), .null, .null] .null := Arv.set Ar_z22 q_z22 S_z22 N_z22 H_z22 G_z22 rfl W25 3 rfl (Nat.le_of_ble_eq_true rfl)
  have N25 := Fr.snoc X25 N19 g_b1
  have f26 := (((((S_INDETERMINATE_D.ext E1).wr W7).wr W13).wr W19).wr W25)
  obtain ⟨T27, X27, e27, st27⟩ := getS2 X25 hx hZ hown (host := "") (Or.inl (own_at hw 12 rfl)) Via.refl e25 f26 (g := (mkF m 31 #[iv p0, .unset, .unset, .unset] [(.int 4), (.ref b1), (.ref b1)])) rfl (hb hby at_31)
  obtain ⟨cl_z28, Ar_z28, q_z28, S_z28, N_z28, H_z28, G_z28⟩ := V25
  have hin29 : ¬ ((4 : Int32) < 0 ∨ cl_z28.slots.size ≤ ((4 : Int32)).toNatClampNeg) := inb_of S_z28 ⟨by decide, by decide⟩
  have f30 := (((((E_w_INDETERMINATE_D.ext E1).wr W7).wr W13).wr W19).wr W25)
  obtain ⟨T31, h31, X31, e31, W31, st31⟩ := stR X27 hx hZ e27 Ar_z28 (j := (4 : Int32)) hin29 rfl (Sto.ofV Ar_z28 q_z28 O1 (Ins.self f30)) (g := (mkF m 34 #[iv p0, .unset, .unset, .unset] [(.ref w_INDETERMINATE_D), (.int 4), (.ref b1), (.ref b1)])) rfl rfl (hb hby at_34)
  have V31 : Arv Z h31 b1 k1 (.object cS0) (6 : Int32) [(.ref w_PERMIT), (.ref w_DENY), (.ref w_NOT_APPLICABLE), (.ref w_INDETERMINATE_P), (.ref w_INDETERMINATE_D), .null] .null := Arv.set Ar_z28 q_z28 S_z28 N_z28 H_z28 G_z28 rfl W31 4 rfl (Nat.le_of_ble_eq_true rfl)
  have N31 := Fr.snoc X31 N25 g_b1
  have f32 := ((((((S_INDETERMINATE_DP.ext E1).wr W7).wr W13).wr W19).wr W25).wr W31)
  obtain ⟨T33, X33, e33, st33⟩ := getS2 X31 hx hZ hown (host := "") (Or.inl (own_at hw 14 rfl)) Via.refl e31 f32 (g := (mkF m 37 #[iv p0, .unset, .unset, .unset] [(.int 5), (.ref b1), (.ref b1)])) rfl (hb hby at_37)
  obtain ⟨cl_z34, Ar_z34, q_z34, S_z34, N_z34, H_z34, G_z34⟩ := V31
  have hin35 : ¬ ((5 : Int32) < 0 ∨ cl_z34.slots.size ≤ ((5 : Int32)).toNatClampNeg) := inb_of S_z34 ⟨by decide, by decide⟩
  have f36 := ((((((E_w_INDETERMINATE_DP.ext E1).wr W7).wr W13).wr W19).wr W25).wr W31)
  obtain ⟨T37, h37, X37, e37, W37, st37⟩ := stR X33 hx hZ e33 Ar_z34 (j := (5 : Int32)) hin35 rfl (Sto.ofV Ar_z34 q_z34 O1 (Ins.self f36)) (g := (mkF m 40 #[iv p0, .unset, .unset, .unset] [(.ref w_INDETERMINATE_DP), (.int 5), (.ref b1), (.ref b1)])) rfl rfl (hb hby at_40)
  have V37 : Arv Z h37 b1 k1 (.object cS0) (6 : Int32) [(.ref w_PERMIT), (.ref w_DENY), (.ref w_NOT_APPLICABLE), (.ref w_INDETERMINATE_P), (.ref w_INDETERMINATE_D), (.ref w_INDETERMINATE_DP)] .null := Arv.set Ar_z34 q_z34 S_z34 N_z34 H_z34 G_z34 rfl W37 5 rfl (Nat.le_of_ble_eq_true rfl)
  have N37 := Fr.snoc X37 N31 g_b1
  have f38 := ((((((f6.wr W7).wr W13).wr W19).wr W25).wr W31).wr W37)
  have f39 := (((((f12.wr W13).wr W19).wr W25).wr W31).wr W37)
  have f40 := ((((f18.wr W19).wr W25).wr W31).wr W37)
  have f41 := (((f24.wr W25).wr W31).wr W37)
  have f42 := ((f30.wr W31).wr W37)
  have f43 := (f36.wr W37)
  have f44 := ((((((EA1.wr W7).wr W13).wr W19).wr W25).wr W31).wr W37)
  obtain ⟨T45, h45, k45, X45, e45, E45, A45, EA45, O45, st45⟩ := newRE X37 hx hZ hown (own_at hw 0 rfl) (own_at hw 1 rfl) e37 (g := (mkF m 44 #[iv p0, rv b1, .unset, .unset] [(.int 6)])) rfl (hb hby at_44) rfl (by decide) (cap := 6) (by decide) (by decide) (by decide) (by decide) (ad := "[Lcom/example/riskgate/riskgate/xacml/ExtendedDecision;") (by decide)
  obtain ⟨b45, g45⟩ : ∃ z, z = h37.size := ⟨_, rfl⟩
  rw [← g45] at A45 EA45 st45
  have g_b45 : n0 ≤ b45 := Nat.le_trans (Nat.le_trans (Nat.le_trans (Nat.le_trans (Nat.le_trans (Nat.le_trans (Nat.le_trans (Nat.le_trans Z0 E1.1) (Keep.of_wr W7).1) (Keep.of_wr W13).1) (Keep.of_wr W19).1) (Keep.of_wr W25).1) (Keep.of_wr W31).1) (Keep.of_wr W37).1) (Nat.le_of_eq g45.symm)
  have sz_b45 : h0.size ≤ b45 := Nat.le_trans ((((((((Keep.refl h0 []).ext E1).wr W7 (Or.inr sz_b1)).wr W13 (Or.inr sz_b1)).wr W19 (Or.inr sz_b1)).wr W25 (Or.inr sz_b1)).wr W31 (Or.inr sz_b1)).wr W37 (Or.inr sz_b1)).1 (Nat.le_of_eq g45.symm)
  have V_b45 : Arv Z h45 b45 k45 (.object cS0) (6 : Int32) [.null, .null, .null, .null, .null, .null] .null := (Arv.new A45 (by decide)).pad (pad_rep [] .null 6)
  have f46 := ((((f20.wr W25).wr W31).wr W37).ext E45)
  obtain ⟨T47, X47, e47, st47⟩ := getS2 X45 hx hZ hown (host := "") (Or.inl (own_at hw 10 rfl)) Via.refl e45 f46 (g := (mkF m 49 #[iv p0, rv b1, .unset, .unset] [(.int 0), (.ref b45), (.ref b45)])) rfl (hb hby at_49)
  obtain ⟨cl_z48, Ar_z48, q_z48, S_z48, N_z48, H_z48, G_z48⟩ := V_b45
  have hin49 : ¬ ((0 : Int32) < 0 ∨ cl_z48.slots.size ≤ ((0 : Int32)).toNatClampNeg) := inb_of S_z48 ⟨by decide, by decide⟩
  have f50 := (f41.ext E45)
  obtain ⟨T51, h51, X51, e51, W51, st51⟩ := stR X47 hx hZ e47 Ar_z48 (j := (0 : Int32)) hin49 rfl (Sto.ofV Ar_z48 q_z48 O45 (Ins.self f50)) (g := (mkF m 52 #[iv p0, rv b1, .unset, .unset] [(.ref w_INDETERMINATE_P), (.int 0), (.ref b45), (.ref b45)])) rfl rfl (hb hby at_52)
  have V51 : Arv Z h51 b45 k45 (.object cS0) (6 : Int32) [(.ref w_INDETERMINATE_P), .null, .null, .null, .null, .null] .null := Arv.set Ar_z48 q_z48 S_z48 N_z48 H_z48 G_z48 rfl W51 0 rfl (Nat.le_of_ble_eq_true rfl)
  have N51 := Fr.snoc X51 N37 g_b45
  have f52 := ((((f26.wr W31).wr W37).ext E45).wr W51)
  obtain ⟨T53, X53, e53, st53⟩ := getS2 X51 hx hZ hown (host := "") (Or.inl (own_at hw 12 rfl)) Via.refl e51 f52 (g := (mkF m 55 #[iv p0, rv b1, .unset, .unset] [(.int 1), (.ref b45), (.ref b45)])) rfl (hb hby at_55)
  obtain ⟨cl_z54, Ar_z54, q_z54, S_z54, N_z54, H_z54, G_z54⟩ := V51
  have hin55 : ¬ ((1 : Int32) < 0 ∨ cl_z54.slots.size ≤ ((1 : Int32)).toNatClampNeg) := inb_of S_z54 ⟨by decide, by decide⟩
  have f56 := ((f42.ext E45).wr W51)
  obtain ⟨T57, h57, X57, e57, W57, st57⟩ := stR X53 hx hZ e53 Ar_z54 (j := (1 : Int32)) hin55 rfl (Sto.ofV Ar_z54 q_z54 O45 (Ins.self f56)) (g := (mkF m 58 #[iv p0, rv b1, .unset, .unset] [(.ref w_INDETERMINATE_D), (.int 1), (.ref b45), (.ref b45)])) rfl rfl (hb hby at_58)
  have V57 : Arv Z h57 b45 k45 (.object cS0) (6 : Int32) [(.ref w_INDETERMINATE_P), (.ref w_INDETERMINATE_D), .null, .null, .null, .null] .null := Arv.set Ar_z54 q_z54 S_z54 N_z54 H_z54 G_z54 rfl W57 1 rfl (Nat.le_of_ble_eq_true rfl)
  have N57 := Fr.snoc X57 N51 g_b45
  have f58 := (((((((f14.wr W19).wr W25).wr W31).wr W37).ext E45).wr W51).wr W57)
  obtain ⟨T59, X59, e59, st59⟩ := getS2 X57 hx hZ hown (host := "") (Or.inl (own_at hw 8 rfl)) Via.refl e57 f58 (g := (mkF m 61 #[iv p0, rv b1, .unset, .unset] [(.int 2), (.ref b45), (.ref b45)])) rfl (hb hby at_61)
  obtain ⟨cl_z60, Ar_z60, q_z60, S_z60, N_z60, H_z60, G_z60⟩ := V57
  have hin61 : ¬ ((2 : Int32) < 0 ∨ cl_z60.slots.size ≤ ((2 : Int32)).toNatClampNeg) := inb_of S_z60 ⟨by decide, by decide⟩
  have f62 := (((f40.ext E45).wr W51).wr W57)
  obtain ⟨T63, h63, X63, e63, W63, st63⟩ := stR X59 hx hZ e59 Ar_z60 (j := (2 : Int32)) hin61 rfl (Sto.ofV Ar_z60 q_z60 O45 (Ins.self f62)) (g := (mkF m 64 #[iv p0, rv b1, .unset, .unset] [(.ref w_NOT_APPLICABLE), (.int 2), (.ref b45), (.ref b45)])) rfl rfl (hb hby at_64)
  have V63 : Arv Z h63 b45 k45 (.object cS0) (6 : Int32) [(.ref w_INDETERMINATE_P), (.ref w_INDETERMINATE_D), (.ref w_NOT_APPLICABLE), .null, .null, .null] .null := Arv.set Ar_z60 q_z60 S_z60 N_z60 H_z60 G_z60 rfl W63 2 rfl (Nat.le_of_ble_eq_true rfl)
  have N63 := Fr.snoc X63 N57 g_b45
  have f64 := (((f46.wr W51).wr W57).wr W63)
  obtain ⟨T65, X65, e65, st65⟩ := getS2 X63 hx hZ hown (host := "") (Or.inl (own_at hw 10 rfl)) Via.refl e63 f64 (g := (mkF m 67 #[iv p0, rv b1, .unset, .unset] [(.int 3), (.ref b45), (.ref b45)])) rfl (hb hby at_67)
  obtain ⟨cl_z66, Ar_z66, q_z66, S_z66, N_z66, H_z66, G_z66⟩ := V63
  have hin67 : ¬ ((3 : Int32) < 0 ∨ cl_z66.slots.size ≤ ((3 : Int32)).toNatClampNeg) := inb_of S_z66 ⟨by decide, by decide⟩
  have f68 := (((f50.wr W51).wr W57).wr W63)
  obtain ⟨T69, h69, X69, e69, W69, st69⟩ := stR X65 hx hZ e65 Ar_z66 (j := (3 : Int32)) hin67 rfl (Sto.ofV Ar_z66 q_z66 O45 (Ins.self f68)) (g := (mkF m 70 #[iv p0, rv b1, .unset, .unset] [(.ref w_INDETERMINATE_P), (.int 3), (.ref b45), (.ref b45)])) rfl rfl (hb hby at_70)
  have V69 : Arv Z h69 b45 k45 (.object cS0) (6 : Int32) [(.ref w_INDETERMINATE_P), (.ref w_INDETERMINATE_D), (.ref w_NOT_APPLICABLE), (.ref w_INDETERMINATE_P), .null, .null] .null := Arv.set Ar_z66 q_z66 S_z66 N_z66 H_z66 G_z66 rfl W69 3 rfl (Nat.le_of_ble_eq_true rfl)
  have N69 := Fr.snoc X69 N63 g_b45
  have f70 := (((f52.wr W57).wr W63).wr W69)
  obtain ⟨T71, X71, e71, st71⟩ := getS2 X69 hx hZ hown (host := "") (Or.inl (own_at hw 12 rfl)) Via.refl e69 f70 (g := (mkF m 73 #[iv p0, rv b1, .unset, .unset] [(.int 4), (.ref b45), (.ref b45)])) rfl (hb hby at_73)
  obtain ⟨cl_z72, Ar_z72, q_z72, S_z72, N_z72, H_z72, G_z72⟩ := V69
  have hin73 : ¬ ((4 : Int32) < 0 ∨ cl_z72.slots.size ≤ ((4 : Int32)).toNatClampNeg) := inb_of S_z72 ⟨by decide, by decide⟩
  have f74 := (((f56.wr W57).wr W63).wr W69)
  obtain ⟨T75, h75, X75, e75, W75, st75⟩ := stR X71 hx hZ e71 Ar_z72 (j := (4 : Int32)) hin73 rfl (Sto.ofV Ar_z72 q_z72 O45 (Ins.self f74)) (g := (mkF m 76 #[iv p0, rv b1, .unset, .unset] [(.ref w_INDETERMINATE_D), (.int 4), (.ref b45), (.ref b45)])) rfl rfl (hb hby at_76)
  have V75 : Arv Z h75 b45 k45 (.object cS0) (6 : Int32) [(.ref w_INDETERMINATE_P), (.ref w_INDETERMINATE_D), (.ref w_NOT_APPLICABLE), (.ref w_INDETERMINATE_P), (.ref w_INDETERMINATE_D), .null] .null := Arv.set Ar_z72 q_z72 S_z72 N_z72 H_z72 G_z72 rfl W75 4 rfl (Nat.le_of_ble_eq_true rfl)
  have N75 := Fr.snoc X75 N69 g_b45
  have f76 := (((((((f32.wr W37).ext E45).wr W51).wr W57).wr W63).wr W69).wr W75)
  obtain ⟨T77, X77, e77, st77⟩ := getS2 X75 hx hZ hown (host := "") (Or.inl (own_at hw 14 rfl)) Via.refl e75 f76 (g := (mkF m 79 #[iv p0, rv b1, .unset, .unset] [(.int 5), (.ref b45), (.ref b45)])) rfl (hb hby at_79)
  obtain ⟨cl_z78, Ar_z78, q_z78, S_z78, N_z78, H_z78, G_z78⟩ := V75
  have hin79 : ¬ ((5 : Int32) < 0 ∨ cl_z78.slots.size ≤ ((5 : Int32)).toNatClampNeg) := inb_of S_z78 ⟨by decide, by decide⟩
  have f80 := ((((((f43.ext E45).wr W51).wr W57).wr W63).wr W69).wr W75)
  obtain ⟨T81, h81, X81, e81, W81, st81⟩ := stR X77 hx hZ e77 Ar_z78 (j := (5 : Int32)) hin79 rfl (Sto.ofV Ar_z78 q_z78 O45 (Ins.self f80)) (g := (mkF m 82 #[iv p0, rv b1, .unset, .unset] [(.ref w_INDETERMINATE_DP), (.int 5), (.ref b45), (.ref b45)])) rfl rfl (hb hby at_82)
  have V81 : Arv Z h81 b45 k45 (.object cS0) (6 : Int32) [(.ref w_INDETERMINATE_P), (.ref w_INDETERMINATE_D), (.ref w_NOT_APPLICABLE), (.ref w_INDETERMINATE_P), (.ref w_INDETERMINATE_D), (.ref w_INDETERMINATE_DP)] .null := Arv.set Ar_z78 q_z78 S_z78 N_z78 H_z78 G_z78 rfl W81 5 rfl (Nat.le_of_ble_eq_true rfl)
  have N81 := Fr.snoc X81 N75 g_b45
  have k82 : ∀ t, OwnS p e below T81 (mkF m 91 #[iv p0, rv b1, rv b45, .unset] [(.int ((p0 &&& (2147483647 : Int32)) % (6 : Int32)))]) t → OwnS p e below s₁ (entryFrame m #[(.int p0)] maxLocals) t := fun t q => by
    refine k0 t ?_
    show OwnS p e below s₁ (mkF m 0 #[iv p0, .unset, .unset, .unset] []) _
    refine XS.bipush X0.here hx rfl (hb hby at_0) ?_
    show OwnS p e below s₁ (mkF m 2 #[iv p0, .unset, .unset, .unset] [(.int 6)]) _
    refine st1 _ ?_
    show OwnS p e below T1 (mkF m 5 #[iv p0, .unset, .unset, .unset] [(.ref b1)]) _
    refine XS.dup X1.here hx rfl (hb hby at_5) rfl rfl ?_
    show OwnS p e below T1 (mkF m 6 #[iv p0, .unset, .unset, .unset] [(.ref b1), (.ref b1)]) _
    refine XS.iconst X1.here hx rfl (hb hby at_6) ?_
    show OwnS p e below T1 (mkF m 7 #[iv p0, .unset, .unset, .unset] [(.int 0), (.ref b1), (.ref b1)]) _
    refine st3 _ ?_
    show OwnS p e below T3 (mkF m 10 #[iv p0, .unset, .unset, .unset] [(.ref w_PERMIT), (.int 0), (.ref b1), (.ref b1)]) _
    refine st7 _ ?_
    show OwnS p e below T7 (mkF m 11 #[iv p0, .unset, .unset, .unset] [(.ref b1)]) _
    refine XS.dup X7.here hx rfl (hb hby at_11) rfl rfl ?_
    show OwnS p e below T7 (mkF m 12 #[iv p0, .unset, .unset, .unset] [(.ref b1), (.ref b1)]) _
    refine XS.iconst X7.here hx rfl (hb hby at_12) ?_
    show OwnS p e below T7 (mkF m 13 #[iv p0, .unset, .unset, .unset] [(.int 1), (.ref b1), (.ref b1)]) _
    refine st9 _ ?_
    show OwnS p e below T9 (mkF m 16 #[iv p0, .unset, .unset, .unset] [(.ref w_DENY), (.int 1), (.ref b1), (.ref b1)]) _
    refine st13 _ ?_
    show OwnS p e below T13 (mkF m 17 #[iv p0, .unset, .unset, .unset] [(.ref b1)]) _
    refine XS.dup X13.here hx rfl (hb hby at_17) rfl rfl ?_
    show OwnS p e below T13 (mkF m 18 #[iv p0, .unset, .unset, .unset] [(.ref b1), (.ref b1)]) _
    refine XS.iconst X13.here hx rfl (hb hby at_18) ?_
    show OwnS p e below T13 (mkF m 19 #[iv p0, .unset, .unset, .unset] [(.int 2), (.ref b1), (.ref b1)]) _
    refine st15 _ ?_
    show OwnS p e below T15 (mkF m 22 #[iv p0, .unset, .unset, .unset] [(.ref w_NOT_APPLICABLE), (.int 2), (.ref b1), (.ref b1)]) _
    refine st19 _ ?_
    show OwnS p e below T19 (mkF m 23 #[iv p0, .unset, .unset, .unset] [(.ref b1)]) _
    refine XS.dup X19.here hx rfl (hb hby at_23) rfl rfl ?_
    show OwnS p e below T19 (mkF m 24 #[iv p0, .unset, .unset, .unset] [(.ref b1), (.ref b1)]) _
    refine XS.iconst X19.here hx rfl (hb hby at_24) ?_
    show OwnS p e below T19 (mkF m 25 #[iv p0, .unset, .unset, .unset] [(.int 3), (.ref b1), (.ref b1)]) _
    refine st21 _ ?_
    show OwnS p e below T21 (mkF m 28 #[iv p0, .unset, .unset, .unset] [(.ref w_INDETERMINATE_P), (.int 3), (.ref b1), (.ref b1)]) _
    refine st25 _ ?_
    show OwnS p e below T25 (mkF m 29 #[iv p0, .unset, .unset, .unset] [(.ref b1)]) _
    refine XS.dup X25.here hx rfl (hb hby at_29) rfl rfl ?_
    show OwnS p e below T25 (mkF m 30 #[iv p0, .unset, .unset, .unset] [(.ref b1), (.ref b1)]) _
    refine XS.iconst X25.here hx rfl (hb hby at_30) ?_
    show OwnS p e below T25 (mkF m 31 #[iv p0, .unset, .unset, .unset] [(.int 4), (.ref b1), (.ref b1)]) _
    refine st27 _ ?_
    show OwnS p e below T27 (mkF m 34 #[iv p0, .unset, .unset, .unset] [(.ref w_INDETERMINATE_D), (.int 4), (.ref b1), (.ref b1)]) _
    refine st31 _ ?_
    show OwnS p e below T31 (mkF m 35 #[iv p0, .unset, .unset, .unset] [(.ref b1)]) _
    refine XS.dup X31.here hx rfl (hb hby at_35) rfl rfl ?_
    show OwnS p e below T31 (mkF m 36 #[iv p0, .unset, .unset, .unset] [(.ref b1), (.ref b1)]) _
    refine XS.iconst X31.here hx rfl (hb hby at_36) ?_
    show OwnS p e below T31 (mkF m 37 #[iv p0, .unset, .unset, .unset] [(.int 5), (.ref b1), (.ref b1)]) _
    refine st33 _ ?_
    show OwnS p e below T33 (mkF m 40 #[iv p0, .unset, .unset, .unset] [(.ref w_INDETERMINATE_DP), (.int 5), (.ref b1), (.ref b1)]) _
    refine st37 _ ?_
    show OwnS p e below T37 (mkF m 41 #[iv p0, .unset, .unset, .unset] [(.ref b1)]) _
    refine XS.astoreN X37.here hx rfl (hb hby at_41) rfl rfl (l' := #[iv p0, rv b1, .unset, .unset]) rfl ?_
    show OwnS p e below T37 (mkF m 42 #[iv p0, rv b1, .unset, .unset] []) _
    refine XS.bipush X37.here hx rfl (hb hby at_42) ?_
    show OwnS p e below T37 (mkF m 44 #[iv p0, rv b1, .unset, .unset] [(.int 6)]) _
    refine st45 _ ?_
    show OwnS p e below T45 (mkF m 47 #[iv p0, rv b1, .unset, .unset] [(.ref b45)]) _
    refine XS.dup X45.here hx rfl (hb hby at_47) rfl rfl ?_
    show OwnS p e below T45 (mkF m 48 #[iv p0, rv b1, .unset, .unset] [(.ref b45), (.ref b45)]) _
    refine XS.iconst X45.here hx rfl (hb hby at_48) ?_
    show OwnS p e below T45 (mkF m 49 #[iv p0, rv b1, .unset, .unset] [(.int 0), (.ref b45), (.ref b45)]) _
    refine st47 _ ?_
    show OwnS p e below T47 (mkF m 52 #[iv p0, rv b1, .unset, .unset] [(.ref w_INDETERMINATE_P), (.int 0), (.ref b45), (.ref b45)]) _
    refine st51 _ ?_
    show OwnS p e below T51 (mkF m 53 #[iv p0, rv b1, .unset, .unset] [(.ref b45)]) _
    refine XS.dup X51.here hx rfl (hb hby at_53) rfl rfl ?_
    show OwnS p e below T51 (mkF m 54 #[iv p0, rv b1, .unset, .unset] [(.ref b45), (.ref b45)]) _
    refine XS.iconst X51.here hx rfl (hb hby at_54) ?_
    show OwnS p e below T51 (mkF m 55 #[iv p0, rv b1, .unset, .unset] [(.int 1), (.ref b45), (.ref b45)]) _
    refine st53 _ ?_
    show OwnS p e below T53 (mkF m 58 #[iv p0, rv b1, .unset, .unset] [(.ref w_INDETERMINATE_D), (.int 1), (.ref b45), (.ref b45)]) _
    refine st57 _ ?_
    show OwnS p e below T57 (mkF m 59 #[iv p0, rv b1, .unset, .unset] [(.ref b45)]) _
    refine XS.dup X57.here hx rfl (hb hby at_59) rfl rfl ?_
    show OwnS p e below T57 (mkF m 60 #[iv p0, rv b1, .unset, .unset] [(.ref b45), (.ref b45)]) _
    refine XS.iconst X57.here hx rfl (hb hby at_60) ?_
    show OwnS p e below T57 (mkF m 61 #[iv p0, rv b1, .unset, .unset] [(.int 2), (.ref b45), (.ref b45)]) _
    refine st59 _ ?_
    show OwnS p e below T59 (mkF m 64 #[iv p0, rv b1, .unset, .unset] [(.ref w_NOT_APPLICABLE), (.int 2), (.ref b45), (.ref b45)]) _
    refine st63 _ ?_
    show OwnS p e below T63 (mkF m 65 #[iv p0, rv b1, .unset, .unset] [(.ref b45)]) _
    refine XS.dup X63.here hx rfl (hb hby at_65) rfl rfl ?_
    show OwnS p e below T63 (mkF m 66 #[iv p0, rv b1, .unset, .unset] [(.ref b45), (.ref b45)]) _
    refine XS.iconst X63.here hx rfl (hb hby at_66) ?_
    show OwnS p e below T63 (mkF m 67 #[iv p0, rv b1, .unset, .unset] [(.int 3), (.ref b45), (.ref b45)]) _
    refine st65 _ ?_
    show OwnS p e below T65 (mkF m 70 #[iv p0, rv b1, .unset, .unset] [(.ref w_INDETERMINATE_P), (.int 3), (.ref b45), (.ref b45)]) _
    refine st69 _ ?_
    show OwnS p e below T69 (mkF m 71 #[iv p0, rv b1, .unset, .unset] [(.ref b45)]) _
    refine XS.dup X69.here hx rfl (hb hby at_71) rfl rfl ?_
    show OwnS p e below T69 (mkF m 72 #[iv p0, rv b1, .unset, .unset] [(.ref b45), (.ref b45)]) _
    refine XS.iconst X69.here hx rfl (hb hby at_72) ?_
    show OwnS p e below T69 (mkF m 73 #[iv p0, rv b1, .unset, .unset] [(.int 4), (.ref b45), (.ref b45)]) _
    refine st71 _ ?_
    show OwnS p e below T71 (mkF m 76 #[iv p0, rv b1, .unset, .unset] [(.ref w_INDETERMINATE_D), (.int 4), (.ref b45), (.ref b45)]) _
    refine st75 _ ?_
    show OwnS p e below T75 (mkF m 77 #[iv p0, rv b1, .unset, .unset] [(.ref b45)]) _
    refine XS.dup X75.here hx rfl (hb hby at_77) rfl rfl ?_
    show OwnS p e below T75 (mkF m 78 #[iv p0, rv b1, .unset, .unset] [(.ref b45), (.ref b45)]) _
    refine XS.iconst X75.here hx rfl (hb hby at_78) ?_
    show OwnS p e below T75 (mkF m 79 #[iv p0, rv b1, .unset, .unset] [(.int 5), (.ref b45), (.ref b45)]) _
    refine st77 _ ?_
    show OwnS p e below T77 (mkF m 82 #[iv p0, rv b1, .unset, .unset] [(.ref w_INDETERMINATE_DP), (.int 5), (.ref b45), (.ref b45)]) _
    refine st81 _ ?_
    show OwnS p e below T81 (mkF m 83 #[iv p0, rv b1, .unset, .unset] [(.ref b45)]) _
    refine XS.astoreN X81.here hx rfl (hb hby at_83) rfl rfl (l' := #[iv p0, rv b1, rv b45, .unset]) rfl ?_
    show OwnS p e below T81 (mkF m 84 #[iv p0, rv b1, rv b45, .unset] []) _
    refine XS.iloadN X81.here hx rfl (hb hby at_84) rfl ?_
    show OwnS p e below T81 (mkF m 85 #[iv p0, rv b1, rv b45, .unset] [(.int p0)]) _
    refine X81.ldcInt hx hown (mvT hZ (own_at hw 16 rfl)) (g := (mkF m 85 #[iv p0, rv b1, rv b45, .unset] [(.int p0)])) rfl (hb hby at_85) _ ?_
    show OwnS p e below T81 (mkF m 87 #[iv p0, rv b1, rv b45, .unset] [(.int 2147483647), (.int p0)]) _
    refine XS.iand X81.here hx rfl (hb hby at_87) rfl ?_
    show OwnS p e below T81 (mkF m 88 #[iv p0, rv b1, rv b45, .unset] [(.int (p0 &&& (2147483647 : Int32)))]) _
    refine XS.bipush X81.here hx rfl (hb hby at_88) ?_
    show OwnS p e below T81 (mkF m 90 #[iv p0, rv b1, rv b45, .unset] [(.int 6), (.int (p0 &&& (2147483647 : Int32)))]) _
    refine iremM X81 hx (g := (mkF m 90 #[iv p0, rv b1, rv b45, .unset] [(.int 6), (.int (p0 &&& (2147483647 : Int32)))])) rfl (hb hby at_90) rfl (by decide) ?_
    exact q
  rcases own_mod6 p0 with hk | hk | hk | hk | hk | hk
  · have f83 := (((((((V37.ext E45).other W51 (Nat.ne_of_lt (Nat.lt_of_lt_of_le f44.lt (Nat.le_of_eq g45.symm)))).other W57 (Nat.ne_of_lt (Nat.lt_of_lt_of_le f44.lt (Nat.le_of_eq g45.symm)))).other W63 (Nat.ne_of_lt (Nat.lt_of_lt_of_le f44.lt (Nat.le_of_eq g45.symm)))).other W69 (Nat.ne_of_lt (Nat.lt_of_lt_of_le f44.lt (Nat.le_of_eq g45.symm)))).other W75 (Nat.ne_of_lt (Nat.lt_of_lt_of_le f44.lt (Nat.le_of_eq g45.symm)))).other W81 (Nat.ne_of_lt (Nat.lt_of_lt_of_le f44.lt (Nat.le_of_eq g45.symm))))
    obtain ⟨cl_z84, Ar_z84, q_z84, S_z84, N_z84, H_z84, G_z84⟩ := f83
    have hin85 : ¬ ((0 : Int32) < 0 ∨ cl_z84.slots.size ≤ ((0 : Int32)).toNatClampNeg) := inb_of S_z84 ⟨by decide, by decide⟩
    have f87 := (((((((((((((f2.wr W7).wr W13).wr W19).wr W25).wr W31).wr W37).ext E45).wr W51).wr W57).wr W63).wr W69).wr W75).wr W81)
    have f88 := (((f64.wr W69).wr W75).wr W81)
    have f89 := (((((((f38.ext E45).wr W51).wr W57).wr W63).wr W69).wr W75).wr W81)
    obtain ⟨cq86, kq86, q86a, q86b, q86c⟩ := isOf hZ e81 f89
    obtain ⟨_, _, ⟨T86, L86, j86, i86⟩, -, X86, ⟨Lc86, hQ86, l86, y86, z86⟩, st86⟩ := X81.virtualBack hx (y := (⟨cS0, cS3, cS1⟩ : MethodName)) (z := (⟨cS0, cS3, cS1⟩ : MethodName)) hown (mvT hZ (own_at hw 17 rfl)) (mvT hZ (own_at hw 18 rfl)) (notFace_of_selects (args := #[]) (mvT hZ (own_at hw 20 rfl))) (mvT hZ (own_at hw 20 rfl)) (mvT hZ (own_at hw 19 rfl)) (by decide) (backOf (W := 0) (rm1_p l Z a0 hw [] w_PERMIT w_INDETERMINATE_P h81 n0 (Nat.le_trans (Nat.le_trans (Nat.le_trans (Nat.le_trans (Nat.le_trans (Nat.le_trans (Nat.le_trans (Nat.le_trans (Nat.le_trans (Nat.le_trans (Nat.le_trans (Nat.le_trans (Nat.le_trans (Nat.le_trans Z0 E1.1) (Keep.of_wr W7).1) (Keep.of_wr W13).1) (Keep.of_wr W19).1) (Keep.of_wr W25).1) (Keep.of_wr W31).1) (Keep.of_wr W37).1) E45.1) (Keep.of_wr W51).1) (Keep.of_wr W57).1) (Keep.of_wr W63).1) (Keep.of_wr W69).1) (Keep.of_wr W75).1) (Keep.of_wr W81).1) f87 f88) hZ (own_at hw 21 rfl) (own_at hw 3 rfl) (by decide) (by decide)) q86a q86c (g := (mkF m 95 #[iv p0, rv b1, rv b45, iv 0] [(.ref w_PERMIT)])) rfl (by rw [hml]; rfl) (Steps.refl _) (argsL := []) (rest := []) (lenOf pd_0 rfl) rfl (by show 2 * 0 + _ ≤ _; exact Nat.le_of_eq rfl) (hb hby at_95) (fun _ _ => ⟨rfl, e81, (by decide : 2 + 0 ≤ _), (by decide : 12 + 0 ≤ _)⟩)
    dsimp only [Pt.U, Pt.locs, Pt.cells, Pt.slots] at X86 l86 y86 z86 st86 hQ86
    subst l86 y86 z86
    obtain ⟨rfl, N86q, e86⟩ := hQ86
    have N86 := Fr.app N81 N86q
    obtain ⟨cl_z90, Ar_z90, q_z90, S_z90, N_z90, H_z90, G_z90⟩ := V81
    have hin91 : ¬ ((0 : Int32) < 0 ∨ cl_z90.slots.size ≤ ((0 : Int32)).toNatClampNeg) := inb_of S_z90 ⟨by decide, by decide⟩
    obtain ⟨fs, hr, hrun, hended, hW, hsame⟩ := X86.leave (v := some (.int 1)) (fun h => by rw [Bd.returns] at h; cases h)
    refine ⟨_, _, k82 _ ?_, hrun, hended, _, _, rfl, ?_, ⟨_, rfl⟩, hW, hsame.mono (by decide) (by decide)⟩
    · rw [hk]
      show OwnS p e below T81 (mkF m 91 #[iv p0, rv b1, rv b45, .unset] [(.int 0)]) _
      refine XS.istoreN X81.here hx rfl (hb hby at_91) rfl (l' := #[iv p0, rv b1, rv b45, iv 0]) rfl ?_
      show OwnS p e below T81 (mkF m 92 #[iv p0, rv b1, rv b45, iv 0] []) _
      refine XS.aloadN X81.here hx rfl (hb hby at_92) rfl rfl ?_
      show OwnS p e below T81 (mkF m 93 #[iv p0, rv b1, rv b45, iv 0] [(.ref b1)]) _
      refine XS.iloadN X81.here hx rfl (hb hby at_93) rfl ?_
      show OwnS p e below T81 (mkF m 94 #[iv p0, rv b1, rv b45, iv 0] [(.int 0), (.ref b1)]) _
      refine X81.aaload hx (j := (0 : Int32)) (v := (.ref w_PERMIT)) (by rw [e81]; exact Ar_z84.1) (State.isArrayOf_alike hZ.alike Ar_z84.2.1) rfl Ar_z84.2.2 hin85 (Has.at H_z84 hin85 rfl) (g := (mkF m 94 #[iv p0, rv b1, rv b45, iv 0] [(.int 0), (.ref b1)])) rfl rfl (hb hby at_94) _ ?_
      show OwnS p e below T81 (mkF m 95 #[iv p0, rv b1, rv b45, iv 0] [(.ref w_PERMIT)]) _
      refine st86.trans ?_
      show OwnS p e below T86 (mkF m 98 #[iv p0, rv b1, rv b45, iv 0] [(.ref w_INDETERMINATE_P)]) _
      refine XS.aloadN X86.here hx rfl (hb hby at_98) rfl rfl ?_
      show OwnS p e below T86 (mkF m 99 #[iv p0, rv b1, rv b45, iv 0] [(.ref b45), (.ref w_INDETERMINATE_P)]) _
      refine XS.iloadN X86.here hx rfl (hb hby at_99) rfl ?_
      show OwnS p e below T86 (mkF m 100 #[iv p0, rv b1, rv b45, iv 0] [(.int 0), (.ref b45), (.ref w_INDETERMINATE_P)]) _
      refine X86.aaload hx (j := (0 : Int32)) (v := (.ref w_INDETERMINATE_P)) (by rw [e86]; exact Ar_z90.1) (State.isArrayOf_alike hZ.alike Ar_z90.2.1) rfl Ar_z90.2.2 hin91 (Has.at H_z90 hin91 rfl) (g := (mkF m 100 #[iv p0, rv b1, rv b45, iv 0] [(.int 0), (.ref b45), (.ref w_INDETERMINATE_P)])) rfl rfl (hb hby at_100) _ ?_
      show OwnS p e below T86 (mkF m 101 #[iv p0, rv b1, rv b45, iv 0] [(.ref w_INDETERMINATE_P), (.ref w_INDETERMINATE_P)]) _
      refine Jvm.RoadKit.acmp (g := (mkF m 101 #[iv p0, rv b1, rv b45, iv 0] [(.ref w_INDETERMINATE_P), (.ref w_INDETERMINATE_P)])) X86 hx rfl rfl rfl (pc0 := 101) (pc' := 104) (same := true) rfl (hb hby at_101) rfl (decide_eq_true rfl) (by decide) (by decide) ?_
      show OwnS p e below T86 (mkF m 104 #[iv p0, rv b1, rv b45, iv 0] []) _
      refine XS.iconst X86.here hx rfl (hb hby at_104) ?_
      show OwnS p e below T86 (mkF m 105 #[iv p0, rv b1, rv b45, iv 0] [(.int 1)]) _
      refine XS.goto X86.here hx rfl (pc0 := 105) (pc' := 109) rfl (hb hby at_105) (by decide) (by decide) ?_
      show OwnS p e below T86 (mkF m 109 #[iv p0, rv b1, rv b45, iv 0] [(.int 1)]) _
      exact retN X86 hx (t := .boolean) Bd.returns (by simp) (hb hby at_109) hr
    · show Q_0 Z p0 w_PERMIT w_DENY w_NOT_APPLICABLE w_INDETERMINATE_P w_INDETERMINATE_D w_INDETERMINATE_DP h0 n0 _ T86.heap _
      rw [e86]
      exact ⟨rfl, N86, trivial⟩
  · have f92 := (((((((V37.ext E45).other W51 (Nat.ne_of_lt (Nat.lt_of_lt_of_le f44.lt (Nat.le_of_eq g45.symm)))).other W57 (Nat.ne_of_lt (Nat.lt_of_lt_of_le f44.lt (Nat.le_of_eq g45.symm)))).other W63 (Nat.ne_of_lt (Nat.lt_of_lt_of_le f44.lt (Nat.le_of_eq g45.symm)))).other W69 (Nat.ne_of_lt (Nat.lt_of_lt_of_le f44.lt (Nat.le_of_eq g45.symm)))).other W75 (Nat.ne_of_lt (Nat.lt_of_lt_of_le f44.lt (Nat.le_of_eq g45.symm)))).other W81 (Nat.ne_of_lt (Nat.lt_of_lt_of_le f44.lt (Nat.le_of_eq g45.symm))))
    obtain ⟨cl_z93, Ar_z93, q_z93, S_z93, N_z93, H_z93, G_z93⟩ := f92
    have hin94 : ¬ ((1 : Int32) < 0 ∨ cl_z93.slots.size ≤ ((1 : Int32)).toNatClampNeg) := inb_of S_z93 ⟨by decide, by decide⟩
    have f96 := ((((((((((((f8.wr W13).wr W19).wr W25).wr W31).wr W37).ext E45).wr W51).wr W57).wr W63).wr W69).wr W75).wr W81)
    have f97 := (((((((((((((f2.wr W7).wr W13).wr W19).wr W25).wr W31).wr W37).ext E45).wr W51).wr W57).wr W63).wr W69).wr W75).wr W81)
    have f98 := ((f70.wr W75).wr W81)
    have f99 := (((((((f39.ext E45).wr W51).wr W57).wr W63).wr W69).wr W75).wr W81)
    obtain ⟨cq95, kq95, q95a, q95b, q95c⟩ := isOf hZ e81 f99
    obtain ⟨_, _, ⟨T95, L95, j95, i95⟩, -, X95, ⟨Lc95, hQ95, l95, y95, z95⟩, st95⟩ := X81.virtualBack hx (y := (⟨cS0, cS3, cS1⟩ : MethodName)) (z := (⟨cS0, cS3, cS1⟩ : MethodName)) hown (mvT hZ (own_at hw 17 rfl)) (mvT hZ (own_at hw 18 rfl)) (notFace_of_selects (args := #[]) (mvT hZ (own_at hw 20 rfl))) (mvT hZ (own_at hw 20 rfl)) (mvT hZ (own_at hw 19 rfl)) (by decide) (backOf (W := 0) (rm1_d l Z a0 hw [] w_DENY w_PERMIT w_INDETERMINATE_D h81 n0 (Nat.le_trans (Nat.le_trans (Nat.le_trans (Nat.le_trans (Nat.le_trans (Nat.le_trans (Nat.le_trans (Nat.le_trans (Nat.le_trans (Nat.le_trans (Nat.le_trans (Nat.le_trans (Nat.le_trans (Nat.le_trans Z0 E1.1) (Keep.of_wr W7).1) (Keep.of_wr W13).1) (Keep.of_wr W19).1) (Keep.of_wr W25).1) (Keep.of_wr W31).1) (Keep.of_wr W37).1) E45.1) (Keep.of_wr W51).1) (Keep.of_wr W57).1) (Keep.of_wr W63).1) (Keep.of_wr W69).1) (Keep.of_wr W75).1) (Keep.of_wr W81).1) f96 f97 ne_DENY_PERMIT f98) hZ (own_at hw 21 rfl) (own_at hw 3 rfl) (by decide) (by decide)) q95a q95c (g := (mkF m 95 #[iv p0, rv b1, rv b45, iv 1] [(.ref w_DENY)])) rfl (by rw [hml]; rfl) (Steps.refl _) (argsL := []) (rest := []) (lenOf pd_0 rfl) rfl (by show 2 * 0 + _ ≤ _; exact Nat.le_of_eq rfl) (hb hby at_95) (fun _ _ => ⟨rfl, e81, (by decide : 2 + 0 ≤ _), (by decide : 12 + 0 ≤ _)⟩)
    dsimp only [Pt.U, Pt.locs, Pt.cells, Pt.slots] at X95 l95 y95 z95 st95 hQ95
    subst l95 y95 z95
    obtain ⟨rfl, N95q, e95⟩ := hQ95
    have N95 := Fr.app N81 N95q
    obtain ⟨cl_z100, Ar_z100, q_z100, S_z100, N_z100, H_z100, G_z100⟩ := V81
    have hin101 : ¬ ((1 : Int32) < 0 ∨ cl_z100.slots.size ≤ ((1 : Int32)).toNatClampNeg) := inb_of S_z100 ⟨by decide, by decide⟩
    obtain ⟨fs, hr, hrun, hended, hW, hsame⟩ := X95.leave (v := some (.int 1)) (fun h => by rw [Bd.returns] at h; cases h)
    refine ⟨_, _, k82 _ ?_, hrun, hended, _, _, rfl, ?_, ⟨_, rfl⟩, hW, hsame.mono (by decide) (by decide)⟩
    · rw [hk]
      show OwnS p e below T81 (mkF m 91 #[iv p0, rv b1, rv b45, .unset] [(.int 1)]) _
      refine XS.istoreN X81.here hx rfl (hb hby at_91) rfl (l' := #[iv p0, rv b1, rv b45, iv 1]) rfl ?_
      show OwnS p e below T81 (mkF m 92 #[iv p0, rv b1, rv b45, iv 1] []) _
      refine XS.aloadN X81.here hx rfl (hb hby at_92) rfl rfl ?_
      show OwnS p e below T81 (mkF m 93 #[iv p0, rv b1, rv b45, iv 1] [(.ref b1)]) _
      refine XS.iloadN X81.here hx rfl (hb hby at_93) rfl ?_
      show OwnS p e below T81 (mkF m 94 #[iv p0, rv b1, rv b45, iv 1] [(.int 1), (.ref b1)]) _
      refine X81.aaload hx (j := (1 : Int32)) (v := (.ref w_DENY)) (by rw [e81]; exact Ar_z93.1) (State.isArrayOf_alike hZ.alike Ar_z93.2.1) rfl Ar_z93.2.2 hin94 (Has.at H_z93 hin94 rfl) (g := (mkF m 94 #[iv p0, rv b1, rv b45, iv 1] [(.int 1), (.ref b1)])) rfl rfl (hb hby at_94) _ ?_
      show OwnS p e below T81 (mkF m 95 #[iv p0, rv b1, rv b45, iv 1] [(.ref w_DENY)]) _
      refine st95.trans ?_
      show OwnS p e below T95 (mkF m 98 #[iv p0, rv b1, rv b45, iv 1] [(.ref w_INDETERMINATE_D)]) _
      refine XS.aloadN X95.here hx rfl (hb hby at_98) rfl rfl ?_
      show OwnS p e below T95 (mkF m 99 #[iv p0, rv b1, rv b45, iv 1] [(.ref b45), (.ref w_INDETERMINATE_D)]) _
      refine XS.iloadN X95.here hx rfl (hb hby at_99) rfl ?_
      show OwnS p e below T95 (mkF m 100 #[iv p0, rv b1, rv b45, iv 1] [(.int 1), (.ref b45), (.ref w_INDETERMINATE_D)]) _
      refine X95.aaload hx (j := (1 : Int32)) (v := (.ref w_INDETERMINATE_D)) (by rw [e95]; exact Ar_z100.1) (State.isArrayOf_alike hZ.alike Ar_z100.2.1) rfl Ar_z100.2.2 hin101 (Has.at H_z100 hin101 rfl) (g := (mkF m 100 #[iv p0, rv b1, rv b45, iv 1] [(.int 1), (.ref b45), (.ref w_INDETERMINATE_D)])) rfl rfl (hb hby at_100) _ ?_
      show OwnS p e below T95 (mkF m 101 #[iv p0, rv b1, rv b45, iv 1] [(.ref w_INDETERMINATE_D), (.ref w_INDETERMINATE_D)]) _
      refine Jvm.RoadKit.acmp (g := (mkF m 101 #[iv p0, rv b1, rv b45, iv 1] [(.ref w_INDETERMINATE_D), (.ref w_INDETERMINATE_D)])) X95 hx rfl rfl rfl (pc0 := 101) (pc' := 104) (same := true) rfl (hb hby at_101) rfl (decide_eq_true rfl) (by decide) (by decide) ?_
      show OwnS p e below T95 (mkF m 104 #[iv p0, rv b1, rv b45, iv 1] []) _
      refine XS.iconst X95.here hx rfl (hb hby at_104) ?_
      show OwnS p e below T95 (mkF m 105 #[iv p0, rv b1, rv b45, iv 1] [(.int 1)]) _
      refine XS.goto X95.here hx rfl (pc0 := 105) (pc' := 109) rfl (hb hby at_105) (by decide) (by decide) ?_
      show OwnS p e below T95 (mkF m 109 #[iv p0, rv b1, rv b45, iv 1] [(.int 1)]) _
      exact retN X95 hx (t := .boolean) Bd.returns (by simp) (hb hby at_109) hr
    · show Q_0 Z p0 w_PERMIT w_DENY w_NOT_APPLICABLE w_INDETERMINATE_P w_INDETERMINATE_D w_INDETERMINATE_DP h0 n0 _ T95.heap _
      rw [e95]
      exact ⟨rfl, N95, trivial⟩
  · have f102 := (((((((V37.ext E45).other W51 (Nat.ne_of_lt (Nat.lt_of_lt_of_le f44.lt (Nat.le_of_eq g45.symm)))).other W57 (Nat.ne_of_lt (Nat.lt_of_lt_of_le f44.lt (Nat.le_of_eq g45.symm)))).other W63 (Nat.ne_of_lt (Nat.lt_of_lt_of_le f44.lt (Nat.le_of_eq g45.symm)))).other W69 (Nat.ne_of_lt (Nat.lt_of_lt_of_le f44.lt (Nat.le_of_eq g45.symm)))).other W75 (Nat.ne_of_lt (Nat.lt_of_lt_of_le f44.lt (Nat.le_of_eq g45.symm)))).other W81 (Nat.ne_of_lt (Nat.lt_of_lt_of_le f44.lt (Nat.le_of_eq g45.symm))))
    obtain ⟨cl_z103, Ar_z103, q_z103, S_z103, N_z103, H_z103, G_z103⟩ := f102
    have hin104 : ¬ ((2 : Int32) < 0 ∨ cl_z103.slots.size ≤ ((2 : Int32)).toNatClampNeg) := inb_of S_z103 ⟨by decide, by decide⟩
    have f106 := (((((((((((((f2.wr W7).wr W13).wr W19).wr W25).wr W31).wr W37).ext E45).wr W51).wr W57).wr W63).wr W69).wr W75).wr W81)
    have f107 := ((((((((((((f8.wr W13).wr W19).wr W25).wr W31).wr W37).ext E45).wr W51).wr W57).wr W63).wr W69).wr W75).wr W81)
    have f108 := ((((f62.wr W63).wr W69).wr W75).wr W81)
    obtain ⟨cq105, kq105, q105a, q105b, q105c⟩ := isOf hZ e81 f108
    obtain ⟨_, _, ⟨T105, L105, j105, i105⟩, -, X105, ⟨Lc105, hQ105, l105, y105, z105⟩, st105⟩ := X81.virtualBack hx (y := (⟨cS0, cS3, cS1⟩ : MethodName)) (z := (⟨cS0, cS3, cS1⟩ : MethodName)) hown (mvT hZ (own_at hw 17 rfl)) (mvT hZ (own_at hw 18 rfl)) (notFace_of_selects (args := #[]) (mvT hZ (own_at hw 20 rfl))) (mvT hZ (own_at hw 20 rfl)) (mvT hZ (own_at hw 19 rfl)) (by decide) (backOf (W := 0) (rm1_o l Z a0 hw [] w_NOT_APPLICABLE w_PERMIT w_DENY h81 n0 (Nat.le_trans (Nat.le_trans (Nat.le_trans (Nat.le_trans (Nat.le_trans (Nat.le_trans (Nat.le_trans (Nat.le_trans (Nat.le_trans (Nat.le_trans (Nat.le_trans (Nat.le_trans (Nat.le_trans (Nat.le_trans Z0 E1.1) (Keep.of_wr W7).1) (Keep.of_wr W13).1) (Keep.of_wr W19).1) (Keep.of_wr W25).1) (Keep.of_wr W31).1) (Keep.of_wr W37).1) E45.1) (Keep.of_wr W51).1) (Keep.of_wr W57).1) (Keep.of_wr W63).1) (Keep.of_wr W69).1) (Keep.of_wr W75).1) (Keep.of_wr W81).1) f106 ne_NOT_APPLICABLE_PERMIT f107 ne_NOT_APPLICABLE_DENY) hZ (own_at hw 21 rfl) (own_at hw 3 rfl) (by decide) (by decide)) q105a q105c (g := (mkF m 95 #[iv p0, rv b1, rv b45, iv 2] [(.ref w_NOT_APPLICABLE)])) rfl (by rw [hml]; rfl) (Steps.refl _) (argsL := []) (rest := []) (lenOf pd_0 rfl) rfl (by show 2 * 0 + _ ≤ _; exact Nat.le_of_eq rfl) (hb hby at_95) (fun _ _ => ⟨rfl, e81, (by decide : 2 + 0 ≤ _), (by decide : 12 + 0 ≤ _)⟩)
    dsimp only [Pt.U, Pt.locs, Pt.cells, Pt.slots] at X105 l105 y105 z105 st105 hQ105
    subst l105 y105 z105
    obtain ⟨rfl, N105q, e105⟩ := hQ105
    have N105 := Fr.app N81 N105q
    obtain ⟨cl_z109, Ar_z109, q_z109, S_z109, N_z109, H_z109, G_z109⟩ := V81
    have hin110 : ¬ ((2 : Int32) < 0 ∨ cl_z109.slots.size ≤ ((2 : Int32)).toNatClampNeg) := inb_of S_z109 ⟨by decide, by decide⟩
    obtain ⟨fs, hr, hrun, hended, hW, hsame⟩ := X105.leave (v := some (.int 1)) (fun h => by rw [Bd.returns] at h; cases h)
    refine ⟨_, _, k82 _ ?_, hrun, hended, _, _, rfl, ?_, ⟨_, rfl⟩, hW, hsame.mono (by decide) (by decide)⟩
    · rw [hk]
      show OwnS p e below T81 (mkF m 91 #[iv p0, rv b1, rv b45, .unset] [(.int 2)]) _
      refine XS.istoreN X81.here hx rfl (hb hby at_91) rfl (l' := #[iv p0, rv b1, rv b45, iv 2]) rfl ?_
      show OwnS p e below T81 (mkF m 92 #[iv p0, rv b1, rv b45, iv 2] []) _
      refine XS.aloadN X81.here hx rfl (hb hby at_92) rfl rfl ?_
      show OwnS p e below T81 (mkF m 93 #[iv p0, rv b1, rv b45, iv 2] [(.ref b1)]) _
      refine XS.iloadN X81.here hx rfl (hb hby at_93) rfl ?_
      show OwnS p e below T81 (mkF m 94 #[iv p0, rv b1, rv b45, iv 2] [(.int 2), (.ref b1)]) _
      refine X81.aaload hx (j := (2 : Int32)) (v := (.ref w_NOT_APPLICABLE)) (by rw [e81]; exact Ar_z103.1) (State.isArrayOf_alike hZ.alike Ar_z103.2.1) rfl Ar_z103.2.2 hin104 (Has.at H_z103 hin104 rfl) (g := (mkF m 94 #[iv p0, rv b1, rv b45, iv 2] [(.int 2), (.ref b1)])) rfl rfl (hb hby at_94) _ ?_
      show OwnS p e below T81 (mkF m 95 #[iv p0, rv b1, rv b45, iv 2] [(.ref w_NOT_APPLICABLE)]) _
      refine st105.trans ?_
      show OwnS p e below T105 (mkF m 98 #[iv p0, rv b1, rv b45, iv 2] [(.ref w_NOT_APPLICABLE)]) _
      refine XS.aloadN X105.here hx rfl (hb hby at_98) rfl rfl ?_
      show OwnS p e below T105 (mkF m 99 #[iv p0, rv b1, rv b45, iv 2] [(.ref b45), (.ref w_NOT_APPLICABLE)]) _
      refine XS.iloadN X105.here hx rfl (hb hby at_99) rfl ?_
      show OwnS p e below T105 (mkF m 100 #[iv p0, rv b1, rv b45, iv 2] [(.int 2), (.ref b45), (.ref w_NOT_APPLICABLE)]) _
      refine X105.aaload hx (j := (2 : Int32)) (v := (.ref w_NOT_APPLICABLE)) (by rw [e105]; exact Ar_z109.1) (State.isArrayOf_alike hZ.alike Ar_z109.2.1) rfl Ar_z109.2.2 hin110 (Has.at H_z109 hin110 rfl) (g := (mkF m 100 #[iv p0, rv b1, rv b45, iv 2] [(.int 2), (.ref b45), (.ref w_NOT_APPLICABLE)])) rfl rfl (hb hby at_100) _ ?_
      show OwnS p e below T105 (mkF m 101 #[iv p0, rv b1, rv b45, iv 2] [(.ref w_NOT_APPLICABLE), (.ref w_NOT_APPLICABLE)]) _
      refine Jvm.RoadKit.acmp (g := (mkF m 101 #[iv p0, rv b1, rv b45, iv 2] [(.ref w_NOT_APPLICABLE), (.ref w_NOT_APPLICABLE)])) X105 hx rfl rfl rfl (pc0 := 101) (pc' := 104) (same := true) rfl (hb hby at_101) rfl (decide_eq_true rfl) (by decide) (by decide) ?_
      show OwnS p e below T105 (mkF m 104 #[iv p0, rv b1, rv b45, iv 2] []) _
      refine XS.iconst X105.here hx rfl (hb hby at_104) ?_
      show OwnS p e below T105 (mkF m 105 #[iv p0, rv b1, rv b45, iv 2] [(.int 1)]) _
      refine XS.goto X105.here hx rfl (pc0 := 105) (pc' := 109) rfl (hb hby at_105) (by decide) (by decide) ?_
      show OwnS p e below T105 (mkF m 109 #[iv p0, rv b1, rv b45, iv 2] [(.int 1)]) _
      exact retN X105 hx (t := .boolean) Bd.returns (by simp) (hb hby at_109) hr
    · show Q_0 Z p0 w_PERMIT w_DENY w_NOT_APPLICABLE w_INDETERMINATE_P w_INDETERMINATE_D w_INDETERMINATE_DP h0 n0 _ T105.heap _
      rw [e105]
      exact ⟨rfl, N105, trivial⟩
  · have f111 := (((((((V37.ext E45).other W51 (Nat.ne_of_lt (Nat.lt_of_lt_of_le f44.lt (Nat.le_of_eq g45.symm)))).other W57 (Nat.ne_of_lt (Nat.lt_of_lt_of_le f44.lt (Nat.le_of_eq g45.symm)))).other W63 (Nat.ne_of_lt (Nat.lt_of_lt_of_le f44.lt (Nat.le_of_eq g45.symm)))).other W69 (Nat.ne_of_lt (Nat.lt_of_lt_of_le f44.lt (Nat.le_of_eq g45.symm)))).other W75 (Nat.ne_of_lt (Nat.lt_of_lt_of_le f44.lt (Nat.le_of_eq g45.symm)))).other W81 (Nat.ne_of_lt (Nat.lt_of_lt_of_le f44.lt (Nat.le_of_eq g45.symm))))
    obtain ⟨cl_z112, Ar_z112, q_z112, S_z112, N_z112, H_z112, G_z112⟩ := f111
    have hin113 : ¬ ((3 : Int32) < 0 ∨ cl_z112.slots.size ≤ ((3 : Int32)).toNatClampNeg) := inb_of S_z112 ⟨by decide, by decide⟩
    have f115 := (((((((((((((f2.wr W7).wr W13).wr W19).wr W25).wr W31).wr W37).ext E45).wr W51).wr W57).wr W63).wr W69).wr W75).wr W81)
    have f116 := ((((((((((((f8.wr W13).wr W19).wr W25).wr W31).wr W37).ext E45).wr W51).wr W57).wr W63).wr W69).wr W75).wr W81)
    have f117 := (((f68.wr W69).wr W75).wr W81)
    obtain ⟨cq114, kq114, q114a, q114b, q114c⟩ := isOf hZ e81 f117
    obtain ⟨_, _, ⟨T114, L114, j114, i114⟩, -, X114, ⟨Lc114, hQ114, l114, y114, z114⟩, st114⟩ := X81.virtualBack hx (y := (⟨cS0, cS3, cS1⟩ : MethodName)) (z := (⟨cS0, cS3, cS1⟩ : MethodName)) hown (mvT hZ (own_at hw 17 rfl)) (mvT hZ (own_at hw 18 rfl)) (notFace_of_selects (args := #[]) (mvT hZ (own_at hw 20 rfl))) (mvT hZ (own_at hw 20 rfl)) (mvT hZ (own_at hw 19 rfl)) (by decide) (backOf (W := 0) (rm1_o l Z a0 hw [] w_INDETERMINATE_P w_PERMIT w_DENY h81 n0 (Nat.le_trans (Nat.le_trans (Nat.le_trans (Nat.le_trans (Nat.le_trans (Nat.le_trans (Nat.le_trans (Nat.le_trans (Nat.le_trans (Nat.le_trans (Nat.le_trans (Nat.le_trans (Nat.le_trans (Nat.le_trans Z0 E1.1) (Keep.of_wr W7).1) (Keep.of_wr W13).1) (Keep.of_wr W19).1) (Keep.of_wr W25).1) (Keep.of_wr W31).1) (Keep.of_wr W37).1) E45.1) (Keep.of_wr W51).1) (Keep.of_wr W57).1) (Keep.of_wr W63).1) (Keep.of_wr W69).1) (Keep.of_wr W75).1) (Keep.of_wr W81).1) f115 ne_INDETERMINATE_P_PERMIT f116 ne_INDETERMINATE_P_DENY) hZ (own_at hw 21 rfl) (own_at hw 3 rfl) (by decide) (by decide)) q114a q114c (g := (mkF m 95 #[iv p0, rv b1, rv b45, iv 3] [(.ref w_INDETERMINATE_P)])) rfl (by rw [hml]; rfl) (Steps.refl _) (argsL := []) (rest := []) (lenOf pd_0 rfl) rfl (by show 2 * 0 + _ ≤ _; exact Nat.le_of_eq rfl) (hb hby at_95) (fun _ _ => ⟨rfl, e81, (by decide : 2 + 0 ≤ _), (by decide : 12 + 0 ≤ _)⟩)
    dsimp only [Pt.U, Pt.locs, Pt.cells, Pt.slots] at X114 l114 y114 z114 st114 hQ114
    subst l114 y114 z114
    obtain ⟨rfl, N114q, e114⟩ := hQ114
    have N114 := Fr.app N81 N114q
    obtain ⟨cl_z118, Ar_z118, q_z118, S_z118, N_z118, H_z118, G_z118⟩ := V81
    have hin119 : ¬ ((3 : Int32) < 0 ∨ cl_z118.slots.size ≤ ((3 : Int32)).toNatClampNeg) := inb_of S_z118 ⟨by decide, by decide⟩
    obtain ⟨fs, hr, hrun, hended, hW, hsame⟩ := X114.leave (v := some (.int 1)) (fun h => by rw [Bd.returns] at h; cases h)
    refine ⟨_, _, k82 _ ?_, hrun, hended, _, _, rfl, ?_, ⟨_, rfl⟩, hW, hsame.mono (by decide) (by decide)⟩
    · rw [hk]
      show OwnS p e below T81 (mkF m 91 #[iv p0, rv b1, rv b45, .unset] [(.int 3)]) _
      refine XS.istoreN X81.here hx rfl (hb hby at_91) rfl (l' := #[iv p0, rv b1, rv b45, iv 3]) rfl ?_
      show OwnS p e below T81 (mkF m 92 #[iv p0, rv b1, rv b45, iv 3] []) _
      refine XS.aloadN X81.here hx rfl (hb hby at_92) rfl rfl ?_
      show OwnS p e below T81 (mkF m 93 #[iv p0, rv b1, rv b45, iv 3] [(.ref b1)]) _
      refine XS.iloadN X81.here hx rfl (hb hby at_93) rfl ?_
      show OwnS p e below T81 (mkF m 94 #[iv p0, rv b1, rv b45, iv 3] [(.int 3), (.ref b1)]) _
      refine X81.aaload hx (j := (3 : Int32)) (v := (.ref w_INDETERMINATE_P)) (by rw [e81]; exact Ar_z112.1) (State.isArrayOf_alike hZ.alike Ar_z112.2.1) rfl Ar_z112.2.2 hin113 (Has.at H_z112 hin113 rfl) (g := (mkF m 94 #[iv p0, rv b1, rv b45, iv 3] [(.int 3), (.ref b1)])) rfl rfl (hb hby at_94) _ ?_
      show OwnS p e below T81 (mkF m 95 #[iv p0, rv b1, rv b45, iv 3] [(.ref w_INDETERMINATE_P)]) _
      refine st114.trans ?_
      show OwnS p e below T114 (mkF m 98 #[iv p0, rv b1, rv b45, iv 3] [(.ref w_INDETERMINATE_P)]) _
      refine XS.aloadN X114.here hx rfl (hb hby at_98) rfl rfl ?_
      show OwnS p e below T114 (mkF m 99 #[iv p0, rv b1, rv b45, iv 3] [(.ref b45), (.ref w_INDETERMINATE_P)]) _
      refine XS.iloadN X114.here hx rfl (hb hby at_99) rfl ?_
      show OwnS p e below T114 (mkF m 100 #[iv p0, rv b1, rv b45, iv 3] [(.int 3), (.ref b45), (.ref w_INDETERMINATE_P)]) _
      refine X114.aaload hx (j := (3 : Int32)) (v := (.ref w_INDETERMINATE_P)) (by rw [e114]; exact Ar_z118.1) (State.isArrayOf_alike hZ.alike Ar_z118.2.1) rfl Ar_z118.2.2 hin119 (Has.at H_z118 hin119 rfl) (g := (mkF m 100 #[iv p0, rv b1, rv b45, iv 3] [(.int 3), (.ref b45), (.ref w_INDETERMINATE_P)])) rfl rfl (hb hby at_100) _ ?_
      show OwnS p e below T114 (mkF m 101 #[iv p0, rv b1, rv b45, iv 3] [(.ref w_INDETERMINATE_P), (.ref w_INDETERMINATE_P)]) _
      refine Jvm.RoadKit.acmp (g := (mkF m 101 #[iv p0, rv b1, rv b45, iv 3] [(.ref w_INDETERMINATE_P), (.ref w_INDETERMINATE_P)])) X114 hx rfl rfl rfl (pc0 := 101) (pc' := 104) (same := true) rfl (hb hby at_101) rfl (decide_eq_true rfl) (by decide) (by decide) ?_
      show OwnS p e below T114 (mkF m 104 #[iv p0, rv b1, rv b45, iv 3] []) _
      refine XS.iconst X114.here hx rfl (hb hby at_104) ?_
      show OwnS p e below T114 (mkF m 105 #[iv p0, rv b1, rv b45, iv 3] [(.int 1)]) _
      refine XS.goto X114.here hx rfl (pc0 := 105) (pc' := 109) rfl (hb hby at_105) (by decide) (by decide) ?_
      show OwnS p e below T114 (mkF m 109 #[iv p0, rv b1, rv b45, iv 3] [(.int 1)]) _
      exact retN X114 hx (t := .boolean) Bd.returns (by simp) (hb hby at_109) hr
    · show Q_0 Z p0 w_PERMIT w_DENY w_NOT_APPLICABLE w_INDETERMINATE_P w_INDETERMINATE_D w_INDETERMINATE_DP h0 n0 _ T114.heap _
      rw [e114]
      exact ⟨rfl, N114, trivial⟩
  · have f120 := (((((((V37.ext E45).other W51 (Nat.ne_of_lt (Nat.lt_of_lt_of_le f44.lt (Nat.le_of_eq g45.symm)))).other W57 (Nat.ne_of_lt (Nat.lt_of_lt_of_le f44.lt (Nat.le_of_eq g45.symm)))).other W63 (Nat.ne_of_lt (Nat.lt_of_lt_of_le f44.lt (Nat.le_of_eq g45.symm)))).other W69 (Nat.ne_of_lt (Nat.lt_of_lt_of_le f44.lt (Nat.le_of_eq g45.symm)))).other W75 (Nat.ne_of_lt (Nat.lt_of_lt_of_le f44.lt (Nat.le_of_eq g45.symm)))).other W81 (Nat.ne_of_lt (Nat.lt_of_lt_of_le f44.lt (Nat.le_of_eq g45.symm))))
    obtain ⟨cl_z121, Ar_z121, q_z121, S_z121, N_z121, H_z121, G_z121⟩ := f120
    have hin122 : ¬ ((4 : Int32) < 0 ∨ cl_z121.slots.size ≤ ((4 : Int32)).toNatClampNeg) := inb_of S_z121 ⟨by decide, by decide⟩
    have f124 := (((((((((((((f2.wr W7).wr W13).wr W19).wr W25).wr W31).wr W37).ext E45).wr W51).wr W57).wr W63).wr W69).wr W75).wr W81)
    have f125 := ((((((((((((f8.wr W13).wr W19).wr W25).wr W31).wr W37).ext E45).wr W51).wr W57).wr W63).wr W69).wr W75).wr W81)
    have f126 := ((f74.wr W75).wr W81)
    obtain ⟨cq123, kq123, q123a, q123b, q123c⟩ := isOf hZ e81 f126
    obtain ⟨_, _, ⟨T123, L123, j123, i123⟩, -, X123, ⟨Lc123, hQ123, l123, y123, z123⟩, st123⟩ := X81.virtualBack hx (y := (⟨cS0, cS3, cS1⟩ : MethodName)) (z := (⟨cS0, cS3, cS1⟩ : MethodName)) hown (mvT hZ (own_at hw 17 rfl)) (mvT hZ (own_at hw 18 rfl)) (notFace_of_selects (args := #[]) (mvT hZ (own_at hw 20 rfl))) (mvT hZ (own_at hw 20 rfl)) (mvT hZ (own_at hw 19 rfl)) (by decide) (backOf (W := 0) (rm1_o l Z a0 hw [] w_INDETERMINATE_D w_PERMIT w_DENY h81 n0 (Nat.le_trans (Nat.le_trans (Nat.le_trans (Nat.le_trans (Nat.le_trans (Nat.le_trans (Nat.le_trans (Nat.le_trans (Nat.le_trans (Nat.le_trans (Nat.le_trans (Nat.le_trans (Nat.le_trans (Nat.le_trans Z0 E1.1) (Keep.of_wr W7).1) (Keep.of_wr W13).1) (Keep.of_wr W19).1) (Keep.of_wr W25).1) (Keep.of_wr W31).1) (Keep.of_wr W37).1) E45.1) (Keep.of_wr W51).1) (Keep.of_wr W57).1) (Keep.of_wr W63).1) (Keep.of_wr W69).1) (Keep.of_wr W75).1) (Keep.of_wr W81).1) f124 ne_INDETERMINATE_D_PERMIT f125 ne_INDETERMINATE_D_DENY) hZ (own_at hw 21 rfl) (own_at hw 3 rfl) (by decide) (by decide)) q123a q123c (g := (mkF m 95 #[iv p0, rv b1, rv b45, iv 4] [(.ref w_INDETERMINATE_D)])) rfl (by rw [hml]; rfl) (Steps.refl _) (argsL := []) (rest := []) (lenOf pd_0 rfl) rfl (by show 2 * 0 + _ ≤ _; exact Nat.le_of_eq rfl) (hb hby at_95) (fun _ _ => ⟨rfl, e81, (by decide : 2 + 0 ≤ _), (by decide : 12 + 0 ≤ _)⟩)
    dsimp only [Pt.U, Pt.locs, Pt.cells, Pt.slots] at X123 l123 y123 z123 st123 hQ123
    subst l123 y123 z123
    obtain ⟨rfl, N123q, e123⟩ := hQ123
    have N123 := Fr.app N81 N123q
    obtain ⟨cl_z127, Ar_z127, q_z127, S_z127, N_z127, H_z127, G_z127⟩ := V81
    have hin128 : ¬ ((4 : Int32) < 0 ∨ cl_z127.slots.size ≤ ((4 : Int32)).toNatClampNeg) := inb_of S_z127 ⟨by decide, by decide⟩
    obtain ⟨fs, hr, hrun, hended, hW, hsame⟩ := X123.leave (v := some (.int 1)) (fun h => by rw [Bd.returns] at h; cases h)
    refine ⟨_, _, k82 _ ?_, hrun, hended, _, _, rfl, ?_, ⟨_, rfl⟩, hW, hsame.mono (by decide) (by decide)⟩
    · rw [hk]
      show OwnS p e below T81 (mkF m 91 #[iv p0, rv b1, rv b45, .unset] [(.int 4)]) _
      refine XS.istoreN X81.here hx rfl (hb hby at_91) rfl (l' := #[iv p0, rv b1, rv b45, iv 4]) rfl ?_
      show OwnS p e below T81 (mkF m 92 #[iv p0, rv b1, rv b45, iv 4] []) _
      refine XS.aloadN X81.here hx rfl (hb hby at_92) rfl rfl ?_
      show OwnS p e below T81 (mkF m 93 #[iv p0, rv b1, rv b45, iv 4] [(.ref b1)]) _
      refine XS.iloadN X81.here hx rfl (hb hby at_93) rfl ?_
      show OwnS p e below T81 (mkF m 94 #[iv p0, rv b1, rv b45, iv 4] [(.int 4), (.ref b1)]) _
      refine X81.aaload hx (j := (4 : Int32)) (v := (.ref w_INDETERMINATE_D)) (by rw [e81]; exact Ar_z121.1) (State.isArrayOf_alike hZ.alike Ar_z121.2.1) rfl Ar_z121.2.2 hin122 (Has.at H_z121 hin122 rfl) (g := (mkF m 94 #[iv p0, rv b1, rv b45, iv 4] [(.int 4), (.ref b1)])) rfl rfl (hb hby at_94) _ ?_
      show OwnS p e below T81 (mkF m 95 #[iv p0, rv b1, rv b45, iv 4] [(.ref w_INDETERMINATE_D)]) _
      refine st123.trans ?_
      show OwnS p e below T123 (mkF m 98 #[iv p0, rv b1, rv b45, iv 4] [(.ref w_INDETERMINATE_D)]) _
      refine XS.aloadN X123.here hx rfl (hb hby at_98) rfl rfl ?_
      show OwnS p e below T123 (mkF m 99 #[iv p0, rv b1, rv b45, iv 4] [(.ref b45), (.ref w_INDETERMINATE_D)]) _
      refine XS.iloadN X123.here hx rfl (hb hby at_99) rfl ?_
      show OwnS p e below T123 (mkF m 100 #[iv p0, rv b1, rv b45, iv 4] [(.int 4), (.ref b45), (.ref w_INDETERMINATE_D)]) _
      refine X123.aaload hx (j := (4 : Int32)) (v := (.ref w_INDETERMINATE_D)) (by rw [e123]; exact Ar_z127.1) (State.isArrayOf_alike hZ.alike Ar_z127.2.1) rfl Ar_z127.2.2 hin128 (Has.at H_z127 hin128 rfl) (g := (mkF m 100 #[iv p0, rv b1, rv b45, iv 4] [(.int 4), (.ref b45), (.ref w_INDETERMINATE_D)])) rfl rfl (hb hby at_100) _ ?_
      show OwnS p e below T123 (mkF m 101 #[iv p0, rv b1, rv b45, iv 4] [(.ref w_INDETERMINATE_D), (.ref w_INDETERMINATE_D)]) _
      refine Jvm.RoadKit.acmp (g := (mkF m 101 #[iv p0, rv b1, rv b45, iv 4] [(.ref w_INDETERMINATE_D), (.ref w_INDETERMINATE_D)])) X123 hx rfl rfl rfl (pc0 := 101) (pc' := 104) (same := true) rfl (hb hby at_101) rfl (decide_eq_true rfl) (by decide) (by decide) ?_
      show OwnS p e below T123 (mkF m 104 #[iv p0, rv b1, rv b45, iv 4] []) _
      refine XS.iconst X123.here hx rfl (hb hby at_104) ?_
      show OwnS p e below T123 (mkF m 105 #[iv p0, rv b1, rv b45, iv 4] [(.int 1)]) _
      refine XS.goto X123.here hx rfl (pc0 := 105) (pc' := 109) rfl (hb hby at_105) (by decide) (by decide) ?_
      show OwnS p e below T123 (mkF m 109 #[iv p0, rv b1, rv b45, iv 4] [(.int 1)]) _
      exact retN X123 hx (t := .boolean) Bd.returns (by simp) (hb hby at_109) hr
    · show Q_0 Z p0 w_PERMIT w_DENY w_NOT_APPLICABLE w_INDETERMINATE_P w_INDETERMINATE_D w_INDETERMINATE_DP h0 n0 _ T123.heap _
      rw [e123]
      exact ⟨rfl, N123, trivial⟩
  · have f129 := (((((((V37.ext E45).other W51 (Nat.ne_of_lt (Nat.lt_of_lt_of_le f44.lt (Nat.le_of_eq g45.symm)))).other W57 (Nat.ne_of_lt (Nat.lt_of_lt_of_le f44.lt (Nat.le_of_eq g45.symm)))).other W63 (Nat.ne_of_lt (Nat.lt_of_lt_of_le f44.lt (Nat.le_of_eq g45.symm)))).other W69 (Nat.ne_of_lt (Nat.lt_of_lt_of_le f44.lt (Nat.le_of_eq g45.symm)))).other W75 (Nat.ne_of_lt (Nat.lt_of_lt_of_le f44.lt (Nat.le_of_eq g45.symm)))).other W81 (Nat.ne_of_lt (Nat.lt_of_lt_of_le f44.lt (Nat.le_of_eq g45.symm))))
    obtain ⟨cl_z130, Ar_z130, q_z130, S_z130, N_z130, H_z130, G_z130⟩ := f129
    have hin131 : ¬ ((5 : Int32) < 0 ∨ cl_z130.slots.size ≤ ((5 : Int32)).toNatClampNeg) := inb_of S_z130 ⟨by decide, by decide⟩
    have f133 := (((((((((((((f2.wr W7).wr W13).wr W19).wr W25).wr W31).wr W37).ext E45).wr W51).wr W57).wr W63).wr W69).wr W75).wr W81)
    have f134 := ((((((((((((f8.wr W13).wr W19).wr W25).wr W31).wr W37).ext E45).wr W51).wr W57).wr W63).wr W69).wr W75).wr W81)
    have f135 := (f80.wr W81)
    obtain ⟨cq132, kq132, q132a, q132b, q132c⟩ := isOf hZ e81 f135
    obtain ⟨_, _, ⟨T132, L132, j132, i132⟩, -, X132, ⟨Lc132, hQ132, l132, y132, z132⟩, st132⟩ := X81.virtualBack hx (y := (⟨cS0, cS3, cS1⟩ : MethodName)) (z := (⟨cS0, cS3, cS1⟩ : MethodName)) hown (mvT hZ (own_at hw 17 rfl)) (mvT hZ (own_at hw 18 rfl)) (notFace_of_selects (args := #[]) (mvT hZ (own_at hw 20 rfl))) (mvT hZ (own_at hw 20 rfl)) (mvT hZ (own_at hw 19 rfl)) (by decide) (backOf (W := 0) (rm1_o l Z a0 hw [] w_INDETERMINATE_DP w_PERMIT w_DENY h81 n0 (Nat.le_trans (Nat.le_trans (Nat.le_trans (Nat.le_trans (Nat.le_trans (Nat.le_trans (Nat.le_trans (Nat.le_trans (Nat.le_trans (Nat.le_trans (Nat.le_trans (Nat.le_trans (Nat.le_trans (Nat.le_trans Z0 E1.1) (Keep.of_wr W7).1) (Keep.of_wr W13).1) (Keep.of_wr W19).1) (Keep.of_wr W25).1) (Keep.of_wr W31).1) (Keep.of_wr W37).1) E45.1) (Keep.of_wr W51).1) (Keep.of_wr W57).1) (Keep.of_wr W63).1) (Keep.of_wr W69).1) (Keep.of_wr W75).1) (Keep.of_wr W81).1) f133 ne_INDETERMINATE_DP_PERMIT f134 ne_INDETERMINATE_DP_DENY) hZ (own_at hw 21 rfl) (own_at hw 3 rfl) (by decide) (by decide)) q132a q132c (g := (mkF m 95 #[iv p0, rv b1, rv b45, iv 5] [(.ref w_INDETERMINATE_DP)])) rfl (by rw [hml]; rfl) (Steps.refl _) (argsL := []) (rest := []) (lenOf pd_0 rfl) rfl (by show 2 * 0 + _ ≤ _; exact Nat.le_of_eq rfl) (hb hby at_95) (fun _ _ => ⟨rfl, e81, (by decide : 2 + 0 ≤ _), (by decide : 12 + 0 ≤ _)⟩)
    dsimp only [Pt.U, Pt.locs, Pt.cells, Pt.slots] at X132 l132 y132 z132 st132 hQ132
    subst l132 y132 z132
    obtain ⟨rfl, N132q, e132⟩ := hQ132
    have N132 := Fr.app N81 N132q
    obtain ⟨cl_z136, Ar_z136, q_z136, S_z136, N_z136, H_z136, G_z136⟩ := V81
    have hin137 : ¬ ((5 : Int32) < 0 ∨ cl_z136.slots.size ≤ ((5 : Int32)).toNatClampNeg) := inb_of S_z136 ⟨by decide, by decide⟩
    obtain ⟨fs, hr, hrun, hended, hW, hsame⟩ := X132.leave (v := some (.int 1)) (fun h => by rw [Bd.returns] at h; cases h)
    refine ⟨_, _, k82 _ ?_, hrun, hended, _, _, rfl, ?_, ⟨_, rfl⟩, hW, hsame.mono (by decide) (by decide)⟩
    · rw [hk]
      show OwnS p e below T81 (mkF m 91 #[iv p0, rv b1, rv b45, .unset] [(.int 5)]) _
      refine XS.istoreN X81.here hx rfl (hb hby at_91) rfl (l' := #[iv p0, rv b1, rv b45, iv 5]) rfl ?_
      show OwnS p e below T81 (mkF m 92 #[iv p0, rv b1, rv b45, iv 5] []) _
      refine XS.aloadN X81.here hx rfl (hb hby at_92) rfl rfl ?_
      show OwnS p e below T81 (mkF m 93 #[iv p0, rv b1, rv b45, iv 5] [(.ref b1)]) _
      refine XS.iloadN X81.here hx rfl (hb hby at_93) rfl ?_
      show OwnS p e below T81 (mkF m 94 #[iv p0, rv b1, rv b45, iv 5] [(.int 5), (.ref b1)]) _
      refine X81.aaload hx (j := (5 : Int32)) (v := (.ref w_INDETERMINATE_DP)) (by rw [e81]; exact Ar_z130.1) (State.isArrayOf_alike hZ.alike Ar_z130.2.1) rfl Ar_z130.2.2 hin131 (Has.at H_z130 hin131 rfl) (g := (mkF m 94 #[iv p0, rv b1, rv b45, iv 5] [(.int 5), (.ref b1)])) rfl rfl (hb hby at_94) _ ?_
      show OwnS p e below T81 (mkF m 95 #[iv p0, rv b1, rv b45, iv 5] [(.ref w_INDETERMINATE_DP)]) _
      refine st132.trans ?_
      show OwnS p e below T132 (mkF m 98 #[iv p0, rv b1, rv b45, iv 5] [(.ref w_INDETERMINATE_DP)]) _
      refine XS.aloadN X132.here hx rfl (hb hby at_98) rfl rfl ?_
      show OwnS p e below T132 (mkF m 99 #[iv p0, rv b1, rv b45, iv 5] [(.ref b45), (.ref w_INDETERMINATE_DP)]) _
      refine XS.iloadN X132.here hx rfl (hb hby at_99) rfl ?_
      show OwnS p e below T132 (mkF m 100 #[iv p0, rv b1, rv b45, iv 5] [(.int 5), (.ref b45), (.ref w_INDETERMINATE_DP)]) _
      refine X132.aaload hx (j := (5 : Int32)) (v := (.ref w_INDETERMINATE_DP)) (by rw [e132]; exact Ar_z136.1) (State.isArrayOf_alike hZ.alike Ar_z136.2.1) rfl Ar_z136.2.2 hin137 (Has.at H_z136 hin137 rfl) (g := (mkF m 100 #[iv p0, rv b1, rv b45, iv 5] [(.int 5), (.ref b45), (.ref w_INDETERMINATE_DP)])) rfl rfl (hb hby at_100) _ ?_
      show OwnS p e below T132 (mkF m 101 #[iv p0, rv b1, rv b45, iv 5] [(.ref w_INDETERMINATE_DP), (.ref w_INDETERMINATE_DP)]) _
      refine Jvm.RoadKit.acmp (g := (mkF m 101 #[iv p0, rv b1, rv b45, iv 5] [(.ref w_INDETERMINATE_DP), (.ref w_INDETERMINATE_DP)])) X132 hx rfl rfl rfl (pc0 := 101) (pc' := 104) (same := true) rfl (hb hby at_101) rfl (decide_eq_true rfl) (by decide) (by decide) ?_
      show OwnS p e below T132 (mkF m 104 #[iv p0, rv b1, rv b45, iv 5] []) _
      refine XS.iconst X132.here hx rfl (hb hby at_104) ?_
      show OwnS p e below T132 (mkF m 105 #[iv p0, rv b1, rv b45, iv 5] [(.int 1)]) _
      refine XS.goto X132.here hx rfl (pc0 := 105) (pc' := 109) rfl (hb hby at_105) (by decide) (by decide) ?_
      show OwnS p e below T132 (mkF m 109 #[iv p0, rv b1, rv b45, iv 5] [(.int 1)]) _
      exact retN X132 hx (t := .boolean) Bd.returns (by simp) (hb hby at_109) hr
    · show Q_0 Z p0 w_PERMIT w_DENY w_NOT_APPLICABLE w_INDETERMINATE_P w_INDETERMINATE_D w_INDETERMINATE_DP h0 n0 _ T132.heap _
      rw [e132]
      exact ⟨rfl, N132, trivial⟩
set_option maxRecDepth 65536 in
set_option maxHeartbeats 40000000 in
theorem comes_1 {Post : Tables → Env → Array Value → State → Outcome → State → Prop} (hpost : ∀ tb e args s v u, (limb_1_1.after args s (.returned v) u = true ∧ limb_1_2.after args s (.returned v) u = true ∧ True) → FrameEnd s (.returned v) u (Jvm.fieldLocs frame_1_writes args s ++ Jvm.arrayLocs frame_1_arrays args s ++ Jvm.staticLocs frame_1_statics s) 16 128 → Post tb e args s (.returned v) u) :
    ArmFor flags0 classFile x code maxLocals ret World_1 tables_1 room_1 Calls_1 rest_1 Pre_1 Post := by
  intro l hfl _ _ p e ha hc hk s m args below hf hA hF happ hP
  obtain ⟨hcalls, hrest, hpre⟩ := hP
  obtain ⟨-, -, -, hnamed, -, -, -, hat⟩ := (Spec.applies_iff hf).mp happ
  obtain ⟨hg, hn⟩ := and_e (Cond.before_iff.mp (show (Jvm.Cond.and given_1 narrow_1).before args s = true from hpre))
  have hw := fun d (hd : d ∈ tables_1) => atoms_spec (ws := Jvm.Cond.code x code maxLocals ret :: tables_1) hat d (List.mem_cons_of_mem _ hd)
  have hfit : Fit s := fun {y c} hc i hi => by
    obtain ⟨ha, rfl⟩ := Array.getElem?_eq_some_iff.mp hc
    have q := List.all_eq_true.mp ((Array.all_eq_true_iff_forall_mem.mp hF) _ (Array.getElem_mem ha)) i (List.mem_range.mpr hi)
    simpa [Array.getElem?_eq_getElem hi] using q
  obtain ⟨cj1, cj2⟩ := and_e hg
  obtain ⟨cj3, cj4⟩ := and_e hn
  obtain ⟨cj5, cj6⟩ := and_e cj4
  obtain ⟨cj7, cj8⟩ := and_e cj6
  obtain ⟨cj9, cj10⟩ := and_e cj8
  obtain ⟨cj11, cj12⟩ := and_e cj10
  obtain ⟨cj13, cj14⟩ := and_e cj12
  obtain ⟨cj15, cj16⟩ := and_e cj14
  obtain ⟨cj17, cj18⟩ := and_e cj16
  obtain ⟨cj19, cj20⟩ := and_e cj18
  obtain ⟨cj21, cj22⟩ := and_e cj20
  obtain ⟨cj23, cj24⟩ := and_e cj22
  obtain ⟨w0, rfl⟩ : ∃ w0 : Value, args = #[w0] := by
    have hs : args.size = 1 := by simpa [Cond.value, given_1] using cj1
    obtain ⟨L⟩ := args
    match L, hs with
    | [w0], _ => exact ⟨w0, rfl⟩
  obtain ⟨i0, ei0⟩ := is_v cj2
  obtain rfl : w0 = (.int i0) := Option.some.inj ei0
  obtain ⟨w_PERMIT, ev_PERMIT⟩ := exa_v cj3
  have S_PERMIT : Sta s s.heap cS0 "PERMIT" cS2 (.ref w_PERMIT) := Sta.start ev_PERMIT (Or.inr ⟨(own_at hw 3 rfl), (own_at hw 4 rfl)⟩)
  have E_w_PERMIT : Exa s s.heap w_PERMIT cS0 := Exa.start ev_PERMIT cj3
  obtain ⟨w_DENY, ev_DENY⟩ := exa_v cj5
  have S_DENY : Sta s s.heap cS0 "DENY" cS2 (.ref w_DENY) := Sta.start ev_DENY (Or.inr ⟨(own_at hw 3 rfl), (own_at hw 7 rfl)⟩)
  have E_w_DENY : Exa s s.heap w_DENY cS0 := Exa.start ev_DENY cj5
  obtain ⟨w_NOT_APPLICABLE, ev_NOT_APPLICABLE⟩ := exa_v cj7
  have S_NOT_APPLICABLE : Sta s s.heap cS0 "NOT_APPLICABLE" cS2 (.ref w_NOT_APPLICABLE) := Sta.start ev_NOT_APPLICABLE (Or.inr ⟨(own_at hw 3 rfl), (own_at hw 9 rfl)⟩)
  have E_w_NOT_APPLICABLE : Exa s s.heap w_NOT_APPLICABLE cS0 := Exa.start ev_NOT_APPLICABLE cj7
  obtain ⟨w_INDETERMINATE_P, ev_INDETERMINATE_P⟩ := exa_v cj9
  have S_INDETERMINATE_P : Sta s s.heap cS0 "INDETERMINATE_P" cS2 (.ref w_INDETERMINATE_P) := Sta.start ev_INDETERMINATE_P (Or.inr ⟨(own_at hw 3 rfl), (own_at hw 11 rfl)⟩)
  have E_w_INDETERMINATE_P : Exa s s.heap w_INDETERMINATE_P cS0 := Exa.start ev_INDETERMINATE_P cj9
  obtain ⟨w_INDETERMINATE_D, ev_INDETERMINATE_D⟩ := exa_v cj11
  have S_INDETERMINATE_D : Sta s s.heap cS0 "INDETERMINATE_D" cS2 (.ref w_INDETERMINATE_D) := Sta.start ev_INDETERMINATE_D (Or.inr ⟨(own_at hw 3 rfl), (own_at hw 13 rfl)⟩)
  have E_w_INDETERMINATE_D : Exa s s.heap w_INDETERMINATE_D cS0 := Exa.start ev_INDETERMINATE_D cj11
  obtain ⟨w_INDETERMINATE_DP, ev_INDETERMINATE_DP⟩ := exa_v cj13
  have S_INDETERMINATE_DP : Sta s s.heap cS0 "INDETERMINATE_DP" cS2 (.ref w_INDETERMINATE_DP) := Sta.start ev_INDETERMINATE_DP (Or.inr ⟨(own_at hw 3 rfl), (own_at hw 15 rfl)⟩)
  have E_w_INDETERMINATE_DP : Exa s s.heap w_INDETERMINATE_DP cS0 := Exa.start ev_INDETERMINATE_DP cj13
  have F_ordinal_w_INDETERMINATE_P : Fld s s.heap w_INDETERMINATE_P "java/lang/Enum" "ordinal" "I" (.int (3 : Int32)) := Fld.start ((fld_at ev_INDETERMINATE_P).symm.trans (own_eq_int cj15))
  have F_ordinal_w_PERMIT : Fld s s.heap w_PERMIT "java/lang/Enum" "ordinal" "I" (.int (0 : Int32)) := Fld.start ((fld_at ev_PERMIT).symm.trans (own_eq_int cj17))
  have F_ordinal_w_DENY : Fld s s.heap w_DENY "java/lang/Enum" "ordinal" "I" (.int (1 : Int32)) := Fld.start ((fld_at ev_DENY).symm.trans (own_eq_int cj19))
  have F_ordinal_w_NOT_APPLICABLE : Fld s s.heap w_NOT_APPLICABLE "java/lang/Enum" "ordinal" "I" (.int (2 : Int32)) := Fld.start ((fld_at ev_NOT_APPLICABLE).symm.trans (own_eq_int cj21))
  have F_ordinal_w_INDETERMINATE_DP : Fld s s.heap w_INDETERMINATE_DP "java/lang/Enum" "ordinal" "I" (.int (5 : Int32)) := Fld.start ((fld_at ev_INDETERMINATE_DP).symm.trans (own_eq_int cj23))
  have F_ordinal_w_INDETERMINATE_D : Fld s s.heap w_INDETERMINATE_D "java/lang/Enum" "ordinal" "I" (.int (4 : Int32)) := Fld.start ((fld_at ev_INDETERMINATE_D).symm.trans (own_eq_int cj24))
  obtain ⟨n, o, h1, h2, h3, _, L, rfl, ⟨rfl, N, -⟩, hq⟩ := rm0 l s _ hw tables_1 i0 w_PERMIT w_DENY w_NOT_APPLICABLE w_INDETERMINATE_P w_INDETERMINATE_D w_INDETERMINATE_DP s.heap s.heap.size (Nat.le_refl _) S_PERMIT S_DENY S_NOT_APPLICABLE S_INDETERMINATE_P S_INDETERMINATE_D S_INDETERMINATE_DP E_w_PERMIT E_w_DENY E_w_NOT_APPLICABLE E_w_INDETERMINATE_P E_w_INDETERMINATE_D E_w_INDETERMINATE_DP (Fld.ne F_ordinal_w_DENY F_ordinal_w_PERMIT (by decide)) (Fld.ne F_ordinal_w_NOT_APPLICABLE F_ordinal_w_PERMIT (by decide)) (Fld.ne F_ordinal_w_INDETERMINATE_P F_ordinal_w_PERMIT (by decide)) (Fld.ne F_ordinal_w_INDETERMINATE_D F_ordinal_w_PERMIT (by decide)) (Fld.ne F_ordinal_w_INDETERMINATE_DP F_ordinal_w_PERMIT (by decide)) (Fld.ne F_ordinal_w_NOT_APPLICABLE F_ordinal_w_DENY (by decide)) (Fld.ne F_ordinal_w_INDETERMINATE_P F_ordinal_w_DENY (by decide)) (Fld.ne F_ordinal_w_INDETERMINATE_D F_ordinal_w_DENY (by decide)) (Fld.ne F_ordinal_w_INDETERMINATE_DP F_ordinal_w_DENY (by decide)) p e ha hc hk s m _ below hf ((Spec.applies_iff_loose hf).mp happ).1 ⟨rfl, State.Warmed39.refl s, rfl⟩ trivial
  refine ⟨n, _, h1, h2, h3, hpost _ _ _ _ _ _ ⟨Cond.after_iff.mpr rfl, Cond.after_iff.mpr (eq_i res_at (Term.int_eval (1)) rfl), trivial⟩ ⟨hq.1, hq.2.1, (hq.2.2.sift fun y hy => Or.inr (N y hy)).mono (by decide) (by decide)⟩⟩
theorem main_1_1 : Claimed_1_1 := comes_1 fun _ _ _ _ _ _ h hF => ⟨h.1, hF⟩
theorem main_1_2 : Claimed_1_2 := comes_1 fun _ _ _ _ _ _ h hF => ⟨h.2.1, hF⟩
end Jvm.Pilot.@@N@@
namespace Jvm.Pilot.@@N@@
open Jvm Jvm.ClassFile Sem Op Lib Jvm.Free Jvm.Stand Jvm.Pilot.@@N@@.Jvm.D
/-! MADE BY PROGRAM (witnessworld.py) out of the Statement's table words and the real class files: 13 classes; the members and pool entries that the words name. The judged class is class 1, her method 1. -/
namespace start1
open Jvm.ClassFile
def u (s : String) : CpInfo := .utf8 (stringToUtf16 s)
/-- a pool by its gaps: so many unusable entries, then the entry; so many at the end -/
def gap : Nat → List CpInfo → List CpInfo
  | 0, r => r
  | n + 1, r => .unusable :: gap n r
def poolList (es : List (Nat × CpInfo)) (last : Nat) : List CpInfo := es.foldr (fun e r => gap e.1 (e.2 :: r)) (gap last [])
def pool (es : List (Nat × CpInfo)) (last : Nat) : Array CpInfo := ⟨poolList es last⟩
def fileOf (pool : Array CpInfo) (this : Nat) (attrs : Array Attribute := #[]) (ms : Array MethodInfo := #[]) (fl : Nat := 33) (sup : Nat := 0) (ifs : Array Nat := #[]) (fds : Array FieldInfo := #[]) : ClassFile where
  minorVersion := 0
  majorVersion := 65
  constantPool := pool
  accessFlags := fl
  thisClass := this
  superClass := sup
  interfaces := ifs
  fields := fds
  methods := ms
  attributes := attrs
def plain (name : String) (sup : Option ClassId) : Class where
  name := name
  kind := .ordinary
  loader := none
  accessFlags := 33
  super := sup
  interfaces := #[]
  cf := none
  fields := #[]
  methods := #[]
  instanceTypes := #[]
  staticTypes := #[]
  resolved := #[]
  callSites := []
  init := .initialized
  statics := none
  mirror := none

def pool0 : Array CpInfo := pool [(5, u "<init>"), (0, u "()V"), (1, .class_ 10), (1, u "java/lang/Object")] 113

def k0m0 : Method := { name := "<init>", desc := "()V", sig := { parameters := [], returnType := none }, accessFlags := 1, code := none }
/-- java/lang/Object -/
def k0 : Class := { plain "java/lang/Object" none with
  accessFlags := 33
  interfaces := #[]
  cf := some (fileOf pool0 8 #[] #[{ accessFlags := 1, nameIndex := 5, descriptorIndex := 6, attributes := #[] }] 33 0 #[] #[])
  fields := #[]
  methods := #[k0m0]
  instanceTypes := #[]
  staticTypes := #[]
  resolved := Array.replicate 124 none
  statics := none }

def pool1 : Array CpInfo := pool [(2, .class_ 4), (1, u "java/lang/Object"), (0, u "<init>"), (0, u "()V"), (0, .class_ 8), (0, u "com/example/riskgate/riskgate/xacml/ExtendedDecision"), (0, .fieldref 7 10), (0, .nameAndType 11 12), (0, u "PERMIT"), (0, u "Lcom/example/riskgate/riskgate/xacml/ExtendedDecision;"), (0, .fieldref 7 14), (0, .nameAndType 15 12), (0, u "DENY"), (0, .fieldref 7 17), (0, .nameAndType 18 12), (0, u "NOT_APPLICABLE"), (0, .fieldref 7 20), (0, .nameAndType 21 12), (0, u "INDETERMINATE_P"), (0, .fieldref 7 23), (0, .nameAndType 24 12), (0, u "INDETERMINATE_D"), (0, .fieldref 7 26), (0, .nameAndType 27 12), (0, u "INDETERMINATE_DP"), (0, .integer 2147483647), (0, .methodref 7 30), (0, .nameAndType 31 32), (0, u "underIndeterminateTarget"), (0, u "()Lcom/example/riskgate/riskgate/xacml/ExtendedDecision;"), (0, .class_ 34), (0, u "com/example/riskgate/riskgate/xacml/ExtendedDecisionUnderIndeterminateTargetPinLaw"), (2, u "law"), (0, u "(I)Z")] 5

def k1m0 : Method := { name := "<init>", desc := "()V", sig := { parameters := [], returnType := none }, accessFlags := 1, code := none }
def k1c1 : Code := { maxStack := 4, maxLocals := 4, code := code, exceptionTable := #[], attributes := #[] }
def k1m1 : Method := { name := "law", desc := "(I)Z", sig := { parameters := [.int], returnType := some .boolean }, accessFlags := 9, code := some k1c1 }
/-- com/example/riskgate/riskgate/xacml/ExtendedDecisionUnderIndeterminateTargetPinLaw -/
def k1 : Class := { plain "com/example/riskgate/riskgate/xacml/ExtendedDecisionUnderIndeterminateTargetPinLaw" (some 0) with
  accessFlags := 49
  interfaces := #[]
  cf := some (fileOf pool1 33 #[] #[{ accessFlags := 1, nameIndex := 5, descriptorIndex := 6, attributes := #[] }, { accessFlags := 9, nameIndex := 37, descriptorIndex := 38, attributes := #[] }] 49 2 #[] #[])
  fields := #[]
  methods := #[k1m0, k1m1]
  instanceTypes := #[]
  staticTypes := #[]
  resolved := Array.replicate 44 none
  statics := none }

def pool2 : Array CpInfo := pool [(1, .class_ 2), (0, u "java/lang/constant/Constable"), (0, .class_ 4), (0, u "java/lang/Object")] 6

/-- java/lang/constant/Constable -/
def k2 : Class := { plain "java/lang/constant/Constable" (some 0) with
  accessFlags := 1537
  interfaces := #[]
  cf := some (fileOf pool2 1 #[] #[] 1537 3 #[] #[])
  fields := #[]
  methods := #[]
  instanceTypes := #[]
  staticTypes := #[]
  resolved := Array.replicate 11 none
  statics := none }

def pool3 : Array CpInfo := pool [(1, .class_ 2), (0, u "java/lang/Comparable"), (0, .class_ 4), (0, u "java/lang/Object")] 7

/-- java/lang/Comparable -/
def k3 : Class := { plain "java/lang/Comparable" (some 0) with
  accessFlags := 1537
  interfaces := #[]
  cf := some (fileOf pool3 1 #[] #[] 1537 3 #[] #[])
  fields := #[]
  methods := #[]
  instanceTypes := #[]
  staticTypes := #[]
  resolved := Array.replicate 12 none
  statics := none }

def pool4 : Array CpInfo := pool [(1, .class_ 2), (0, u "java/io/Serializable"), (0, .class_ 4), (0, u "java/lang/Object")] 2

/-- java/io/Serializable -/
def k4 : Class := { plain "java/io/Serializable" (some 0) with
  accessFlags := 1537
  interfaces := #[]
  cf := some (fileOf pool4 1 #[] #[] 1537 3 #[] #[])
  fields := #[]
  methods := #[]
  instanceTypes := #[]
  staticTypes := #[]
  resolved := Array.replicate 7 none
  statics := none }

def pool5 : Array CpInfo := pool [(2, .class_ 4), (1, u "java/lang/Enum"), (0, u "name"), (0, u "Ljava/lang/String;"), (2, u "ordinal"), (0, u "I"), (1, .class_ 14), (1, u "java/lang/Object"), (4, u "hash"), (86, .class_ 108), (1, u "java/lang/Enum$EnumDesc"), (2, .class_ 112), (0, u "java/lang/constant/Constable"), (0, .class_ 114), (0, u "java/lang/Comparable"), (0, .class_ 116), (0, u "java/io/Serializable")] 87

/-- java/lang/Enum -/
def k5 : Class := { plain "java/lang/Enum" (some 0) with
  accessFlags := 1057
  interfaces := #[2, 3, 4]
  cf := some (fileOf pool5 2 #[.nestMembers #[106]] #[] 1057 12 #[111, 113, 115] #[{ accessFlags := 18, nameIndex := 5, descriptorIndex := 6, attributes := #[] }, { accessFlags := 18, nameIndex := 9, descriptorIndex := 10, attributes := #[] }, { accessFlags := 2, nameIndex := 19, descriptorIndex := 10, attributes := #[] }])
  fields := #[{ name := "name", type := (.object "java/lang/String"), accessFlags := 18, slot := 0, constantValue := 0 }, { name := "ordinal", type := .int, accessFlags := 18, slot := 1, constantValue := 0 }, { name := "hash", type := .int, accessFlags := 2, slot := 2, constantValue := 0 }]
  methods := #[]
  instanceTypes := #[(.object "java/lang/String"), .int, .int]
  staticTypes := #[]
  resolved := Array.replicate 204 none
  statics := none }

def pool6 : Array CpInfo := pool [(1, .class_ 2), (0, u "com/example/riskgate/riskgate/xacml/ExtendedDecision"), (0, .fieldref 1 4), (0, .nameAndType 5 6), (0, u "PERMIT"), (0, u "Lcom/example/riskgate/riskgate/xacml/ExtendedDecision;"), (0, .fieldref 1 8), (0, .nameAndType 9 6), (0, u "DENY"), (2, u "NOT_APPLICABLE"), (0, .fieldref 1 14), (0, .nameAndType 15 6), (0, u "INDETERMINATE_P"), (0, .fieldref 1 17), (0, .nameAndType 18 6), (0, u "INDETERMINATE_D"), (2, u "INDETERMINATE_DP"), (2, u "$VALUES"), (0, u "[Lcom/example/riskgate/riskgate/xacml/ExtendedDecision;"), (6, .class_ 34), (1, u "java/lang/Enum"), (8, u "decision"), (0, u "Lcom/example/riskgate/riskgate/Decision;"), (55, u "underIndeterminateTarget"), (0, u "()Lcom/example/riskgate/riskgate/xacml/ExtendedDecision;")] 5

def k6c0 : Code := { maxStack := 2, maxLocals := 2, code := prog_32_method_8_code, exceptionTable := #[], attributes := #[] }
def k6m0 : Method := { name := "underIndeterminateTarget", desc := "()Lcom/example/riskgate/riskgate/xacml/ExtendedDecision;", sig := { parameters := [], returnType := some (.object "com/example/riskgate/riskgate/xacml/ExtendedDecision") }, accessFlags := 0, code := some k6c0 }
/-- com/example/riskgate/riskgate/xacml/ExtendedDecision -/
def k6 : Class := { plain "com/example/riskgate/riskgate/xacml/ExtendedDecision" (some 5) with
  accessFlags := 16432
  interfaces := #[]
  cf := some (fileOf pool6 1 #[] #[{ accessFlags := 0, nameIndex := 100, descriptorIndex := 101, attributes := #[] }] 16432 32 #[] #[{ accessFlags := 16409, nameIndex := 5, descriptorIndex := 6, attributes := #[] }, { accessFlags := 16409, nameIndex := 9, descriptorIndex := 6, attributes := #[] }, { accessFlags := 16409, nameIndex := 12, descriptorIndex := 6, attributes := #[] }, { accessFlags := 16409, nameIndex := 15, descriptorIndex := 6, attributes := #[] }, { accessFlags := 16409, nameIndex := 18, descriptorIndex := 6, attributes := #[] }, { accessFlags := 16409, nameIndex := 21, descriptorIndex := 6, attributes := #[] }, { accessFlags := 18, nameIndex := 43, descriptorIndex := 44, attributes := #[] }, { accessFlags := 4122, nameIndex := 24, descriptorIndex := 25, attributes := #[] }])
  fields := #[{ name := "PERMIT", type := (.object "com/example/riskgate/riskgate/xacml/ExtendedDecision"), accessFlags := 16409, slot := 0, constantValue := 0 }, { name := "DENY", type := (.object "com/example/riskgate/riskgate/xacml/ExtendedDecision"), accessFlags := 16409, slot := 1, constantValue := 0 }, { name := "NOT_APPLICABLE", type := (.object "com/example/riskgate/riskgate/xacml/ExtendedDecision"), accessFlags := 16409, slot := 2, constantValue := 0 }, { name := "INDETERMINATE_P", type := (.object "com/example/riskgate/riskgate/xacml/ExtendedDecision"), accessFlags := 16409, slot := 3, constantValue := 0 }, { name := "INDETERMINATE_D", type := (.object "com/example/riskgate/riskgate/xacml/ExtendedDecision"), accessFlags := 16409, slot := 4, constantValue := 0 }, { name := "INDETERMINATE_DP", type := (.object "com/example/riskgate/riskgate/xacml/ExtendedDecision"), accessFlags := 16409, slot := 5, constantValue := 0 }, { name := "decision", type := (.object "com/example/riskgate/riskgate/Decision"), accessFlags := 18, slot := 3, constantValue := 0 }, { name := "$VALUES", type := (.array (.object "com/example/riskgate/riskgate/xacml/ExtendedDecision")), accessFlags := 4122, slot := 6, constantValue := 0 }]
  methods := #[k6m0]
  instanceTypes := #[(.object "java/lang/String"), .int, .int, (.object "com/example/riskgate/riskgate/Decision")]
  staticTypes := #[(.object "com/example/riskgate/riskgate/xacml/ExtendedDecision"), (.object "com/example/riskgate/riskgate/xacml/ExtendedDecision"), (.object "com/example/riskgate/riskgate/xacml/ExtendedDecision"), (.object "com/example/riskgate/riskgate/xacml/ExtendedDecision"), (.object "com/example/riskgate/riskgate/xacml/ExtendedDecision"), (.object "com/example/riskgate/riskgate/xacml/ExtendedDecision"), (.array (.object "com/example/riskgate/riskgate/xacml/ExtendedDecision"))]
  resolved := Array.replicate 107 none
  statics := some 0 }

def pool7 : Array CpInfo := pool [(1, u "java/lang/Cloneable"), (0, .class_ 1), (0, u "java/lang/Object"), (0, .class_ 3)] 3

/-- java/lang/Cloneable -/
def k7 : Class := { plain "java/lang/Cloneable" (some 0) with
  accessFlags := 1537
  interfaces := #[]
  cf := some (fileOf pool7 2 #[] #[] 1537 4 #[] #[])
  fields := #[]
  methods := #[]
  instanceTypes := #[]
  staticTypes := #[]
  resolved := Array.replicate 8 none
  statics := none }

/-- the primitive byte -/
def k8 : Class := { plain "byte" none with kind := .primitive 'B', accessFlags := 0x411 }
/-- [B -/
def k9 : Class := { plain "[B" (some 0) with kind := .array 8 .byte, interfaces := #[7, 4], accessFlags := 1041 }

/-- the primitive int -/
def k10 : Class := { plain "int" none with kind := .primitive 'I', accessFlags := 0x411 }
/-- [I -/
def k11 : Class := { plain "[I" (some 0) with kind := .array 10 .int, interfaces := #[7, 4], accessFlags := 1041 }

/-- [Lcom/example/riskgate/riskgate/xacml/ExtendedDecision; -/
def k12 : Class := { plain "[Lcom/example/riskgate/riskgate/xacml/ExtendedDecision;" (some 0) with kind := .array 6 (.object "com/example/riskgate/riskgate/xacml/ExtendedDecision"), interfaces := #[7, 4], accessFlags := 1041 }

def heap : Heap := #[{ cls := 6, slots := #[.ref 1, .ref 2, .ref 3, .ref 4, .ref 5, .ref 6, .null], vm := .statics 6 },
  { cls := 6, slots := #[.null, .int 0, .int 0, .null], vm := .none },
  { cls := 6, slots := #[.null, .int 1, .int 0, .null], vm := .none },
  { cls := 6, slots := #[.null, .int 2, .int 0, .null], vm := .none },
  { cls := 6, slots := #[.null, .int 3, .int 0, .null], vm := .none },
  { cls := 6, slots := #[.null, .int 4, .int 0, .null], vm := .none },
  { cls := 6, slots := #[.null, .int 5, .int 0, .null], vm := .none }]
def classes : Array Class := #[k0, k1, k2, k3, k4, k5, k6, k7, k8, k9, k10, k11, k12]
def interned : List (Array UInt16 × Addr) := []
def slotsUsed : Nat := 31
def theMethod : MethodId := ⟨1, 1⟩
def args0 : Array Value := #[.int 5]
def aboutOver (below : List Frame) : State where
  vm := { classes := classes, interned := interned.toArray }
  heap := heap
  slotsUsed := slotsUsed
  threads := #[{ frames := .invoking theMethod args0 :: below }]
def below0 : List Frame := [.native { method := ⟨0, 0⟩, args := #[] }]
def about1 : State := aboutOver below0
def p0 : Program := .bare "" "" ""
def e0 : Env := launch0.env 0 0 0
theorem w_frames : about1.frames = Frame.invoking theMethod args0 :: below0 := rfl
set_option maxRecDepth 65536 in
theorem w_args : argsFit about1.vm theMethod args0 = true := by decide +kernel
set_option maxRecDepth 65536 in
theorem w_heap : heapFits about1 = true := by decide +kernel
set_option maxRecDepth 65536 in
theorem w_runnable : about1.curStatus? = some .runnable := by decide +kernel
set_option maxRecDepth 65536 in
theorem w_alone : about1.alone = true := by decide +kernel
set_option maxRecDepth 65536 in
theorem w_named : about1.methodNamed? x = some theMethod := by decide +kernel
set_option maxRecDepth 65536 in
theorem w_hears : about1.hears theMethod below0 = true := by decide +kernel
set_option maxRecDepth 65536 in
theorem w_ripe : about1.ripe theMethod args0 below0 = true := by decide +kernel
theorem w_running : about1.status = .running := rfl
set_option maxRecDepth 65536 in
theorem w_room : about1.hasRoom e0.platform room_1 = true :=
  launch0.hasRoom_least _ room_1 (by decide +kernel) (by decide +kernel) (by decide +kernel) (by decide +kernel) (by decide +kernel) (by decide +kernel)
theorem allAtoms_all (ts : List Jvm.Cond) (a : Array Jvm.Value) (st : Jvm.State) : (allAtoms ts).before a st = ts.all (fun c => c.before a st) := by
  induction ts with
  | nil => rfl
  | cons c t ih =>
    show (Jvm.Cond.and c (allAtoms t)).before a st = _
    rw [Jvm.Cond.before_and, ih, List.all_cons]
def words1 : List Jvm.Cond := Jvm.Cond.code x code maxLocals ret :: tables_1
/-- a 'code' word, met by the world's own term for the bytes: nothing is compared byte by byte -/
theorem code_word {y : MethodName} {bytes : ByteArray} {mx : Nat} {rt : Option FieldType} {a : Array Value} {s : State} {m : MethodId} {meth : Method} {c : Code} (h1 : s.methodNamed? y = some m) (h2 : s.vm.method? m = some meth) (h3 : meth.code = some c) (h4 : c.code = bytes)
    (h5 : (c.maxLocals == mx && c.exceptionTable.isEmpty && decide (c.maxStack ≤ mostOperands) && decide (meth.sig.returnType = rt) && !meth.locks && decide (parseMethodDescriptor y.desc = some meth.sig)) = true) : (Jvm.Cond.code y bytes mx rt).before a s = true := by
  simp only [Bool.and_eq_true, beq_iff_eq, Bool.not_eq_true', decide_eq_true_eq] at h5
  obtain ⟨⟨⟨⟨⟨g1, g2⟩, g3⟩, g4⟩, g5⟩, g6⟩ := h5
  simp [Cond.before, Cond.holds, Cond.value, h1, h2, h3, h4, g1, g2, g3, g4, g5, g6]
def isCode : Jvm.Cond → Bool
  | .code _ _ _ _ => true
  | _ => false
theorem all_split {L : List Jvm.Cond} {P : Jvm.Cond → Bool} (h1 : L.all (fun c => isCode c || P c) = true) (h2 : ∀ c ∈ L.filter isCode, P c = true) : L.all P = true := by
  refine List.all_eq_true.mpr fun c hc => ?_
  have h := List.all_eq_true.mp h1 c hc
  rcases Bool.eq_false_or_eq_true (isCode c) with hi | hi
  · exact h2 c (List.mem_filter.mpr ⟨hc, hi⟩)
  · simpa [hi] using h
set_option maxRecDepth 65536 in
theorem w_c0 : (Jvm.Cond.code x code maxLocals ret).before args0 about1 = true := code_word (m := ⟨1, 1⟩) (meth := k1m1) (c := k1c1) (by decide +kernel) rfl rfl rfl (by decide +kernel)
set_option maxRecDepth 65536 in
theorem w_c1 : (Jvm.Cond.code ({ cls := "com/example/riskgate/riskgate/xacml/ExtendedDecision", name := "underIndeterminateTarget", desc := "()Lcom/example/riskgate/riskgate/xacml/ExtendedDecision;" } : Jvm.MethodName) prog_32_method_8_code (2 : Nat) (Option.some (Jvm.ClassFile.FieldType.object "com/example/riskgate/riskgate/xacml/ExtendedDecision"))).before args0 about1 = true := code_word (m := ⟨6, 0⟩) (meth := k6m0) (c := k6c0) (by decide +kernel) rfl rfl rfl (by decide +kernel)
def codes1 : List Jvm.Cond := [Jvm.Cond.code x code maxLocals ret, Jvm.Cond.code ({ cls := "com/example/riskgate/riskgate/xacml/ExtendedDecision", name := "underIndeterminateTarget", desc := "()Lcom/example/riskgate/riskgate/xacml/ExtendedDecision;" } : Jvm.MethodName) prog_32_method_8_code (2 : Nat) (Option.some (Jvm.ClassFile.FieldType.object "com/example/riskgate/riskgate/xacml/ExtendedDecision"))]
set_option maxRecDepth 65536 in
theorem codes_eq : words1.filter isCode = codes1 := rfl
theorem w_codes : ∀ c ∈ words1.filter isCode, c.before args0 about1 = true := by
  rw [codes_eq]
  intro c hc
  simp only [codes1, List.mem_cons, List.not_mem_nil, or_false] at hc
  rcases hc with rfl | rfl
  · exact w_c0
  · exact w_c1
set_option maxRecDepth 65536 in
theorem w_t1 : (words1.take 24).all (fun c => isCode c || c.before args0 about1) = true := by decide +kernel
set_option maxRecDepth 65536 in
theorem w_t2 : (words1.drop 24).all (fun c => isCode c || c.before args0 about1) = true := by decide +kernel
theorem w_tables : (allAtoms (Jvm.Cond.code x code maxLocals ret :: tables_1)).before args0 about1 = true := by
  rw [allAtoms_all]
  show words1.all (fun c => c.before args0 about1) = true
  refine all_split ?_ w_codes
  rw [← List.take_append_drop 24 words1, List.all_append, w_t1, w_t2]
  rfl
set_option maxRecDepth 65536 in
theorem w_case : (Jvm.Cond.and given_1 narrow_1).before args0 about1 = true := by decide +kernel
theorem w_applies : (headSpec (Jvm.Cond.code x code maxLocals ret :: tables_1) room_1).applies x e0.platform about1 = true :=
  (Spec.applies_iff w_frames).mpr ⟨w_running, w_runnable, w_alone, w_named, w_hears, w_ripe, w_room, w_tables⟩
theorem atStart : AtStart classFile x code maxLocals ret World_1 tables_1 room_1 Calls_1 rest_1 Pre_1 launch0 p0 e0 about1 theMethod args0 below0 :=
  ⟨lists_1, trivial, launch0.admits_env _ _ _, launch0.least_env, fairChoices_fair.cas, fairChoices_fair.clock, w_frames, w_args, w_heap, w_applies, trivial, trivial, w_case⟩
end start1
theorem witness_1 : WitnessClaimed_1 := ⟨start1.p0, start1.e0, start1.about1, start1.theMethod, start1.args0, start1.below0, start1.atStart⟩
end Jvm.Pilot.@@N@@
