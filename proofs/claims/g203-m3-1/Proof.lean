import JvmDerived
import JvmDerived.Pilot.@@N@@Statement
import JvmDerived.Pilot.@@N@@Code
set_option linter.unusedVariables false
set_option linter.unusedSimpArgs false
namespace Jvm.RoadKit
open Sem ClassFile Op Lib Jvm.Stand Jvm.Free Jvm.LawKit
section New
variable {p : Program} {l : Launch} {e : Env} {R : Room} {s : State} {m : MethodId} {args : Array Value} {below : List Frame} {meth : Method} {c : Code} {T : State} {locs : List Loc} {cells slots : Nat}
theorem retI (X : Stand p l e R s m args below meth c T locs cells slots) (hx : p.tables.exec = Jvm.exec) {pc : Nat} {Ls : Array Slot} {z : Int32} {rest : List Value} (hret : meth.sig.returnType = some .int) (hd : decode c.code pc = .ok (.ireturn, 1)) {fs : List Frame}
    (hl : ∀ (f : JFrame) (acts : List Action), f.method = m → f.locked = none → f.entered = [] → (doReturn e (T.setTop f) acts (some (.int z))).1 = T.setFrames fs) : Steps p.tables e below (T.setTop (mkF m pc Ls (.int z :: rest))) (T.setFrames fs) := by
  have hm' : T.vm.method? m = some meth := X.method'
  have hn : narrow .int (.int z) = .int z := rfl
  show Steps p.tables e below (T.setTop { method := m, pc := pc, locals := Ls, stack := _ :: rest, locked := none }) _
  jvm_step X.here [X.here.top, hx, hd, hm', hret, hn]
  first | (intro acts; rw [hl _ acts rfl rfl rfl]) | rw [hl _ _ rfl rfl rfl]
  exact Steps.refl _
end New
end Jvm.RoadKit
namespace Jvm.Pilot.@@N@@
open Jvm Jvm.ClassFile Sem Op Lib Jvm.Free Jvm.Stand Jvm.LawKit Jvm.RoadKit Bundle Jvm.Pilot.@@N@@.Jvm.D
abbrev OwnS (p : Program) (e : Env) (below : List Frame) (T : State) (g : JFrame) (t : State) : Prop := Steps p.tables e below (T.setTop g) t
theorem own_selpriv {s : State} {args : Array Value} {y : MethodName} {n : Nat} (hy : y.cls ≠ "java/lang/invoke/MethodHandle" ∧ y.cls ≠ "java/lang/invoke/VarHandle") (hins : (Jvm.Cond.instantiable y.cls n).before args s = true) (hp : (Jvm.Cond.privateMethod y).before args s = true) (hi : (Jvm.Cond.instanceMethod y).before args s = true) : (Jvm.Cond.selects y.cls y y).before args s = true := by
  obtain ⟨c, k, hc, hk, -, hniab, -⟩ := Cond.instantiable_spec hins
  exact selects_self_of_private hc hk (Bool.or_eq_false_iff.mp hniab).1 (Cond.privateMethod_at hp) hi hy
theorem own_irr (x : Int32) : ¬ (x < x) := by rw [Int32.lt_iff_toInt_lt]; omega
theorem own_asymm {x y : Int32} (h : x < y) : ¬ (y < x) := by rw [Int32.lt_iff_toInt_lt] at *; omega
theorem own_ne {x y : Int32} (h : x < y) : ¬ (x = y) := fun q => own_irr x (by rw [← q] at h; exact h)
theorem own_ne' {x y : Int32} (h : x < y) : ¬ (y = x) := fun q => own_irr x (by rw [q] at h; exact h)
theorem own_tri (x y : Int32) : x < y ∨ x = y ∨ y < x := by
  rw [Int32.lt_iff_toInt_lt, Int32.lt_iff_toInt_lt, ← Int32.toInt_inj]; omega
theorem own_ns {Z : State} {h : Heap} {a : Addr} {C : String} (F : Exa Z h a C) : ∃ cell : Cell, h[a]? = some cell ∧ cell.vm.isStatics = false := by
  obtain ⟨cell, k, h1, -, -, h4, -⟩ := F; exact ⟨cell, h1, h4⟩
theorem own_sta_keep {Z : State} {h h' : Heap} {ws : List Addr} {C n d : String} {v : Value} (F : Sta Z h C n d v) (K : Keep h h' ws) (q : ∀ x ∈ ws, ∃ cell : Cell, h[x]? = some cell ∧ cell.vm.isStatics = false) : Sta Z h' C n d v := by
  obtain ⟨cf, i, k, f, st, cell, h1, h2, h3, h4, h5, h6, h7⟩ := F
  refine ⟨cf, i, k, f, st, cell, h1, h2, h3, h4, K.2.1 st cell h5 fun r => ?_, h6, h7⟩
  obtain ⟨c2, g1, g2⟩ := q st r
  cases h5.symm.trans g1
  rw [g2] at h6; cases h6
theorem own_eq_int {args : Array Value} {first s : State} {o : Option Outcome} {idx : List Nat} {t : Term} {k : Int32} (h : (Jvm.Cond.eq t (.int k)).value args first o s idx = some true) : t.eval args first o idx s = some (.int k) := by
  simp only [Cond.value, Term.eval] at h
  cases ht : t.eval args first o idx s with
  | none => simp [ht] at h
  | some x => cases x <;> simp [ht] at h ⊢; exact h
abbrev cS0 : String := "com/example/driftline/driftline/core/FileFormat"
theorem own_at {Z : State} {a0 : Array Value} (hw : ∀ d ∈ tables_1, d.before a0 Z = true) (i : Nat) {d : Jvm.Cond} (h : tables_1[i]? = some d) : d.before a0 Z = true := hw _ (List.mem_of_getElem? h)
theorem d1_0 : decode prog_6_method_10_code 0 = .ok (.iload_n 1, 1) := by decide +kernel
theorem d1_1 : decode prog_6_method_10_code 1 = .ok (.bipush 34, 2) := by decide +kernel
theorem d1_3 : decode prog_6_method_10_code 3 = .ok (.if_icmp .eq 16, 3) := by decide +kernel
theorem d1_19 : decode prog_6_method_10_code 19 = .ok (.iconst 1, 1) := by decide +kernel
theorem d1_20 : decode prog_6_method_10_code 20 = .ok (.goto 4, 3) := by decide +kernel
theorem d1_24 : decode prog_6_method_10_code 24 = .ok (.ireturn, 1) := by decide +kernel
theorem pn_com_example_driftline_driftline_core_FileFormat : plainName cS0 = true := by first | (simp [plainName, overriddenIn]; done) | decide +kernel
theorem ef_1 (m : MethodId) (x0 : Addr) (x1 : Int32) : entryFrame m #[(.ref x0), (.int x1)] 2 = mkF m 0 #[.val (.ref x0), .val (.int x1)] [] := by first | (simp [entryFrame, mkF, argsToLocals, Value.category]; done) | rfl
def Q_1_t (Z : State) (r0 : Addr) (p1 : Int32) (h0 : Heap) (n0 : Nat) (v : Option Value) (h : Heap) (L : List Loc) : Prop := v = some (.int 1) ∧ Fr n0 L ∧ h = h0
set_option maxRecDepth 65536 in
set_option maxHeartbeats 40000000 in
theorem rm1_t (l : Launch) (Z : State) (a0 : Array Value) (hw : ∀ d ∈ tables_1, d.before a0 Z = true) (ws : List Jvm.Cond) (r0 : Addr) (p1 : Int32) (h0 : Heap) (n0 : Nat) (Z0 : n0 ≤ h0.size) (hc3 : p1 = (34 : Int32)) :
    MetFree l (⟨cS0, "isQuote", "(C)Z"⟩ : MethodName) (head1 (Jvm.Cond.code (⟨cS0, "isQuote", "(C)Z"⟩ : MethodName) prog_6_method_10_code 2 (some .boolean) :: ws) ({ frames := 0, cells := 0, slots := 0, locals := 0 } : Room)) (fun a U => a = #[(.ref r0), (.int p1)] ∧ Z.Warmed39 U.vm ∧ U.heap = h0) (fun _ _ _ _ _ => True) (fun _ U o U' => ∃ v L, o = .returned v ∧ Q_1_t Z r0 p1 h0 n0 v U'.heap L ∧ FrameEnd U o U' L ({ frames := 0, cells := 0, slots := 0, locals := 0 } : Room).cells ({ frames := 0, cells := 0, slots := 0, locals := 0 } : Room).slots) := by
  refine MetFree.of_bodySF (plainFor_of_name pn_com_example_driftline_driftline_core_FileFormat) hisR ?_
  intro p e s m args below meth c s₁ Bd hml0 hP hK
  obtain ⟨rfl, hZ, hh⟩ := hP
  have hx := Bd.exec
  have hby := Bd.bytes
  have hml : c.maxLocals = 2 := hml0
  have hown : s.vm.findClass cS0 = some m.cls := findClass_of_methodNamed Bd.named
  have hnm := (name_of_methodNamed Bd.named Bd.method).1
  have X0 : Stand p l e ({ frames := 0, cells := 0, slots := 0, locals := 0 } : Room) s m #[(.ref r0), (.int p1)] below meth c s₁ [] 0 0 := Stand.of_body Bd
  have e0 : s₁.heap = h0 := by rw [← hh, Bd.state]; rfl
  have N0 := Fr.nil n0
  have k0 : ∀ t, OwnS p e below s₁ (mkF m 0 #[rv r0, iv p1] []) t → OwnS p e below s₁ (entryFrame m #[(.ref r0), (.int p1)] 2) t := fun t k => castTop (ef_1 m r0 p1) k
  obtain ⟨fs, hr, hrun, hended, hW, hsame⟩ := X0.leave (v := some (.int 1)) (fun h => by rw [Bd.returns] at h; cases h)
  refine ⟨_, _, k0 _ ?_, hrun, hended, _, _, rfl, ?_, ⟨_, rfl⟩, hW, hsame.mono (by decide) (by decide)⟩
  · show OwnS p e below s₁ (mkF m 0 #[rv r0, iv p1] []) _
    refine XS.iloadN X0.here hx rfl (hb hby d1_0) rfl ?_
    show OwnS p e below s₁ (mkF m 1 #[rv r0, iv p1] [(.int p1)]) _
    refine XS.bipush X0.here hx rfl (hb hby d1_1) ?_
    show OwnS p e below s₁ (mkF m 3 #[rv r0, iv p1] [(.int 34), (.int p1)]) _
    refine XS.icmpYes X0.here hx rfl (pc0 := 3) (pc' := 19) rfl (hb hby d1_3) rfl (teq hc3).1 (by decide) (by decide) ?_
    show OwnS p e below s₁ (mkF m 19 #[rv r0, iv p1] []) _
    refine XS.iconst X0.here hx rfl (hb hby d1_19) ?_
    show OwnS p e below s₁ (mkF m 20 #[rv r0, iv p1] [(.int 1)]) _
    refine XS.goto X0.here hx rfl (pc0 := 20) (pc' := 24) rfl (hb hby d1_20) (by decide) (by decide) ?_
    show OwnS p e below s₁ (mkF m 24 #[rv r0, iv p1] [(.int 1)]) _
    exact retN X0 hx (t := .boolean) Bd.returns (by simp) (hb hby d1_24) hr
  · show Q_1_t Z r0 p1 h0 n0 _ s₁.heap _
    rw [e0]
    exact ⟨rfl, N0, rfl⟩
theorem d1_6 : decode prog_6_method_10_code 6 = .ok (.aload_n 0, 1) := by decide +kernel
theorem d1_7 : decode prog_6_method_10_code 7 = .ok (.getstatic 3, 3) := by decide +kernel
theorem d1_10 : decode prog_6_method_10_code 10 = .ok (.if_acmp .ne 13, 3) := by decide +kernel
theorem d1_23 : decode prog_6_method_10_code 23 = .ok (.iconst 0, 1) := by decide +kernel
def Q_1_ft (Z : State) (r0 : Addr) (p1 : Int32) (w_ARFF : Addr) (h0 : Heap) (n0 : Nat) (v : Option Value) (h : Heap) (L : List Loc) : Prop := v = some (.int 0) ∧ Fr n0 L ∧ h = h0
set_option maxRecDepth 65536 in
set_option maxHeartbeats 40000000 in
theorem rm1_ft (l : Launch) (Z : State) (a0 : Array Value) (hw : ∀ d ∈ tables_1, d.before a0 Z = true) (ws : List Jvm.Cond) (r0 : Addr) (p1 : Int32) (w_ARFF : Addr) (h0 : Heap) (n0 : Nat) (Z0 : n0 ≤ h0.size) (hc3 : ¬ (p1 = (34 : Int32))) (S_ARFF : Sta Z h0 cS0 "ARFF" "Lcom/example/driftline/driftline/core/FileFormat;" (.ref w_ARFF)) (ha10 : ¬ (r0 = w_ARFF)) :
    MetFree l (⟨cS0, "isQuote", "(C)Z"⟩ : MethodName) (head1 (Jvm.Cond.code (⟨cS0, "isQuote", "(C)Z"⟩ : MethodName) prog_6_method_10_code 2 (some .boolean) :: ws) ({ frames := 0, cells := 0, slots := 0, locals := 0 } : Room)) (fun a U => a = #[(.ref r0), (.int p1)] ∧ Z.Warmed39 U.vm ∧ U.heap = h0) (fun _ _ _ _ _ => True) (fun _ U o U' => ∃ v L, o = .returned v ∧ Q_1_ft Z r0 p1 w_ARFF h0 n0 v U'.heap L ∧ FrameEnd U o U' L ({ frames := 0, cells := 0, slots := 0, locals := 0 } : Room).cells ({ frames := 0, cells := 0, slots := 0, locals := 0 } : Room).slots) := by
  refine MetFree.of_bodySF (plainFor_of_name pn_com_example_driftline_driftline_core_FileFormat) hisR ?_
  intro p e s m args below meth c s₁ Bd hml0 hP hK
  obtain ⟨rfl, hZ, hh⟩ := hP
  have hx := Bd.exec
  have hby := Bd.bytes
  have hml : c.maxLocals = 2 := hml0
  have hown : s.vm.findClass cS0 = some m.cls := findClass_of_methodNamed Bd.named
  have hnm := (name_of_methodNamed Bd.named Bd.method).1
  have X0 : Stand p l e ({ frames := 0, cells := 0, slots := 0, locals := 0 } : Room) s m #[(.ref r0), (.int p1)] below meth c s₁ [] 0 0 := Stand.of_body Bd
  have e0 : s₁.heap = h0 := by rw [← hh, Bd.state]; rfl
  have N0 := Fr.nil n0
  have k0 : ∀ t, OwnS p e below s₁ (mkF m 0 #[rv r0, iv p1] []) t → OwnS p e below s₁ (entryFrame m #[(.ref r0), (.int p1)] 2) t := fun t k => castTop (ef_1 m r0 p1) k
  obtain ⟨T1, X1, e1, st1⟩ := getS2 X0 hx hZ hown (host := "") (Or.inl (own_at hw 9 rfl)) Via.refl e0 S_ARFF (g := (mkF m 7 #[rv r0, iv p1] [(.ref r0)])) rfl (hb hby d1_7)
  obtain ⟨fs, hr, hrun, hended, hW, hsame⟩ := X1.leave (v := some (.int 0)) (fun h => by rw [Bd.returns] at h; cases h)
  refine ⟨_, _, k0 _ ?_, hrun, hended, _, _, rfl, ?_, ⟨_, rfl⟩, hW, hsame.mono (by decide) (by decide)⟩
  · show OwnS p e below s₁ (mkF m 0 #[rv r0, iv p1] []) _
    refine XS.iloadN X0.here hx rfl (hb hby d1_0) rfl ?_
    show OwnS p e below s₁ (mkF m 1 #[rv r0, iv p1] [(.int p1)]) _
    refine XS.bipush X0.here hx rfl (hb hby d1_1) ?_
    show OwnS p e below s₁ (mkF m 3 #[rv r0, iv p1] [(.int 34), (.int p1)]) _
    refine XS.icmpNo X0.here hx rfl (hb hby d1_3) rfl (feq hc3).1 ?_
    show OwnS p e below s₁ (mkF m 6 #[rv r0, iv p1] []) _
    refine XS.aloadN X0.here hx rfl (hb hby d1_6) rfl rfl ?_
    show OwnS p e below s₁ (mkF m 7 #[rv r0, iv p1] [(.ref r0)]) _
    refine st1 _ ?_
    show OwnS p e below T1 (mkF m 10 #[rv r0, iv p1] [(.ref w_ARFF), (.ref r0)]) _
    refine Jvm.RoadKit.acmp (g := (mkF m 10 #[rv r0, iv p1] [(.ref w_ARFF), (.ref r0)])) X1 hx rfl rfl rfl (pc0 := 10) (pc' := 23) (same := false) rfl (hb hby d1_10) rfl (decide_eq_false fun q => ha10 (Value.ref.inj q)) (by decide) (by decide) ?_
    show OwnS p e below T1 (mkF m 23 #[rv r0, iv p1] []) _
    refine XS.iconst X1.here hx rfl (hb hby d1_23) ?_
    show OwnS p e below T1 (mkF m 24 #[rv r0, iv p1] [(.int 0)]) _
    exact retN X1 hx (t := .boolean) Bd.returns (by simp) (hb hby d1_24) hr
  · show Q_1_ft Z r0 p1 w_ARFF h0 n0 _ T1.heap _
    rw [e1]
    exact ⟨rfl, N0, rfl⟩
theorem d1_13 : decode prog_6_method_10_code 13 = .ok (.iload_n 1, 1) := by decide +kernel
theorem d1_14 : decode prog_6_method_10_code 14 = .ok (.bipush 39, 2) := by decide +kernel
theorem d1_16 : decode prog_6_method_10_code 16 = .ok (.if_icmp .ne 7, 3) := by decide +kernel
def Q_1_aft (Z : State) (w_ARFF : Addr) (p1 : Int32) (h0 : Heap) (n0 : Nat) (v : Option Value) (h : Heap) (L : List Loc) : Prop := v = some (.int 0) ∧ Fr n0 L ∧ h = h0
set_option maxRecDepth 65536 in
set_option maxHeartbeats 40000000 in
theorem rm1_aft (l : Launch) (Z : State) (a0 : Array Value) (hw : ∀ d ∈ tables_1, d.before a0 Z = true) (ws : List Jvm.Cond) (w_ARFF : Addr) (p1 : Int32) (h0 : Heap) (n0 : Nat) (Z0 : n0 ≤ h0.size) (S_ARFF : Sta Z h0 cS0 "ARFF" "Lcom/example/driftline/driftline/core/FileFormat;" (.ref w_ARFF)) (hc3 : ¬ (p1 = (34 : Int32))) (hc16 : ¬ (p1 = (39 : Int32))) :
    MetFree l (⟨cS0, "isQuote", "(C)Z"⟩ : MethodName) (head1 (Jvm.Cond.code (⟨cS0, "isQuote", "(C)Z"⟩ : MethodName) prog_6_method_10_code 2 (some .boolean) :: ws) ({ frames := 0, cells := 0, slots := 0, locals := 0 } : Room)) (fun a U => a = #[(.ref w_ARFF), (.int p1)] ∧ Z.Warmed39 U.vm ∧ U.heap = h0) (fun _ _ _ _ _ => True) (fun _ U o U' => ∃ v L, o = .returned v ∧ Q_1_aft Z w_ARFF p1 h0 n0 v U'.heap L ∧ FrameEnd U o U' L ({ frames := 0, cells := 0, slots := 0, locals := 0 } : Room).cells ({ frames := 0, cells := 0, slots := 0, locals := 0 } : Room).slots) := by
  refine MetFree.of_bodySF (plainFor_of_name pn_com_example_driftline_driftline_core_FileFormat) hisR ?_
  intro p e s m args below meth c s₁ Bd hml0 hP hK
  obtain ⟨rfl, hZ, hh⟩ := hP
  have hx := Bd.exec
  have hby := Bd.bytes
  have hml : c.maxLocals = 2 := hml0
  have hown : s.vm.findClass cS0 = some m.cls := findClass_of_methodNamed Bd.named
  have hnm := (name_of_methodNamed Bd.named Bd.method).1
  have X0 : Stand p l e ({ frames := 0, cells := 0, slots := 0, locals := 0 } : Room) s m #[(.ref w_ARFF), (.int p1)] below meth c s₁ [] 0 0 := Stand.of_body Bd
  have e0 : s₁.heap = h0 := by rw [← hh, Bd.state]; rfl
  have N0 := Fr.nil n0
  have k0 : ∀ t, OwnS p e below s₁ (mkF m 0 #[rv w_ARFF, iv p1] []) t → OwnS p e below s₁ (entryFrame m #[(.ref w_ARFF), (.int p1)] 2) t := fun t k => castTop (ef_1 m w_ARFF p1) k
  obtain ⟨T1, X1, e1, st1⟩ := getS2 X0 hx hZ hown (host := "") (Or.inl (own_at hw 9 rfl)) Via.refl e0 S_ARFF (g := (mkF m 7 #[rv w_ARFF, iv p1] [(.ref w_ARFF)])) rfl (hb hby d1_7)
  obtain ⟨fs, hr, hrun, hended, hW, hsame⟩ := X1.leave (v := some (.int 0)) (fun h => by rw [Bd.returns] at h; cases h)
  refine ⟨_, _, k0 _ ?_, hrun, hended, _, _, rfl, ?_, ⟨_, rfl⟩, hW, hsame.mono (by decide) (by decide)⟩
  · show OwnS p e below s₁ (mkF m 0 #[rv w_ARFF, iv p1] []) _
    refine XS.iloadN X0.here hx rfl (hb hby d1_0) rfl ?_
    show OwnS p e below s₁ (mkF m 1 #[rv w_ARFF, iv p1] [(.int p1)]) _
    refine XS.bipush X0.here hx rfl (hb hby d1_1) ?_
    show OwnS p e below s₁ (mkF m 3 #[rv w_ARFF, iv p1] [(.int 34), (.int p1)]) _
    refine XS.icmpNo X0.here hx rfl (hb hby d1_3) rfl (feq hc3).1 ?_
    show OwnS p e below s₁ (mkF m 6 #[rv w_ARFF, iv p1] []) _
    refine XS.aloadN X0.here hx rfl (hb hby d1_6) rfl rfl ?_
    show OwnS p e below s₁ (mkF m 7 #[rv w_ARFF, iv p1] [(.ref w_ARFF)]) _
    refine st1 _ ?_
    show OwnS p e below T1 (mkF m 10 #[rv w_ARFF, iv p1] [(.ref w_ARFF), (.ref w_ARFF)]) _
    refine Jvm.RoadKit.acmp (g := (mkF m 10 #[rv w_ARFF, iv p1] [(.ref w_ARFF), (.ref w_ARFF)])) X1 hx rfl rfl rfl (pc0 := 10) (pc' := 13) (same := true) rfl (hb hby d1_10) rfl (decide_eq_true rfl) (by decide) (by decide) ?_
    show OwnS p e below T1 (mkF m 13 #[rv w_ARFF, iv p1] []) _
    refine XS.iloadN X1.here hx rfl (hb hby d1_13) rfl ?_
    show OwnS p e below T1 (mkF m 14 #[rv w_ARFF, iv p1] [(.int p1)]) _
    refine XS.bipush X1.here hx rfl (hb hby d1_14) ?_
    show OwnS p e below T1 (mkF m 16 #[rv w_ARFF, iv p1] [(.int 39), (.int p1)]) _
    refine XS.icmpYes X1.here hx rfl (pc0 := 16) (pc' := 23) rfl (hb hby d1_16) rfl (feq hc16).2 (by decide) (by decide) ?_
    show OwnS p e below T1 (mkF m 23 #[rv w_ARFF, iv p1] []) _
    refine XS.iconst X1.here hx rfl (hb hby d1_23) ?_
    show OwnS p e below T1 (mkF m 24 #[rv w_ARFF, iv p1] [(.int 0)]) _
    exact retN X1 hx (t := .boolean) Bd.returns (by simp) (hb hby d1_24) hr
  · show Q_1_aft Z w_ARFF p1 h0 n0 _ T1.heap _
    rw [e1]
    exact ⟨rfl, N0, rfl⟩
def Q_1_aff (Z : State) (w_ARFF : Addr) (p1 : Int32) (h0 : Heap) (n0 : Nat) (v : Option Value) (h : Heap) (L : List Loc) : Prop := v = some (.int 1) ∧ Fr n0 L ∧ h = h0
set_option maxRecDepth 65536 in
set_option maxHeartbeats 40000000 in
theorem rm1_aff (l : Launch) (Z : State) (a0 : Array Value) (hw : ∀ d ∈ tables_1, d.before a0 Z = true) (ws : List Jvm.Cond) (w_ARFF : Addr) (p1 : Int32) (h0 : Heap) (n0 : Nat) (Z0 : n0 ≤ h0.size) (S_ARFF : Sta Z h0 cS0 "ARFF" "Lcom/example/driftline/driftline/core/FileFormat;" (.ref w_ARFF)) (hc3 : ¬ (p1 = (34 : Int32))) (hc16 : p1 = (39 : Int32)) :
    MetFree l (⟨cS0, "isQuote", "(C)Z"⟩ : MethodName) (head1 (Jvm.Cond.code (⟨cS0, "isQuote", "(C)Z"⟩ : MethodName) prog_6_method_10_code 2 (some .boolean) :: ws) ({ frames := 0, cells := 0, slots := 0, locals := 0 } : Room)) (fun a U => a = #[(.ref w_ARFF), (.int p1)] ∧ Z.Warmed39 U.vm ∧ U.heap = h0) (fun _ _ _ _ _ => True) (fun _ U o U' => ∃ v L, o = .returned v ∧ Q_1_aff Z w_ARFF p1 h0 n0 v U'.heap L ∧ FrameEnd U o U' L ({ frames := 0, cells := 0, slots := 0, locals := 0 } : Room).cells ({ frames := 0, cells := 0, slots := 0, locals := 0 } : Room).slots) := by
  refine MetFree.of_bodySF (plainFor_of_name pn_com_example_driftline_driftline_core_FileFormat) hisR ?_
  intro p e s m args below meth c s₁ Bd hml0 hP hK
  obtain ⟨rfl, hZ, hh⟩ := hP
  have hx := Bd.exec
  have hby := Bd.bytes
  have hml : c.maxLocals = 2 := hml0
  have hown : s.vm.findClass cS0 = some m.cls := findClass_of_methodNamed Bd.named
  have hnm := (name_of_methodNamed Bd.named Bd.method).1
  have X0 : Stand p l e ({ frames := 0, cells := 0, slots := 0, locals := 0 } : Room) s m #[(.ref w_ARFF), (.int p1)] below meth c s₁ [] 0 0 := Stand.of_body Bd
  have e0 : s₁.heap = h0 := by rw [← hh, Bd.state]; rfl
  have N0 := Fr.nil n0
  have k0 : ∀ t, OwnS p e below s₁ (mkF m 0 #[rv w_ARFF, iv p1] []) t → OwnS p e below s₁ (entryFrame m #[(.ref w_ARFF), (.int p1)] 2) t := fun t k => castTop (ef_1 m w_ARFF p1) k
  obtain ⟨T1, X1, e1, st1⟩ := getS2 X0 hx hZ hown (host := "") (Or.inl (own_at hw 9 rfl)) Via.refl e0 S_ARFF (g := (mkF m 7 #[rv w_ARFF, iv p1] [(.ref w_ARFF)])) rfl (hb hby d1_7)
  obtain ⟨fs, hr, hrun, hended, hW, hsame⟩ := X1.leave (v := some (.int 1)) (fun h => by rw [Bd.returns] at h; cases h)
  refine ⟨_, _, k0 _ ?_, hrun, hended, _, _, rfl, ?_, ⟨_, rfl⟩, hW, hsame.mono (by decide) (by decide)⟩
  · show OwnS p e below s₁ (mkF m 0 #[rv w_ARFF, iv p1] []) _
    refine XS.iloadN X0.here hx rfl (hb hby d1_0) rfl ?_
    show OwnS p e below s₁ (mkF m 1 #[rv w_ARFF, iv p1] [(.int p1)]) _
    refine XS.bipush X0.here hx rfl (hb hby d1_1) ?_
    show OwnS p e below s₁ (mkF m 3 #[rv w_ARFF, iv p1] [(.int 34), (.int p1)]) _
    refine XS.icmpNo X0.here hx rfl (hb hby d1_3) rfl (feq hc3).1 ?_
    show OwnS p e below s₁ (mkF m 6 #[rv w_ARFF, iv p1] []) _
    refine XS.aloadN X0.here hx rfl (hb hby d1_6) rfl rfl ?_
    show OwnS p e below s₁ (mkF m 7 #[rv w_ARFF, iv p1] [(.ref w_ARFF)]) _
    refine st1 _ ?_
    show OwnS p e below T1 (mkF m 10 #[rv w_ARFF, iv p1] [(.ref w_ARFF), (.ref w_ARFF)]) _
    refine Jvm.RoadKit.acmp (g := (mkF m 10 #[rv w_ARFF, iv p1] [(.ref w_ARFF), (.ref w_ARFF)])) X1 hx rfl rfl rfl (pc0 := 10) (pc' := 13) (same := true) rfl (hb hby d1_10) rfl (decide_eq_true rfl) (by decide) (by decide) ?_
    show OwnS p e below T1 (mkF m 13 #[rv w_ARFF, iv p1] []) _
    refine XS.iloadN X1.here hx rfl (hb hby d1_13) rfl ?_
    show OwnS p e below T1 (mkF m 14 #[rv w_ARFF, iv p1] [(.int p1)]) _
    refine XS.bipush X1.here hx rfl (hb hby d1_14) ?_
    show OwnS p e below T1 (mkF m 16 #[rv w_ARFF, iv p1] [(.int 39), (.int p1)]) _
    refine XS.icmpNo X1.here hx rfl (hb hby d1_16) rfl (teq hc16).2 ?_
    show OwnS p e below T1 (mkF m 19 #[rv w_ARFF, iv p1] []) _
    refine XS.iconst X1.here hx rfl (hb hby d1_19) ?_
    show OwnS p e below T1 (mkF m 20 #[rv w_ARFF, iv p1] [(.int 1)]) _
    refine XS.goto X1.here hx rfl (pc0 := 20) (pc' := 24) rfl (hb hby d1_20) (by decide) (by decide) ?_
    show OwnS p e below T1 (mkF m 24 #[rv w_ARFF, iv p1] [(.int 1)]) _
    exact retN X1 hx (t := .boolean) Bd.returns (by simp) (hb hby d1_24) hr
  · show Q_1_aff Z w_ARFF p1 h0 n0 _ T1.heap _
    rw [e1]
    exact ⟨rfl, N0, rfl⟩
theorem pd_0 : parseMethodDescriptor "(C)Z" = some ⟨[.char], some .boolean⟩ := by decide +kernel
theorem pn_com_example_driftline_driftline_core_FileFormatIsQuotePinLaw : plainName "com/example/driftline/driftline/core/FileFormatIsQuotePinLaw" = true := by first | (simp [plainName, overriddenIn]; done) | decide +kernel
theorem ef_0 (m : MethodId) (x0 : Int32) (x1 : Int32) (x2 : Int32) : entryFrame m #[(.int x0), (.int x1), (.int x2)] maxLocals = mkF m 0 #[.val (.int x0), .val (.int x1), .val (.int x2), .unset, .unset, .unset, .unset, .unset] [] := by first | (simp [entryFrame, mkF, argsToLocals, Value.category, maxLocals]; done) | rfl
def Q_0 (Z : State) (p0 : Int32) (p1 : Int32) (p2 : Int32) (w_ARFF : Addr) (w_CSV : Addr) (h0 : Heap) (n0 : Nat) (v : Option Value) (h : Heap) (L : List Loc) : Prop := v = some (.int 1) ∧ Fr n0 L ∧ True
set_option maxRecDepth 65536 in
set_option maxHeartbeats 40000000 in
theorem rm0 (l : Launch) (Z : State) (a0 : Array Value) (hw : ∀ d ∈ tables_1, d.before a0 Z = true) (ws : List Jvm.Cond) (p0 : Int32) (p1 : Int32) (p2 : Int32) (w_ARFF : Addr) (w_CSV : Addr) (h0 : Heap) (n0 : Nat) (Z0 : n0 ≤ h0.size) (S_ARFF : Sta Z h0 cS0 "ARFF" "Lcom/example/driftline/driftline/core/FileFormat;" (.ref w_ARFF)) (S_CSV : Sta Z h0 cS0 "CSV" "Lcom/example/driftline/driftline/core/FileFormat;" (.ref w_CSV)) (E_w_ARFF : Exa Z h0 w_ARFF cS0) (E_w_CSV : Exa Z h0 w_CSV cS0) (ne : ¬ (w_CSV = w_ARFF)) :
    MetFree l x (head1 (Jvm.Cond.code x code maxLocals ret :: ws) room_1) (fun a U => a = #[(.int p0), (.int p1), (.int p2)] ∧ Z.Warmed39 U.vm ∧ U.heap = h0) (fun _ _ _ _ _ => True) (fun _ U o U' => ∃ v L, o = .returned v ∧ Q_0 Z p0 p1 p2 w_ARFF w_CSV h0 n0 v U'.heap L ∧ FrameEnd U o U' L room_1.cells room_1.slots) := by
  refine MetFree.of_bodySF (plainFor_of_name pn_com_example_driftline_driftline_core_FileFormatIsQuotePinLaw) hisR ?_
  intro p e s m args below meth c s₁ Bd hml0 hP hK
  obtain ⟨rfl, hZ, hh⟩ := hP
  have hx := Bd.exec
  have hby := Bd.bytes
  have hml : c.maxLocals = 8 := hml0
  have hown : s.vm.findClass "com/example/driftline/driftline/core/FileFormatIsQuotePinLaw" = some m.cls := findClass_of_methodNamed Bd.named
  have hnm := (name_of_methodNamed Bd.named Bd.method).1
  have X0 : Stand p l e room_1 s m #[(.int p0), (.int p1), (.int p2)] below meth c s₁ [] 0 0 := Stand.of_body Bd
  have e0 : s₁.heap = h0 := by rw [← hh, Bd.state]; rfl
  have N0 := Fr.nil n0
  have k0 : ∀ t, OwnS p e below s₁ (mkF m 0 #[iv p0, iv p1, iv p2, .unset, .unset, .unset, .unset, .unset] []) t → OwnS p e below s₁ (entryFrame m #[(.int p0), (.int p1), (.int p2)] maxLocals) t := fun t k => castTop (ef_0 m p0 p1 p2) k
  have k2 : ∀ t, OwnS p e below s₁ (mkF m 5 #[iv p0, iv p1, iv p2, iv (p1 &&& (3 : Int32)), .unset, .unset, .unset, .unset] [(.int (p1 &&& (3 : Int32)))]) t → OwnS p e below s₁ (entryFrame m #[(.int p0), (.int p1), (.int p2)] maxLocals) t := fun t q => by
    refine k0 t ?_
    show OwnS p e below s₁ (mkF m 0 #[iv p0, iv p1, iv p2, .unset, .unset, .unset, .unset, .unset] []) _
    refine XS.iloadN X0.here hx rfl (hb hby at_0) rfl ?_
    show OwnS p e below s₁ (mkF m 1 #[iv p0, iv p1, iv p2, .unset, .unset, .unset, .unset, .unset] [(.int p1)]) _
    refine XS.iconst X0.here hx rfl (hb hby at_1) ?_
    show OwnS p e below s₁ (mkF m 2 #[iv p0, iv p1, iv p2, .unset, .unset, .unset, .unset, .unset] [(.int 3), (.int p1)]) _
    refine XS.iand X0.here hx rfl (hb hby at_2) rfl ?_
    show OwnS p e below s₁ (mkF m 3 #[iv p0, iv p1, iv p2, .unset, .unset, .unset, .unset, .unset] [(.int (p1 &&& (3 : Int32)))]) _
    refine XS.istoreN X0.here hx rfl (hb hby at_3) rfl (l' := #[iv p0, iv p1, iv p2, iv (p1 &&& (3 : Int32)), .unset, .unset, .unset, .unset]) rfl ?_
    show OwnS p e below s₁ (mkF m 4 #[iv p0, iv p1, iv p2, iv (p1 &&& (3 : Int32)), .unset, .unset, .unset, .unset] []) _
    refine XS.iloadN X0.here hx rfl (hb hby at_4) rfl ?_
    exact q
  by_cases hc5_1 : (p1 &&& (3 : Int32)) = (0 : Int32)
  · have k4 : ∀ t, OwnS p e below s₁ (mkF m 37 #[iv p0, iv p1, iv p2, iv (p1 &&& (3 : Int32)), iv 34, .unset, .unset, .unset] [(.int (p2 &&& (1 : Int32)))]) t → OwnS p e below s₁ (entryFrame m #[(.int p0), (.int p1), (.int p2)] maxLocals) t := fun t q => by
      refine k2 t ?_
      show OwnS p e below s₁ (mkF m 5 #[iv p0, iv p1, iv p2, iv (p1 &&& (3 : Int32)), .unset, .unset, .unset, .unset] [(.int (p1 &&& (3 : Int32)))]) _
      refine XS.ifNo X0.here hx rfl (hb hby at_5) rfl ((if0 _ _).trans (teq hc5_1).2) ?_
      show OwnS p e below s₁ (mkF m 8 #[iv p0, iv p1, iv p2, iv (p1 &&& (3 : Int32)), .unset, .unset, .unset, .unset] []) _
      refine XS.bipush X0.here hx rfl (hb hby at_8) ?_
      show OwnS p e below s₁ (mkF m 10 #[iv p0, iv p1, iv p2, iv (p1 &&& (3 : Int32)), .unset, .unset, .unset, .unset] [(.int 34)]) _
      refine XS.istore X0.here hx rfl (hb hby at_10) rfl (l' := #[iv p0, iv p1, iv p2, iv (p1 &&& (3 : Int32)), iv 34, .unset, .unset, .unset]) rfl ?_
      show OwnS p e below s₁ (mkF m 12 #[iv p0, iv p1, iv p2, iv (p1 &&& (3 : Int32)), iv 34, .unset, .unset, .unset] []) _
      refine XS.goto X0.here hx rfl (pc0 := 12) (pc' := 34) rfl (hb hby at_12) (by decide) (by decide) ?_
      show OwnS p e below s₁ (mkF m 34 #[iv p0, iv p1, iv p2, iv (p1 &&& (3 : Int32)), iv 34, .unset, .unset, .unset] []) _
      refine XS.iloadN X0.here hx rfl (hb hby at_34) rfl ?_
      show OwnS p e below s₁ (mkF m 35 #[iv p0, iv p1, iv p2, iv (p1 &&& (3 : Int32)), iv 34, .unset, .unset, .unset] [(.int p2)]) _
      refine XS.iconst X0.here hx rfl (hb hby at_35) ?_
      show OwnS p e below s₁ (mkF m 36 #[iv p0, iv p1, iv p2, iv (p1 &&& (3 : Int32)), iv 34, .unset, .unset, .unset] [(.int 1), (.int p2)]) _
      refine XS.iand X0.here hx rfl (hb hby at_36) rfl ?_
      exact q
    by_cases hc37_3 : (p2 &&& (1 : Int32)) = (0 : Int32)
    · obtain ⟨T5, X5, e5, st5⟩ := getS2 X0 hx hZ hown (host := "") (Or.inl (own_at hw 1 rfl)) Via.refl e0 S_CSV (g := (mkF m 58 #[iv p0, iv p1, iv p2, iv (p1 &&& (3 : Int32)), iv 34, iv 0, .unset, .unset] [])) rfl (hb hby at_58)
      obtain ⟨cq6, kq6, q6a, q6b, q6c⟩ := isOf hZ e5 E_w_CSV
      obtain ⟨_, _, ⟨T6, L6, j6, i6⟩, -, X6, ⟨Lc6, hQ6, l6, y6, z6⟩, st6⟩ := X5.virtualBack hx (y := (⟨cS0, "isQuote", "(C)Z"⟩ : MethodName)) (z := (⟨cS0, "isQuote", "(C)Z"⟩ : MethodName)) hown (mvT hZ (own_at hw 4 rfl)) (mvT hZ (own_at hw 5 rfl)) (notFace_of_selects (args := #[]) (mvT hZ (own_at hw 7 rfl))) (mvT hZ (own_at hw 7 rfl)) (mvT hZ (own_at hw 6 rfl)) (by decide) (backOf (W := 0) (rm1_t l Z a0 hw [] w_CSV (34 : Int32) h0 n0 Z0 (by decide : (34 : Int32) = (34 : Int32))) hZ (own_at hw 8 rfl) (own_at hw 2 rfl) (by decide) (by decide)) q6a q6c (g := (mkF m 97 #[iv p0, iv p1, iv p2, iv (p1 &&& (3 : Int32)), iv 34, iv 0, rv w_CSV, iv 1] [(.int 34), (.ref w_CSV)])) rfl (by rw [hml]; rfl) (Steps.refl _) (argsL := [(.int 34)]) (rest := []) (lenOf pd_0 rfl) rfl (by show 2 * 0 + _ ≤ _; exact Nat.le_of_eq rfl) (hb hby at_97) (fun _ _ => ⟨rfl, e5, (by decide : 0 + 0 ≤ _), (by decide : 0 + 0 ≤ _)⟩)
      dsimp only [Pt.U, Pt.locs, Pt.cells, Pt.slots] at X6 l6 y6 z6 st6 hQ6
      subst l6 y6 z6
      obtain ⟨rfl, N6q, e6⟩ := hQ6
      have N6 := Fr.app N0 N6q
      obtain ⟨fs, hr, hrun, hended, hW, hsame⟩ := X6.leave (v := some (.int 1)) (fun h => by rw [Bd.returns] at h; cases h)
      refine ⟨_, _, k4 _ ?_, hrun, hended, _, _, rfl, ?_, ⟨_, rfl⟩, hW, hsame.mono (by decide) (by decide)⟩
      · show OwnS p e below s₁ (mkF m 37 #[iv p0, iv p1, iv p2, iv (p1 &&& (3 : Int32)), iv 34, .unset, .unset, .unset] [(.int (p2 &&& (1 : Int32)))]) _
        refine XS.ifYes X0.here hx rfl (pc0 := 37) (pc' := 44) rfl (hb hby at_37) rfl ((if0 _ _).trans (teq hc37_3).1) (by decide) (by decide) ?_
        show OwnS p e below s₁ (mkF m 44 #[iv p0, iv p1, iv p2, iv (p1 &&& (3 : Int32)), iv 34, .unset, .unset, .unset] []) _
        refine XS.iconst X0.here hx rfl (hb hby at_44) ?_
        show OwnS p e below s₁ (mkF m 45 #[iv p0, iv p1, iv p2, iv (p1 &&& (3 : Int32)), iv 34, .unset, .unset, .unset] [(.int 0)]) _
        refine XS.istore X0.here hx rfl (hb hby at_45) rfl (l' := #[iv p0, iv p1, iv p2, iv (p1 &&& (3 : Int32)), iv 34, iv 0, .unset, .unset]) rfl ?_
        show OwnS p e below s₁ (mkF m 47 #[iv p0, iv p1, iv p2, iv (p1 &&& (3 : Int32)), iv 34, iv 0, .unset, .unset] []) _
        refine XS.iload X0.here hx rfl (hb hby at_47) rfl ?_
        show OwnS p e below s₁ (mkF m 49 #[iv p0, iv p1, iv p2, iv (p1 &&& (3 : Int32)), iv 34, iv 0, .unset, .unset] [(.int 0)]) _
        refine XS.ifYes X0.here hx rfl (pc0 := 49) (pc' := 58) rfl (hb hby at_49) rfl ((if0 _ _).trans (teq (by decide : (0 : Int32) = (0 : Int32))).1) (by decide) (by decide) ?_
        show OwnS p e below s₁ (mkF m 58 #[iv p0, iv p1, iv p2, iv (p1 &&& (3 : Int32)), iv 34, iv 0, .unset, .unset] []) _
        refine st5 _ ?_
        show OwnS p e below T5 (mkF m 61 #[iv p0, iv p1, iv p2, iv (p1 &&& (3 : Int32)), iv 34, iv 0, .unset, .unset] [(.ref w_CSV)]) _
        refine XS.astore X5.here hx rfl (hb hby at_61) rfl rfl (l' := #[iv p0, iv p1, iv p2, iv (p1 &&& (3 : Int32)), iv 34, iv 0, rv w_CSV, .unset]) rfl ?_
        show OwnS p e below T5 (mkF m 63 #[iv p0, iv p1, iv p2, iv (p1 &&& (3 : Int32)), iv 34, iv 0, rv w_CSV, .unset] []) _
        refine XS.iload X5.here hx rfl (hb hby at_63) rfl ?_
        show OwnS p e below T5 (mkF m 65 #[iv p0, iv p1, iv p2, iv (p1 &&& (3 : Int32)), iv 34, iv 0, rv w_CSV, .unset] [(.int 34)]) _
        refine XS.bipush X5.here hx rfl (hb hby at_65) ?_
        show OwnS p e below T5 (mkF m 67 #[iv p0, iv p1, iv p2, iv (p1 &&& (3 : Int32)), iv 34, iv 0, rv w_CSV, .unset] [(.int 34), (.int 34)]) _
        refine XS.icmpNo X5.here hx rfl (hb hby at_67) rfl (teq (by decide : (34 : Int32) = (34 : Int32))).2 ?_
        show OwnS p e below T5 (mkF m 70 #[iv p0, iv p1, iv p2, iv (p1 &&& (3 : Int32)), iv 34, iv 0, rv w_CSV, .unset] []) _
        refine XS.iconst X5.here hx rfl (hb hby at_70) ?_
        show OwnS p e below T5 (mkF m 71 #[iv p0, iv p1, iv p2, iv (p1 &&& (3 : Int32)), iv 34, iv 0, rv w_CSV, .unset] [(.int 1)]) _
        refine XS.istore X5.here hx rfl (hb hby at_71) rfl (l' := #[iv p0, iv p1, iv p2, iv (p1 &&& (3 : Int32)), iv 34, iv 0, rv w_CSV, iv 1]) rfl ?_
        show OwnS p e below T5 (mkF m 73 #[iv p0, iv p1, iv p2, iv (p1 &&& (3 : Int32)), iv 34, iv 0, rv w_CSV, iv 1] []) _
        refine XS.goto X5.here hx rfl (pc0 := 73) (pc' := 93) rfl (hb hby at_73) (by decide) (by decide) ?_
        show OwnS p e below T5 (mkF m 93 #[iv p0, iv p1, iv p2, iv (p1 &&& (3 : Int32)), iv 34, iv 0, rv w_CSV, iv 1] []) _
        refine XS.aload X5.here hx rfl (hb hby at_93) rfl rfl ?_
        show OwnS p e below T5 (mkF m 95 #[iv p0, iv p1, iv p2, iv (p1 &&& (3 : Int32)), iv 34, iv 0, rv w_CSV, iv 1] [(.ref w_CSV)]) _
        refine XS.iload X5.here hx rfl (hb hby at_95) rfl ?_
        show OwnS p e below T5 (mkF m 97 #[iv p0, iv p1, iv p2, iv (p1 &&& (3 : Int32)), iv 34, iv 0, rv w_CSV, iv 1] [(.int 34), (.ref w_CSV)]) _
        refine st6.trans ?_
        show OwnS p e below T6 (mkF m 100 #[iv p0, iv p1, iv p2, iv (p1 &&& (3 : Int32)), iv 34, iv 0, rv w_CSV, iv 1] [(.int 1)]) _
        refine XS.iload X6.here hx rfl (hb hby at_100) rfl ?_
        show OwnS p e below T6 (mkF m 102 #[iv p0, iv p1, iv p2, iv (p1 &&& (3 : Int32)), iv 34, iv 0, rv w_CSV, iv 1] [(.int 1), (.int 1)]) _
        refine XS.icmpNo X6.here hx rfl (hb hby at_102) rfl (teq (by decide : (1 : Int32) = (1 : Int32))).2 ?_
        show OwnS p e below T6 (mkF m 105 #[iv p0, iv p1, iv p2, iv (p1 &&& (3 : Int32)), iv 34, iv 0, rv w_CSV, iv 1] []) _
        refine XS.iconst X6.here hx rfl (hb hby at_105) ?_
        show OwnS p e below T6 (mkF m 106 #[iv p0, iv p1, iv p2, iv (p1 &&& (3 : Int32)), iv 34, iv 0, rv w_CSV, iv 1] [(.int 1)]) _
        refine XS.goto X6.here hx rfl (pc0 := 106) (pc' := 110) rfl (hb hby at_106) (by decide) (by decide) ?_
        show OwnS p e below T6 (mkF m 110 #[iv p0, iv p1, iv p2, iv (p1 &&& (3 : Int32)), iv 34, iv 0, rv w_CSV, iv 1] [(.int 1)]) _
        exact retN X6 hx (t := .boolean) Bd.returns (by simp) (hb hby at_110) hr
      · show Q_0 Z p0 p1 p2 w_ARFF w_CSV h0 n0 _ T6.heap _
        rw [e6]
        exact ⟨rfl, N6, trivial⟩
    · obtain ⟨T7, X7, e7, st7⟩ := getS2 X0 hx hZ hown (host := "") (Or.inl (own_at hw 11 rfl)) Via.refl e0 S_ARFF (g := (mkF m 52 #[iv p0, iv p1, iv p2, iv (p1 &&& (3 : Int32)), iv 34, iv 1, .unset, .unset] [])) rfl (hb hby at_52)
      obtain ⟨cq8, kq8, q8a, q8b, q8c⟩ := isOf hZ e7 E_w_ARFF
      obtain ⟨_, _, ⟨T8, L8, j8, i8⟩, -, X8, ⟨Lc8, hQ8, l8, y8, z8⟩, st8⟩ := X7.virtualBack hx (y := (⟨cS0, "isQuote", "(C)Z"⟩ : MethodName)) (z := (⟨cS0, "isQuote", "(C)Z"⟩ : MethodName)) hown (mvT hZ (own_at hw 4 rfl)) (mvT hZ (own_at hw 5 rfl)) (notFace_of_selects (args := #[]) (mvT hZ (own_at hw 7 rfl))) (mvT hZ (own_at hw 7 rfl)) (mvT hZ (own_at hw 6 rfl)) (by decide) (backOf (W := 0) (rm1_t l Z a0 hw [] w_ARFF (34 : Int32) h0 n0 Z0 (by decide : (34 : Int32) = (34 : Int32))) hZ (own_at hw 8 rfl) (own_at hw 2 rfl) (by decide) (by decide)) q8a q8c (g := (mkF m 97 #[iv p0, iv p1, iv p2, iv (p1 &&& (3 : Int32)), iv 34, iv 1, rv w_ARFF, iv 1] [(.int 34), (.ref w_ARFF)])) rfl (by rw [hml]; rfl) (Steps.refl _) (argsL := [(.int 34)]) (rest := []) (lenOf pd_0 rfl) rfl (by show 2 * 0 + _ ≤ _; exact Nat.le_of_eq rfl) (hb hby at_97) (fun _ _ => ⟨rfl, e7, (by decide : 0 + 0 ≤ _), (by decide : 0 + 0 ≤ _)⟩)
      dsimp only [Pt.U, Pt.locs, Pt.cells, Pt.slots] at X8 l8 y8 z8 st8 hQ8
      subst l8 y8 z8
      obtain ⟨rfl, N8q, e8⟩ := hQ8
      have N8 := Fr.app N0 N8q
      obtain ⟨fs, hr, hrun, hended, hW, hsame⟩ := X8.leave (v := some (.int 1)) (fun h => by rw [Bd.returns] at h; cases h)
      refine ⟨_, _, k4 _ ?_, hrun, hended, _, _, rfl, ?_, ⟨_, rfl⟩, hW, hsame.mono (by decide) (by decide)⟩
      · show OwnS p e below s₁ (mkF m 37 #[iv p0, iv p1, iv p2, iv (p1 &&& (3 : Int32)), iv 34, .unset, .unset, .unset] [(.int (p2 &&& (1 : Int32)))]) _
        refine XS.ifNo X0.here hx rfl (hb hby at_37) rfl ((if0 _ _).trans (feq hc37_3).1) ?_
        show OwnS p e below s₁ (mkF m 40 #[iv p0, iv p1, iv p2, iv (p1 &&& (3 : Int32)), iv 34, .unset, .unset, .unset] []) _
        refine XS.iconst X0.here hx rfl (hb hby at_40) ?_
        show OwnS p e below s₁ (mkF m 41 #[iv p0, iv p1, iv p2, iv (p1 &&& (3 : Int32)), iv 34, .unset, .unset, .unset] [(.int 1)]) _
        refine XS.goto X0.here hx rfl (pc0 := 41) (pc' := 45) rfl (hb hby at_41) (by decide) (by decide) ?_
        show OwnS p e below s₁ (mkF m 45 #[iv p0, iv p1, iv p2, iv (p1 &&& (3 : Int32)), iv 34, .unset, .unset, .unset] [(.int 1)]) _
        refine XS.istore X0.here hx rfl (hb hby at_45) rfl (l' := #[iv p0, iv p1, iv p2, iv (p1 &&& (3 : Int32)), iv 34, iv 1, .unset, .unset]) rfl ?_
        show OwnS p e below s₁ (mkF m 47 #[iv p0, iv p1, iv p2, iv (p1 &&& (3 : Int32)), iv 34, iv 1, .unset, .unset] []) _
        refine XS.iload X0.here hx rfl (hb hby at_47) rfl ?_
        show OwnS p e below s₁ (mkF m 49 #[iv p0, iv p1, iv p2, iv (p1 &&& (3 : Int32)), iv 34, iv 1, .unset, .unset] [(.int 1)]) _
        refine XS.ifNo X0.here hx rfl (hb hby at_49) rfl ((if0 _ _).trans (feq (by decide : ¬ ((1 : Int32) = (0 : Int32)))).1) ?_
        show OwnS p e below s₁ (mkF m 52 #[iv p0, iv p1, iv p2, iv (p1 &&& (3 : Int32)), iv 34, iv 1, .unset, .unset] []) _
        refine st7 _ ?_
        show OwnS p e below T7 (mkF m 55 #[iv p0, iv p1, iv p2, iv (p1 &&& (3 : Int32)), iv 34, iv 1, .unset, .unset] [(.ref w_ARFF)]) _
        refine XS.goto X7.here hx rfl (pc0 := 55) (pc' := 61) rfl (hb hby at_55) (by decide) (by decide) ?_
        show OwnS p e below T7 (mkF m 61 #[iv p0, iv p1, iv p2, iv (p1 &&& (3 : Int32)), iv 34, iv 1, .unset, .unset] [(.ref w_ARFF)]) _
        refine XS.astore X7.here hx rfl (hb hby at_61) rfl rfl (l' := #[iv p0, iv p1, iv p2, iv (p1 &&& (3 : Int32)), iv 34, iv 1, rv w_ARFF, .unset]) rfl ?_
        show OwnS p e below T7 (mkF m 63 #[iv p0, iv p1, iv p2, iv (p1 &&& (3 : Int32)), iv 34, iv 1, rv w_ARFF, .unset] []) _
        refine XS.iload X7.here hx rfl (hb hby at_63) rfl ?_
        show OwnS p e below T7 (mkF m 65 #[iv p0, iv p1, iv p2, iv (p1 &&& (3 : Int32)), iv 34, iv 1, rv w_ARFF, .unset] [(.int 34)]) _
        refine XS.bipush X7.here hx rfl (hb hby at_65) ?_
        show OwnS p e below T7 (mkF m 67 #[iv p0, iv p1, iv p2, iv (p1 &&& (3 : Int32)), iv 34, iv 1, rv w_ARFF, .unset] [(.int 34), (.int 34)]) _
        refine XS.icmpNo X7.here hx rfl (hb hby at_67) rfl (teq (by decide : (34 : Int32) = (34 : Int32))).2 ?_
        show OwnS p e below T7 (mkF m 70 #[iv p0, iv p1, iv p2, iv (p1 &&& (3 : Int32)), iv 34, iv 1, rv w_ARFF, .unset] []) _
        refine XS.iconst X7.here hx rfl (hb hby at_70) ?_
        show OwnS p e below T7 (mkF m 71 #[iv p0, iv p1, iv p2, iv (p1 &&& (3 : Int32)), iv 34, iv 1, rv w_ARFF, .unset] [(.int 1)]) _
        refine XS.istore X7.here hx rfl (hb hby at_71) rfl (l' := #[iv p0, iv p1, iv p2, iv (p1 &&& (3 : Int32)), iv 34, iv 1, rv w_ARFF, iv 1]) rfl ?_
        show OwnS p e below T7 (mkF m 73 #[iv p0, iv p1, iv p2, iv (p1 &&& (3 : Int32)), iv 34, iv 1, rv w_ARFF, iv 1] []) _
        refine XS.goto X7.here hx rfl (pc0 := 73) (pc' := 93) rfl (hb hby at_73) (by decide) (by decide) ?_
        show OwnS p e below T7 (mkF m 93 #[iv p0, iv p1, iv p2, iv (p1 &&& (3 : Int32)), iv 34, iv 1, rv w_ARFF, iv 1] []) _
        refine XS.aload X7.here hx rfl (hb hby at_93) rfl rfl ?_
        show OwnS p e below T7 (mkF m 95 #[iv p0, iv p1, iv p2, iv (p1 &&& (3 : Int32)), iv 34, iv 1, rv w_ARFF, iv 1] [(.ref w_ARFF)]) _
        refine XS.iload X7.here hx rfl (hb hby at_95) rfl ?_
        show OwnS p e below T7 (mkF m 97 #[iv p0, iv p1, iv p2, iv (p1 &&& (3 : Int32)), iv 34, iv 1, rv w_ARFF, iv 1] [(.int 34), (.ref w_ARFF)]) _
        refine st8.trans ?_
        show OwnS p e below T8 (mkF m 100 #[iv p0, iv p1, iv p2, iv (p1 &&& (3 : Int32)), iv 34, iv 1, rv w_ARFF, iv 1] [(.int 1)]) _
        refine XS.iload X8.here hx rfl (hb hby at_100) rfl ?_
        show OwnS p e below T8 (mkF m 102 #[iv p0, iv p1, iv p2, iv (p1 &&& (3 : Int32)), iv 34, iv 1, rv w_ARFF, iv 1] [(.int 1), (.int 1)]) _
        refine XS.icmpNo X8.here hx rfl (hb hby at_102) rfl (teq (by decide : (1 : Int32) = (1 : Int32))).2 ?_
        show OwnS p e below T8 (mkF m 105 #[iv p0, iv p1, iv p2, iv (p1 &&& (3 : Int32)), iv 34, iv 1, rv w_ARFF, iv 1] []) _
        refine XS.iconst X8.here hx rfl (hb hby at_105) ?_
        show OwnS p e below T8 (mkF m 106 #[iv p0, iv p1, iv p2, iv (p1 &&& (3 : Int32)), iv 34, iv 1, rv w_ARFF, iv 1] [(.int 1)]) _
        refine XS.goto X8.here hx rfl (pc0 := 106) (pc' := 110) rfl (hb hby at_106) (by decide) (by decide) ?_
        show OwnS p e below T8 (mkF m 110 #[iv p0, iv p1, iv p2, iv (p1 &&& (3 : Int32)), iv 34, iv 1, rv w_ARFF, iv 1] [(.int 1)]) _
        exact retN X8 hx (t := .boolean) Bd.returns (by simp) (hb hby at_110) hr
      · show Q_0 Z p0 p1 p2 w_ARFF w_CSV h0 n0 _ T8.heap _
        rw [e8]
        exact ⟨rfl, N8, trivial⟩
  · have k10 : ∀ t, OwnS p e below s₁ (mkF m 17 #[iv p0, iv p1, iv p2, iv (p1 &&& (3 : Int32)), .unset, .unset, .unset, .unset] [(.int 1), (.int (p1 &&& (3 : Int32)))]) t → OwnS p e below s₁ (entryFrame m #[(.int p0), (.int p1), (.int p2)] maxLocals) t := fun t q => by
      refine k2 t ?_
      show OwnS p e below s₁ (mkF m 5 #[iv p0, iv p1, iv p2, iv (p1 &&& (3 : Int32)), .unset, .unset, .unset, .unset] [(.int (p1 &&& (3 : Int32)))]) _
      refine XS.ifYes X0.here hx rfl (pc0 := 5) (pc' := 15) rfl (hb hby at_5) rfl ((if0 _ _).trans (feq hc5_1).2) (by decide) (by decide) ?_
      show OwnS p e below s₁ (mkF m 15 #[iv p0, iv p1, iv p2, iv (p1 &&& (3 : Int32)), .unset, .unset, .unset, .unset] []) _
      refine XS.iloadN X0.here hx rfl (hb hby at_15) rfl ?_
      show OwnS p e below s₁ (mkF m 16 #[iv p0, iv p1, iv p2, iv (p1 &&& (3 : Int32)), .unset, .unset, .unset, .unset] [(.int (p1 &&& (3 : Int32)))]) _
      refine XS.iconst X0.here hx rfl (hb hby at_16) ?_
      exact q
    by_cases hc17_9 : (p1 &&& (3 : Int32)) = (1 : Int32)
    · have k12 : ∀ t, OwnS p e below s₁ (mkF m 37 #[iv p0, iv p1, iv p2, iv (p1 &&& (3 : Int32)), iv 39, .unset, .unset, .unset] [(.int (p2 &&& (1 : Int32)))]) t → OwnS p e below s₁ (entryFrame m #[(.int p0), (.int p1), (.int p2)] maxLocals) t := fun t q => by
        refine k10 t ?_
        show OwnS p e below s₁ (mkF m 17 #[iv p0, iv p1, iv p2, iv (p1 &&& (3 : Int32)), .unset, .unset, .unset, .unset] [(.int 1), (.int (p1 &&& (3 : Int32)))]) _
        refine XS.icmpNo X0.here hx rfl (hb hby at_17) rfl (teq hc17_9).2 ?_
        show OwnS p e below s₁ (mkF m 20 #[iv p0, iv p1, iv p2, iv (p1 &&& (3 : Int32)), .unset, .unset, .unset, .unset] []) _
        refine XS.bipush X0.here hx rfl (hb hby at_20) ?_
        show OwnS p e below s₁ (mkF m 22 #[iv p0, iv p1, iv p2, iv (p1 &&& (3 : Int32)), .unset, .unset, .unset, .unset] [(.int 39)]) _
        refine XS.istore X0.here hx rfl (hb hby at_22) rfl (l' := #[iv p0, iv p1, iv p2, iv (p1 &&& (3 : Int32)), iv 39, .unset, .unset, .unset]) rfl ?_
        show OwnS p e below s₁ (mkF m 24 #[iv p0, iv p1, iv p2, iv (p1 &&& (3 : Int32)), iv 39, .unset, .unset, .unset] []) _
        refine XS.goto X0.here hx rfl (pc0 := 24) (pc' := 34) rfl (hb hby at_24) (by decide) (by decide) ?_
        show OwnS p e below s₁ (mkF m 34 #[iv p0, iv p1, iv p2, iv (p1 &&& (3 : Int32)), iv 39, .unset, .unset, .unset] []) _
        refine XS.iloadN X0.here hx rfl (hb hby at_34) rfl ?_
        show OwnS p e below s₁ (mkF m 35 #[iv p0, iv p1, iv p2, iv (p1 &&& (3 : Int32)), iv 39, .unset, .unset, .unset] [(.int p2)]) _
        refine XS.iconst X0.here hx rfl (hb hby at_35) ?_
        show OwnS p e below s₁ (mkF m 36 #[iv p0, iv p1, iv p2, iv (p1 &&& (3 : Int32)), iv 39, .unset, .unset, .unset] [(.int 1), (.int p2)]) _
        refine XS.iand X0.here hx rfl (hb hby at_36) rfl ?_
        exact q
      by_cases hc37_11 : (p2 &&& (1 : Int32)) = (0 : Int32)
      · obtain ⟨T13, X13, e13, st13⟩ := getS2 X0 hx hZ hown (host := "") (Or.inl (own_at hw 1 rfl)) Via.refl e0 S_CSV (g := (mkF m 58 #[iv p0, iv p1, iv p2, iv (p1 &&& (3 : Int32)), iv 39, iv 0, .unset, .unset] [])) rfl (hb hby at_58)
        obtain ⟨cq14, kq14, q14a, q14b, q14c⟩ := isOf hZ e13 E_w_CSV
        obtain ⟨_, _, ⟨T14, L14, j14, i14⟩, -, X14, ⟨Lc14, hQ14, l14, y14, z14⟩, st14⟩ := X13.virtualBack hx (y := (⟨cS0, "isQuote", "(C)Z"⟩ : MethodName)) (z := (⟨cS0, "isQuote", "(C)Z"⟩ : MethodName)) hown (mvT hZ (own_at hw 4 rfl)) (mvT hZ (own_at hw 5 rfl)) (notFace_of_selects (args := #[]) (mvT hZ (own_at hw 7 rfl))) (mvT hZ (own_at hw 7 rfl)) (mvT hZ (own_at hw 6 rfl)) (by decide) (backOf (W := 0) (rm1_ft l Z a0 hw [] w_CSV (39 : Int32) w_ARFF h0 n0 Z0 (by decide : ¬ ((39 : Int32) = (34 : Int32))) S_ARFF ne) hZ (own_at hw 8 rfl) (own_at hw 2 rfl) (by decide) (by decide)) q14a q14c (g := (mkF m 97 #[iv p0, iv p1, iv p2, iv (p1 &&& (3 : Int32)), iv 39, iv 0, rv w_CSV, iv 0] [(.int 39), (.ref w_CSV)])) rfl (by rw [hml]; rfl) (Steps.refl _) (argsL := [(.int 39)]) (rest := []) (lenOf pd_0 rfl) rfl (by show 2 * 0 + _ ≤ _; exact Nat.le_of_eq rfl) (hb hby at_97) (fun _ _ => ⟨rfl, e13, (by decide : 0 + 0 ≤ _), (by decide : 0 + 0 ≤ _)⟩)
        dsimp only [Pt.U, Pt.locs, Pt.cells, Pt.slots] at X14 l14 y14 z14 st14 hQ14
        subst l14 y14 z14
        obtain ⟨rfl, N14q, e14⟩ := hQ14
        have N14 := Fr.app N0 N14q
        obtain ⟨fs, hr, hrun, hended, hW, hsame⟩ := X14.leave (v := some (.int 1)) (fun h => by rw [Bd.returns] at h; cases h)
        refine ⟨_, _, k12 _ ?_, hrun, hended, _, _, rfl, ?_, ⟨_, rfl⟩, hW, hsame.mono (by decide) (by decide)⟩
        · show OwnS p e below s₁ (mkF m 37 #[iv p0, iv p1, iv p2, iv (p1 &&& (3 : Int32)), iv 39, .unset, .unset, .unset] [(.int (p2 &&& (1 : Int32)))]) _
          refine XS.ifYes X0.here hx rfl (pc0 := 37) (pc' := 44) rfl (hb hby at_37) rfl ((if0 _ _).trans (teq hc37_11).1) (by decide) (by decide) ?_
          show OwnS p e below s₁ (mkF m 44 #[iv p0, iv p1, iv p2, iv (p1 &&& (3 : Int32)), iv 39, .unset, .unset, .unset] []) _
          refine XS.iconst X0.here hx rfl (hb hby at_44) ?_
          show OwnS p e below s₁ (mkF m 45 #[iv p0, iv p1, iv p2, iv (p1 &&& (3 : Int32)), iv 39, .unset, .unset, .unset] [(.int 0)]) _
          refine XS.istore X0.here hx rfl (hb hby at_45) rfl (l' := #[iv p0, iv p1, iv p2, iv (p1 &&& (3 : Int32)), iv 39, iv 0, .unset, .unset]) rfl ?_
          show OwnS p e below s₁ (mkF m 47 #[iv p0, iv p1, iv p2, iv (p1 &&& (3 : Int32)), iv 39, iv 0, .unset, .unset] []) _
          refine XS.iload X0.here hx rfl (hb hby at_47) rfl ?_
          show OwnS p e below s₁ (mkF m 49 #[iv p0, iv p1, iv p2, iv (p1 &&& (3 : Int32)), iv 39, iv 0, .unset, .unset] [(.int 0)]) _
          refine XS.ifYes X0.here hx rfl (pc0 := 49) (pc' := 58) rfl (hb hby at_49) rfl ((if0 _ _).trans (teq (by decide : (0 : Int32) = (0 : Int32))).1) (by decide) (by decide) ?_
          show OwnS p e below s₁ (mkF m 58 #[iv p0, iv p1, iv p2, iv (p1 &&& (3 : Int32)), iv 39, iv 0, .unset, .unset] []) _
          refine st13 _ ?_
          show OwnS p e below T13 (mkF m 61 #[iv p0, iv p1, iv p2, iv (p1 &&& (3 : Int32)), iv 39, iv 0, .unset, .unset] [(.ref w_CSV)]) _
          refine XS.astore X13.here hx rfl (hb hby at_61) rfl rfl (l' := #[iv p0, iv p1, iv p2, iv (p1 &&& (3 : Int32)), iv 39, iv 0, rv w_CSV, .unset]) rfl ?_
          show OwnS p e below T13 (mkF m 63 #[iv p0, iv p1, iv p2, iv (p1 &&& (3 : Int32)), iv 39, iv 0, rv w_CSV, .unset] []) _
          refine XS.iload X13.here hx rfl (hb hby at_63) rfl ?_
          show OwnS p e below T13 (mkF m 65 #[iv p0, iv p1, iv p2, iv (p1 &&& (3 : Int32)), iv 39, iv 0, rv w_CSV, .unset] [(.int 39)]) _
          refine XS.bipush X13.here hx rfl (hb hby at_65) ?_
          show OwnS p e below T13 (mkF m 67 #[iv p0, iv p1, iv p2, iv (p1 &&& (3 : Int32)), iv 39, iv 0, rv w_CSV, .unset] [(.int 34), (.int 39)]) _
          refine XS.icmpYes X13.here hx rfl (pc0 := 67) (pc' := 76) rfl (hb hby at_67) rfl (feq (by decide : ¬ ((39 : Int32) = (34 : Int32)))).2 (by decide) (by decide) ?_
          show OwnS p e below T13 (mkF m 76 #[iv p0, iv p1, iv p2, iv (p1 &&& (3 : Int32)), iv 39, iv 0, rv w_CSV, .unset] []) _
          refine XS.iload X13.here hx rfl (hb hby at_76) rfl ?_
          show OwnS p e below T13 (mkF m 78 #[iv p0, iv p1, iv p2, iv (p1 &&& (3 : Int32)), iv 39, iv 0, rv w_CSV, .unset] [(.int 39)]) _
          refine XS.bipush X13.here hx rfl (hb hby at_78) ?_
          show OwnS p e below T13 (mkF m 80 #[iv p0, iv p1, iv p2, iv (p1 &&& (3 : Int32)), iv 39, iv 0, rv w_CSV, .unset] [(.int 39), (.int 39)]) _
          refine XS.icmpNo X13.here hx rfl (hb hby at_80) rfl (teq (by decide : (39 : Int32) = (39 : Int32))).2 ?_
          show OwnS p e below T13 (mkF m 83 #[iv p0, iv p1, iv p2, iv (p1 &&& (3 : Int32)), iv 39, iv 0, rv w_CSV, .unset] []) _
          refine XS.iload X13.here hx rfl (hb hby at_83) rfl ?_
          show OwnS p e below T13 (mkF m 85 #[iv p0, iv p1, iv p2, iv (p1 &&& (3 : Int32)), iv 39, iv 0, rv w_CSV, .unset] [(.int 0)]) _
          refine XS.istore X13.here hx rfl (hb hby at_85) rfl (l' := #[iv p0, iv p1, iv p2, iv (p1 &&& (3 : Int32)), iv 39, iv 0, rv w_CSV, iv 0]) rfl ?_
          show OwnS p e below T13 (mkF m 87 #[iv p0, iv p1, iv p2, iv (p1 &&& (3 : Int32)), iv 39, iv 0, rv w_CSV, iv 0] []) _
          refine XS.goto X13.here hx rfl (pc0 := 87) (pc' := 93) rfl (hb hby at_87) (by decide) (by decide) ?_
          show OwnS p e below T13 (mkF m 93 #[iv p0, iv p1, iv p2, iv (p1 &&& (3 : Int32)), iv 39, iv 0, rv w_CSV, iv 0] []) _
          refine XS.aload X13.here hx rfl (hb hby at_93) rfl rfl ?_
          show OwnS p e below T13 (mkF m 95 #[iv p0, iv p1, iv p2, iv (p1 &&& (3 : Int32)), iv 39, iv 0, rv w_CSV, iv 0] [(.ref w_CSV)]) _
          refine XS.iload X13.here hx rfl (hb hby at_95) rfl ?_
          show OwnS p e below T13 (mkF m 97 #[iv p0, iv p1, iv p2, iv (p1 &&& (3 : Int32)), iv 39, iv 0, rv w_CSV, iv 0] [(.int 39), (.ref w_CSV)]) _
          refine st14.trans ?_
          show OwnS p e below T14 (mkF m 100 #[iv p0, iv p1, iv p2, iv (p1 &&& (3 : Int32)), iv 39, iv 0, rv w_CSV, iv 0] [(.int 0)]) _
          refine XS.iload X14.here hx rfl (hb hby at_100) rfl ?_
          show OwnS p e below T14 (mkF m 102 #[iv p0, iv p1, iv p2, iv (p1 &&& (3 : Int32)), iv 39, iv 0, rv w_CSV, iv 0] [(.int 0), (.int 0)]) _
          refine XS.icmpNo X14.here hx rfl (hb hby at_102) rfl (teq (by decide : (0 : Int32) = (0 : Int32))).2 ?_
          show OwnS p e below T14 (mkF m 105 #[iv p0, iv p1, iv p2, iv (p1 &&& (3 : Int32)), iv 39, iv 0, rv w_CSV, iv 0] []) _
          refine XS.iconst X14.here hx rfl (hb hby at_105) ?_
          show OwnS p e below T14 (mkF m 106 #[iv p0, iv p1, iv p2, iv (p1 &&& (3 : Int32)), iv 39, iv 0, rv w_CSV, iv 0] [(.int 1)]) _
          refine XS.goto X14.here hx rfl (pc0 := 106) (pc' := 110) rfl (hb hby at_106) (by decide) (by decide) ?_
          show OwnS p e below T14 (mkF m 110 #[iv p0, iv p1, iv p2, iv (p1 &&& (3 : Int32)), iv 39, iv 0, rv w_CSV, iv 0] [(.int 1)]) _
          exact retN X14 hx (t := .boolean) Bd.returns (by simp) (hb hby at_110) hr
        · show Q_0 Z p0 p1 p2 w_ARFF w_CSV h0 n0 _ T14.heap _
          rw [e14]
          exact ⟨rfl, N14, trivial⟩
      · obtain ⟨T15, X15, e15, st15⟩ := getS2 X0 hx hZ hown (host := "") (Or.inl (own_at hw 11 rfl)) Via.refl e0 S_ARFF (g := (mkF m 52 #[iv p0, iv p1, iv p2, iv (p1 &&& (3 : Int32)), iv 39, iv 1, .unset, .unset] [])) rfl (hb hby at_52)
        obtain ⟨cq16, kq16, q16a, q16b, q16c⟩ := isOf hZ e15 E_w_ARFF
        obtain ⟨_, _, ⟨T16, L16, j16, i16⟩, -, X16, ⟨Lc16, hQ16, l16, y16, z16⟩, st16⟩ := X15.virtualBack hx (y := (⟨cS0, "isQuote", "(C)Z"⟩ : MethodName)) (z := (⟨cS0, "isQuote", "(C)Z"⟩ : MethodName)) hown (mvT hZ (own_at hw 4 rfl)) (mvT hZ (own_at hw 5 rfl)) (notFace_of_selects (args := #[]) (mvT hZ (own_at hw 7 rfl))) (mvT hZ (own_at hw 7 rfl)) (mvT hZ (own_at hw 6 rfl)) (by decide) (backOf (W := 0) (rm1_aff l Z a0 hw [] w_ARFF (39 : Int32) h0 n0 Z0 S_ARFF (by decide : ¬ ((39 : Int32) = (34 : Int32))) (by decide : (39 : Int32) = (39 : Int32))) hZ (own_at hw 8 rfl) (own_at hw 2 rfl) (by decide) (by decide)) q16a q16c (g := (mkF m 97 #[iv p0, iv p1, iv p2, iv (p1 &&& (3 : Int32)), iv 39, iv 1, rv w_ARFF, iv 1] [(.int 39), (.ref w_ARFF)])) rfl (by rw [hml]; rfl) (Steps.refl _) (argsL := [(.int 39)]) (rest := []) (lenOf pd_0 rfl) rfl (by show 2 * 0 + _ ≤ _; exact Nat.le_of_eq rfl) (hb hby at_97) (fun _ _ => ⟨rfl, e15, (by decide : 0 + 0 ≤ _), (by decide : 0 + 0 ≤ _)⟩)
        dsimp only [Pt.U, Pt.locs, Pt.cells, Pt.slots] at X16 l16 y16 z16 st16 hQ16
        subst l16 y16 z16
        obtain ⟨rfl, N16q, e16⟩ := hQ16
        have N16 := Fr.app N0 N16q
        obtain ⟨fs, hr, hrun, hended, hW, hsame⟩ := X16.leave (v := some (.int 1)) (fun h => by rw [Bd.returns] at h; cases h)
        refine ⟨_, _, k12 _ ?_, hrun, hended, _, _, rfl, ?_, ⟨_, rfl⟩, hW, hsame.mono (by decide) (by decide)⟩
        · show OwnS p e below s₁ (mkF m 37 #[iv p0, iv p1, iv p2, iv (p1 &&& (3 : Int32)), iv 39, .unset, .unset, .unset] [(.int (p2 &&& (1 : Int32)))]) _
          refine XS.ifNo X0.here hx rfl (hb hby at_37) rfl ((if0 _ _).trans (feq hc37_11).1) ?_
          show OwnS p e below s₁ (mkF m 40 #[iv p0, iv p1, iv p2, iv (p1 &&& (3 : Int32)), iv 39, .unset, .unset, .unset] []) _
          refine XS.iconst X0.here hx rfl (hb hby at_40) ?_
          show OwnS p e below s₁ (mkF m 41 #[iv p0, iv p1, iv p2, iv (p1 &&& (3 : Int32)), iv 39, .unset, .unset, .unset] [(.int 1)]) _
          refine XS.goto X0.here hx rfl (pc0 := 41) (pc' := 45) rfl (hb hby at_41) (by decide) (by decide) ?_
          show OwnS p e below s₁ (mkF m 45 #[iv p0, iv p1, iv p2, iv (p1 &&& (3 : Int32)), iv 39, .unset, .unset, .unset] [(.int 1)]) _
          refine XS.istore X0.here hx rfl (hb hby at_45) rfl (l' := #[iv p0, iv p1, iv p2, iv (p1 &&& (3 : Int32)), iv 39, iv 1, .unset, .unset]) rfl ?_
          show OwnS p e below s₁ (mkF m 47 #[iv p0, iv p1, iv p2, iv (p1 &&& (3 : Int32)), iv 39, iv 1, .unset, .unset] []) _
          refine XS.iload X0.here hx rfl (hb hby at_47) rfl ?_
          show OwnS p e below s₁ (mkF m 49 #[iv p0, iv p1, iv p2, iv (p1 &&& (3 : Int32)), iv 39, iv 1, .unset, .unset] [(.int 1)]) _
          refine XS.ifNo X0.here hx rfl (hb hby at_49) rfl ((if0 _ _).trans (feq (by decide : ¬ ((1 : Int32) = (0 : Int32)))).1) ?_
          show OwnS p e below s₁ (mkF m 52 #[iv p0, iv p1, iv p2, iv (p1 &&& (3 : Int32)), iv 39, iv 1, .unset, .unset] []) _
          refine st15 _ ?_
          show OwnS p e below T15 (mkF m 55 #[iv p0, iv p1, iv p2, iv (p1 &&& (3 : Int32)), iv 39, iv 1, .unset, .unset] [(.ref w_ARFF)]) _
          refine XS.goto X15.here hx rfl (pc0 := 55) (pc' := 61) rfl (hb hby at_55) (by decide) (by decide) ?_
          show OwnS p e below T15 (mkF m 61 #[iv p0, iv p1, iv p2, iv (p1 &&& (3 : Int32)), iv 39, iv 1, .unset, .unset] [(.ref w_ARFF)]) _
          refine XS.astore X15.here hx rfl (hb hby at_61) rfl rfl (l' := #[iv p0, iv p1, iv p2, iv (p1 &&& (3 : Int32)), iv 39, iv 1, rv w_ARFF, .unset]) rfl ?_
          show OwnS p e below T15 (mkF m 63 #[iv p0, iv p1, iv p2, iv (p1 &&& (3 : Int32)), iv 39, iv 1, rv w_ARFF, .unset] []) _
          refine XS.iload X15.here hx rfl (hb hby at_63) rfl ?_
          show OwnS p e below T15 (mkF m 65 #[iv p0, iv p1, iv p2, iv (p1 &&& (3 : Int32)), iv 39, iv 1, rv w_ARFF, .unset] [(.int 39)]) _
          refine XS.bipush X15.here hx rfl (hb hby at_65) ?_
          show OwnS p e below T15 (mkF m 67 #[iv p0, iv p1, iv p2, iv (p1 &&& (3 : Int32)), iv 39, iv 1, rv w_ARFF, .unset] [(.int 34), (.int 39)]) _
          refine XS.icmpYes X15.here hx rfl (pc0 := 67) (pc' := 76) rfl (hb hby at_67) rfl (feq (by decide : ¬ ((39 : Int32) = (34 : Int32)))).2 (by decide) (by decide) ?_
          show OwnS p e below T15 (mkF m 76 #[iv p0, iv p1, iv p2, iv (p1 &&& (3 : Int32)), iv 39, iv 1, rv w_ARFF, .unset] []) _
          refine XS.iload X15.here hx rfl (hb hby at_76) rfl ?_
          show OwnS p e below T15 (mkF m 78 #[iv p0, iv p1, iv p2, iv (p1 &&& (3 : Int32)), iv 39, iv 1, rv w_ARFF, .unset] [(.int 39)]) _
          refine XS.bipush X15.here hx rfl (hb hby at_78) ?_
          show OwnS p e below T15 (mkF m 80 #[iv p0, iv p1, iv p2, iv (p1 &&& (3 : Int32)), iv 39, iv 1, rv w_ARFF, .unset] [(.int 39), (.int 39)]) _
          refine XS.icmpNo X15.here hx rfl (hb hby at_80) rfl (teq (by decide : (39 : Int32) = (39 : Int32))).2 ?_
          show OwnS p e below T15 (mkF m 83 #[iv p0, iv p1, iv p2, iv (p1 &&& (3 : Int32)), iv 39, iv 1, rv w_ARFF, .unset] []) _
          refine XS.iload X15.here hx rfl (hb hby at_83) rfl ?_
          show OwnS p e below T15 (mkF m 85 #[iv p0, iv p1, iv p2, iv (p1 &&& (3 : Int32)), iv 39, iv 1, rv w_ARFF, .unset] [(.int 1)]) _
          refine XS.istore X15.here hx rfl (hb hby at_85) rfl (l' := #[iv p0, iv p1, iv p2, iv (p1 &&& (3 : Int32)), iv 39, iv 1, rv w_ARFF, iv 1]) rfl ?_
          show OwnS p e below T15 (mkF m 87 #[iv p0, iv p1, iv p2, iv (p1 &&& (3 : Int32)), iv 39, iv 1, rv w_ARFF, iv 1] []) _
          refine XS.goto X15.here hx rfl (pc0 := 87) (pc' := 93) rfl (hb hby at_87) (by decide) (by decide) ?_
          show OwnS p e below T15 (mkF m 93 #[iv p0, iv p1, iv p2, iv (p1 &&& (3 : Int32)), iv 39, iv 1, rv w_ARFF, iv 1] []) _
          refine XS.aload X15.here hx rfl (hb hby at_93) rfl rfl ?_
          show OwnS p e below T15 (mkF m 95 #[iv p0, iv p1, iv p2, iv (p1 &&& (3 : Int32)), iv 39, iv 1, rv w_ARFF, iv 1] [(.ref w_ARFF)]) _
          refine XS.iload X15.here hx rfl (hb hby at_95) rfl ?_
          show OwnS p e below T15 (mkF m 97 #[iv p0, iv p1, iv p2, iv (p1 &&& (3 : Int32)), iv 39, iv 1, rv w_ARFF, iv 1] [(.int 39), (.ref w_ARFF)]) _
          refine st16.trans ?_
          show OwnS p e below T16 (mkF m 100 #[iv p0, iv p1, iv p2, iv (p1 &&& (3 : Int32)), iv 39, iv 1, rv w_ARFF, iv 1] [(.int 1)]) _
          refine XS.iload X16.here hx rfl (hb hby at_100) rfl ?_
          show OwnS p e below T16 (mkF m 102 #[iv p0, iv p1, iv p2, iv (p1 &&& (3 : Int32)), iv 39, iv 1, rv w_ARFF, iv 1] [(.int 1), (.int 1)]) _
          refine XS.icmpNo X16.here hx rfl (hb hby at_102) rfl (teq (by decide : (1 : Int32) = (1 : Int32))).2 ?_
          show OwnS p e below T16 (mkF m 105 #[iv p0, iv p1, iv p2, iv (p1 &&& (3 : Int32)), iv 39, iv 1, rv w_ARFF, iv 1] []) _
          refine XS.iconst X16.here hx rfl (hb hby at_105) ?_
          show OwnS p e below T16 (mkF m 106 #[iv p0, iv p1, iv p2, iv (p1 &&& (3 : Int32)), iv 39, iv 1, rv w_ARFF, iv 1] [(.int 1)]) _
          refine XS.goto X16.here hx rfl (pc0 := 106) (pc' := 110) rfl (hb hby at_106) (by decide) (by decide) ?_
          show OwnS p e below T16 (mkF m 110 #[iv p0, iv p1, iv p2, iv (p1 &&& (3 : Int32)), iv 39, iv 1, rv w_ARFF, iv 1] [(.int 1)]) _
          exact retN X16 hx (t := .boolean) Bd.returns (by simp) (hb hby at_110) hr
        · show Q_0 Z p0 p1 p2 w_ARFF w_CSV h0 n0 _ T16.heap _
          rw [e16]
          exact ⟨rfl, N16, trivial⟩
    · have k18 : ∀ t, OwnS p e below s₁ (mkF m 37 #[iv p0, iv p1, iv p2, iv (p1 &&& (3 : Int32)), iv ((p0 &&& (65535 : Int32)).toUInt32.toUInt16.toUInt32.toInt32), .unset, .unset, .unset] [(.int (p2 &&& (1 : Int32)))]) t → OwnS p e below s₁ (entryFrame m #[(.int p0), (.int p1), (.int p2)] maxLocals) t := fun t q => by
        refine k10 t ?_
        show OwnS p e below s₁ (mkF m 17 #[iv p0, iv p1, iv p2, iv (p1 &&& (3 : Int32)), .unset, .unset, .unset, .unset] [(.int 1), (.int (p1 &&& (3 : Int32)))]) _
        refine XS.icmpYes X0.here hx rfl (pc0 := 17) (pc' := 27) rfl (hb hby at_17) rfl (feq hc17_9).2 (by decide) (by decide) ?_
        show OwnS p e below s₁ (mkF m 27 #[iv p0, iv p1, iv p2, iv (p1 &&& (3 : Int32)), .unset, .unset, .unset, .unset] []) _
        refine XS.iloadN X0.here hx rfl (hb hby at_27) rfl ?_
        show OwnS p e below s₁ (mkF m 28 #[iv p0, iv p1, iv p2, iv (p1 &&& (3 : Int32)), .unset, .unset, .unset, .unset] [(.int p0)]) _
        refine X0.ldcInt hx hown (mvT hZ (own_at hw 0 rfl)) (g := (mkF m 28 #[iv p0, iv p1, iv p2, iv (p1 &&& (3 : Int32)), .unset, .unset, .unset, .unset] [(.int p0)])) rfl (hb hby at_28) _ ?_
        show OwnS p e below s₁ (mkF m 30 #[iv p0, iv p1, iv p2, iv (p1 &&& (3 : Int32)), .unset, .unset, .unset, .unset] [(.int 65535), (.int p0)]) _
        refine XS.iand X0.here hx rfl (hb hby at_30) rfl ?_
        show OwnS p e below s₁ (mkF m 31 #[iv p0, iv p1, iv p2, iv (p1 &&& (3 : Int32)), .unset, .unset, .unset, .unset] [(.int (p0 &&& (65535 : Int32)))]) _
        refine XS.i2c X0.here hx rfl (hb hby at_31) rfl ?_
        show OwnS p e below s₁ (mkF m 32 #[iv p0, iv p1, iv p2, iv (p1 &&& (3 : Int32)), .unset, .unset, .unset, .unset] [(.int ((p0 &&& (65535 : Int32)).toUInt32.toUInt16.toUInt32.toInt32))]) _
        refine XS.istore X0.here hx rfl (hb hby at_32) rfl (l' := #[iv p0, iv p1, iv p2, iv (p1 &&& (3 : Int32)), iv ((p0 &&& (65535 : Int32)).toUInt32.toUInt16.toUInt32.toInt32), .unset, .unset, .unset]) rfl ?_
        show OwnS p e below s₁ (mkF m 34 #[iv p0, iv p1, iv p2, iv (p1 &&& (3 : Int32)), iv ((p0 &&& (65535 : Int32)).toUInt32.toUInt16.toUInt32.toInt32), .unset, .unset, .unset] []) _
        refine XS.iloadN X0.here hx rfl (hb hby at_34) rfl ?_
        show OwnS p e below s₁ (mkF m 35 #[iv p0, iv p1, iv p2, iv (p1 &&& (3 : Int32)), iv ((p0 &&& (65535 : Int32)).toUInt32.toUInt16.toUInt32.toInt32), .unset, .unset, .unset] [(.int p2)]) _
        refine XS.iconst X0.here hx rfl (hb hby at_35) ?_
        show OwnS p e below s₁ (mkF m 36 #[iv p0, iv p1, iv p2, iv (p1 &&& (3 : Int32)), iv ((p0 &&& (65535 : Int32)).toUInt32.toUInt16.toUInt32.toInt32), .unset, .unset, .unset] [(.int 1), (.int p2)]) _
        refine XS.iand X0.here hx rfl (hb hby at_36) rfl ?_
        exact q
      by_cases hc37_17 : (p2 &&& (1 : Int32)) = (0 : Int32)
      · obtain ⟨T19, X19, e19, st19⟩ := getS2 X0 hx hZ hown (host := "") (Or.inl (own_at hw 1 rfl)) Via.refl e0 S_CSV (g := (mkF m 58 #[iv p0, iv p1, iv p2, iv (p1 &&& (3 : Int32)), iv ((p0 &&& (65535 : Int32)).toUInt32.toUInt16.toUInt32.toInt32), iv 0, .unset, .unset] [])) rfl (hb hby at_58)
        have k21 : ∀ t, OwnS p e below T19 (mkF m 67 #[iv p0, iv p1, iv p2, iv (p1 &&& (3 : Int32)), iv ((p0 &&& (65535 : Int32)).toUInt32.toUInt16.toUInt32.toInt32), iv 0, rv w_CSV, .unset] [(.int 34), (.int ((p0 &&& (65535 : Int32)).toUInt32.toUInt16.toUInt32.toInt32))]) t → OwnS p e below s₁ (entryFrame m #[(.int p0), (.int p1), (.int p2)] maxLocals) t := fun t q => by
          refine k18 t ?_
          show OwnS p e below s₁ (mkF m 37 #[iv p0, iv p1, iv p2, iv (p1 &&& (3 : Int32)), iv ((p0 &&& (65535 : Int32)).toUInt32.toUInt16.toUInt32.toInt32), .unset, .unset, .unset] [(.int (p2 &&& (1 : Int32)))]) _
          refine XS.ifYes X0.here hx rfl (pc0 := 37) (pc' := 44) rfl (hb hby at_37) rfl ((if0 _ _).trans (teq hc37_17).1) (by decide) (by decide) ?_
          show OwnS p e below s₁ (mkF m 44 #[iv p0, iv p1, iv p2, iv (p1 &&& (3 : Int32)), iv ((p0 &&& (65535 : Int32)).toUInt32.toUInt16.toUInt32.toInt32), .unset, .unset, .unset] []) _
          refine XS.iconst X0.here hx rfl (hb hby at_44) ?_
          show OwnS p e below s₁ (mkF m 45 #[iv p0, iv p1, iv p2, iv (p1 &&& (3 : Int32)), iv ((p0 &&& (65535 : Int32)).toUInt32.toUInt16.toUInt32.toInt32), .unset, .unset, .unset] [(.int 0)]) _
          refine XS.istore X0.here hx rfl (hb hby at_45) rfl (l' := #[iv p0, iv p1, iv p2, iv (p1 &&& (3 : Int32)), iv ((p0 &&& (65535 : Int32)).toUInt32.toUInt16.toUInt32.toInt32), iv 0, .unset, .unset]) rfl ?_
          show OwnS p e below s₁ (mkF m 47 #[iv p0, iv p1, iv p2, iv (p1 &&& (3 : Int32)), iv ((p0 &&& (65535 : Int32)).toUInt32.toUInt16.toUInt32.toInt32), iv 0, .unset, .unset] []) _
          refine XS.iload X0.here hx rfl (hb hby at_47) rfl ?_
          show OwnS p e below s₁ (mkF m 49 #[iv p0, iv p1, iv p2, iv (p1 &&& (3 : Int32)), iv ((p0 &&& (65535 : Int32)).toUInt32.toUInt16.toUInt32.toInt32), iv 0, .unset, .unset] [(.int 0)]) _
          refine XS.ifYes X0.here hx rfl (pc0 := 49) (pc' := 58) rfl (hb hby at_49) rfl ((if0 _ _).trans (teq (by decide : (0 : Int32) = (0 : Int32))).1) (by decide) (by decide) ?_
          show OwnS p e below s₁ (mkF m 58 #[iv p0, iv p1, iv p2, iv (p1 &&& (3 : Int32)), iv ((p0 &&& (65535 : Int32)).toUInt32.toUInt16.toUInt32.toInt32), iv 0, .unset, .unset] []) _
          refine st19 _ ?_
          show OwnS p e below T19 (mkF m 61 #[iv p0, iv p1, iv p2, iv (p1 &&& (3 : Int32)), iv ((p0 &&& (65535 : Int32)).toUInt32.toUInt16.toUInt32.toInt32), iv 0, .unset, .unset] [(.ref w_CSV)]) _
          refine XS.astore X19.here hx rfl (hb hby at_61) rfl rfl (l' := #[iv p0, iv p1, iv p2, iv (p1 &&& (3 : Int32)), iv ((p0 &&& (65535 : Int32)).toUInt32.toUInt16.toUInt32.toInt32), iv 0, rv w_CSV, .unset]) rfl ?_
          show OwnS p e below T19 (mkF m 63 #[iv p0, iv p1, iv p2, iv (p1 &&& (3 : Int32)), iv ((p0 &&& (65535 : Int32)).toUInt32.toUInt16.toUInt32.toInt32), iv 0, rv w_CSV, .unset] []) _
          refine XS.iload X19.here hx rfl (hb hby at_63) rfl ?_
          show OwnS p e below T19 (mkF m 65 #[iv p0, iv p1, iv p2, iv (p1 &&& (3 : Int32)), iv ((p0 &&& (65535 : Int32)).toUInt32.toUInt16.toUInt32.toInt32), iv 0, rv w_CSV, .unset] [(.int ((p0 &&& (65535 : Int32)).toUInt32.toUInt16.toUInt32.toInt32))]) _
          refine XS.bipush X19.here hx rfl (hb hby at_65) ?_
          exact q
        by_cases hc67_20 : ((p0 &&& (65535 : Int32)).toUInt32.toUInt16.toUInt32.toInt32) = (34 : Int32)
        · obtain ⟨cq22, kq22, q22a, q22b, q22c⟩ := isOf hZ e19 E_w_CSV
          obtain ⟨_, _, ⟨T22, L22, j22, i22⟩, -, X22, ⟨Lc22, hQ22, l22, y22, z22⟩, st22⟩ := X19.virtualBack hx (y := (⟨cS0, "isQuote", "(C)Z"⟩ : MethodName)) (z := (⟨cS0, "isQuote", "(C)Z"⟩ : MethodName)) hown (mvT hZ (own_at hw 4 rfl)) (mvT hZ (own_at hw 5 rfl)) (notFace_of_selects (args := #[]) (mvT hZ (own_at hw 7 rfl))) (mvT hZ (own_at hw 7 rfl)) (mvT hZ (own_at hw 6 rfl)) (by decide) (backOf (W := 0) (rm1_t l Z a0 hw [] w_CSV ((p0 &&& (65535 : Int32)).toUInt32.toUInt16.toUInt32.toInt32) h0 n0 Z0 hc67_20) hZ (own_at hw 8 rfl) (own_at hw 2 rfl) (by decide) (by decide)) q22a q22c (g := (mkF m 97 #[iv p0, iv p1, iv p2, iv (p1 &&& (3 : Int32)), iv ((p0 &&& (65535 : Int32)).toUInt32.toUInt16.toUInt32.toInt32), iv 0, rv w_CSV, iv 1] [(.int ((p0 &&& (65535 : Int32)).toUInt32.toUInt16.toUInt32.toInt32)), (.ref w_CSV)])) rfl (by rw [hml]; rfl) (Steps.refl _) (argsL := [(.int ((p0 &&& (65535 : Int32)).toUInt32.toUInt16.toUInt32.toInt32))]) (rest := []) (lenOf pd_0 rfl) rfl (by show 2 * 0 + _ ≤ _; exact Nat.le_of_eq rfl) (hb hby at_97) (fun _ _ => ⟨rfl, e19, (by decide : 0 + 0 ≤ _), (by decide : 0 + 0 ≤ _)⟩)
          dsimp only [Pt.U, Pt.locs, Pt.cells, Pt.slots] at X22 l22 y22 z22 st22 hQ22
          subst l22 y22 z22
          obtain ⟨rfl, N22q, e22⟩ := hQ22
          have N22 := Fr.app N0 N22q
          obtain ⟨fs, hr, hrun, hended, hW, hsame⟩ := X22.leave (v := some (.int 1)) (fun h => by rw [Bd.returns] at h; cases h)
          refine ⟨_, _, k21 _ ?_, hrun, hended, _, _, rfl, ?_, ⟨_, rfl⟩, hW, hsame.mono (by decide) (by decide)⟩
          · show OwnS p e below T19 (mkF m 67 #[iv p0, iv p1, iv p2, iv (p1 &&& (3 : Int32)), iv ((p0 &&& (65535 : Int32)).toUInt32.toUInt16.toUInt32.toInt32), iv 0, rv w_CSV, .unset] [(.int 34), (.int ((p0 &&& (65535 : Int32)).toUInt32.toUInt16.toUInt32.toInt32))]) _
            refine XS.icmpNo X19.here hx rfl (hb hby at_67) rfl (teq hc67_20).2 ?_
            show OwnS p e below T19 (mkF m 70 #[iv p0, iv p1, iv p2, iv (p1 &&& (3 : Int32)), iv ((p0 &&& (65535 : Int32)).toUInt32.toUInt16.toUInt32.toInt32), iv 0, rv w_CSV, .unset] []) _
            refine XS.iconst X19.here hx rfl (hb hby at_70) ?_
            show OwnS p e below T19 (mkF m 71 #[iv p0, iv p1, iv p2, iv (p1 &&& (3 : Int32)), iv ((p0 &&& (65535 : Int32)).toUInt32.toUInt16.toUInt32.toInt32), iv 0, rv w_CSV, .unset] [(.int 1)]) _
            refine XS.istore X19.here hx rfl (hb hby at_71) rfl (l' := #[iv p0, iv p1, iv p2, iv (p1 &&& (3 : Int32)), iv ((p0 &&& (65535 : Int32)).toUInt32.toUInt16.toUInt32.toInt32), iv 0, rv w_CSV, iv 1]) rfl ?_
            show OwnS p e below T19 (mkF m 73 #[iv p0, iv p1, iv p2, iv (p1 &&& (3 : Int32)), iv ((p0 &&& (65535 : Int32)).toUInt32.toUInt16.toUInt32.toInt32), iv 0, rv w_CSV, iv 1] []) _
            refine XS.goto X19.here hx rfl (pc0 := 73) (pc' := 93) rfl (hb hby at_73) (by decide) (by decide) ?_
            show OwnS p e below T19 (mkF m 93 #[iv p0, iv p1, iv p2, iv (p1 &&& (3 : Int32)), iv ((p0 &&& (65535 : Int32)).toUInt32.toUInt16.toUInt32.toInt32), iv 0, rv w_CSV, iv 1] []) _
            refine XS.aload X19.here hx rfl (hb hby at_93) rfl rfl ?_
            show OwnS p e below T19 (mkF m 95 #[iv p0, iv p1, iv p2, iv (p1 &&& (3 : Int32)), iv ((p0 &&& (65535 : Int32)).toUInt32.toUInt16.toUInt32.toInt32), iv 0, rv w_CSV, iv 1] [(.ref w_CSV)]) _
            refine XS.iload X19.here hx rfl (hb hby at_95) rfl ?_
            show OwnS p e below T19 (mkF m 97 #[iv p0, iv p1, iv p2, iv (p1 &&& (3 : Int32)), iv ((p0 &&& (65535 : Int32)).toUInt32.toUInt16.toUInt32.toInt32), iv 0, rv w_CSV, iv 1] [(.int ((p0 &&& (65535 : Int32)).toUInt32.toUInt16.toUInt32.toInt32)), (.ref w_CSV)]) _
            refine st22.trans ?_
            show OwnS p e below T22 (mkF m 100 #[iv p0, iv p1, iv p2, iv (p1 &&& (3 : Int32)), iv ((p0 &&& (65535 : Int32)).toUInt32.toUInt16.toUInt32.toInt32), iv 0, rv w_CSV, iv 1] [(.int 1)]) _
            refine XS.iload X22.here hx rfl (hb hby at_100) rfl ?_
            show OwnS p e below T22 (mkF m 102 #[iv p0, iv p1, iv p2, iv (p1 &&& (3 : Int32)), iv ((p0 &&& (65535 : Int32)).toUInt32.toUInt16.toUInt32.toInt32), iv 0, rv w_CSV, iv 1] [(.int 1), (.int 1)]) _
            refine XS.icmpNo X22.here hx rfl (hb hby at_102) rfl (teq (by decide : (1 : Int32) = (1 : Int32))).2 ?_
            show OwnS p e below T22 (mkF m 105 #[iv p0, iv p1, iv p2, iv (p1 &&& (3 : Int32)), iv ((p0 &&& (65535 : Int32)).toUInt32.toUInt16.toUInt32.toInt32), iv 0, rv w_CSV, iv 1] []) _
            refine XS.iconst X22.here hx rfl (hb hby at_105) ?_
            show OwnS p e below T22 (mkF m 106 #[iv p0, iv p1, iv p2, iv (p1 &&& (3 : Int32)), iv ((p0 &&& (65535 : Int32)).toUInt32.toUInt16.toUInt32.toInt32), iv 0, rv w_CSV, iv 1] [(.int 1)]) _
            refine XS.goto X22.here hx rfl (pc0 := 106) (pc' := 110) rfl (hb hby at_106) (by decide) (by decide) ?_
            show OwnS p e below T22 (mkF m 110 #[iv p0, iv p1, iv p2, iv (p1 &&& (3 : Int32)), iv ((p0 &&& (65535 : Int32)).toUInt32.toUInt16.toUInt32.toInt32), iv 0, rv w_CSV, iv 1] [(.int 1)]) _
            exact retN X22 hx (t := .boolean) Bd.returns (by simp) (hb hby at_110) hr
          · show Q_0 Z p0 p1 p2 w_ARFF w_CSV h0 n0 _ T22.heap _
            rw [e22]
            exact ⟨rfl, N22, trivial⟩
        · have k24 : ∀ t, OwnS p e below T19 (mkF m 80 #[iv p0, iv p1, iv p2, iv (p1 &&& (3 : Int32)), iv ((p0 &&& (65535 : Int32)).toUInt32.toUInt16.toUInt32.toInt32), iv 0, rv w_CSV, .unset] [(.int 39), (.int ((p0 &&& (65535 : Int32)).toUInt32.toUInt16.toUInt32.toInt32))]) t → OwnS p e below s₁ (entryFrame m #[(.int p0), (.int p1), (.int p2)] maxLocals) t := fun t q => by
            refine k21 t ?_
            show OwnS p e below T19 (mkF m 67 #[iv p0, iv p1, iv p2, iv (p1 &&& (3 : Int32)), iv ((p0 &&& (65535 : Int32)).toUInt32.toUInt16.toUInt32.toInt32), iv 0, rv w_CSV, .unset] [(.int 34), (.int ((p0 &&& (65535 : Int32)).toUInt32.toUInt16.toUInt32.toInt32))]) _
            refine XS.icmpYes X19.here hx rfl (pc0 := 67) (pc' := 76) rfl (hb hby at_67) rfl (feq hc67_20).2 (by decide) (by decide) ?_
            show OwnS p e below T19 (mkF m 76 #[iv p0, iv p1, iv p2, iv (p1 &&& (3 : Int32)), iv ((p0 &&& (65535 : Int32)).toUInt32.toUInt16.toUInt32.toInt32), iv 0, rv w_CSV, .unset] []) _
            refine XS.iload X19.here hx rfl (hb hby at_76) rfl ?_
            show OwnS p e below T19 (mkF m 78 #[iv p0, iv p1, iv p2, iv (p1 &&& (3 : Int32)), iv ((p0 &&& (65535 : Int32)).toUInt32.toUInt16.toUInt32.toInt32), iv 0, rv w_CSV, .unset] [(.int ((p0 &&& (65535 : Int32)).toUInt32.toUInt16.toUInt32.toInt32))]) _
            refine XS.bipush X19.here hx rfl (hb hby at_78) ?_
            exact q
          by_cases hc80_23 : ((p0 &&& (65535 : Int32)).toUInt32.toUInt16.toUInt32.toInt32) = (39 : Int32)
          · obtain ⟨cq25, kq25, q25a, q25b, q25c⟩ := isOf hZ e19 E_w_CSV
            obtain ⟨_, _, ⟨T25, L25, j25, i25⟩, -, X25, ⟨Lc25, hQ25, l25, y25, z25⟩, st25⟩ := X19.virtualBack hx (y := (⟨cS0, "isQuote", "(C)Z"⟩ : MethodName)) (z := (⟨cS0, "isQuote", "(C)Z"⟩ : MethodName)) hown (mvT hZ (own_at hw 4 rfl)) (mvT hZ (own_at hw 5 rfl)) (notFace_of_selects (args := #[]) (mvT hZ (own_at hw 7 rfl))) (mvT hZ (own_at hw 7 rfl)) (mvT hZ (own_at hw 6 rfl)) (by decide) (backOf (W := 0) (rm1_ft l Z a0 hw [] w_CSV ((p0 &&& (65535 : Int32)).toUInt32.toUInt16.toUInt32.toInt32) w_ARFF h0 n0 Z0 hc67_20 S_ARFF ne) hZ (own_at hw 8 rfl) (own_at hw 2 rfl) (by decide) (by decide)) q25a q25c (g := (mkF m 97 #[iv p0, iv p1, iv p2, iv (p1 &&& (3 : Int32)), iv ((p0 &&& (65535 : Int32)).toUInt32.toUInt16.toUInt32.toInt32), iv 0, rv w_CSV, iv 0] [(.int ((p0 &&& (65535 : Int32)).toUInt32.toUInt16.toUInt32.toInt32)), (.ref w_CSV)])) rfl (by rw [hml]; rfl) (Steps.refl _) (argsL := [(.int ((p0 &&& (65535 : Int32)).toUInt32.toUInt16.toUInt32.toInt32))]) (rest := []) (lenOf pd_0 rfl) rfl (by show 2 * 0 + _ ≤ _; exact Nat.le_of_eq rfl) (hb hby at_97) (fun _ _ => ⟨rfl, e19, (by decide : 0 + 0 ≤ _), (by decide : 0 + 0 ≤ _)⟩)
            dsimp only [Pt.U, Pt.locs, Pt.cells, Pt.slots] at X25 l25 y25 z25 st25 hQ25
            subst l25 y25 z25
            obtain ⟨rfl, N25q, e25⟩ := hQ25
            have N25 := Fr.app N0 N25q
            obtain ⟨fs, hr, hrun, hended, hW, hsame⟩ := X25.leave (v := some (.int 1)) (fun h => by rw [Bd.returns] at h; cases h)
            refine ⟨_, _, k24 _ ?_, hrun, hended, _, _, rfl, ?_, ⟨_, rfl⟩, hW, hsame.mono (by decide) (by decide)⟩
            · show OwnS p e below T19 (mkF m 80 #[iv p0, iv p1, iv p2, iv (p1 &&& (3 : Int32)), iv ((p0 &&& (65535 : Int32)).toUInt32.toUInt16.toUInt32.toInt32), iv 0, rv w_CSV, .unset] [(.int 39), (.int ((p0 &&& (65535 : Int32)).toUInt32.toUInt16.toUInt32.toInt32))]) _
              refine XS.icmpNo X19.here hx rfl (hb hby at_80) rfl (teq hc80_23).2 ?_
              show OwnS p e below T19 (mkF m 83 #[iv p0, iv p1, iv p2, iv (p1 &&& (3 : Int32)), iv ((p0 &&& (65535 : Int32)).toUInt32.toUInt16.toUInt32.toInt32), iv 0, rv w_CSV, .unset] []) _
              refine XS.iload X19.here hx rfl (hb hby at_83) rfl ?_
              show OwnS p e below T19 (mkF m 85 #[iv p0, iv p1, iv p2, iv (p1 &&& (3 : Int32)), iv ((p0 &&& (65535 : Int32)).toUInt32.toUInt16.toUInt32.toInt32), iv 0, rv w_CSV, .unset] [(.int 0)]) _
              refine XS.istore X19.here hx rfl (hb hby at_85) rfl (l' := #[iv p0, iv p1, iv p2, iv (p1 &&& (3 : Int32)), iv ((p0 &&& (65535 : Int32)).toUInt32.toUInt16.toUInt32.toInt32), iv 0, rv w_CSV, iv 0]) rfl ?_
              show OwnS p e below T19 (mkF m 87 #[iv p0, iv p1, iv p2, iv (p1 &&& (3 : Int32)), iv ((p0 &&& (65535 : Int32)).toUInt32.toUInt16.toUInt32.toInt32), iv 0, rv w_CSV, iv 0] []) _
              refine XS.goto X19.here hx rfl (pc0 := 87) (pc' := 93) rfl (hb hby at_87) (by decide) (by decide) ?_
              show OwnS p e below T19 (mkF m 93 #[iv p0, iv p1, iv p2, iv (p1 &&& (3 : Int32)), iv ((p0 &&& (65535 : Int32)).toUInt32.toUInt16.toUInt32.toInt32), iv 0, rv w_CSV, iv 0] []) _
              refine XS.aload X19.here hx rfl (hb hby at_93) rfl rfl ?_
              show OwnS p e below T19 (mkF m 95 #[iv p0, iv p1, iv p2, iv (p1 &&& (3 : Int32)), iv ((p0 &&& (65535 : Int32)).toUInt32.toUInt16.toUInt32.toInt32), iv 0, rv w_CSV, iv 0] [(.ref w_CSV)]) _
              refine XS.iload X19.here hx rfl (hb hby at_95) rfl ?_
              show OwnS p e below T19 (mkF m 97 #[iv p0, iv p1, iv p2, iv (p1 &&& (3 : Int32)), iv ((p0 &&& (65535 : Int32)).toUInt32.toUInt16.toUInt32.toInt32), iv 0, rv w_CSV, iv 0] [(.int ((p0 &&& (65535 : Int32)).toUInt32.toUInt16.toUInt32.toInt32)), (.ref w_CSV)]) _
              refine st25.trans ?_
              show OwnS p e below T25 (mkF m 100 #[iv p0, iv p1, iv p2, iv (p1 &&& (3 : Int32)), iv ((p0 &&& (65535 : Int32)).toUInt32.toUInt16.toUInt32.toInt32), iv 0, rv w_CSV, iv 0] [(.int 0)]) _
              refine XS.iload X25.here hx rfl (hb hby at_100) rfl ?_
              show OwnS p e below T25 (mkF m 102 #[iv p0, iv p1, iv p2, iv (p1 &&& (3 : Int32)), iv ((p0 &&& (65535 : Int32)).toUInt32.toUInt16.toUInt32.toInt32), iv 0, rv w_CSV, iv 0] [(.int 0), (.int 0)]) _
              refine XS.icmpNo X25.here hx rfl (hb hby at_102) rfl (teq (by decide : (0 : Int32) = (0 : Int32))).2 ?_
              show OwnS p e below T25 (mkF m 105 #[iv p0, iv p1, iv p2, iv (p1 &&& (3 : Int32)), iv ((p0 &&& (65535 : Int32)).toUInt32.toUInt16.toUInt32.toInt32), iv 0, rv w_CSV, iv 0] []) _
              refine XS.iconst X25.here hx rfl (hb hby at_105) ?_
              show OwnS p e below T25 (mkF m 106 #[iv p0, iv p1, iv p2, iv (p1 &&& (3 : Int32)), iv ((p0 &&& (65535 : Int32)).toUInt32.toUInt16.toUInt32.toInt32), iv 0, rv w_CSV, iv 0] [(.int 1)]) _
              refine XS.goto X25.here hx rfl (pc0 := 106) (pc' := 110) rfl (hb hby at_106) (by decide) (by decide) ?_
              show OwnS p e below T25 (mkF m 110 #[iv p0, iv p1, iv p2, iv (p1 &&& (3 : Int32)), iv ((p0 &&& (65535 : Int32)).toUInt32.toUInt16.toUInt32.toInt32), iv 0, rv w_CSV, iv 0] [(.int 1)]) _
              exact retN X25 hx (t := .boolean) Bd.returns (by simp) (hb hby at_110) hr
            · show Q_0 Z p0 p1 p2 w_ARFF w_CSV h0 n0 _ T25.heap _
              rw [e25]
              exact ⟨rfl, N25, trivial⟩
          · obtain ⟨cq26, kq26, q26a, q26b, q26c⟩ := isOf hZ e19 E_w_CSV
            obtain ⟨_, _, ⟨T26, L26, j26, i26⟩, -, X26, ⟨Lc26, hQ26, l26, y26, z26⟩, st26⟩ := X19.virtualBack hx (y := (⟨cS0, "isQuote", "(C)Z"⟩ : MethodName)) (z := (⟨cS0, "isQuote", "(C)Z"⟩ : MethodName)) hown (mvT hZ (own_at hw 4 rfl)) (mvT hZ (own_at hw 5 rfl)) (notFace_of_selects (args := #[]) (mvT hZ (own_at hw 7 rfl))) (mvT hZ (own_at hw 7 rfl)) (mvT hZ (own_at hw 6 rfl)) (by decide) (backOf (W := 0) (rm1_ft l Z a0 hw [] w_CSV ((p0 &&& (65535 : Int32)).toUInt32.toUInt16.toUInt32.toInt32) w_ARFF h0 n0 Z0 hc67_20 S_ARFF ne) hZ (own_at hw 8 rfl) (own_at hw 2 rfl) (by decide) (by decide)) q26a q26c (g := (mkF m 97 #[iv p0, iv p1, iv p2, iv (p1 &&& (3 : Int32)), iv ((p0 &&& (65535 : Int32)).toUInt32.toUInt16.toUInt32.toInt32), iv 0, rv w_CSV, iv 0] [(.int ((p0 &&& (65535 : Int32)).toUInt32.toUInt16.toUInt32.toInt32)), (.ref w_CSV)])) rfl (by rw [hml]; rfl) (Steps.refl _) (argsL := [(.int ((p0 &&& (65535 : Int32)).toUInt32.toUInt16.toUInt32.toInt32))]) (rest := []) (lenOf pd_0 rfl) rfl (by show 2 * 0 + _ ≤ _; exact Nat.le_of_eq rfl) (hb hby at_97) (fun _ _ => ⟨rfl, e19, (by decide : 0 + 0 ≤ _), (by decide : 0 + 0 ≤ _)⟩)
            dsimp only [Pt.U, Pt.locs, Pt.cells, Pt.slots] at X26 l26 y26 z26 st26 hQ26
            subst l26 y26 z26
            obtain ⟨rfl, N26q, e26⟩ := hQ26
            have N26 := Fr.app N0 N26q
            obtain ⟨fs, hr, hrun, hended, hW, hsame⟩ := X26.leave (v := some (.int 1)) (fun h => by rw [Bd.returns] at h; cases h)
            refine ⟨_, _, k24 _ ?_, hrun, hended, _, _, rfl, ?_, ⟨_, rfl⟩, hW, hsame.mono (by decide) (by decide)⟩
            · show OwnS p e below T19 (mkF m 80 #[iv p0, iv p1, iv p2, iv (p1 &&& (3 : Int32)), iv ((p0 &&& (65535 : Int32)).toUInt32.toUInt16.toUInt32.toInt32), iv 0, rv w_CSV, .unset] [(.int 39), (.int ((p0 &&& (65535 : Int32)).toUInt32.toUInt16.toUInt32.toInt32))]) _
              refine XS.icmpYes X19.here hx rfl (pc0 := 80) (pc' := 90) rfl (hb hby at_80) rfl (feq hc80_23).2 (by decide) (by decide) ?_
              show OwnS p e below T19 (mkF m 90 #[iv p0, iv p1, iv p2, iv (p1 &&& (3 : Int32)), iv ((p0 &&& (65535 : Int32)).toUInt32.toUInt16.toUInt32.toInt32), iv 0, rv w_CSV, .unset] []) _
              refine XS.iconst X19.here hx rfl (hb hby at_90) ?_
              show OwnS p e below T19 (mkF m 91 #[iv p0, iv p1, iv p2, iv (p1 &&& (3 : Int32)), iv ((p0 &&& (65535 : Int32)).toUInt32.toUInt16.toUInt32.toInt32), iv 0, rv w_CSV, .unset] [(.int 0)]) _
              refine XS.istore X19.here hx rfl (hb hby at_91) rfl (l' := #[iv p0, iv p1, iv p2, iv (p1 &&& (3 : Int32)), iv ((p0 &&& (65535 : Int32)).toUInt32.toUInt16.toUInt32.toInt32), iv 0, rv w_CSV, iv 0]) rfl ?_
              show OwnS p e below T19 (mkF m 93 #[iv p0, iv p1, iv p2, iv (p1 &&& (3 : Int32)), iv ((p0 &&& (65535 : Int32)).toUInt32.toUInt16.toUInt32.toInt32), iv 0, rv w_CSV, iv 0] []) _
              refine XS.aload X19.here hx rfl (hb hby at_93) rfl rfl ?_
              show OwnS p e below T19 (mkF m 95 #[iv p0, iv p1, iv p2, iv (p1 &&& (3 : Int32)), iv ((p0 &&& (65535 : Int32)).toUInt32.toUInt16.toUInt32.toInt32), iv 0, rv w_CSV, iv 0] [(.ref w_CSV)]) _
              refine XS.iload X19.here hx rfl (hb hby at_95) rfl ?_
              show OwnS p e below T19 (mkF m 97 #[iv p0, iv p1, iv p2, iv (p1 &&& (3 : Int32)), iv ((p0 &&& (65535 : Int32)).toUInt32.toUInt16.toUInt32.toInt32), iv 0, rv w_CSV, iv 0] [(.int ((p0 &&& (65535 : Int32)).toUInt32.toUInt16.toUInt32.toInt32)), (.ref w_CSV)]) _
              refine st26.trans ?_
              show OwnS p e below T26 (mkF m 100 #[iv p0, iv p1, iv p2, iv (p1 &&& (3 : Int32)), iv ((p0 &&& (65535 : Int32)).toUInt32.toUInt16.toUInt32.toInt32), iv 0, rv w_CSV, iv 0] [(.int 0)]) _
              refine XS.iload X26.here hx rfl (hb hby at_100) rfl ?_
              show OwnS p e below T26 (mkF m 102 #[iv p0, iv p1, iv p2, iv (p1 &&& (3 : Int32)), iv ((p0 &&& (65535 : Int32)).toUInt32.toUInt16.toUInt32.toInt32), iv 0, rv w_CSV, iv 0] [(.int 0), (.int 0)]) _
              refine XS.icmpNo X26.here hx rfl (hb hby at_102) rfl (teq (by decide : (0 : Int32) = (0 : Int32))).2 ?_
              show OwnS p e below T26 (mkF m 105 #[iv p0, iv p1, iv p2, iv (p1 &&& (3 : Int32)), iv ((p0 &&& (65535 : Int32)).toUInt32.toUInt16.toUInt32.toInt32), iv 0, rv w_CSV, iv 0] []) _
              refine XS.iconst X26.here hx rfl (hb hby at_105) ?_
              show OwnS p e below T26 (mkF m 106 #[iv p0, iv p1, iv p2, iv (p1 &&& (3 : Int32)), iv ((p0 &&& (65535 : Int32)).toUInt32.toUInt16.toUInt32.toInt32), iv 0, rv w_CSV, iv 0] [(.int 1)]) _
              refine XS.goto X26.here hx rfl (pc0 := 106) (pc' := 110) rfl (hb hby at_106) (by decide) (by decide) ?_
              show OwnS p e below T26 (mkF m 110 #[iv p0, iv p1, iv p2, iv (p1 &&& (3 : Int32)), iv ((p0 &&& (65535 : Int32)).toUInt32.toUInt16.toUInt32.toInt32), iv 0, rv w_CSV, iv 0] [(.int 1)]) _
              exact retN X26 hx (t := .boolean) Bd.returns (by simp) (hb hby at_110) hr
            · show Q_0 Z p0 p1 p2 w_ARFF w_CSV h0 n0 _ T26.heap _
              rw [e26]
              exact ⟨rfl, N26, trivial⟩
      · obtain ⟨T27, X27, e27, st27⟩ := getS2 X0 hx hZ hown (host := "") (Or.inl (own_at hw 11 rfl)) Via.refl e0 S_ARFF (g := (mkF m 52 #[iv p0, iv p1, iv p2, iv (p1 &&& (3 : Int32)), iv ((p0 &&& (65535 : Int32)).toUInt32.toUInt16.toUInt32.toInt32), iv 1, .unset, .unset] [])) rfl (hb hby at_52)
        have k29 : ∀ t, OwnS p e below T27 (mkF m 67 #[iv p0, iv p1, iv p2, iv (p1 &&& (3 : Int32)), iv ((p0 &&& (65535 : Int32)).toUInt32.toUInt16.toUInt32.toInt32), iv 1, rv w_ARFF, .unset] [(.int 34), (.int ((p0 &&& (65535 : Int32)).toUInt32.toUInt16.toUInt32.toInt32))]) t → OwnS p e below s₁ (entryFrame m #[(.int p0), (.int p1), (.int p2)] maxLocals) t := fun t q => by
          refine k18 t ?_
          show OwnS p e below s₁ (mkF m 37 #[iv p0, iv p1, iv p2, iv (p1 &&& (3 : Int32)), iv ((p0 &&& (65535 : Int32)).toUInt32.toUInt16.toUInt32.toInt32), .unset, .unset, .unset] [(.int (p2 &&& (1 : Int32)))]) _
          refine XS.ifNo X0.here hx rfl (hb hby at_37) rfl ((if0 _ _).trans (feq hc37_17).1) ?_
          show OwnS p e below s₁ (mkF m 40 #[iv p0, iv p1, iv p2, iv (p1 &&& (3 : Int32)), iv ((p0 &&& (65535 : Int32)).toUInt32.toUInt16.toUInt32.toInt32), .unset, .unset, .unset] []) _
          refine XS.iconst X0.here hx rfl (hb hby at_40) ?_
          show OwnS p e below s₁ (mkF m 41 #[iv p0, iv p1, iv p2, iv (p1 &&& (3 : Int32)), iv ((p0 &&& (65535 : Int32)).toUInt32.toUInt16.toUInt32.toInt32), .unset, .unset, .unset] [(.int 1)]) _
          refine XS.goto X0.here hx rfl (pc0 := 41) (pc' := 45) rfl (hb hby at_41) (by decide) (by decide) ?_
          show OwnS p e below s₁ (mkF m 45 #[iv p0, iv p1, iv p2, iv (p1 &&& (3 : Int32)), iv ((p0 &&& (65535 : Int32)).toUInt32.toUInt16.toUInt32.toInt32), .unset, .unset, .unset] [(.int 1)]) _
          refine XS.istore X0.here hx rfl (hb hby at_45) rfl (l' := #[iv p0, iv p1, iv p2, iv (p1 &&& (3 : Int32)), iv ((p0 &&& (65535 : Int32)).toUInt32.toUInt16.toUInt32.toInt32), iv 1, .unset, .unset]) rfl ?_
          show OwnS p e below s₁ (mkF m 47 #[iv p0, iv p1, iv p2, iv (p1 &&& (3 : Int32)), iv ((p0 &&& (65535 : Int32)).toUInt32.toUInt16.toUInt32.toInt32), iv 1, .unset, .unset] []) _
          refine XS.iload X0.here hx rfl (hb hby at_47) rfl ?_
          show OwnS p e below s₁ (mkF m 49 #[iv p0, iv p1, iv p2, iv (p1 &&& (3 : Int32)), iv ((p0 &&& (65535 : Int32)).toUInt32.toUInt16.toUInt32.toInt32), iv 1, .unset, .unset] [(.int 1)]) _
          refine XS.ifNo X0.here hx rfl (hb hby at_49) rfl ((if0 _ _).trans (feq (by decide : ¬ ((1 : Int32) = (0 : Int32)))).1) ?_
          show OwnS p e below s₁ (mkF m 52 #[iv p0, iv p1, iv p2, iv (p1 &&& (3 : Int32)), iv ((p0 &&& (65535 : Int32)).toUInt32.toUInt16.toUInt32.toInt32), iv 1, .unset, .unset] []) _
          refine st27 _ ?_
          show OwnS p e below T27 (mkF m 55 #[iv p0, iv p1, iv p2, iv (p1 &&& (3 : Int32)), iv ((p0 &&& (65535 : Int32)).toUInt32.toUInt16.toUInt32.toInt32), iv 1, .unset, .unset] [(.ref w_ARFF)]) _
          refine XS.goto X27.here hx rfl (pc0 := 55) (pc' := 61) rfl (hb hby at_55) (by decide) (by decide) ?_
          show OwnS p e below T27 (mkF m 61 #[iv p0, iv p1, iv p2, iv (p1 &&& (3 : Int32)), iv ((p0 &&& (65535 : Int32)).toUInt32.toUInt16.toUInt32.toInt32), iv 1, .unset, .unset] [(.ref w_ARFF)]) _
          refine XS.astore X27.here hx rfl (hb hby at_61) rfl rfl (l' := #[iv p0, iv p1, iv p2, iv (p1 &&& (3 : Int32)), iv ((p0 &&& (65535 : Int32)).toUInt32.toUInt16.toUInt32.toInt32), iv 1, rv w_ARFF, .unset]) rfl ?_
          show OwnS p e below T27 (mkF m 63 #[iv p0, iv p1, iv p2, iv (p1 &&& (3 : Int32)), iv ((p0 &&& (65535 : Int32)).toUInt32.toUInt16.toUInt32.toInt32), iv 1, rv w_ARFF, .unset] []) _
          refine XS.iload X27.here hx rfl (hb hby at_63) rfl ?_
          show OwnS p e below T27 (mkF m 65 #[iv p0, iv p1, iv p2, iv (p1 &&& (3 : Int32)), iv ((p0 &&& (65535 : Int32)).toUInt32.toUInt16.toUInt32.toInt32), iv 1, rv w_ARFF, .unset] [(.int ((p0 &&& (65535 : Int32)).toUInt32.toUInt16.toUInt32.toInt32))]) _
          refine XS.bipush X27.here hx rfl (hb hby at_65) ?_
          exact q
        by_cases hc67_28 : ((p0 &&& (65535 : Int32)).toUInt32.toUInt16.toUInt32.toInt32) = (34 : Int32)
        · obtain ⟨cq30, kq30, q30a, q30b, q30c⟩ := isOf hZ e27 E_w_ARFF
          obtain ⟨_, _, ⟨T30, L30, j30, i30⟩, -, X30, ⟨Lc30, hQ30, l30, y30, z30⟩, st30⟩ := X27.virtualBack hx (y := (⟨cS0, "isQuote", "(C)Z"⟩ : MethodName)) (z := (⟨cS0, "isQuote", "(C)Z"⟩ : MethodName)) hown (mvT hZ (own_at hw 4 rfl)) (mvT hZ (own_at hw 5 rfl)) (notFace_of_selects (args := #[]) (mvT hZ (own_at hw 7 rfl))) (mvT hZ (own_at hw 7 rfl)) (mvT hZ (own_at hw 6 rfl)) (by decide) (backOf (W := 0) (rm1_t l Z a0 hw [] w_ARFF ((p0 &&& (65535 : Int32)).toUInt32.toUInt16.toUInt32.toInt32) h0 n0 Z0 hc67_28) hZ (own_at hw 8 rfl) (own_at hw 2 rfl) (by decide) (by decide)) q30a q30c (g := (mkF m 97 #[iv p0, iv p1, iv p2, iv (p1 &&& (3 : Int32)), iv ((p0 &&& (65535 : Int32)).toUInt32.toUInt16.toUInt32.toInt32), iv 1, rv w_ARFF, iv 1] [(.int ((p0 &&& (65535 : Int32)).toUInt32.toUInt16.toUInt32.toInt32)), (.ref w_ARFF)])) rfl (by rw [hml]; rfl) (Steps.refl _) (argsL := [(.int ((p0 &&& (65535 : Int32)).toUInt32.toUInt16.toUInt32.toInt32))]) (rest := []) (lenOf pd_0 rfl) rfl (by show 2 * 0 + _ ≤ _; exact Nat.le_of_eq rfl) (hb hby at_97) (fun _ _ => ⟨rfl, e27, (by decide : 0 + 0 ≤ _), (by decide : 0 + 0 ≤ _)⟩)
          dsimp only [Pt.U, Pt.locs, Pt.cells, Pt.slots] at X30 l30 y30 z30 st30 hQ30
          subst l30 y30 z30
          obtain ⟨rfl, N30q, e30⟩ := hQ30
          have N30 := Fr.app N0 N30q
          obtain ⟨fs, hr, hrun, hended, hW, hsame⟩ := X30.leave (v := some (.int 1)) (fun h => by rw [Bd.returns] at h; cases h)
          refine ⟨_, _, k29 _ ?_, hrun, hended, _, _, rfl, ?_, ⟨_, rfl⟩, hW, hsame.mono (by decide) (by decide)⟩
          · show OwnS p e below T27 (mkF m 67 #[iv p0, iv p1, iv p2, iv (p1 &&& (3 : Int32)), iv ((p0 &&& (65535 : Int32)).toUInt32.toUInt16.toUInt32.toInt32), iv 1, rv w_ARFF, .unset] [(.int 34), (.int ((p0 &&& (65535 : Int32)).toUInt32.toUInt16.toUInt32.toInt32))]) _
            refine XS.icmpNo X27.here hx rfl (hb hby at_67) rfl (teq hc67_28).2 ?_
            show OwnS p e below T27 (mkF m 70 #[iv p0, iv p1, iv p2, iv (p1 &&& (3 : Int32)), iv ((p0 &&& (65535 : Int32)).toUInt32.toUInt16.toUInt32.toInt32), iv 1, rv w_ARFF, .unset] []) _
            refine XS.iconst X27.here hx rfl (hb hby at_70) ?_
            show OwnS p e below T27 (mkF m 71 #[iv p0, iv p1, iv p2, iv (p1 &&& (3 : Int32)), iv ((p0 &&& (65535 : Int32)).toUInt32.toUInt16.toUInt32.toInt32), iv 1, rv w_ARFF, .unset] [(.int 1)]) _
            refine XS.istore X27.here hx rfl (hb hby at_71) rfl (l' := #[iv p0, iv p1, iv p2, iv (p1 &&& (3 : Int32)), iv ((p0 &&& (65535 : Int32)).toUInt32.toUInt16.toUInt32.toInt32), iv 1, rv w_ARFF, iv 1]) rfl ?_
            show OwnS p e below T27 (mkF m 73 #[iv p0, iv p1, iv p2, iv (p1 &&& (3 : Int32)), iv ((p0 &&& (65535 : Int32)).toUInt32.toUInt16.toUInt32.toInt32), iv 1, rv w_ARFF, iv 1] []) _
            refine XS.goto X27.here hx rfl (pc0 := 73) (pc' := 93) rfl (hb hby at_73) (by decide) (by decide) ?_
            show OwnS p e below T27 (mkF m 93 #[iv p0, iv p1, iv p2, iv (p1 &&& (3 : Int32)), iv ((p0 &&& (65535 : Int32)).toUInt32.toUInt16.toUInt32.toInt32), iv 1, rv w_ARFF, iv 1] []) _
            refine XS.aload X27.here hx rfl (hb hby at_93) rfl rfl ?_
            show OwnS p e below T27 (mkF m 95 #[iv p0, iv p1, iv p2, iv (p1 &&& (3 : Int32)), iv ((p0 &&& (65535 : Int32)).toUInt32.toUInt16.toUInt32.toInt32), iv 1, rv w_ARFF, iv 1] [(.ref w_ARFF)]) _
            refine XS.iload X27.here hx rfl (hb hby at_95) rfl ?_
            show OwnS p e below T27 (mkF m 97 #[iv p0, iv p1, iv p2, iv (p1 &&& (3 : Int32)), iv ((p0 &&& (65535 : Int32)).toUInt32.toUInt16.toUInt32.toInt32), iv 1, rv w_ARFF, iv 1] [(.int ((p0 &&& (65535 : Int32)).toUInt32.toUInt16.toUInt32.toInt32)), (.ref w_ARFF)]) _
            refine st30.trans ?_
            show OwnS p e below T30 (mkF m 100 #[iv p0, iv p1, iv p2, iv (p1 &&& (3 : Int32)), iv ((p0 &&& (65535 : Int32)).toUInt32.toUInt16.toUInt32.toInt32), iv 1, rv w_ARFF, iv 1] [(.int 1)]) _
            refine XS.iload X30.here hx rfl (hb hby at_100) rfl ?_
            show OwnS p e below T30 (mkF m 102 #[iv p0, iv p1, iv p2, iv (p1 &&& (3 : Int32)), iv ((p0 &&& (65535 : Int32)).toUInt32.toUInt16.toUInt32.toInt32), iv 1, rv w_ARFF, iv 1] [(.int 1), (.int 1)]) _
            refine XS.icmpNo X30.here hx rfl (hb hby at_102) rfl (teq (by decide : (1 : Int32) = (1 : Int32))).2 ?_
            show OwnS p e below T30 (mkF m 105 #[iv p0, iv p1, iv p2, iv (p1 &&& (3 : Int32)), iv ((p0 &&& (65535 : Int32)).toUInt32.toUInt16.toUInt32.toInt32), iv 1, rv w_ARFF, iv 1] []) _
            refine XS.iconst X30.here hx rfl (hb hby at_105) ?_
            show OwnS p e below T30 (mkF m 106 #[iv p0, iv p1, iv p2, iv (p1 &&& (3 : Int32)), iv ((p0 &&& (65535 : Int32)).toUInt32.toUInt16.toUInt32.toInt32), iv 1, rv w_ARFF, iv 1] [(.int 1)]) _
            refine XS.goto X30.here hx rfl (pc0 := 106) (pc' := 110) rfl (hb hby at_106) (by decide) (by decide) ?_
            show OwnS p e below T30 (mkF m 110 #[iv p0, iv p1, iv p2, iv (p1 &&& (3 : Int32)), iv ((p0 &&& (65535 : Int32)).toUInt32.toUInt16.toUInt32.toInt32), iv 1, rv w_ARFF, iv 1] [(.int 1)]) _
            exact retN X30 hx (t := .boolean) Bd.returns (by simp) (hb hby at_110) hr
          · show Q_0 Z p0 p1 p2 w_ARFF w_CSV h0 n0 _ T30.heap _
            rw [e30]
            exact ⟨rfl, N30, trivial⟩
        · have k32 : ∀ t, OwnS p e below T27 (mkF m 80 #[iv p0, iv p1, iv p2, iv (p1 &&& (3 : Int32)), iv ((p0 &&& (65535 : Int32)).toUInt32.toUInt16.toUInt32.toInt32), iv 1, rv w_ARFF, .unset] [(.int 39), (.int ((p0 &&& (65535 : Int32)).toUInt32.toUInt16.toUInt32.toInt32))]) t → OwnS p e below s₁ (entryFrame m #[(.int p0), (.int p1), (.int p2)] maxLocals) t := fun t q => by
            refine k29 t ?_
            show OwnS p e below T27 (mkF m 67 #[iv p0, iv p1, iv p2, iv (p1 &&& (3 : Int32)), iv ((p0 &&& (65535 : Int32)).toUInt32.toUInt16.toUInt32.toInt32), iv 1, rv w_ARFF, .unset] [(.int 34), (.int ((p0 &&& (65535 : Int32)).toUInt32.toUInt16.toUInt32.toInt32))]) _
            refine XS.icmpYes X27.here hx rfl (pc0 := 67) (pc' := 76) rfl (hb hby at_67) rfl (feq hc67_28).2 (by decide) (by decide) ?_
            show OwnS p e below T27 (mkF m 76 #[iv p0, iv p1, iv p2, iv (p1 &&& (3 : Int32)), iv ((p0 &&& (65535 : Int32)).toUInt32.toUInt16.toUInt32.toInt32), iv 1, rv w_ARFF, .unset] []) _
            refine XS.iload X27.here hx rfl (hb hby at_76) rfl ?_
            show OwnS p e below T27 (mkF m 78 #[iv p0, iv p1, iv p2, iv (p1 &&& (3 : Int32)), iv ((p0 &&& (65535 : Int32)).toUInt32.toUInt16.toUInt32.toInt32), iv 1, rv w_ARFF, .unset] [(.int ((p0 &&& (65535 : Int32)).toUInt32.toUInt16.toUInt32.toInt32))]) _
            refine XS.bipush X27.here hx rfl (hb hby at_78) ?_
            exact q
          by_cases hc80_31 : ((p0 &&& (65535 : Int32)).toUInt32.toUInt16.toUInt32.toInt32) = (39 : Int32)
          · obtain ⟨cq33, kq33, q33a, q33b, q33c⟩ := isOf hZ e27 E_w_ARFF
            obtain ⟨_, _, ⟨T33, L33, j33, i33⟩, -, X33, ⟨Lc33, hQ33, l33, y33, z33⟩, st33⟩ := X27.virtualBack hx (y := (⟨cS0, "isQuote", "(C)Z"⟩ : MethodName)) (z := (⟨cS0, "isQuote", "(C)Z"⟩ : MethodName)) hown (mvT hZ (own_at hw 4 rfl)) (mvT hZ (own_at hw 5 rfl)) (notFace_of_selects (args := #[]) (mvT hZ (own_at hw 7 rfl))) (mvT hZ (own_at hw 7 rfl)) (mvT hZ (own_at hw 6 rfl)) (by decide) (backOf (W := 0) (rm1_aff l Z a0 hw [] w_ARFF ((p0 &&& (65535 : Int32)).toUInt32.toUInt16.toUInt32.toInt32) h0 n0 Z0 S_ARFF hc67_28 hc80_31) hZ (own_at hw 8 rfl) (own_at hw 2 rfl) (by decide) (by decide)) q33a q33c (g := (mkF m 97 #[iv p0, iv p1, iv p2, iv (p1 &&& (3 : Int32)), iv ((p0 &&& (65535 : Int32)).toUInt32.toUInt16.toUInt32.toInt32), iv 1, rv w_ARFF, iv 1] [(.int ((p0 &&& (65535 : Int32)).toUInt32.toUInt16.toUInt32.toInt32)), (.ref w_ARFF)])) rfl (by rw [hml]; rfl) (Steps.refl _) (argsL := [(.int ((p0 &&& (65535 : Int32)).toUInt32.toUInt16.toUInt32.toInt32))]) (rest := []) (lenOf pd_0 rfl) rfl (by show 2 * 0 + _ ≤ _; exact Nat.le_of_eq rfl) (hb hby at_97) (fun _ _ => ⟨rfl, e27, (by decide : 0 + 0 ≤ _), (by decide : 0 + 0 ≤ _)⟩)
            dsimp only [Pt.U, Pt.locs, Pt.cells, Pt.slots] at X33 l33 y33 z33 st33 hQ33
            subst l33 y33 z33
            obtain ⟨rfl, N33q, e33⟩ := hQ33
            have N33 := Fr.app N0 N33q
            obtain ⟨fs, hr, hrun, hended, hW, hsame⟩ := X33.leave (v := some (.int 1)) (fun h => by rw [Bd.returns] at h; cases h)
            refine ⟨_, _, k32 _ ?_, hrun, hended, _, _, rfl, ?_, ⟨_, rfl⟩, hW, hsame.mono (by decide) (by decide)⟩
            · show OwnS p e below T27 (mkF m 80 #[iv p0, iv p1, iv p2, iv (p1 &&& (3 : Int32)), iv ((p0 &&& (65535 : Int32)).toUInt32.toUInt16.toUInt32.toInt32), iv 1, rv w_ARFF, .unset] [(.int 39), (.int ((p0 &&& (65535 : Int32)).toUInt32.toUInt16.toUInt32.toInt32))]) _
              refine XS.icmpNo X27.here hx rfl (hb hby at_80) rfl (teq hc80_31).2 ?_
              show OwnS p e below T27 (mkF m 83 #[iv p0, iv p1, iv p2, iv (p1 &&& (3 : Int32)), iv ((p0 &&& (65535 : Int32)).toUInt32.toUInt16.toUInt32.toInt32), iv 1, rv w_ARFF, .unset] []) _
              refine XS.iload X27.here hx rfl (hb hby at_83) rfl ?_
              show OwnS p e below T27 (mkF m 85 #[iv p0, iv p1, iv p2, iv (p1 &&& (3 : Int32)), iv ((p0 &&& (65535 : Int32)).toUInt32.toUInt16.toUInt32.toInt32), iv 1, rv w_ARFF, .unset] [(.int 1)]) _
              refine XS.istore X27.here hx rfl (hb hby at_85) rfl (l' := #[iv p0, iv p1, iv p2, iv (p1 &&& (3 : Int32)), iv ((p0 &&& (65535 : Int32)).toUInt32.toUInt16.toUInt32.toInt32), iv 1, rv w_ARFF, iv 1]) rfl ?_
              show OwnS p e below T27 (mkF m 87 #[iv p0, iv p1, iv p2, iv (p1 &&& (3 : Int32)), iv ((p0 &&& (65535 : Int32)).toUInt32.toUInt16.toUInt32.toInt32), iv 1, rv w_ARFF, iv 1] []) _
              refine XS.goto X27.here hx rfl (pc0 := 87) (pc' := 93) rfl (hb hby at_87) (by decide) (by decide) ?_
              show OwnS p e below T27 (mkF m 93 #[iv p0, iv p1, iv p2, iv (p1 &&& (3 : Int32)), iv ((p0 &&& (65535 : Int32)).toUInt32.toUInt16.toUInt32.toInt32), iv 1, rv w_ARFF, iv 1] []) _
              refine XS.aload X27.here hx rfl (hb hby at_93) rfl rfl ?_
              show OwnS p e below T27 (mkF m 95 #[iv p0, iv p1, iv p2, iv (p1 &&& (3 : Int32)), iv ((p0 &&& (65535 : Int32)).toUInt32.toUInt16.toUInt32.toInt32), iv 1, rv w_ARFF, iv 1] [(.ref w_ARFF)]) _
              refine XS.iload X27.here hx rfl (hb hby at_95) rfl ?_
              show OwnS p e below T27 (mkF m 97 #[iv p0, iv p1, iv p2, iv (p1 &&& (3 : Int32)), iv ((p0 &&& (65535 : Int32)).toUInt32.toUInt16.toUInt32.toInt32), iv 1, rv w_ARFF, iv 1] [(.int ((p0 &&& (65535 : Int32)).toUInt32.toUInt16.toUInt32.toInt32)), (.ref w_ARFF)]) _
              refine st33.trans ?_
              show OwnS p e below T33 (mkF m 100 #[iv p0, iv p1, iv p2, iv (p1 &&& (3 : Int32)), iv ((p0 &&& (65535 : Int32)).toUInt32.toUInt16.toUInt32.toInt32), iv 1, rv w_ARFF, iv 1] [(.int 1)]) _
              refine XS.iload X33.here hx rfl (hb hby at_100) rfl ?_
              show OwnS p e below T33 (mkF m 102 #[iv p0, iv p1, iv p2, iv (p1 &&& (3 : Int32)), iv ((p0 &&& (65535 : Int32)).toUInt32.toUInt16.toUInt32.toInt32), iv 1, rv w_ARFF, iv 1] [(.int 1), (.int 1)]) _
              refine XS.icmpNo X33.here hx rfl (hb hby at_102) rfl (teq (by decide : (1 : Int32) = (1 : Int32))).2 ?_
              show OwnS p e below T33 (mkF m 105 #[iv p0, iv p1, iv p2, iv (p1 &&& (3 : Int32)), iv ((p0 &&& (65535 : Int32)).toUInt32.toUInt16.toUInt32.toInt32), iv 1, rv w_ARFF, iv 1] []) _
              refine XS.iconst X33.here hx rfl (hb hby at_105) ?_
              show OwnS p e below T33 (mkF m 106 #[iv p0, iv p1, iv p2, iv (p1 &&& (3 : Int32)), iv ((p0 &&& (65535 : Int32)).toUInt32.toUInt16.toUInt32.toInt32), iv 1, rv w_ARFF, iv 1] [(.int 1)]) _
              refine XS.goto X33.here hx rfl (pc0 := 106) (pc' := 110) rfl (hb hby at_106) (by decide) (by decide) ?_
              show OwnS p e below T33 (mkF m 110 #[iv p0, iv p1, iv p2, iv (p1 &&& (3 : Int32)), iv ((p0 &&& (65535 : Int32)).toUInt32.toUInt16.toUInt32.toInt32), iv 1, rv w_ARFF, iv 1] [(.int 1)]) _
              exact retN X33 hx (t := .boolean) Bd.returns (by simp) (hb hby at_110) hr
            · show Q_0 Z p0 p1 p2 w_ARFF w_CSV h0 n0 _ T33.heap _
              rw [e33]
              exact ⟨rfl, N33, trivial⟩
          · obtain ⟨cq34, kq34, q34a, q34b, q34c⟩ := isOf hZ e27 E_w_ARFF
            obtain ⟨_, _, ⟨T34, L34, j34, i34⟩, -, X34, ⟨Lc34, hQ34, l34, y34, z34⟩, st34⟩ := X27.virtualBack hx (y := (⟨cS0, "isQuote", "(C)Z"⟩ : MethodName)) (z := (⟨cS0, "isQuote", "(C)Z"⟩ : MethodName)) hown (mvT hZ (own_at hw 4 rfl)) (mvT hZ (own_at hw 5 rfl)) (notFace_of_selects (args := #[]) (mvT hZ (own_at hw 7 rfl))) (mvT hZ (own_at hw 7 rfl)) (mvT hZ (own_at hw 6 rfl)) (by decide) (backOf (W := 0) (rm1_aft l Z a0 hw [] w_ARFF ((p0 &&& (65535 : Int32)).toUInt32.toUInt16.toUInt32.toInt32) h0 n0 Z0 S_ARFF hc67_28 hc80_31) hZ (own_at hw 8 rfl) (own_at hw 2 rfl) (by decide) (by decide)) q34a q34c (g := (mkF m 97 #[iv p0, iv p1, iv p2, iv (p1 &&& (3 : Int32)), iv ((p0 &&& (65535 : Int32)).toUInt32.toUInt16.toUInt32.toInt32), iv 1, rv w_ARFF, iv 0] [(.int ((p0 &&& (65535 : Int32)).toUInt32.toUInt16.toUInt32.toInt32)), (.ref w_ARFF)])) rfl (by rw [hml]; rfl) (Steps.refl _) (argsL := [(.int ((p0 &&& (65535 : Int32)).toUInt32.toUInt16.toUInt32.toInt32))]) (rest := []) (lenOf pd_0 rfl) rfl (by show 2 * 0 + _ ≤ _; exact Nat.le_of_eq rfl) (hb hby at_97) (fun _ _ => ⟨rfl, e27, (by decide : 0 + 0 ≤ _), (by decide : 0 + 0 ≤ _)⟩)
            dsimp only [Pt.U, Pt.locs, Pt.cells, Pt.slots] at X34 l34 y34 z34 st34 hQ34
            subst l34 y34 z34
            obtain ⟨rfl, N34q, e34⟩ := hQ34
            have N34 := Fr.app N0 N34q
            obtain ⟨fs, hr, hrun, hended, hW, hsame⟩ := X34.leave (v := some (.int 1)) (fun h => by rw [Bd.returns] at h; cases h)
            refine ⟨_, _, k32 _ ?_, hrun, hended, _, _, rfl, ?_, ⟨_, rfl⟩, hW, hsame.mono (by decide) (by decide)⟩
            · show OwnS p e below T27 (mkF m 80 #[iv p0, iv p1, iv p2, iv (p1 &&& (3 : Int32)), iv ((p0 &&& (65535 : Int32)).toUInt32.toUInt16.toUInt32.toInt32), iv 1, rv w_ARFF, .unset] [(.int 39), (.int ((p0 &&& (65535 : Int32)).toUInt32.toUInt16.toUInt32.toInt32))]) _
              refine XS.icmpYes X27.here hx rfl (pc0 := 80) (pc' := 90) rfl (hb hby at_80) rfl (feq hc80_31).2 (by decide) (by decide) ?_
              show OwnS p e below T27 (mkF m 90 #[iv p0, iv p1, iv p2, iv (p1 &&& (3 : Int32)), iv ((p0 &&& (65535 : Int32)).toUInt32.toUInt16.toUInt32.toInt32), iv 1, rv w_ARFF, .unset] []) _
              refine XS.iconst X27.here hx rfl (hb hby at_90) ?_
              show OwnS p e below T27 (mkF m 91 #[iv p0, iv p1, iv p2, iv (p1 &&& (3 : Int32)), iv ((p0 &&& (65535 : Int32)).toUInt32.toUInt16.toUInt32.toInt32), iv 1, rv w_ARFF, .unset] [(.int 0)]) _
              refine XS.istore X27.here hx rfl (hb hby at_91) rfl (l' := #[iv p0, iv p1, iv p2, iv (p1 &&& (3 : Int32)), iv ((p0 &&& (65535 : Int32)).toUInt32.toUInt16.toUInt32.toInt32), iv 1, rv w_ARFF, iv 0]) rfl ?_
              show OwnS p e below T27 (mkF m 93 #[iv p0, iv p1, iv p2, iv (p1 &&& (3 : Int32)), iv ((p0 &&& (65535 : Int32)).toUInt32.toUInt16.toUInt32.toInt32), iv 1, rv w_ARFF, iv 0] []) _
              refine XS.aload X27.here hx rfl (hb hby at_93) rfl rfl ?_
              show OwnS p e below T27 (mkF m 95 #[iv p0, iv p1, iv p2, iv (p1 &&& (3 : Int32)), iv ((p0 &&& (65535 : Int32)).toUInt32.toUInt16.toUInt32.toInt32), iv 1, rv w_ARFF, iv 0] [(.ref w_ARFF)]) _
              refine XS.iload X27.here hx rfl (hb hby at_95) rfl ?_
              show OwnS p e below T27 (mkF m 97 #[iv p0, iv p1, iv p2, iv (p1 &&& (3 : Int32)), iv ((p0 &&& (65535 : Int32)).toUInt32.toUInt16.toUInt32.toInt32), iv 1, rv w_ARFF, iv 0] [(.int ((p0 &&& (65535 : Int32)).toUInt32.toUInt16.toUInt32.toInt32)), (.ref w_ARFF)]) _
              refine st34.trans ?_
              show OwnS p e below T34 (mkF m 100 #[iv p0, iv p1, iv p2, iv (p1 &&& (3 : Int32)), iv ((p0 &&& (65535 : Int32)).toUInt32.toUInt16.toUInt32.toInt32), iv 1, rv w_ARFF, iv 0] [(.int 0)]) _
              refine XS.iload X34.here hx rfl (hb hby at_100) rfl ?_
              show OwnS p e below T34 (mkF m 102 #[iv p0, iv p1, iv p2, iv (p1 &&& (3 : Int32)), iv ((p0 &&& (65535 : Int32)).toUInt32.toUInt16.toUInt32.toInt32), iv 1, rv w_ARFF, iv 0] [(.int 0), (.int 0)]) _
              refine XS.icmpNo X34.here hx rfl (hb hby at_102) rfl (teq (by decide : (0 : Int32) = (0 : Int32))).2 ?_
              show OwnS p e below T34 (mkF m 105 #[iv p0, iv p1, iv p2, iv (p1 &&& (3 : Int32)), iv ((p0 &&& (65535 : Int32)).toUInt32.toUInt16.toUInt32.toInt32), iv 1, rv w_ARFF, iv 0] []) _
              refine XS.iconst X34.here hx rfl (hb hby at_105) ?_
              show OwnS p e below T34 (mkF m 106 #[iv p0, iv p1, iv p2, iv (p1 &&& (3 : Int32)), iv ((p0 &&& (65535 : Int32)).toUInt32.toUInt16.toUInt32.toInt32), iv 1, rv w_ARFF, iv 0] [(.int 1)]) _
              refine XS.goto X34.here hx rfl (pc0 := 106) (pc' := 110) rfl (hb hby at_106) (by decide) (by decide) ?_
              show OwnS p e below T34 (mkF m 110 #[iv p0, iv p1, iv p2, iv (p1 &&& (3 : Int32)), iv ((p0 &&& (65535 : Int32)).toUInt32.toUInt16.toUInt32.toInt32), iv 1, rv w_ARFF, iv 0] [(.int 1)]) _
              exact retN X34 hx (t := .boolean) Bd.returns (by simp) (hb hby at_110) hr
            · show Q_0 Z p0 p1 p2 w_ARFF w_CSV h0 n0 _ T34.heap _
              rw [e34]
              exact ⟨rfl, N34, trivial⟩
set_option maxRecDepth 65536 in
set_option maxHeartbeats 40000000 in
theorem comes_1 {Post : Tables → Env → Array Value → State → Outcome → State → Prop} (hpost : ∀ tb e args s v u, (limb_1_1.after args s (.returned v) u = true ∧ limb_1_2.after args s (.returned v) u = true ∧ True) → FrameEnd s (.returned v) u (Jvm.fieldLocs frame_1_writes args s ++ Jvm.arrayLocs frame_1_arrays args s ++ Jvm.staticLocs frame_1_statics s) 0 0 → Post tb e args s (.returned v) u) :
    ArmFor flags0 classFile x code maxLocals ret World_1 tables_1 room_1 Calls_1 rest_1 Pre_1 Post := by
  intro l hfl _ _ p e ha hc hk s m args below hf hA hF happ hP
  obtain ⟨hcalls, hrest, hpre⟩ := hP
  obtain ⟨-, -, -, hnamed, -, -, -, hat⟩ := (Spec.applies_iff hf).mp happ
  obtain ⟨hg, hn⟩ := and_e (Cond.before_iff.mp (show (Jvm.Cond.and given_1 narrow_1).before args s = true from hpre))
  have hw := fun d (hd : d ∈ tables_1) => atoms_spec (ws := Jvm.Cond.code x code maxLocals ret :: tables_1) hat d (List.mem_cons_of_mem _ hd)
  have hfit : Fit s := fun {y c} hc i hi => by
    obtain ⟨ha, rfl⟩ := Array.getElem?_eq_some_iff.mp hc
    have q := List.all_eq_true.mp ((Array.all_eq_true_iff_forall_mem.mp hF) _ (Array.getElem_mem ha)) i (List.mem_range.mpr hi)
    simpa [Array.getElem?_eq_getElem hi] using q
  obtain ⟨cj1, cj2⟩ := and_e hg
  obtain ⟨cj3, cj4⟩ := and_e cj2
  obtain ⟨cj5, cj6⟩ := and_e cj4
  obtain ⟨cj7, cj8⟩ := and_e hn
  obtain ⟨cj9, cj10⟩ := and_e cj8
  obtain ⟨cj11, cj12⟩ := and_e cj10
  obtain ⟨w0, w1, w2, rfl⟩ : ∃ w0 w1 w2 : Value, args = #[w0, w1, w2] := by
    have hs : args.size = 3 := by simpa [Cond.value, given_1] using cj1
    obtain ⟨L⟩ := args
    match L, hs with
    | [w0, w1, w2], _ => exact ⟨w0, w1, w2, rfl⟩
  obtain ⟨i0, ei0⟩ := is_v cj3
  obtain rfl : w0 = (.int i0) := Option.some.inj ei0
  obtain ⟨i1, ei1⟩ := is_v cj5
  obtain rfl : w1 = (.int i1) := Option.some.inj ei1
  obtain ⟨i2, ei2⟩ := is_v cj6
  obtain rfl : w2 = (.int i2) := Option.some.inj ei2
  obtain ⟨w_CSV, ev_CSV⟩ := exa_v cj7
  have S_CSV : Sta s s.heap cS0 "CSV" "Lcom/example/driftline/driftline/core/FileFormat;" (.ref w_CSV) := Sta.start ev_CSV (Or.inr ⟨(own_at hw 2 rfl), (own_at hw 3 rfl)⟩)
  have E_w_CSV : Exa s s.heap w_CSV cS0 := Exa.start ev_CSV cj7
  obtain ⟨w_ARFF, ev_ARFF⟩ := exa_v cj9
  have S_ARFF : Sta s s.heap cS0 "ARFF" "Lcom/example/driftline/driftline/core/FileFormat;" (.ref w_ARFF) := Sta.start ev_ARFF (Or.inr ⟨(own_at hw 2 rfl), (own_at hw 10 rfl)⟩)
  have E_w_ARFF : Exa s s.heap w_ARFF cS0 := Exa.start ev_ARFF cj9
  have F_ordinal_w_CSV : Fld s s.heap w_CSV "java/lang/Enum" "ordinal" "I" (.int (1 : Int32)) := Fld.start ((fld_at ev_CSV).symm.trans (own_eq_int cj11))
  have F_ordinal_w_ARFF : Fld s s.heap w_ARFF "java/lang/Enum" "ordinal" "I" (.int (0 : Int32)) := Fld.start ((fld_at ev_ARFF).symm.trans (own_eq_int cj12))
  obtain ⟨n, o, h1, h2, h3, _, L, rfl, ⟨rfl, N, -⟩, hq⟩ := rm0 l s _ hw tables_1 i0 i1 i2 w_ARFF w_CSV s.heap s.heap.size (Nat.le_refl _) S_ARFF S_CSV E_w_ARFF E_w_CSV (Fld.ne F_ordinal_w_CSV F_ordinal_w_ARFF (by decide)) p e ha hc hk s m _ below hf ((Spec.applies_iff_loose hf).mp happ).1 ⟨rfl, State.Warmed39.refl s, rfl⟩ trivial
  refine ⟨n, _, h1, h2, h3, hpost _ _ _ _ _ _ ⟨Cond.after_iff.mpr rfl, Cond.after_iff.mpr (eq_i res_at (Term.int_eval (1)) rfl), trivial⟩ ⟨hq.1, hq.2.1, (hq.2.2.sift fun y hy => Or.inr (N y hy)).mono (by decide) (by decide)⟩⟩
theorem main_1_1 : Claimed_1_1 := comes_1 fun _ _ _ _ _ _ h hF => ⟨h.1, hF⟩
theorem main_1_2 : Claimed_1_2 := comes_1 fun _ _ _ _ _ _ h hF => ⟨h.2.1, hF⟩
end Jvm.Pilot.@@N@@
namespace Jvm.Pilot.@@N@@
open Jvm Jvm.ClassFile Sem Op Lib Jvm.Free Jvm.Stand Jvm.Pilot.@@N@@.Jvm.D
/-! MADE BY PROGRAM (witnessworld.py) out of the Statement's table words and the real class files: 10 classes; the members and pool entries that the words name. The judged class is class 1, her method 1. -/
namespace start1
open Jvm.ClassFile
def u (s : String) : CpInfo := .utf8 (stringToUtf16 s)
/-- a pool by its gaps: so many unusable entries, then the entry; so many at the end -/
def gap : Nat → List CpInfo → List CpInfo
  | 0, r => r
  | n + 1, r => .unusable :: gap n r
def poolList (es : List (Nat × CpInfo)) (last : Nat) : List CpInfo := es.foldr (fun e r => gap e.1 (e.2 :: r)) (gap last [])
def pool (es : List (Nat × CpInfo)) (last : Nat) : Array CpInfo := ⟨poolList es last⟩
def fileOf (pool : Array CpInfo) (this : Nat) (attrs : Array Attribute := #[]) (ms : Array MethodInfo := #[]) (fl : Nat := 33) (sup : Nat := 0) (ifs : Array Nat := #[]) (fds : Array FieldInfo := #[]) : ClassFile where
  minorVersion := 0
  majorVersion := 65
  constantPool := pool
  accessFlags := fl
  thisClass := this
  superClass := sup
  interfaces := ifs
  fields := fds
  methods := ms
  attributes := attrs
def plain (name : String) (sup : Option ClassId) : Class where
  name := name
  kind := .ordinary
  loader := none
  accessFlags := 33
  super := sup
  interfaces := #[]
  cf := none
  fields := #[]
  methods := #[]
  instanceTypes := #[]
  staticTypes := #[]
  resolved := #[]
  callSites := []
  init := .initialized
  statics := none
  mirror := none

def pool0 : Array CpInfo := pool [(5, u "<init>"), (0, u "()V"), (1, .class_ 10), (1, u "java/lang/Object")] 113

def k0m0 : Method := { name := "<init>", desc := "()V", sig := { parameters := [], returnType := none }, accessFlags := 1, code := none }
/-- java/lang/Object -/
def k0 : Class := { plain "java/lang/Object" none with
  accessFlags := 33
  interfaces := #[]
  cf := some (fileOf pool0 8 #[] #[{ accessFlags := 1, nameIndex := 5, descriptorIndex := 6, attributes := #[] }] 33 0 #[] #[])
  fields := #[]
  methods := #[k0m0]
  instanceTypes := #[]
  staticTypes := #[]
  resolved := Array.replicate 124 none
  statics := none }

def pool1 : Array CpInfo := pool [(2, .class_ 4), (1, u "java/lang/Object"), (0, u "<init>"), (0, u "()V"), (0, .integer 65535), (0, .fieldref 9 10), (0, .class_ 11), (0, .nameAndType 12 13), (0, u "com/example/driftline/driftline/core/FileFormat"), (0, u "ARFF"), (0, u "Lcom/example/driftline/driftline/core/FileFormat;"), (0, .fieldref 9 15), (0, .nameAndType 16 13), (0, u "CSV"), (0, .methodref 9 18), (0, .nameAndType 19 20), (0, u "isQuote"), (0, u "(C)Z"), (0, .class_ 22), (0, u "com/example/driftline/driftline/core/FileFormatIsQuotePinLaw"), (2, u "law"), (0, u "(III)Z")] 3

def k1m0 : Method := { name := "<init>", desc := "()V", sig := { parameters := [], returnType := none }, accessFlags := 2, code := none }
def k1c1 : Code := { maxStack := 2, maxLocals := 8, code := code, exceptionTable := #[], attributes := #[] }
def k1m1 : Method := { name := "law", desc := "(III)Z", sig := { parameters := [.int, .int, .int], returnType := some .boolean }, accessFlags := 9, code := some k1c1 }
/-- com/example/driftline/driftline/core/FileFormatIsQuotePinLaw -/
def k1 : Class := { plain "com/example/driftline/driftline/core/FileFormatIsQuotePinLaw" (some 0) with
  accessFlags := 49
  interfaces := #[]
  cf := some (fileOf pool1 21 #[] #[{ accessFlags := 2, nameIndex := 5, descriptorIndex := 6, attributes := #[] }, { accessFlags := 9, nameIndex := 25, descriptorIndex := 26, attributes := #[] }] 49 2 #[] #[])
  fields := #[]
  methods := #[k1m0, k1m1]
  instanceTypes := #[]
  staticTypes := #[]
  resolved := Array.replicate 30 none
  statics := none }

def pool2 : Array CpInfo := pool [(1, .class_ 2), (0, u "java/lang/constant/Constable"), (0, .class_ 4), (0, u "java/lang/Object")] 6

/-- java/lang/constant/Constable -/
def k2 : Class := { plain "java/lang/constant/Constable" (some 0) with
  accessFlags := 1537
  interfaces := #[]
  cf := some (fileOf pool2 1 #[] #[] 1537 3 #[] #[])
  fields := #[]
  methods := #[]
  instanceTypes := #[]
  staticTypes := #[]
  resolved := Array.replicate 11 none
  statics := none }

def pool3 : Array CpInfo := pool [(1, .class_ 2), (0, u "java/lang/Comparable"), (0, .class_ 4), (0, u "java/lang/Object")] 7

/-- java/lang/Comparable -/
def k3 : Class := { plain "java/lang/Comparable" (some 0) with
  accessFlags := 1537
  interfaces := #[]
  cf := some (fileOf pool3 1 #[] #[] 1537 3 #[] #[])
  fields := #[]
  methods := #[]
  instanceTypes := #[]
  staticTypes := #[]
  resolved := Array.replicate 12 none
  statics := none }

def pool4 : Array CpInfo := pool [(1, .class_ 2), (0, u "java/io/Serializable"), (0, .class_ 4), (0, u "java/lang/Object")] 2

/-- java/io/Serializable -/
def k4 : Class := { plain "java/io/Serializable" (some 0) with
  accessFlags := 1537
  interfaces := #[]
  cf := some (fileOf pool4 1 #[] #[] 1537 3 #[] #[])
  fields := #[]
  methods := #[]
  instanceTypes := #[]
  staticTypes := #[]
  resolved := Array.replicate 7 none
  statics := none }

def pool5 : Array CpInfo := pool [(2, .class_ 4), (1, u "java/lang/Enum"), (0, u "name"), (0, u "Ljava/lang/String;"), (2, u "ordinal"), (0, u "I"), (1, .class_ 14), (1, u "java/lang/Object"), (4, u "hash"), (86, .class_ 108), (1, u "java/lang/Enum$EnumDesc"), (2, .class_ 112), (0, u "java/lang/constant/Constable"), (0, .class_ 114), (0, u "java/lang/Comparable"), (0, .class_ 116), (0, u "java/io/Serializable")] 87

/-- java/lang/Enum -/
def k5 : Class := { plain "java/lang/Enum" (some 0) with
  accessFlags := 1057
  interfaces := #[2, 3, 4]
  cf := some (fileOf pool5 2 #[.nestMembers #[106]] #[] 1057 12 #[111, 113, 115] #[{ accessFlags := 18, nameIndex := 5, descriptorIndex := 6, attributes := #[] }, { accessFlags := 18, nameIndex := 9, descriptorIndex := 10, attributes := #[] }, { accessFlags := 2, nameIndex := 19, descriptorIndex := 10, attributes := #[] }])
  fields := #[{ name := "name", type := (.object "java/lang/String"), accessFlags := 18, slot := 0, constantValue := 0 }, { name := "ordinal", type := .int, accessFlags := 18, slot := 1, constantValue := 0 }, { name := "hash", type := .int, accessFlags := 2, slot := 2, constantValue := 0 }]
  methods := #[]
  instanceTypes := #[(.object "java/lang/String"), .int, .int]
  staticTypes := #[]
  resolved := Array.replicate 204 none
  statics := none }

def pool6 : Array CpInfo := pool [(1, .class_ 2), (0, u "com/example/driftline/driftline/core/FileFormat"), (0, .fieldref 1 4), (0, .nameAndType 5 6), (0, u "ARFF"), (0, u "Lcom/example/driftline/driftline/core/FileFormat;"), (2, u "CSV"), (2, u "$VALUES"), (0, u "[Lcom/example/driftline/driftline/core/FileFormat;"), (6, .class_ 22), (1, u "java/lang/Enum"), (94, u "isQuote"), (0, u "(C)Z")] 123

def k6c0 : Code := { maxStack := 2, maxLocals := 2, code := prog_6_method_10_code, exceptionTable := #[], attributes := #[] }
def k6m0 : Method := { name := "isQuote", desc := "(C)Z", sig := { parameters := [.char], returnType := some .boolean }, accessFlags := 0, code := some k6c0 }
/-- com/example/driftline/driftline/core/FileFormat -/
def k6 : Class := { plain "com/example/driftline/driftline/core/FileFormat" (some 5) with
  accessFlags := 16433
  interfaces := #[]
  cf := some (fileOf pool6 1 #[] #[{ accessFlags := 0, nameIndex := 117, descriptorIndex := 118, attributes := #[] }] 16433 20 #[] #[{ accessFlags := 16409, nameIndex := 5, descriptorIndex := 6, attributes := #[] }, { accessFlags := 16409, nameIndex := 9, descriptorIndex := 6, attributes := #[] }, { accessFlags := 4122, nameIndex := 12, descriptorIndex := 13, attributes := #[] }])
  fields := #[{ name := "ARFF", type := (.object "com/example/driftline/driftline/core/FileFormat"), accessFlags := 16409, slot := 0, constantValue := 0 }, { name := "CSV", type := (.object "com/example/driftline/driftline/core/FileFormat"), accessFlags := 16409, slot := 1, constantValue := 0 }, { name := "$VALUES", type := (.array (.object "com/example/driftline/driftline/core/FileFormat")), accessFlags := 4122, slot := 2, constantValue := 0 }]
  methods := #[k6m0]
  instanceTypes := #[(.object "java/lang/String"), .int, .int]
  staticTypes := #[(.object "com/example/driftline/driftline/core/FileFormat"), (.object "com/example/driftline/driftline/core/FileFormat"), (.array (.object "com/example/driftline/driftline/core/FileFormat"))]
  resolved := Array.replicate 242 none
  statics := some 0 }

def pool7 : Array CpInfo := pool [(1, u "java/lang/Cloneable"), (0, .class_ 1), (0, u "java/lang/Object"), (0, .class_ 3)] 3

/-- java/lang/Cloneable -/
def k7 : Class := { plain "java/lang/Cloneable" (some 0) with
  accessFlags := 1537
  interfaces := #[]
  cf := some (fileOf pool7 2 #[] #[] 1537 4 #[] #[])
  fields := #[]
  methods := #[]
  instanceTypes := #[]
  staticTypes := #[]
  resolved := Array.replicate 8 none
  statics := none }

/-- the primitive byte -/
def k8 : Class := { plain "byte" none with kind := .primitive 'B', accessFlags := 0x411 }
/-- [B -/
def k9 : Class := { plain "[B" (some 0) with kind := .array 8 .byte, interfaces := #[7, 4], accessFlags := 1041 }

def heap : Heap := #[{ cls := 6, slots := #[.ref 1, .ref 2, .null], vm := .statics 6 },
  { cls := 6, slots := #[.null, .int 0, .int 0], vm := .none },
  { cls := 6, slots := #[.null, .int 1, .int 0], vm := .none }]
def classes : Array Class := #[k0, k1, k2, k3, k4, k5, k6, k7, k8, k9]
def interned : List (Array UInt16 × Addr) := []
def slotsUsed : Nat := 9
def theMethod : MethodId := ⟨1, 1⟩
def args0 : Array Value := #[.int 5, .int 6, .int 7]
def aboutOver (below : List Frame) : State where
  vm := { classes := classes, interned := interned.toArray }
  heap := heap
  slotsUsed := slotsUsed
  threads := #[{ frames := .invoking theMethod args0 :: below }]
def below0 : List Frame := [.native { method := ⟨0, 0⟩, args := #[] }]
def about1 : State := aboutOver below0
def p0 : Program := .bare "" "" ""
def e0 : Env := launch0.env 0 0 0
theorem w_frames : about1.frames = Frame.invoking theMethod args0 :: below0 := rfl
set_option maxRecDepth 65536 in
theorem w_args : argsFit about1.vm theMethod args0 = true := by decide +kernel
set_option maxRecDepth 65536 in
theorem w_heap : heapFits about1 = true := by decide +kernel
set_option maxRecDepth 65536 in
theorem w_runnable : about1.curStatus? = some .runnable := by decide +kernel
set_option maxRecDepth 65536 in
theorem w_alone : about1.alone = true := by decide +kernel
set_option maxRecDepth 65536 in
theorem w_named : about1.methodNamed? x = some theMethod := by decide +kernel
set_option maxRecDepth 65536 in
theorem w_hears : about1.hears theMethod below0 = true := by decide +kernel
set_option maxRecDepth 65536 in
theorem w_ripe : about1.ripe theMethod args0 below0 = true := by decide +kernel
theorem w_running : about1.status = .running := rfl
set_option maxRecDepth 65536 in
theorem w_room : about1.hasRoom e0.platform room_1 = true :=
  launch0.hasRoom_least _ room_1 (by decide +kernel) (by decide +kernel) (by decide +kernel) (by decide +kernel) (by decide +kernel) (by decide +kernel)
theorem allAtoms_all (ts : List Jvm.Cond) (a : Array Jvm.Value) (st : Jvm.State) : (allAtoms ts).before a st = ts.all (fun c => c.before a st) := by
  induction ts with
  | nil => rfl
  | cons c t ih =>
    show (Jvm.Cond.and c (allAtoms t)).before a st = _
    rw [Jvm.Cond.before_and, ih, List.all_cons]
def words1 : List Jvm.Cond := Jvm.Cond.code x code maxLocals ret :: tables_1
/-- a 'code' word, met by the world's own term for the bytes: nothing is compared byte by byte -/
theorem code_word {y : MethodName} {bytes : ByteArray} {mx : Nat} {rt : Option FieldType} {a : Array Value} {s : State} {m : MethodId} {meth : Method} {c : Code} (h1 : s.methodNamed? y = some m) (h2 : s.vm.method? m = some meth) (h3 : meth.code = some c) (h4 : c.code = bytes)
    (h5 : (c.maxLocals == mx && c.exceptionTable.isEmpty && decide (c.maxStack ≤ mostOperands) && decide (meth.sig.returnType = rt) && !meth.locks && decide (parseMethodDescriptor y.desc = some meth.sig)) = true) : (Jvm.Cond.code y bytes mx rt).before a s = true := by
  simp only [Bool.and_eq_true, beq_iff_eq, Bool.not_eq_true', decide_eq_true_eq] at h5
  obtain ⟨⟨⟨⟨⟨g1, g2⟩, g3⟩, g4⟩, g5⟩, g6⟩ := h5
  simp [Cond.before, Cond.holds, Cond.value, h1, h2, h3, h4, g1, g2, g3, g4, g5, g6]
def isCode : Jvm.Cond → Bool
  | .code _ _ _ _ => true
  | _ => false
theorem all_split {L : List Jvm.Cond} {P : Jvm.Cond → Bool} (h1 : L.all (fun c => isCode c || P c) = true) (h2 : ∀ c ∈ L.filter isCode, P c = true) : L.all P = true := by
  refine List.all_eq_true.mpr fun c hc => ?_
  have h := List.all_eq_true.mp h1 c hc
  rcases Bool.eq_false_or_eq_true (isCode c) with hi | hi
  · exact h2 c (List.mem_filter.mpr ⟨hc, hi⟩)
  · simpa [hi] using h
set_option maxRecDepth 65536 in
theorem w_c0 : (Jvm.Cond.code x code maxLocals ret).before args0 about1 = true := code_word (m := ⟨1, 1⟩) (meth := k1m1) (c := k1c1) (by decide +kernel) rfl rfl rfl (by decide +kernel)
set_option maxRecDepth 65536 in
theorem w_c1 : (Jvm.Cond.code ({ cls := "com/example/driftline/driftline/core/FileFormat", name := "isQuote", desc := "(C)Z" } : Jvm.MethodName) prog_6_method_10_code (2 : Nat) (Option.some Jvm.ClassFile.FieldType.boolean)).before args0 about1 = true := code_word (m := ⟨6, 0⟩) (meth := k6m0) (c := k6c0) (by decide +kernel) rfl rfl rfl (by decide +kernel)
def codes1 : List Jvm.Cond := [Jvm.Cond.code x code maxLocals ret, Jvm.Cond.code ({ cls := "com/example/driftline/driftline/core/FileFormat", name := "isQuote", desc := "(C)Z" } : Jvm.MethodName) prog_6_method_10_code (2 : Nat) (Option.some Jvm.ClassFile.FieldType.boolean)]
set_option maxRecDepth 65536 in
theorem codes_eq : words1.filter isCode = codes1 := rfl
theorem w_codes : ∀ c ∈ words1.filter isCode, c.before args0 about1 = true := by
  rw [codes_eq]
  intro c hc
  simp only [codes1, List.mem_cons, List.not_mem_nil, or_false] at hc
  rcases hc with rfl | rfl
  · exact w_c0
  · exact w_c1
set_option maxRecDepth 65536 in
theorem w_t1 : words1.all (fun c => isCode c || c.before args0 about1) = true := by decide +kernel
theorem w_tables : (allAtoms (Jvm.Cond.code x code maxLocals ret :: tables_1)).before args0 about1 = true := by
  rw [allAtoms_all]
  show words1.all (fun c => c.before args0 about1) = true
  refine all_split ?_ w_codes
  rw [w_t1]
set_option maxRecDepth 65536 in
theorem w_case : (Jvm.Cond.and given_1 narrow_1).before args0 about1 = true := by decide +kernel
theorem w_applies : (headSpec (Jvm.Cond.code x code maxLocals ret :: tables_1) room_1).applies x e0.platform about1 = true :=
  (Spec.applies_iff w_frames).mpr ⟨w_running, w_runnable, w_alone, w_named, w_hears, w_ripe, w_room, w_tables⟩
theorem atStart : AtStart classFile x code maxLocals ret World_1 tables_1 room_1 Calls_1 rest_1 Pre_1 launch0 p0 e0 about1 theMethod args0 below0 :=
  ⟨lists_1, trivial, launch0.admits_env _ _ _, launch0.least_env, fairChoices_fair.cas, fairChoices_fair.clock, w_frames, w_args, w_heap, w_applies, trivial, trivial, w_case⟩
end start1
theorem witness_1 : WitnessClaimed_1 := ⟨start1.p0, start1.e0, start1.about1, start1.theMethod, start1.args0, start1.below0, start1.atStart⟩
end Jvm.Pilot.@@N@@
