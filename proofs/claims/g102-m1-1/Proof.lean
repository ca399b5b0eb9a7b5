import JvmDerived
import JvmDerived.Pilot.@@N@@Statement
import JvmDerived.Pilot.@@N@@Code
set_option linter.unusedVariables false
set_option linter.unusedSimpArgs false
namespace Jvm.RoadKit
open Sem ClassFile Op Lib Jvm.Stand Jvm.Free Jvm.LawKit
section New
variable {p : Program} {l : Launch} {e : Env} {R : Room} {s : State} {m : MethodId} {args : Array Value} {below : List Frame} {meth : Method} {c : Code} {T : State} {locs : List Loc} {cells slots : Nat}
theorem retI (X : Stand p l e R s m args below meth c T locs cells slots) (hx : p.tables.exec = Jvm.exec) {pc : Nat} {Ls : Array Slot} {z : Int32} {rest : List Value} (hret : meth.sig.returnType = some .int) (hd : decode c.code pc = .ok (.ireturn, 1)) {fs : List Frame}
    (hl : ∀ (f : JFrame) (acts : List Action), f.method = m → f.locked = none → f.entered = [] → (doReturn e (T.setTop f) acts (some (.int z))).1 = T.setFrames fs) : Steps p.tables e below (T.setTop (mkF m pc Ls (.int z :: rest))) (T.setFrames fs) := by
  have hm' : T.vm.method? m = some meth := X.method'
  have hn : narrow .int (.int z) = .int z := rfl
  show Steps p.tables e below (T.setTop { method := m, pc := pc, locals := Ls, stack := _ :: rest, locked := none }) _
  jvm_step X.here [X.here.top, hx, hd, hm', hret, hn]
  first | (intro acts; rw [hl _ acts rfl rfl rfl]) | rw [hl _ _ rfl rfl rfl]
  exact Steps.refl _
theorem retD (X : Stand p l e R s m args below meth c T locs cells slots) (hx : p.tables.exec = Jvm.exec) {pc : Nat} {Ls : Array Slot} {z : UInt64} {rest : List Value} (hret : meth.sig.returnType = some .double) (hd : decode c.code pc = .ok (.dreturn, 1)) {fs : List Frame}
    (hl : ∀ (f : JFrame) (acts : List Action), f.method = m → f.locked = none → f.entered = [] → (doReturn e (T.setTop f) acts (some (.double z))).1 = T.setFrames fs) : Steps p.tables e below (T.setTop (mkF m pc Ls (.double z :: rest))) (T.setFrames fs) := by
  have hm' : T.vm.method? m = some meth := X.method'
  have hn : narrow .double (.double z) = .double z := rfl
  show Steps p.tables e below (T.setTop { method := m, pc := pc, locals := Ls, stack := _ :: rest, locked := none }) _
  jvm_step X.here [X.here.top, hx, hd, hm', hret, hn]
  first | (intro acts; rw [hl _ acts rfl rfl rfl]) | rw [hl _ _ rfl rfl rfl]
  exact Steps.refl _
end New
end Jvm.RoadKit
namespace Jvm.Pilot.@@N@@
open Jvm Jvm.ClassFile Sem Op Lib Jvm.Free Jvm.Stand Jvm.LawKit Jvm.RoadKit Bundle Jvm.Pilot.@@N@@.Jvm.D
abbrev OwnS (p : Program) (e : Env) (below : List Frame) (T : State) (g : JFrame) (t : State) : Prop := Steps p.tables e below (T.setTop g) t
theorem own_selpriv {s : State} {args : Array Value} {y : MethodName} {n : Nat} (hy : y.cls ≠ "java/lang/invoke/MethodHandle" ∧ y.cls ≠ "java/lang/invoke/VarHandle") (hins : (Jvm.Cond.instantiable y.cls n).before args s = true) (hp : (Jvm.Cond.privateMethod y).before args s = true) (hi : (Jvm.Cond.instanceMethod y).before args s = true) : (Jvm.Cond.selects y.cls y y).before args s = true := by
  obtain ⟨c, k, hc, hk, -, hniab, -⟩ := Cond.instantiable_spec hins
  exact selects_self_of_private hc hk (Bool.or_eq_false_iff.mp hniab).1 (Cond.privateMethod_at hp) hi hy
theorem own_irr (x : Int32) : ¬ (x < x) := by rw [Int32.lt_iff_toInt_lt]; omega
theorem own_asymm {x y : Int32} (h : x < y) : ¬ (y < x) := by rw [Int32.lt_iff_toInt_lt] at *; omega
theorem own_irr64 (x : Int64) : ¬ (x < x) := by rw [Int64.lt_iff_toInt_lt]; omega
theorem own_asymm64 {x y : Int64} (h : x < y) : ¬ (y < x) := by rw [Int64.lt_iff_toInt_lt] at *; omega
theorem own_ne {x y : Int32} (h : x < y) : ¬ (x = y) := fun q => own_irr x (by rw [← q] at h; exact h)
theorem own_ne' {x y : Int32} (h : x < y) : ¬ (y = x) := fun q => own_irr x (by rw [q] at h; exact h)
theorem own_tri (x y : Int32) : x < y ∨ x = y ∨ y < x := by
  rw [Int32.lt_iff_toInt_lt, Int32.lt_iff_toInt_lt, ← Int32.toInt_inj]; omega
theorem own_ns {Z : State} {h : Heap} {a : Addr} {C : String} (F : Exa Z h a C) : ∃ cell : Cell, h[a]? = some cell ∧ cell.vm.isStatics = false := by
  obtain ⟨cell, k, h1, -, -, h4, -⟩ := F; exact ⟨cell, h1, h4⟩
theorem own_sta_keep {Z : State} {h h' : Heap} {ws : List Addr} {C n d : String} {v : Value} (F : Sta Z h C n d v) (K : Keep h h' ws) (q : ∀ x ∈ ws, ∃ cell : Cell, h[x]? = some cell ∧ cell.vm.isStatics = false) : Sta Z h' C n d v := by
  obtain ⟨cf, i, k, f, st, cell, h1, h2, h3, h4, h5, h6, h7⟩ := F
  refine ⟨cf, i, k, f, st, cell, h1, h2, h3, h4, K.2.1 st cell h5 fun r => ?_, h6, h7⟩
  obtain ⟨c2, g1, g2⟩ := q st r
  cases h5.symm.trans g1
  rw [g2] at h6; cases h6
theorem own_eq_int {args : Array Value} {first s : State} {o : Option Outcome} {idx : List Nat} {t : Term} {k : Int32} (h : (Jvm.Cond.eq t (.int k)).value args first o s idx = some true) : t.eval args first o idx s = some (.int k) := by
  simp only [Cond.value, Term.eval] at h
  cases ht : t.eval args first o idx s with
  | none => simp [ht] at h
  | some x => cases x <;> simp [ht] at h ⊢; exact h
abbrev cS0 : String := "com/example/measurewright/measurewright/cli/NameBatch"
abbrev cS1 : String := "java/util/Arrays"
abbrev cS2 : String := "jdk/internal/util/ArraysSupport"
theorem own_at {Z : State} {a0 : Array Value} (hw : ∀ d ∈ tables_1, d.before a0 Z = true) (i : Nat) {d : Jvm.Cond} (h : tables_1[i]? = some d) : d.before a0 Z = true := hw _ (List.mem_of_getElem? h)
theorem d6_0 : decode jdk_29_method_69_code 0 = .ok (.iload_n 0, 1) := by decide +kernel
theorem d6_1 : decode jdk_29_method_69_code 1 = .ok (.iload_n 1, 1) := by decide +kernel
theorem d6_2 : decode jdk_29_method_69_code 2 = .ok (.if_icmp .gt 7, 3) := by decide +kernel
theorem d6_9 : decode jdk_29_method_69_code 9 = .ok (.iload_n 1, 1) := by decide +kernel
theorem d6_10 : decode jdk_29_method_69_code 10 = .ok (.ireturn, 1) := by decide +kernel
theorem ef_6 (m : MethodId) (x0 : Int32) (x1 : Int32) : entryFrame m #[(.int x0), (.int x1)] 2 = mkF m 0 #[.val (.int x0), .val (.int x1)] [] := by first | (simp [entryFrame, mkF, argsToLocals, Value.category]; done) | rfl
def Q_6_t (Z : State) (p0 : Int32) (p1 : Int32) (h0 : Heap) (n0 : Nat) (v : Option Value) (h : Heap) (L : List Loc) : Prop := v = some (.int p1) ∧ Fr n0 L ∧ h = h0
set_option maxRecDepth 65536 in
set_option maxHeartbeats 40000000 in
theorem rm6_t (l : Launch) (Z : State) (a0 : Array Value) (hw : ∀ d ∈ tables_1, d.before a0 Z = true) (ws : List Jvm.Cond) (p0 : Int32) (p1 : Int32) (h0 : Heap) (n0 : Nat) (Z0 : n0 ≤ h0.size) (hc2 : p1 < p0) :
    MetFree l (⟨"java/lang/Math", "min", "(II)I"⟩ : MethodName) (head1 (Jvm.Cond.code (⟨"java/lang/Math", "min", "(II)I"⟩ : MethodName) jdk_29_method_69_code 2 (some .int) :: ws) ({ frames := 0, cells := 0, slots := 0, locals := 0 } : Room)) (fun a U => a = #[(.int p0), (.int p1)] ∧ Z.Warmed39 U.vm ∧ U.heap = h0) (fun _ _ _ _ _ => True) (fun _ U o U' => ∃ v L, o = .returned v ∧ Q_6_t Z p0 p1 h0 n0 v U'.heap L ∧ FrameEnd U o U' L ({ frames := 0, cells := 0, slots := 0, locals := 0 } : Room).cells ({ frames := 0, cells := 0, slots := 0, locals := 0 } : Room).slots) := by
  refine MetFree.of_bodySF (Jvm.Free.JP.mathPlain rfl (by decide +kernel)) hisR ?_
  intro p e s m args below meth c s₁ Bd hml0 hP hK
  obtain ⟨rfl, hZ, hh⟩ := hP
  have hx := Bd.exec
  have hby := Bd.bytes
  have hml : c.maxLocals = 2 := hml0
  have hown : s.vm.findClass "java/lang/Math" = some m.cls := findClass_of_methodNamed Bd.named
  have hnm := (name_of_methodNamed Bd.named Bd.method).1
  have X0 : Stand p l e ({ frames := 0, cells := 0, slots := 0, locals := 0 } : Room) s m #[(.int p0), (.int p1)] below meth c s₁ [] 0 0 := Stand.of_body Bd
  have e0 : s₁.heap = h0 := by rw [← hh, Bd.state]; rfl
  have N0 := Fr.nil n0
  have k0 : ∀ t, OwnS p e below s₁ (mkF m 0 #[iv p0, iv p1] []) t → OwnS p e below s₁ (entryFrame m #[(.int p0), (.int p1)] 2) t := fun t k => castTop (ef_6 m p0 p1) k
  obtain ⟨fs, hr, hrun, hended, hW, hsame⟩ := X0.leave (v := some (.int p1)) (fun h => by rw [Bd.returns] at h; cases h)
  refine ⟨_, _, k0 _ ?_, hrun, hended, _, _, rfl, ?_, ⟨_, rfl⟩, hW, hsame.mono (by decide) (by decide)⟩
  · show OwnS p e below s₁ (mkF m 0 #[iv p0, iv p1] []) _
    refine XS.iloadN X0.here hx rfl (hb hby d6_0) rfl ?_
    refine XS.iloadN X0.here hx rfl (hb hby d6_1) rfl ?_
    refine XS.icmpYes X0.here hx rfl (pc0 := 2) (pc' := 9) rfl (hb hby d6_2) rfl (tlt hc2).2.2.1 (by decide) (by decide) ?_
    refine XS.iloadN X0.here hx rfl (hb hby d6_9) rfl ?_
    exact retI X0 hx Bd.returns (hb hby d6_10) hr
  · show Q_6_t Z p0 p1 h0 n0 _ s₁.heap _
    rw [e0]
    exact ⟨rfl, N0, rfl⟩
theorem d6_5 : decode jdk_29_method_69_code 5 = .ok (.iload_n 0, 1) := by decide +kernel
theorem d6_6 : decode jdk_29_method_69_code 6 = .ok (.goto 4, 3) := by decide +kernel
def Q_6_f (Z : State) (p0 : Int32) (p1 : Int32) (h0 : Heap) (n0 : Nat) (v : Option Value) (h : Heap) (L : List Loc) : Prop := v = some (.int p0) ∧ Fr n0 L ∧ h = h0
set_option maxRecDepth 65536 in
set_option maxHeartbeats 40000000 in
theorem rm6_f (l : Launch) (Z : State) (a0 : Array Value) (hw : ∀ d ∈ tables_1, d.before a0 Z = true) (ws : List Jvm.Cond) (p0 : Int32) (p1 : Int32) (h0 : Heap) (n0 : Nat) (Z0 : n0 ≤ h0.size) (hc2 : ¬ (p1 < p0)) :
    MetFree l (⟨"java/lang/Math", "min", "(II)I"⟩ : MethodName) (head1 (Jvm.Cond.code (⟨"java/lang/Math", "min", "(II)I"⟩ : MethodName) jdk_29_method_69_code 2 (some .int) :: ws) ({ frames := 0, cells := 0, slots := 0, locals := 0 } : Room)) (fun a U => a = #[(.int p0), (.int p1)] ∧ Z.Warmed39 U.vm ∧ U.heap = h0) (fun _ _ _ _ _ => True) (fun _ U o U' => ∃ v L, o = .returned v ∧ Q_6_f Z p0 p1 h0 n0 v U'.heap L ∧ FrameEnd U o U' L ({ frames := 0, cells := 0, slots := 0, locals := 0 } : Room).cells ({ frames := 0, cells := 0, slots := 0, locals := 0 } : Room).slots) := by
  refine MetFree.of_bodySF (Jvm.Free.JP.mathPlain rfl (by decide +kernel)) hisR ?_
  intro p e s m args below meth c s₁ Bd hml0 hP hK
  obtain ⟨rfl, hZ, hh⟩ := hP
  have hx := Bd.exec
  have hby := Bd.bytes
  have hml : c.maxLocals = 2 := hml0
  have hown : s.vm.findClass "java/lang/Math" = some m.cls := findClass_of_methodNamed Bd.named
  have hnm := (name_of_methodNamed Bd.named Bd.method).1
  have X0 : Stand p l e ({ frames := 0, cells := 0, slots := 0, locals := 0 } : Room) s m #[(.int p0), (.int p1)] below meth c s₁ [] 0 0 := Stand.of_body Bd
  have e0 : s₁.heap = h0 := by rw [← hh, Bd.state]; rfl
  have N0 := Fr.nil n0
  have k0 : ∀ t, OwnS p e below s₁ (mkF m 0 #[iv p0, iv p1] []) t → OwnS p e below s₁ (entryFrame m #[(.int p0), (.int p1)] 2) t := fun t k => castTop (ef_6 m p0 p1) k
  obtain ⟨fs, hr, hrun, hended, hW, hsame⟩ := X0.leave (v := some (.int p0)) (fun h => by rw [Bd.returns] at h; cases h)
  refine ⟨_, _, k0 _ ?_, hrun, hended, _, _, rfl, ?_, ⟨_, rfl⟩, hW, hsame.mono (by decide) (by decide)⟩
  · show OwnS p e below s₁ (mkF m 0 #[iv p0, iv p1] []) _
    refine XS.iloadN X0.here hx rfl (hb hby d6_0) rfl ?_
    refine XS.iloadN X0.here hx rfl (hb hby d6_1) rfl ?_
    refine XS.icmpNo X0.here hx rfl (hb hby d6_2) rfl (flt hc2).2.2.1 ?_
    refine XS.iloadN X0.here hx rfl (hb hby d6_5) rfl ?_
    refine XS.goto X0.here hx rfl (pc0 := 6) (pc' := 10) rfl (hb hby d6_6) (by decide) (by decide) ?_
    exact retI X0 hx Bd.returns (hb hby d6_10) hr
  · show Q_6_f Z p0 p1 h0 n0 _ s₁.heap _
    rw [e0]
    exact ⟨rfl, N0, rfl⟩
theorem d20_0 : decode jdk_2056_method_24_code 0 = .ok (.iload_n 0, 1) := by decide +kernel
theorem d20_1 : decode jdk_2056_method_24_code 1 = .ok (.sipush 255, 3) := by decide +kernel
theorem d20_4 : decode jdk_2056_method_24_code 4 = .ok (.iand, 1) := by decide +kernel
theorem d20_5 : decode jdk_2056_method_24_code 5 = .ok (.ireturn, 1) := by decide +kernel
theorem pn_java_lang_Byte : plainName "java/lang/Byte" = true := by first | (simp [plainName, overriddenIn]; done) | decide +kernel
theorem ef_20 (m : MethodId) (x0 : Int32) : entryFrame m #[(.int x0)] 1 = mkF m 0 #[.val (.int x0)] [] := by first | (simp [entryFrame, mkF, argsToLocals, Value.category]; done) | rfl
def Q_20 (Z : State) (p0 : Int32) (h0 : Heap) (n0 : Nat) (v : Option Value) (h : Heap) (L : List Loc) : Prop := v = some (.int (p0 &&& (255 : Int32))) ∧ Fr n0 L ∧ h = h0
set_option maxRecDepth 65536 in
set_option maxHeartbeats 40000000 in
theorem rm20 (l : Launch) (Z : State) (a0 : Array Value) (hw : ∀ d ∈ tables_1, d.before a0 Z = true) (ws : List Jvm.Cond) (p0 : Int32) (h0 : Heap) (n0 : Nat) (Z0 : n0 ≤ h0.size) :
    MetFree l (⟨"java/lang/Byte", "toUnsignedInt", "(B)I"⟩ : MethodName) (head1 (Jvm.Cond.code (⟨"java/lang/Byte", "toUnsignedInt", "(B)I"⟩ : MethodName) jdk_2056_method_24_code 1 (some .int) :: ws) ({ frames := 0, cells := 0, slots := 0, locals := 0 } : Room)) (fun a U => a = #[(.int p0)] ∧ Z.Warmed39 U.vm ∧ U.heap = h0) (fun _ _ _ _ _ => True) (fun _ U o U' => ∃ v L, o = .returned v ∧ Q_20 Z p0 h0 n0 v U'.heap L ∧ FrameEnd U o U' L ({ frames := 0, cells := 0, slots := 0, locals := 0 } : Room).cells ({ frames := 0, cells := 0, slots := 0, locals := 0 } : Room).slots) := by
  refine MetFree.of_bodySF (plainFor_of_name pn_java_lang_Byte) hisR ?_
  intro p e s m args below meth c s₁ Bd hml0 hP hK
  obtain ⟨rfl, hZ, hh⟩ := hP
  have hx := Bd.exec
  have hby := Bd.bytes
  have hml : c.maxLocals = 1 := hml0
  have hown : s.vm.findClass "java/lang/Byte" = some m.cls := findClass_of_methodNamed Bd.named
  have hnm := (name_of_methodNamed Bd.named Bd.method).1
  have X0 : Stand p l e ({ frames := 0, cells := 0, slots := 0, locals := 0 } : Room) s m #[(.int p0)] below meth c s₁ [] 0 0 := Stand.of_body Bd
  have e0 : s₁.heap = h0 := by rw [← hh, Bd.state]; rfl
  have N0 := Fr.nil n0
  have k0 : ∀ t, OwnS p e below s₁ (mkF m 0 #[iv p0] []) t → OwnS p e below s₁ (entryFrame m #[(.int p0)] 1) t := fun t k => castTop (ef_20 m p0) k
  obtain ⟨fs, hr, hrun, hended, hW, hsame⟩ := X0.leave (v := some (.int (p0 &&& (255 : Int32)))) (fun h => by rw [Bd.returns] at h; cases h)
  refine ⟨_, _, k0 _ ?_, hrun, hended, _, _, rfl, ?_, ⟨_, rfl⟩, hW, hsame.mono (by decide) (by decide)⟩
  · show OwnS p e below s₁ (mkF m 0 #[iv p0] []) _
    refine XS.iloadN X0.here hx rfl (hb hby d20_0) rfl ?_
    refine XS.sipush X0.here hx rfl (hb hby d20_1) ?_
    refine XS.iand X0.here hx rfl (hb hby d20_4) rfl ?_
    exact retI X0 hx Bd.returns (hb hby d20_5) hr
  · show Q_20 Z p0 h0 n0 _ s₁.heap _
    rw [e0]
    exact ⟨rfl, N0, rfl⟩
theorem pd_0 : parseMethodDescriptor "(B)I" = some ⟨[.byte], some .int⟩ := by decide +kernel
theorem d19_0 : decode jdk_2056_method_23_code 0 = .ok (.iload_n 0, 1) := by decide +kernel
theorem d19_1 : decode jdk_2056_method_23_code 1 = .ok (.invokestatic 116, 3) := by decide +kernel
theorem d19_4 : decode jdk_2056_method_23_code 4 = .ok (.iload_n 1, 1) := by decide +kernel
theorem d19_5 : decode jdk_2056_method_23_code 5 = .ok (.invokestatic 116, 3) := by decide +kernel
theorem d19_8 : decode jdk_2056_method_23_code 8 = .ok (.isub, 1) := by decide +kernel
theorem d19_9 : decode jdk_2056_method_23_code 9 = .ok (.ireturn, 1) := by decide +kernel
theorem ef_19 (m : MethodId) (x0 : Int32) (x1 : Int32) : entryFrame m #[(.int x0), (.int x1)] 2 = mkF m 0 #[.val (.int x0), .val (.int x1)] [] := by first | (simp [entryFrame, mkF, argsToLocals, Value.category]; done) | rfl
def Q_19 (Z : State) (p0 : Int32) (p1 : Int32) (h0 : Heap) (n0 : Nat) (v : Option Value) (h : Heap) (L : List Loc) : Prop := v = some (.int ((p0 &&& (255 : Int32)) - (p1 &&& (255 : Int32)))) ∧ Fr n0 L ∧ h = h0
set_option maxRecDepth 65536 in
set_option maxHeartbeats 40000000 in
theorem rm19 (l : Launch) (Z : State) (a0 : Array Value) (hw : ∀ d ∈ tables_1, d.before a0 Z = true) (ws : List Jvm.Cond) (p0 : Int32) (p1 : Int32) (h0 : Heap) (n0 : Nat) (Z0 : n0 ≤ h0.size) :
    MetFree l (⟨"java/lang/Byte", "compareUnsigned", "(BB)I"⟩ : MethodName) (head1 (Jvm.Cond.code (⟨"java/lang/Byte", "compareUnsigned", "(BB)I"⟩ : MethodName) jdk_2056_method_23_code 2 (some .int) :: ws) ({ frames := 1, cells := 0, slots := 0, locals := 13 } : Room)) (fun a U => a = #[(.int p0), (.int p1)] ∧ Z.Warmed39 U.vm ∧ U.heap = h0) (fun _ _ _ _ _ => True) (fun _ U o U' => ∃ v L, o = .returned v ∧ Q_19 Z p0 p1 h0 n0 v U'.heap L ∧ FrameEnd U o U' L ({ frames := 1, cells := 0, slots := 0, locals := 13 } : Room).cells ({ frames := 1, cells := 0, slots := 0, locals := 13 } : Room).slots) := by
  refine MetFree.of_bodySF (plainFor_of_name pn_java_lang_Byte) hisR ?_
  intro p e s m args below meth c s₁ Bd hml0 hP hK
  obtain ⟨rfl, hZ, hh⟩ := hP
  have hx := Bd.exec
  have hby := Bd.bytes
  have hml : c.maxLocals = 2 := hml0
  have hown : s.vm.findClass "java/lang/Byte" = some m.cls := findClass_of_methodNamed Bd.named
  have hnm := (name_of_methodNamed Bd.named Bd.method).1
  have X0 : Stand p l e ({ frames := 1, cells := 0, slots := 0, locals := 13 } : Room) s m #[(.int p0), (.int p1)] below meth c s₁ [] 0 0 := Stand.of_body Bd
  have e0 : s₁.heap = h0 := by rw [← hh, Bd.state]; rfl
  have N0 := Fr.nil n0
  have k0 : ∀ t, OwnS p e below s₁ (mkF m 0 #[iv p0, iv p1] []) t → OwnS p e below s₁ (entryFrame m #[(.int p0), (.int p1)] 2) t := fun t k => castTop (ef_19 m p0 p1) k
  obtain ⟨_, _, ⟨T1, L1, j1, i1⟩, -, X1, ⟨Lc1, hQ1, l1, y1, z1⟩, st1⟩ := Jvm.LawKit.callS X0 hx (y := (⟨"java/lang/Byte", "toUnsignedInt", "(B)I"⟩ : MethodName)) hown (mvT hZ (own_at hw 104 rfl)) (mvT hZ (own_at hw 105 rfl)) (mvT hZ (own_at hw 102 rfl)) (mvT hZ (own_at hw 106 rfl)) (by decide) (backOf (W := 0) (rm20 l Z a0 hw [] p0 h0 n0 Z0 ) hZ (own_at hw 106 rfl) (own_at hw 102 rfl) (by decide) (by decide)) (g := (mkF m 1 #[iv p0, iv p1] [(.int p0)])) rfl (by rw [hml]; rfl) (argsL := [(.int p0)]) (rest := []) (lenOf pd_0 rfl) rfl (Nat.le_refl _) (hb hby d19_1) (fun _ _ => ⟨rfl, e0, (by decide : 0 + 0 ≤ _), (by decide : 0 + 0 ≤ _)⟩)
  dsimp only [Pt.U, Pt.locs, Pt.cells, Pt.slots] at X1 l1 y1 z1 st1 hQ1
  subst l1 y1 z1
  obtain ⟨rfl, N1q, e1⟩ := hQ1
  have N1 := Fr.app N0 N1q
  obtain ⟨_, _, ⟨T2, L2, j2, i2⟩, -, X2, ⟨Lc2, hQ2, l2, y2, z2⟩, st2⟩ := Jvm.LawKit.callS X1 hx (y := (⟨"java/lang/Byte", "toUnsignedInt", "(B)I"⟩ : MethodName)) hown (mvT hZ (own_at hw 104 rfl)) (mvT hZ (own_at hw 105 rfl)) (mvT hZ (own_at hw 102 rfl)) (mvT hZ (own_at hw 106 rfl)) (by decide) (backOf (W := 1) (rm20 l Z a0 hw [] p1 h0 n0 Z0 ) hZ (own_at hw 106 rfl) (own_at hw 102 rfl) (by decide) (by decide)) (g := (mkF m 5 #[iv p0, iv p1] [(.int p1), (.int (p0 &&& (255 : Int32)))])) rfl (by rw [hml]; rfl) (argsL := [(.int p1)]) (rest := [(.int (p0 &&& (255 : Int32)))]) (lenOf pd_0 rfl) rfl (Nat.le_refl _) (hb hby d19_5) (fun _ _ => ⟨rfl, e1, (by decide : 0 + 0 ≤ _), (by decide : 0 + 0 ≤ _)⟩)
  dsimp only [Pt.U, Pt.locs, Pt.cells, Pt.slots] at X2 l2 y2 z2 st2 hQ2
  subst l2 y2 z2
  obtain ⟨rfl, N2q, e2⟩ := hQ2
  have N2 := Fr.app N1 N2q
  obtain ⟨fs, hr, hrun, hended, hW, hsame⟩ := X2.leave (v := some (.int ((p0 &&& (255 : Int32)) - (p1 &&& (255 : Int32))))) (fun h => by rw [Bd.returns] at h; cases h)
  refine ⟨_, _, k0 _ ?_, hrun, hended, _, _, rfl, ?_, ⟨_, rfl⟩, hW, hsame.mono (by decide) (by decide)⟩
  · show OwnS p e below s₁ (mkF m 0 #[iv p0, iv p1] []) _
    refine XS.iloadN X0.here hx rfl (hb hby d19_0) rfl ?_
    refine st1 _ ?_
    refine XS.iloadN X1.here hx rfl (hb hby d19_4) rfl ?_
    refine st2 _ ?_
    refine XS.isub X2.here hx rfl (hb hby d19_8) rfl ?_
    exact retI X2 hx Bd.returns (hb hby d19_9) hr
  · show Q_19 Z p0 p1 h0 n0 _ T2.heap _
    rw [e2]
    exact ⟨rfl, N2, rfl⟩
theorem d15_0 : decode jdk_65_method_131_code 0 = .ok (.iload_n 1, 1) := by decide +kernel
theorem d15_1 : decode jdk_65_method_131_code 1 = .ok (.iload_n 0, 1) := by decide +kernel
theorem d15_2 : decode jdk_65_method_131_code 2 = .ok (.if_icmp .ge 35, 3) := by decide +kernel
theorem d15_37 : decode jdk_65_method_131_code 37 = .ok (.return_, 1) := by decide +kernel
theorem pn_java_util_Arrays : plainName cS1 = true := by first | (simp [plainName, overriddenIn]; done) | decide +kernel
theorem ef_15 (m : MethodId) (x0 : Int32) (x1 : Int32) : entryFrame m #[(.int x0), (.int x1)] 2 = mkF m 0 #[.val (.int x0), .val (.int x1)] [] := by first | (simp [entryFrame, mkF, argsToLocals, Value.category]; done) | rfl
def Q_15 (Z : State) (p0 : Int32) (p1 : Int32) (h0 : Heap) (n0 : Nat) (v : Option Value) (h : Heap) (L : List Loc) : Prop := v = none ∧ Fr n0 L ∧ h = h0
set_option maxRecDepth 65536 in
set_option maxHeartbeats 40000000 in
theorem rm15 (l : Launch) (Z : State) (a0 : Array Value) (hw : ∀ d ∈ tables_1, d.before a0 Z = true) (ws : List Jvm.Cond) (p0 : Int32) (p1 : Int32) (h0 : Heap) (n0 : Nat) (Z0 : n0 ≤ h0.size) (hc2 : ¬ (p1 < p0)) :
    MetFree l (⟨cS1, "checkLength", "(II)V"⟩ : MethodName) (head1 (Jvm.Cond.code (⟨cS1, "checkLength", "(II)V"⟩ : MethodName) jdk_65_method_131_code 2 none :: ws) ({ frames := 0, cells := 0, slots := 0, locals := 0 } : Room)) (fun a U => a = #[(.int p0), (.int p1)] ∧ Z.Warmed39 U.vm ∧ U.heap = h0) (fun _ _ _ _ _ => True) (fun _ U o U' => ∃ v L, o = .returned v ∧ Q_15 Z p0 p1 h0 n0 v U'.heap L ∧ FrameEnd U o U' L ({ frames := 0, cells := 0, slots := 0, locals := 0 } : Room).cells ({ frames := 0, cells := 0, slots := 0, locals := 0 } : Room).slots) := by
  refine MetFree.of_bodySF (plainFor_of_name pn_java_util_Arrays) hisR ?_
  intro p e s m args below meth c s₁ Bd hml0 hP hK
  obtain ⟨rfl, hZ, hh⟩ := hP
  have hx := Bd.exec
  have hby := Bd.bytes
  have hml : c.maxLocals = 2 := hml0
  have hown : s.vm.findClass cS1 = some m.cls := findClass_of_methodNamed Bd.named
  have hnm := (name_of_methodNamed Bd.named Bd.method).1
  have X0 : Stand p l e ({ frames := 0, cells := 0, slots := 0, locals := 0 } : Room) s m #[(.int p0), (.int p1)] below meth c s₁ [] 0 0 := Stand.of_body Bd
  have e0 : s₁.heap = h0 := by rw [← hh, Bd.state]; rfl
  have N0 := Fr.nil n0
  have k0 : ∀ t, OwnS p e below s₁ (mkF m 0 #[iv p0, iv p1] []) t → OwnS p e below s₁ (entryFrame m #[(.int p0), (.int p1)] 2) t := fun t k => castTop (ef_15 m p0 p1) k
  obtain ⟨fs, hr, hrun, hended, hW, hsame⟩ := X0.leave (v := none) (fun _ => rfl)
  refine ⟨_, _, k0 _ ?_, hrun, hended, _, _, rfl, ?_, ⟨_, rfl⟩, hW, hsame.mono (by decide) (by decide)⟩
  · show OwnS p e below s₁ (mkF m 0 #[iv p0, iv p1] []) _
    refine XS.iloadN X0.here hx rfl (hb hby d15_0) rfl ?_
    refine XS.iloadN X0.here hx rfl (hb hby d15_1) rfl ?_
    refine XS.icmpYes X0.here hx rfl (pc0 := 2) (pc' := 37) rfl (hb hby d15_2) rfl (flt hc2).2.1 (by decide) (by decide) ?_
    exact X0.returnOut hx Bd.returns (hb hby d15_37) hr
  · show Q_15 Z p0 p1 h0 n0 _ s₁.heap _
    rw [e0]
    exact ⟨rfl, N0, rfl⟩
theorem d11_0 : decode jdk_65_method_30_code 0 = .ok (.iload_n 1, 1) := by decide +kernel
theorem d11_1 : decode jdk_65_method_30_code 1 = .ok (.iload_n 2, 1) := by decide +kernel
theorem d11_2 : decode jdk_65_method_30_code 2 = .ok (.if_icmp .le 44, 3) := by decide +kernel
theorem d11_46 : decode jdk_65_method_30_code 46 = .ok (.iload_n 1, 1) := by decide +kernel
theorem d11_47 : decode jdk_65_method_30_code 47 = .ok (.ifCond .ge 12, 3) := by decide +kernel
theorem d11_59 : decode jdk_65_method_30_code 59 = .ok (.iload_n 2, 1) := by decide +kernel
theorem d11_60 : decode jdk_65_method_30_code 60 = .ok (.iload_n 0, 1) := by decide +kernel
theorem d11_61 : decode jdk_65_method_30_code 61 = .ok (.if_icmp .le 12, 3) := by decide +kernel
theorem d11_73 : decode jdk_65_method_30_code 73 = .ok (.return_, 1) := by decide +kernel
theorem ef_11 (m : MethodId) (x0 : Int32) (x1 : Int32) (x2 : Int32) : entryFrame m #[(.int x0), (.int x1), (.int x2)] 3 = mkF m 0 #[.val (.int x0), .val (.int x1), .val (.int x2)] [] := by first | (simp [entryFrame, mkF, argsToLocals, Value.category]; done) | rfl
def Q_11 (Z : State) (p0 : Int32) (p1 : Int32) (p2 : Int32) (h0 : Heap) (n0 : Nat) (v : Option Value) (h : Heap) (L : List Loc) : Prop := v = none ∧ Fr n0 L ∧ h = h0
set_option maxRecDepth 65536 in
set_option maxHeartbeats 40000000 in
theorem rm11 (l : Launch) (Z : State) (a0 : Array Value) (hw : ∀ d ∈ tables_1, d.before a0 Z = true) (ws : List Jvm.Cond) (p0 : Int32) (p1 : Int32) (p2 : Int32) (h0 : Heap) (n0 : Nat) (Z0 : n0 ≤ h0.size) (hc2 : ¬ (p2 < p1)) (hc47 : ¬ (p1 < (0 : Int32))) (hc61 : ¬ (p0 < p2)) :
    MetFree l (⟨cS1, "rangeCheck", "(III)V"⟩ : MethodName) (head1 (Jvm.Cond.code (⟨cS1, "rangeCheck", "(III)V"⟩ : MethodName) jdk_65_method_30_code 3 none :: ws) ({ frames := 0, cells := 0, slots := 0, locals := 0 } : Room)) (fun a U => a = #[(.int p0), (.int p1), (.int p2)] ∧ Z.Warmed39 U.vm ∧ U.heap = h0) (fun _ _ _ _ _ => True) (fun _ U o U' => ∃ v L, o = .returned v ∧ Q_11 Z p0 p1 p2 h0 n0 v U'.heap L ∧ FrameEnd U o U' L ({ frames := 0, cells := 0, slots := 0, locals := 0 } : Room).cells ({ frames := 0, cells := 0, slots := 0, locals := 0 } : Room).slots) := by
  refine MetFree.of_bodySF (plainFor_of_name pn_java_util_Arrays) hisR ?_
  intro p e s m args below meth c s₁ Bd hml0 hP hK
  obtain ⟨rfl, hZ, hh⟩ := hP
  have hx := Bd.exec
  have hby := Bd.bytes
  have hml : c.maxLocals = 3 := hml0
  have hown : s.vm.findClass cS1 = some m.cls := findClass_of_methodNamed Bd.named
  have hnm := (name_of_methodNamed Bd.named Bd.method).1
  have X0 : Stand p l e ({ frames := 0, cells := 0, slots := 0, locals := 0 } : Room) s m #[(.int p0), (.int p1), (.int p2)] below meth c s₁ [] 0 0 := Stand.of_body Bd
  have e0 : s₁.heap = h0 := by rw [← hh, Bd.state]; rfl
  have N0 := Fr.nil n0
  have k0 : ∀ t, OwnS p e below s₁ (mkF m 0 #[iv p0, iv p1, iv p2] []) t → OwnS p e below s₁ (entryFrame m #[(.int p0), (.int p1), (.int p2)] 3) t := fun t k => castTop (ef_11 m p0 p1 p2) k
  obtain ⟨fs, hr, hrun, hended, hW, hsame⟩ := X0.leave (v := none) (fun _ => rfl)
  refine ⟨_, _, k0 _ ?_, hrun, hended, _, _, rfl, ?_, ⟨_, rfl⟩, hW, hsame.mono (by decide) (by decide)⟩
  · show OwnS p e below s₁ (mkF m 0 #[iv p0, iv p1, iv p2] []) _
    refine XS.iloadN X0.here hx rfl (hb hby d11_0) rfl ?_
    refine XS.iloadN X0.here hx rfl (hb hby d11_1) rfl ?_
    refine XS.icmpYes X0.here hx rfl (pc0 := 2) (pc' := 46) rfl (hb hby d11_2) rfl (flt hc2).2.2.2 (by decide) (by decide) ?_
    refine XS.iloadN X0.here hx rfl (hb hby d11_46) rfl ?_
    refine XS.ifYes X0.here hx rfl (pc0 := 47) (pc' := 59) rfl (hb hby d11_47) rfl ((if0 _ _).trans (flt hc47).2.1) (by decide) (by decide) ?_
    refine XS.iloadN X0.here hx rfl (hb hby d11_59) rfl ?_
    refine XS.iloadN X0.here hx rfl (hb hby d11_60) rfl ?_
    refine XS.icmpYes X0.here hx rfl (pc0 := 61) (pc' := 73) rfl (hb hby d11_61) rfl (flt hc61).2.2.2 (by decide) (by decide) ?_
    exact X0.returnOut hx Bd.returns (hb hby d11_73) hr
  · show Q_11 Z p0 p1 p2 h0 n0 _ s₁.heap _
    rw [e0]
    exact ⟨rfl, N0, rfl⟩
theorem d16_0 : decode prog_6_method_4_code 0 = .ok (.aload_n 0, 1) := by decide +kernel
theorem d16_1 : decode prog_6_method_4_code 1 = .ok (.getfield 36, 3) := by decide +kernel
theorem d16_4 : decode prog_6_method_4_code 4 = .ok (.ifnull 7, 3) := by decide +kernel
theorem d16_11 : decode prog_6_method_4_code 11 = .ok (.iconst 0, 1) := by decide +kernel
theorem d16_12 : decode prog_6_method_4_code 12 = .ok (.ireturn, 1) := by decide +kernel
theorem pn_com_example_measurewright_measurewright_cli_NameBatch : plainName cS0 = true := by first | (simp [plainName, overriddenIn]; done) | decide +kernel
theorem ef_16 (m : MethodId) (x0 : Addr) : entryFrame m #[(.ref x0)] 1 = mkF m 0 #[.val (.ref x0)] [] := by first | (simp [entryFrame, mkF, argsToLocals, Value.category]; done) | rfl
def Q_16_n (Z : State) (r0 : Addr) (h0 : Heap) (n0 : Nat) (v : Option Value) (h : Heap) (L : List Loc) : Prop := v = some (.int 0) ∧ Fr n0 L ∧ h = h0
set_option maxRecDepth 65536 in
set_option maxHeartbeats 40000000 in
theorem rm16_n (l : Launch) (Z : State) (a0 : Array Value) (hw : ∀ d ∈ tables_1, d.before a0 Z = true) (ws : List Jvm.Cond) (r0 : Addr) (h0 : Heap) (n0 : Nat) (Z0 : n0 ≤ h0.size) (F_limit_r0 : Fld Z h0 r0 cS0 "limit" "[B" .null) :
    MetFree l (⟨cS0, "letAnyGo", "()Z"⟩ : MethodName) (head1 (Jvm.Cond.code (⟨cS0, "letAnyGo", "()Z"⟩ : MethodName) prog_6_method_4_code 1 (some .boolean) :: ws) ({ frames := 0, cells := 0, slots := 0, locals := 0 } : Room)) (fun a U => a = #[(.ref r0)] ∧ Z.Warmed39 U.vm ∧ U.heap = h0) (fun _ _ _ _ _ => True) (fun _ U o U' => ∃ v L, o = .returned v ∧ Q_16_n Z r0 h0 n0 v U'.heap L ∧ FrameEnd U o U' L ({ frames := 0, cells := 0, slots := 0, locals := 0 } : Room).cells ({ frames := 0, cells := 0, slots := 0, locals := 0 } : Room).slots) := by
  refine MetFree.of_bodySF (plainFor_of_name pn_com_example_measurewright_measurewright_cli_NameBatch) hisR ?_
  intro p e s m args below meth c s₁ Bd hml0 hP hK
  obtain ⟨rfl, hZ, hh⟩ := hP
  have hx := Bd.exec
  have hby := Bd.bytes
  have hml : c.maxLocals = 1 := hml0
  have hown : s.vm.findClass cS0 = some m.cls := findClass_of_methodNamed Bd.named
  have hnm := (name_of_methodNamed Bd.named Bd.method).1
  have X0 : Stand p l e ({ frames := 0, cells := 0, slots := 0, locals := 0 } : Room) s m #[(.ref r0)] below meth c s₁ [] 0 0 := Stand.of_body Bd
  have e0 : s₁.heap = h0 := by rw [← hh, Bd.state]; rfl
  have N0 := Fr.nil n0
  have k0 : ∀ t, OwnS p e below s₁ (mkF m 0 #[rv r0] []) t → OwnS p e below s₁ (entryFrame m #[(.ref r0)] 1) t := fun t k => castTop (ef_16 m r0) k
  obtain ⟨T1, X1, e1, st1⟩ := getF X0 hx hZ hown (host := "") (Or.inl (own_at hw 28 rfl)) Via.refl e0 F_limit_r0 (g := (mkF m 1 #[rv r0] [(.ref r0)])) rfl rfl (hb hby d16_1)
  obtain ⟨fs, hr, hrun, hended, hW, hsame⟩ := X1.leave (v := some (.int 0)) (fun h => by rw [Bd.returns] at h; cases h)
  refine ⟨_, _, k0 _ ?_, hrun, hended, _, _, rfl, ?_, ⟨_, rfl⟩, hW, hsame.mono (by decide) (by decide)⟩
  · show OwnS p e below s₁ (mkF m 0 #[rv r0] []) _
    refine XS.aloadN X0.here hx rfl (hb hby d16_0) rfl rfl ?_
    refine st1 _ ?_
    refine XS.ifnullYes X1.here hx rfl (pc0 := 4) (pc' := 11) rfl (hb hby d16_4) rfl (by decide) (by decide) ?_
    refine XS.iconst X1.here hx rfl (hb hby d16_11) ?_
    exact retN X1 hx (t := .boolean) Bd.returns (by simp) (hb hby d16_12) hr
  · show Q_16_n Z r0 h0 n0 _ T1.heap _
    rw [e1]
    exact ⟨rfl, N0, rfl⟩
theorem d16_7 : decode prog_6_method_4_code 7 = .ok (.iconst 1, 1) := by decide +kernel
theorem d16_8 : decode prog_6_method_4_code 8 = .ok (.goto 4, 3) := by decide +kernel
def Q_16_y (Z : State) (r0 : Addr) (lim : Addr) (h0 : Heap) (n0 : Nat) (v : Option Value) (h : Heap) (L : List Loc) : Prop := v = some (.int 1) ∧ Fr n0 L ∧ h = h0
set_option maxRecDepth 65536 in
set_option maxHeartbeats 40000000 in
theorem rm16_y (l : Launch) (Z : State) (a0 : Array Value) (hw : ∀ d ∈ tables_1, d.before a0 Z = true) (ws : List Jvm.Cond) (r0 : Addr) (lim : Addr) (h0 : Heap) (n0 : Nat) (Z0 : n0 ≤ h0.size) (F_limit_r0 : Fld Z h0 r0 cS0 "limit" "[B" (.ref lim)) :
    MetFree l (⟨cS0, "letAnyGo", "()Z"⟩ : MethodName) (head1 (Jvm.Cond.code (⟨cS0, "letAnyGo", "()Z"⟩ : MethodName) prog_6_method_4_code 1 (some .boolean) :: ws) ({ frames := 0, cells := 0, slots := 0, locals := 0 } : Room)) (fun a U => a = #[(.ref r0)] ∧ Z.Warmed39 U.vm ∧ U.heap = h0) (fun _ _ _ _ _ => True) (fun _ U o U' => ∃ v L, o = .returned v ∧ Q_16_y Z r0 lim h0 n0 v U'.heap L ∧ FrameEnd U o U' L ({ frames := 0, cells := 0, slots := 0, locals := 0 } : Room).cells ({ frames := 0, cells := 0, slots := 0, locals := 0 } : Room).slots) := by
  refine MetFree.of_bodySF (plainFor_of_name pn_com_example_measurewright_measurewright_cli_NameBatch) hisR ?_
  intro p e s m args below meth c s₁ Bd hml0 hP hK
  obtain ⟨rfl, hZ, hh⟩ := hP
  have hx := Bd.exec
  have hby := Bd.bytes
  have hml : c.maxLocals = 1 := hml0
  have hown : s.vm.findClass cS0 = some m.cls := findClass_of_methodNamed Bd.named
  have hnm := (name_of_methodNamed Bd.named Bd.method).1
  have X0 : Stand p l e ({ frames := 0, cells := 0, slots := 0, locals := 0 } : Room) s m #[(.ref r0)] below meth c s₁ [] 0 0 := Stand.of_body Bd
  have e0 : s₁.heap = h0 := by rw [← hh, Bd.state]; rfl
  have N0 := Fr.nil n0
  have k0 : ∀ t, OwnS p e below s₁ (mkF m 0 #[rv r0] []) t → OwnS p e below s₁ (entryFrame m #[(.ref r0)] 1) t := fun t k => castTop (ef_16 m r0) k
  obtain ⟨T1, X1, e1, st1⟩ := getF X0 hx hZ hown (host := "") (Or.inl (own_at hw 28 rfl)) Via.refl e0 F_limit_r0 (g := (mkF m 1 #[rv r0] [(.ref r0)])) rfl rfl (hb hby d16_1)
  obtain ⟨fs, hr, hrun, hended, hW, hsame⟩ := X1.leave (v := some (.int 1)) (fun h => by rw [Bd.returns] at h; cases h)
  refine ⟨_, _, k0 _ ?_, hrun, hended, _, _, rfl, ?_, ⟨_, rfl⟩, hW, hsame.mono (by decide) (by decide)⟩
  · show OwnS p e below s₁ (mkF m 0 #[rv r0] []) _
    refine XS.aloadN X0.here hx rfl (hb hby d16_0) rfl rfl ?_
    refine st1 _ ?_
    refine XS.ifnullNo X1.here hx rfl (hb hby d16_4) rfl ?_
    refine XS.iconst X1.here hx rfl (hb hby d16_7) ?_
    refine XS.goto X1.here hx rfl (pc0 := 8) (pc' := 12) rfl (hb hby d16_8) (by decide) (by decide) ?_
    exact retN X1 hx (t := .boolean) Bd.returns (by simp) (hb hby d16_12) hr
  · show Q_16_y Z r0 lim h0 n0 _ T1.heap _
    rw [e1]
    exact ⟨rfl, N0, rfl⟩
theorem d18_0 : decode prog_6_method_5_code 0 = .ok (.aload_n 0, 1) := by decide +kernel
theorem d18_1 : decode prog_6_method_5_code 1 = .ok (.getfield 30, 3) := by decide +kernel
theorem d18_4 : decode prog_6_method_5_code 4 = .ok (.ireturn, 1) := by decide +kernel
theorem ef_18 (m : MethodId) (x0 : Addr) : entryFrame m #[(.ref x0)] 1 = mkF m 0 #[.val (.ref x0)] [] := by first | (simp [entryFrame, mkF, argsToLocals, Value.category]; done) | rfl
def Q_18 (Z : State) (r0 : Addr) (u_count_r0 : Int32) (h0 : Heap) (n0 : Nat) (v : Option Value) (h : Heap) (L : List Loc) : Prop := v = some (.int u_count_r0) ∧ Fr n0 L ∧ h = h0
set_option maxRecDepth 65536 in
set_option maxHeartbeats 40000000 in
theorem rm18 (l : Launch) (Z : State) (a0 : Array Value) (hw : ∀ d ∈ tables_1, d.before a0 Z = true) (ws : List Jvm.Cond) (r0 : Addr) (u_count_r0 : Int32) (h0 : Heap) (n0 : Nat) (Z0 : n0 ≤ h0.size) (F_count_r0 : Fld Z h0 r0 cS0 "count" "I" (.int u_count_r0)) :
    MetFree l (⟨cS0, "count", "()I"⟩ : MethodName) (head1 (Jvm.Cond.code (⟨cS0, "count", "()I"⟩ : MethodName) prog_6_method_5_code 1 (some .int) :: ws) ({ frames := 0, cells := 0, slots := 0, locals := 0 } : Room)) (fun a U => a = #[(.ref r0)] ∧ Z.Warmed39 U.vm ∧ U.heap = h0) (fun _ _ _ _ _ => True) (fun _ U o U' => ∃ v L, o = .returned v ∧ Q_18 Z r0 u_count_r0 h0 n0 v U'.heap L ∧ FrameEnd U o U' L ({ frames := 0, cells := 0, slots := 0, locals := 0 } : Room).cells ({ frames := 0, cells := 0, slots := 0, locals := 0 } : Room).slots) := by
  refine MetFree.of_bodySF (plainFor_of_name pn_com_example_measurewright_measurewright_cli_NameBatch) hisR ?_
  intro p e s m args below meth c s₁ Bd hml0 hP hK
  obtain ⟨rfl, hZ, hh⟩ := hP
  have hx := Bd.exec
  have hby := Bd.bytes
  have hml : c.maxLocals = 1 := hml0
  have hown : s.vm.findClass cS0 = some m.cls := findClass_of_methodNamed Bd.named
  have hnm := (name_of_methodNamed Bd.named Bd.method).1
  have X0 : Stand p l e ({ frames := 0, cells := 0, slots := 0, locals := 0 } : Room) s m #[(.ref r0)] below meth c s₁ [] 0 0 := Stand.of_body Bd
  have e0 : s₁.heap = h0 := by rw [← hh, Bd.state]; rfl
  have N0 := Fr.nil n0
  have k0 : ∀ t, OwnS p e below s₁ (mkF m 0 #[rv r0] []) t → OwnS p e below s₁ (entryFrame m #[(.ref r0)] 1) t := fun t k => castTop (ef_18 m r0) k
  obtain ⟨T1, X1, e1, st1⟩ := getF X0 hx hZ hown (host := "") (Or.inl (own_at hw 30 rfl)) Via.refl e0 F_count_r0 (g := (mkF m 1 #[rv r0] [(.ref r0)])) rfl rfl (hb hby d18_1)
  obtain ⟨fs, hr, hrun, hended, hW, hsame⟩ := X1.leave (v := some (.int u_count_r0)) (fun h => by rw [Bd.returns] at h; cases h)
  refine ⟨_, _, k0 _ ?_, hrun, hended, _, _, rfl, ?_, ⟨_, rfl⟩, hW, hsame.mono (by decide) (by decide)⟩
  · show OwnS p e below s₁ (mkF m 0 #[rv r0] []) _
    refine XS.aloadN X0.here hx rfl (hb hby d18_0) rfl rfl ?_
    refine st1 _ ?_
    exact retI X1 hx Bd.returns (hb hby d18_4) hr
  · show Q_18 Z r0 u_count_r0 h0 n0 _ T1.heap _
    rw [e1]
    exact ⟨rfl, N0, rfl⟩
theorem d17_0 : decode prog_6_method_2_code 0 = .ok (.aload_n 0, 1) := by decide +kernel
theorem d17_1 : decode prog_6_method_2_code 1 = .ok (.iconst 0, 1) := by decide +kernel
theorem d17_2 : decode prog_6_method_2_code 2 = .ok (.putfield 30, 3) := by decide +kernel
theorem d17_5 : decode prog_6_method_2_code 5 = .ok (.aload_n 0, 1) := by decide +kernel
theorem d17_6 : decode prog_6_method_2_code 6 = .ok (.iconst 0, 1) := by decide +kernel
theorem d17_7 : decode prog_6_method_2_code 7 = .ok (.putfield 33, 3) := by decide +kernel
theorem d17_10 : decode prog_6_method_2_code 10 = .ok (.aload_n 0, 1) := by decide +kernel
theorem d17_11 : decode prog_6_method_2_code 11 = .ok (.aconst_null, 1) := by decide +kernel
theorem d17_12 : decode prog_6_method_2_code 12 = .ok (.putfield 36, 3) := by decide +kernel
theorem d17_15 : decode prog_6_method_2_code 15 = .ok (.return_, 1) := by decide +kernel
theorem ef_17 (m : MethodId) (x0 : Addr) : entryFrame m #[(.ref x0)] 1 = mkF m 0 #[.val (.ref x0)] [] := by first | (simp [entryFrame, mkF, argsToLocals, Value.category]; done) | rfl
def Q_17 (Z : State) (r0 : Addr) (mN : Int32) (mB : Int32) (bA : Addr) (sA : Addr) (oZ : Addr) (cZ : Addr) (u_count_r0 : Value) (u_used_r0 : Value) (u_limit_r0 : Value) (h0 : Heap) (n0 : Nat) (v : Option Value) (h : Heap) (L : List Loc) : Prop := v = none ∧ Fr n0 L ∧ Keep h0 h [r0] ∧ Fld Z h r0 cS0 "count" "I" (.int 0) ∧ Fld Z h r0 cS0 "used" "I" (.int 0) ∧ Fld Z h r0 cS0 "limit" "[B" .null ∧ Fld Z h r0 cS0 "maxNames" "I" (.int mN) ∧ Fld Z h r0 cS0 "maxBytes" "I" (.int mB) ∧ Fld Z h r0 cS0 "bytes" "[B" (.ref bA) ∧ Fld Z h r0 cS0 "starts" "[I" (.ref sA) ∧ Fld Z h r0 cS0 "order" "[I" (.ref oZ) ∧ Fld Z h r0 cS0 "scratch" "[I" (.ref cZ)
set_option maxRecDepth 65536 in
set_option maxHeartbeats 40000000 in
theorem rm17 (l : Launch) (Z : State) (a0 : Array Value) (hw : ∀ d ∈ tables_1, d.before a0 Z = true) (ws : List Jvm.Cond) (r0 : Addr) (mN : Int32) (mB : Int32) (bA : Addr) (sA : Addr) (oZ : Addr) (cZ : Addr) (u_count_r0 : Value) (u_used_r0 : Value) (u_limit_r0 : Value) (h0 : Heap) (n0 : Nat) (Z0 : n0 ≤ h0.size) (E_r0 : Exa Z h0 r0 cS0) (F_maxNames_r0 : Fld Z h0 r0 cS0 "maxNames" "I" (.int mN)) (F_maxBytes_r0 : Fld Z h0 r0 cS0 "maxBytes" "I" (.int mB)) (F_bytes_r0 : Fld Z h0 r0 cS0 "bytes" "[B" (.ref bA)) (F_starts_r0 : Fld Z h0 r0 cS0 "starts" "[I" (.ref sA)) (F_order_r0 : Fld Z h0 r0 cS0 "order" "[I" (.ref oZ)) (F_scratch_r0 : Fld Z h0 r0 cS0 "scratch" "[I" (.ref cZ)) (F_count_r0 : Fld Z h0 r0 cS0 "count" "I" u_count_r0) (ge_r0 : n0 ≤ r0) (F_used_r0 : Fld Z h0 r0 cS0 "used" "I" u_used_r0) (F_limit_r0 : Fld Z h0 r0 cS0 "limit" "[B" u_limit_r0) :
    MetFree l (⟨cS0, "clear", "()V"⟩ : MethodName) (head1 (Jvm.Cond.code (⟨cS0, "clear", "()V"⟩ : MethodName) prog_6_method_2_code 1 none :: ws) ({ frames := 0, cells := 0, slots := 0, locals := 0 } : Room)) (fun a U => a = #[(.ref r0)] ∧ Z.Warmed39 U.vm ∧ U.heap = h0) (fun _ _ _ _ _ => True) (fun _ U o U' => ∃ v L, o = .returned v ∧ Q_17 Z r0 mN mB bA sA oZ cZ u_count_r0 u_used_r0 u_limit_r0 h0 n0 v U'.heap L ∧ FrameEnd U o U' L ({ frames := 0, cells := 0, slots := 0, locals := 0 } : Room).cells ({ frames := 0, cells := 0, slots := 0, locals := 0 } : Room).slots) := by
  refine MetFree.of_bodySF (plainFor_of_name pn_com_example_measurewright_measurewright_cli_NameBatch) hisR ?_
  intro p e s m args below meth c s₁ Bd hml0 hP hK
  obtain ⟨rfl, hZ, hh⟩ := hP
  have hx := Bd.exec
  have hby := Bd.bytes
  have hml : c.maxLocals = 1 := hml0
  have hown : s.vm.findClass cS0 = some m.cls := findClass_of_methodNamed Bd.named
  have hnm := (name_of_methodNamed Bd.named Bd.method).1
  have X0 : Stand p l e ({ frames := 0, cells := 0, slots := 0, locals := 0 } : Room) s m #[(.ref r0)] below meth c s₁ [] 0 0 := Stand.of_body Bd
  have e0 : s₁.heap = h0 := by rw [← hh, Bd.state]; rfl
  have N0 := Fr.nil n0
  have k0 : ∀ t, OwnS p e below s₁ (mkF m 0 #[rv r0] []) t → OwnS p e below s₁ (entryFrame m #[(.ref r0)] 1) t := fun t k => castTop (ef_17 m r0) k
  obtain ⟨T1, h1, X1, e1, W1, st1⟩ := putF X0 hx hZ hown (host := "") (Or.inl (own_at hw 30 rfl)) Via.refl e0 F_count_r0 E_r0 (Or.inl (own_at hw 31 rfl)) (own_at hw 1 rfl) (ty := .int) (by decide) rfl rfl (g := (mkF m 2 #[rv r0] [(.int 0), (.ref r0)])) rfl rfl (hb hby d17_2)
  have Fw1 : Fld Z h1 r0 cS0 "count" "I" (.int 0) := F_count_r0.same W1
  have N1 := Fr.snoc X1 N0 ge_r0
  have f2 := (E_r0.wr W1)
  have f3 := (F_used_r0.other W1 (Or.inr (slot_ne (Or.inl (own_at hw 33 rfl)) (Or.inl (own_at hw 31 rfl)) (by decide) (t := .int) (t' := .int) (by decide) (by decide))))
  obtain ⟨T4, h4, X4, e4, W4, st4⟩ := putF X1 hx hZ hown (host := "") (Or.inl (own_at hw 32 rfl)) Via.refl e1 f3 f2 (Or.inl (own_at hw 33 rfl)) (own_at hw 1 rfl) (ty := .int) (by decide) rfl rfl (g := (mkF m 7 #[rv r0] [(.int 0), (.ref r0)])) rfl rfl (hb hby d17_7)
  have Fw4 : Fld Z h4 r0 cS0 "used" "I" (.int 0) := f3.same W4
  have N4 := Fr.snoc X4 N1 ge_r0
  have f5 := (f2.wr W4)
  have f6 := ((F_limit_r0.other W1 (Or.inr (slot_ne (Or.inl (own_at hw 29 rfl)) (Or.inl (own_at hw 31 rfl)) (by decide) (t := (.array .byte)) (t' := .int) (by decide) (by decide)))).other W4 (Or.inr (slot_ne (Or.inl (own_at hw 29 rfl)) (Or.inl (own_at hw 33 rfl)) (by decide) (t := (.array .byte)) (t' := .int) (by decide) (by decide))))
  obtain ⟨T7, h7, X7, e7, W7, st7⟩ := putF X4 hx hZ hown (host := "") (Or.inl (own_at hw 28 rfl)) Via.refl e4 f6 f5 (Or.inl (own_at hw 29 rfl)) (own_at hw 1 rfl) (ty := (.array .byte)) (by decide) rfl rfl (g := (mkF m 12 #[rv r0] [.null, (.ref r0)])) rfl rfl (hb hby d17_12)
  have Fw7 : Fld Z h7 r0 cS0 "limit" "[B" .null := f6.same W7
  have N7 := Fr.snoc X7 N4 ge_r0
  have f8 := ((Fw1.other W4 (Or.inr (slot_ne (Or.inl (own_at hw 31 rfl)) (Or.inl (own_at hw 33 rfl)) (by decide) (t := .int) (t' := .int) (by decide) (by decide)))).other W7 (Or.inr (slot_ne (Or.inl (own_at hw 31 rfl)) (Or.inl (own_at hw 29 rfl)) (by decide) (t := .int) (t' := (.array .byte)) (by decide) (by decide))))
  have f9 := (Fw4.other W7 (Or.inr (slot_ne (Or.inl (own_at hw 33 rfl)) (Or.inl (own_at hw 29 rfl)) (by decide) (t := .int) (t' := (.array .byte)) (by decide) (by decide))))
  have f10 := (((F_maxNames_r0.other W1 (Or.inr (slot_ne (Or.inr (own_at hw 20 rfl)) (Or.inl (own_at hw 31 rfl)) (by decide) (t := .int) (t' := .int) (by decide) (by decide)))).other W4 (Or.inr (slot_ne (Or.inr (own_at hw 20 rfl)) (Or.inl (own_at hw 33 rfl)) (by decide) (t := .int) (t' := .int) (by decide) (by decide)))).other W7 (Or.inr (slot_ne (Or.inr (own_at hw 20 rfl)) (Or.inl (own_at hw 29 rfl)) (by decide) (t := .int) (t' := (.array .byte)) (by decide) (by decide))))
  have f11 := (((F_maxBytes_r0.other W1 (Or.inr (slot_ne (Or.inr (own_at hw 22 rfl)) (Or.inl (own_at hw 31 rfl)) (by decide) (t := .int) (t' := .int) (by decide) (by decide)))).other W4 (Or.inr (slot_ne (Or.inr (own_at hw 22 rfl)) (Or.inl (own_at hw 33 rfl)) (by decide) (t := .int) (t' := .int) (by decide) (by decide)))).other W7 (Or.inr (slot_ne (Or.inr (own_at hw 22 rfl)) (Or.inl (own_at hw 29 rfl)) (by decide) (t := .int) (t' := (.array .byte)) (by decide) (by decide))))
  have f12 := (((F_bytes_r0.other W1 (Or.inr (slot_ne (Or.inl (own_at hw 11 rfl)) (Or.inl (own_at hw 31 rfl)) (by decide) (t := (.array .byte)) (t' := .int) (by decide) (by decide)))).other W4 (Or.inr (slot_ne (Or.inl (own_at hw 11 rfl)) (Or.inl (own_at hw 33 rfl)) (by decide) (t := (.array .byte)) (t' := .int) (by decide) (by decide)))).other W7 (Or.inr (slot_ne (Or.inl (own_at hw 11 rfl)) (Or.inl (own_at hw 29 rfl)) (by decide) (t := (.array .byte)) (t' := (.array .byte)) (by decide) (by decide))))
  have f13 := (((F_starts_r0.other W1 (Or.inr (slot_ne (Or.inl (own_at hw 14 rfl)) (Or.inl (own_at hw 31 rfl)) (by decide) (t := (.array .int)) (t' := .int) (by decide) (by decide)))).other W4 (Or.inr (slot_ne (Or.inl (own_at hw 14 rfl)) (Or.inl (own_at hw 33 rfl)) (by decide) (t := (.array .int)) (t' := .int) (by decide) (by decide)))).other W7 (Or.inr (slot_ne (Or.inl (own_at hw 14 rfl)) (Or.inl (own_at hw 29 rfl)) (by decide) (t := (.array .int)) (t' := (.array .byte)) (by decide) (by decide))))
  have f14 := (((F_order_r0.other W1 (Or.inr (slot_ne (Or.inl (own_at hw 16 rfl)) (Or.inl (own_at hw 31 rfl)) (by decide) (t := (.array .int)) (t' := .int) (by decide) (by decide)))).other W4 (Or.inr (slot_ne (Or.inl (own_at hw 16 rfl)) (Or.inl (own_at hw 33 rfl)) (by decide) (t := (.array .int)) (t' := .int) (by decide) (by decide)))).other W7 (Or.inr (slot_ne (Or.inl (own_at hw 16 rfl)) (Or.inl (own_at hw 29 rfl)) (by decide) (t := (.array .int)) (t' := (.array .byte)) (by decide) (by decide))))
  have f15 := (((F_scratch_r0.other W1 (Or.inr (slot_ne (Or.inl (own_at hw 18 rfl)) (Or.inl (own_at hw 31 rfl)) (by decide) (t := (.array .int)) (t' := .int) (by decide) (by decide)))).other W4 (Or.inr (slot_ne (Or.inl (own_at hw 18 rfl)) (Or.inl (own_at hw 33 rfl)) (by decide) (t := (.array .int)) (t' := .int) (by decide) (by decide)))).other W7 (Or.inr (slot_ne (Or.inl (own_at hw 18 rfl)) (Or.inl (own_at hw 29 rfl)) (by decide) (t := (.array .int)) (t' := (.array .byte)) (by decide) (by decide))))
  obtain ⟨fs, hr, hrun, hended, hW, hsame⟩ := X7.leave (v := none) (fun _ => rfl)
  refine ⟨_, _, k0 _ ?_, hrun, hended, _, _, rfl, ?_, ⟨_, rfl⟩, hW, hsame.mono (by decide) (by decide)⟩
  · show OwnS p e below s₁ (mkF m 0 #[rv r0] []) _
    refine XS.aloadN X0.here hx rfl (hb hby d17_0) rfl rfl ?_
    refine XS.iconst X0.here hx rfl (hb hby d17_1) ?_
    refine st1 _ ?_
    refine XS.aloadN X1.here hx rfl (hb hby d17_5) rfl rfl ?_
    refine XS.iconst X1.here hx rfl (hb hby d17_6) ?_
    refine st4 _ ?_
    refine XS.aloadN X4.here hx rfl (hb hby d17_10) rfl rfl ?_
    refine XS.aconstNull X4.here hx rfl (hb hby d17_11) ?_
    refine st7 _ ?_
    exact X7.returnOut hx Bd.returns (hb hby d17_15) hr
  · show Q_17 Z r0 mN mB bA sA oZ cZ u_count_r0 u_used_r0 u_limit_r0 h0 n0 _ T7.heap _
    rw [e7]
    exact ⟨rfl, N7, ((((Keep.refl h0 [r0]).wr W1 (Or.inl (List.mem_of_getElem? (i := 0) rfl))).wr W4 (Or.inl (List.mem_of_getElem? (i := 0) rfl))).wr W7 (Or.inl (List.mem_of_getElem? (i := 0) rfl))), f8, f9, Fw7, f10, f11, f12, f13, f14, f15⟩
theorem d1_0 : decode prog_6_method_1_code 0 = .ok (.aload_n 0, 1) := by decide +kernel
theorem d1_1 : decode prog_6_method_1_code 1 = .ok (.invokespecial 1, 3) := by decide +kernel
theorem d1_4 : decode prog_6_method_1_code 4 = .ok (.aload_n 0, 1) := by decide +kernel
theorem d1_5 : decode prog_6_method_1_code 5 = .ok (.sipush 4096, 3) := by decide +kernel
theorem d1_8 : decode prog_6_method_1_code 8 = .ok (.newarray .byte, 2) := by decide +kernel
theorem d1_10 : decode prog_6_method_1_code 10 = .ok (.putfield 7, 3) := by decide +kernel
theorem d1_13 : decode prog_6_method_1_code 13 = .ok (.aload_n 0, 1) := by decide +kernel
theorem d1_14 : decode prog_6_method_1_code 14 = .ok (.sipush 256, 3) := by decide +kernel
theorem d1_17 : decode prog_6_method_1_code 17 = .ok (.newarray .int, 2) := by decide +kernel
theorem d1_19 : decode prog_6_method_1_code 19 = .ok (.putfield 13, 3) := by decide +kernel
theorem d1_22 : decode prog_6_method_1_code 22 = .ok (.aload_n 0, 1) := by decide +kernel
theorem d1_23 : decode prog_6_method_1_code 23 = .ok (.iconst 0, 1) := by decide +kernel
theorem d1_24 : decode prog_6_method_1_code 24 = .ok (.newarray .int, 2) := by decide +kernel
theorem d1_26 : decode prog_6_method_1_code 26 = .ok (.putfield 17, 3) := by decide +kernel
theorem d1_29 : decode prog_6_method_1_code 29 = .ok (.aload_n 0, 1) := by decide +kernel
theorem d1_30 : decode prog_6_method_1_code 30 = .ok (.iconst 0, 1) := by decide +kernel
theorem d1_31 : decode prog_6_method_1_code 31 = .ok (.newarray .int, 2) := by decide +kernel
theorem d1_33 : decode prog_6_method_1_code 33 = .ok (.putfield 20, 3) := by decide +kernel
theorem d1_36 : decode prog_6_method_1_code 36 = .ok (.aload_n 0, 1) := by decide +kernel
theorem d1_37 : decode prog_6_method_1_code 37 = .ok (.iload_n 1, 1) := by decide +kernel
theorem d1_38 : decode prog_6_method_1_code 38 = .ok (.putfield 23, 3) := by decide +kernel
theorem d1_41 : decode prog_6_method_1_code 41 = .ok (.aload_n 0, 1) := by decide +kernel
theorem d1_42 : decode prog_6_method_1_code 42 = .ok (.iload_n 2, 1) := by decide +kernel
theorem d1_43 : decode prog_6_method_1_code 43 = .ok (.putfield 27, 3) := by decide +kernel
theorem d1_46 : decode prog_6_method_1_code 46 = .ok (.return_, 1) := by decide +kernel
theorem ef_1 (m : MethodId) (x0 : Addr) (x1 : Int32) (x2 : Int32) : entryFrame m #[(.ref x0), (.int x1), (.int x2)] 3 = mkF m 0 #[.val (.ref x0), .val (.int x1), .val (.int x2)] [] := by first | (simp [entryFrame, mkF, argsToLocals, Value.category]; done) | rfl
def Q_1 (Z : State) (r0 : Addr) (p1 : Int32) (p2 : Int32) (u_bytes_r0 : Value) (u_starts_r0 : Value) (u_order_r0 : Value) (u_scratch_r0 : Value) (u_maxNames_r0 : Value) (u_maxBytes_r0 : Value) (h0 : Heap) (n0 : Nat) (v : Option Value) (h : Heap) (L : List Loc) : Prop := ∃ bA : Addr, ∃ sA : Addr, ∃ oA : Addr, ∃ cA : Addr, ∃ kB : ClassId, ∃ kS : ClassId, ∃ kO : ClassId, ∃ kC : ClassId, v = none ∧ Fr n0 L ∧ Keep h0 h [r0] ∧ h0.size ≤ bA ∧ h0.size ≤ sA ∧ h0.size ≤ oA ∧ bA ≠ sA ∧ oA ≠ bA ∧ oA ≠ sA ∧ Exa Z h r0 cS0 ∧ Fld Z h r0 cS0 "maxNames" "I" (.int p1) ∧ Fld Z h r0 cS0 "maxBytes" "I" (.int p2) ∧ Fld Z h r0 cS0 "count" "I" (.int 0) ∧ Fld Z h r0 cS0 "used" "I" (.int 0) ∧ Fld Z h r0 cS0 "limit" "[B" .null ∧ Fld Z h r0 cS0 "bytes" "[B" (.ref bA) ∧ Arv Z h bA kB .byte (4096 : Int32) [(.int 0), (.int 0), (.int 0)] (.int 0) ∧ Exa Z h bA "[B" ∧ Fld Z h r0 cS0 "starts" "[I" (.ref sA) ∧ Arv Z h sA kS .int (256 : Int32) [(.int 0), (.int 0), (.int 0)] (.int 0) ∧ Exa Z h sA "[I" ∧ Fld Z h r0 cS0 "order" "[I" (.ref oA) ∧ Arv Z h oA kO .int (0 : Int32) [] (.int 0) ∧ Fld Z h r0 cS0 "scratch" "[I" (.ref cA)
set_option maxRecDepth 65536 in
set_option maxHeartbeats 40000000 in
theorem rm1 (l : Launch) (Z : State) (a0 : Array Value) (hw : ∀ d ∈ tables_1, d.before a0 Z = true) (ws : List Jvm.Cond) (r0 : Addr) (p1 : Int32) (p2 : Int32) (u_bytes_r0 : Value) (u_starts_r0 : Value) (u_order_r0 : Value) (u_scratch_r0 : Value) (u_maxNames_r0 : Value) (u_maxBytes_r0 : Value) (h0 : Heap) (n0 : Nat) (Z0 : n0 ≤ h0.size) (E_r0 : Exa Z h0 r0 cS0) (F_limit_r0 : Fld Z h0 r0 cS0 "limit" "[B" .null) (F_count_r0 : Fld Z h0 r0 cS0 "count" "I" (.int 0)) (F_used_r0 : Fld Z h0 r0 cS0 "used" "I" (.int 0)) (F_bytes_r0 : Fld Z h0 r0 cS0 "bytes" "[B" u_bytes_r0) (ge_r0 : n0 ≤ r0) (F_starts_r0 : Fld Z h0 r0 cS0 "starts" "[I" u_starts_r0) (F_order_r0 : Fld Z h0 r0 cS0 "order" "[I" u_order_r0) (F_scratch_r0 : Fld Z h0 r0 cS0 "scratch" "[I" u_scratch_r0) (F_maxNames_r0 : Fld Z h0 r0 cS0 "maxNames" "I" u_maxNames_r0) (F_maxBytes_r0 : Fld Z h0 r0 cS0 "maxBytes" "I" u_maxBytes_r0) :
    MetFree l (⟨cS0, "<init>", "(II)V"⟩ : MethodName) (head1 (Jvm.Cond.code (⟨cS0, "<init>", "(II)V"⟩ : MethodName) prog_6_method_1_code 3 none :: ws) ({ frames := 1, cells := 4, slots := 4352, locals := 12 } : Room)) (fun a U => a = #[(.ref r0), (.int p1), (.int p2)] ∧ Z.Warmed39 U.vm ∧ U.heap = h0) (fun _ _ _ _ _ => True) (fun _ U o U' => ∃ v L, o = .returned v ∧ Q_1 Z r0 p1 p2 u_bytes_r0 u_starts_r0 u_order_r0 u_scratch_r0 u_maxNames_r0 u_maxBytes_r0 h0 n0 v U'.heap L ∧ FrameEnd U o U' L ({ frames := 1, cells := 4, slots := 4352, locals := 12 } : Room).cells ({ frames := 1, cells := 4, slots := 4352, locals := 12 } : Room).slots) := by
  refine MetFree.of_bodySF (plainFor_of_name pn_com_example_measurewright_measurewright_cli_NameBatch) hisR ?_
  intro p e s m args below meth c s₁ Bd hml0 hP hK
  obtain ⟨rfl, hZ, hh⟩ := hP
  have hx := Bd.exec
  have hby := Bd.bytes
  have hml : c.maxLocals = 3 := hml0
  have hown : s.vm.findClass cS0 = some m.cls := findClass_of_methodNamed Bd.named
  have hnm := (name_of_methodNamed Bd.named Bd.method).1
  have X0 : Stand p l e ({ frames := 1, cells := 4, slots := 4352, locals := 12 } : Room) s m #[(.ref r0), (.int p1), (.int p2)] below meth c s₁ [] 0 0 := Stand.of_body Bd
  have e0 : s₁.heap = h0 := by rw [← hh, Bd.state]; rfl
  have N0 := Fr.nil n0
  have k0 : ∀ t, OwnS p e below s₁ (mkF m 0 #[rv r0, iv p1, iv p2] []) t → OwnS p e below s₁ (entryFrame m #[(.ref r0), (.int p1), (.int p2)] 3) t := fun t k => castTop (ef_1 m r0 p1 p2) k
  obtain ⟨T1, X1, e1, st1⟩ := initO X0 hx hZ hown (own_at hw 6 rfl) (own_at hw 7 rfl) (own_at hw 8 rfl) e0 (g := (mkF m 1 #[rv r0, iv p1, iv p2] [(.ref r0)])) rfl (by rw [hml]; rfl) rfl (hb hby d1_1) (by decide) (W := 0) (Nat.le_refl _) (by decide)
  obtain ⟨T2, h2, k2, X2, e2, E2, A2, EA2, st2⟩ := newPE X1 hx hZ (own_at hw 9 rfl) e1 (g := (mkF m 8 #[rv r0, iv p1, iv p2] [(.int 4096), (.ref r0)])) rfl (hb hby d1_8) rfl (by decide) (cap := 4096) (by decide) (by decide) (by decide) (by decide) (ad := "[B") (by decide)
  obtain ⟨b2, g2⟩ : ∃ z, z = h0.size := ⟨_, rfl⟩
  rw [← g2] at A2 EA2 st2
  have g_b2 : n0 ≤ b2 := Nat.le_trans Z0 (Nat.le_of_eq g2.symm)
  have sz_b2 : h0.size ≤ b2 := Nat.le_trans (Keep.refl h0 []).1 (Nat.le_of_eq g2.symm)
  have V_b2 : Arv Z h2 b2 k2 .byte (4096 : Int32) [(.int 0), (.int 0), (.int 0)] (.int 0) := (Arv.new A2 (by decide)).pad (pad_rep [] (.int 0) 3)
  have f3 := (E_r0.ext E2)
  have f4 := (F_bytes_r0.ext E2)
  obtain ⟨T5, h5, X5, e5, W5, st5⟩ := putF X2 hx hZ hown (host := "") (Or.inl (own_at hw 10 rfl)) Via.refl e2 f4 f3 (Or.inl (own_at hw 11 rfl)) (own_at hw 1 rfl) (ty := (.array .byte)) (by decide) rfl rfl (g := (mkF m 10 #[rv r0, iv p1, iv p2] [(.ref b2), (.ref r0)])) rfl rfl (hb hby d1_10)
  have Fw5 : Fld Z h5 r0 cS0 "bytes" "[B" (.ref b2) := f4.same W5
  have N5 := Fr.snoc X5 N0 ge_r0
  have f6 := (f3.wr W5)
  have f7 := (EA2.wr W5)
  obtain ⟨T8, h8, k8, X8, e8, E8, A8, EA8, st8⟩ := newPE X5 hx hZ (own_at hw 12 rfl) e5 (g := (mkF m 17 #[rv r0, iv p1, iv p2] [(.int 256), (.ref r0)])) rfl (hb hby d1_17) rfl (by decide) (cap := 256) (by decide) (by decide) (by decide) (by decide) (ad := "[I") (by decide)
  obtain ⟨b8, g8⟩ : ∃ z, z = h5.size := ⟨_, rfl⟩
  rw [← g8] at A8 EA8 st8
  have g_b8 : n0 ≤ b8 := Nat.le_trans (Nat.le_trans (Nat.le_trans Z0 E2.1) (Keep.of_wr W5).1) (Nat.le_of_eq g8.symm)
  have sz_b8 : h0.size ≤ b8 := Nat.le_trans (((Keep.refl h0 [r0]).ext E2).wr W5 (Or.inl (List.mem_of_getElem? (i := 0) rfl))).1 (Nat.le_of_eq g8.symm)
  have V_b8 : Arv Z h8 b8 k8 .int (256 : Int32) [(.int 0), (.int 0), (.int 0)] (.int 0) := (Arv.new A8 (by decide)).pad (pad_rep [] (.int 0) 3)
  have f9 := (f6.ext E8)
  have f10 := (((F_starts_r0.ext E2).other W5 (Or.inr (slot_ne (Or.inl (own_at hw 14 rfl)) (Or.inl (own_at hw 11 rfl)) (by decide) (t := (.array .int)) (t' := (.array .byte)) (by decide) (by decide)))).ext E8)
  obtain ⟨T11, h11, X11, e11, W11, st11⟩ := putF X8 hx hZ hown (host := "") (Or.inl (own_at hw 13 rfl)) Via.refl e8 f10 f9 (Or.inl (own_at hw 14 rfl)) (own_at hw 1 rfl) (ty := (.array .int)) (by decide) rfl rfl (g := (mkF m 19 #[rv r0, iv p1, iv p2] [(.ref b8), (.ref r0)])) rfl rfl (hb hby d1_19)
  have Fw11 : Fld Z h11 r0 cS0 "starts" "[I" (.ref b8) := f10.same W11
  have N11 := Fr.snoc X11 N5 ge_r0
  have f12 := (f9.wr W11)
  have f13 := ((f7.ext E8).wr W11)
  have f14 := (EA8.wr W11)
  obtain ⟨T15, h15, k15, X15, e15, E15, A15, EA15, st15⟩ := newPE X11 hx hZ (own_at hw 12 rfl) e11 (g := (mkF m 24 #[rv r0, iv p1, iv p2] [(.int 0), (.ref r0)])) rfl (hb hby d1_24) rfl (by decide) (cap := 0) (by decide) (by decide) (by decide) (by decide) (ad := "[I") (by decide)
  obtain ⟨b15, g15⟩ : ∃ z, z = h11.size := ⟨_, rfl⟩
  rw [← g15] at A15 EA15 st15
  have g_b15 : n0 ≤ b15 := Nat.le_trans (Nat.le_trans (Nat.le_trans (Nat.le_trans (Nat.le_trans Z0 E2.1) (Keep.of_wr W5).1) E8.1) (Keep.of_wr W11).1) (Nat.le_of_eq g15.symm)
  have sz_b15 : h0.size ≤ b15 := Nat.le_trans (((((Keep.refl h0 [r0]).ext E2).wr W5 (Or.inl (List.mem_of_getElem? (i := 0) rfl))).ext E8).wr W11 (Or.inl (List.mem_of_getElem? (i := 0) rfl))).1 (Nat.le_of_eq g15.symm)
  have V_b15 : Arv Z h15 b15 k15 .int (0 : Int32) [] (.int 0) := Arv.new A15 (by decide)
  have f16 := (f12.ext E15)
  have f17 := (((((F_order_r0.ext E2).other W5 (Or.inr (slot_ne (Or.inl (own_at hw 16 rfl)) (Or.inl (own_at hw 11 rfl)) (by decide) (t := (.array .int)) (t' := (.array .byte)) (by decide) (by decide)))).ext E8).other W11 (Or.inr (slot_ne (Or.inl (own_at hw 16 rfl)) (Or.inl (own_at hw 14 rfl)) (by decide) (t := (.array .int)) (t' := (.array .int)) (by decide) (by decide)))).ext E15)
  obtain ⟨T18, h18, X18, e18, W18, st18⟩ := putF X15 hx hZ hown (host := "") (Or.inl (own_at hw 15 rfl)) Via.refl e15 f17 f16 (Or.inl (own_at hw 16 rfl)) (own_at hw 1 rfl) (ty := (.array .int)) (by decide) rfl rfl (g := (mkF m 26 #[rv r0, iv p1, iv p2] [(.ref b15), (.ref r0)])) rfl rfl (hb hby d1_26)
  have Fw18 : Fld Z h18 r0 cS0 "order" "[I" (.ref b15) := f17.same W18
  have N18 := Fr.snoc X18 N11 ge_r0
  have f19 := (f16.wr W18)
  have f20 := ((f13.ext E15).wr W18)
  have f21 := ((f14.ext E15).wr W18)
  have f22 := (EA15.wr W18)
  obtain ⟨T23, h23, k23, X23, e23, E23, A23, EA23, st23⟩ := newPE X18 hx hZ (own_at hw 12 rfl) e18 (g := (mkF m 31 #[rv r0, iv p1, iv p2] [(.int 0), (.ref r0)])) rfl (hb hby d1_31) rfl (by decide) (cap := 0) (by decide) (by decide) (by decide) (by decide) (ad := "[I") (by decide)
  obtain ⟨b23, g23⟩ : ∃ z, z = h18.size := ⟨_, rfl⟩
  rw [← g23] at A23 EA23 st23
  have g_b23 : n0 ≤ b23 := Nat.le_trans (Nat.le_trans (Nat.le_trans (Nat.le_trans (Nat.le_trans (Nat.le_trans (Nat.le_trans Z0 E2.1) (Keep.of_wr W5).1) E8.1) (Keep.of_wr W11).1) E15.1) (Keep.of_wr W18).1) (Nat.le_of_eq g23.symm)
  have sz_b23 : h0.size ≤ b23 := Nat.le_trans (((((((Keep.refl h0 [r0]).ext E2).wr W5 (Or.inl (List.mem_of_getElem? (i := 0) rfl))).ext E8).wr W11 (Or.inl (List.mem_of_getElem? (i := 0) rfl))).ext E15).wr W18 (Or.inl (List.mem_of_getElem? (i := 0) rfl))).1 (Nat.le_of_eq g23.symm)
  have V_b23 : Arv Z h23 b23 k23 .int (0 : Int32) [] (.int 0) := Arv.new A23 (by decide)
  have f24 := (f19.ext E23)
  have f25 := (((((((F_scratch_r0.ext E2).other W5 (Or.inr (slot_ne (Or.inl (own_at hw 18 rfl)) (Or.inl (own_at hw 11 rfl)) (by decide) (t := (.array .int)) (t' := (.array .byte)) (by decide) (by decide)))).ext E8).other W11 (Or.inr (slot_ne (Or.inl (own_at hw 18 rfl)) (Or.inl (own_at hw 14 rfl)) (by decide) (t := (.array .int)) (t' := (.array .int)) (by decide) (by decide)))).ext E15).other W18 (Or.inr (slot_ne (Or.inl (own_at hw 18 rfl)) (Or.inl (own_at hw 16 rfl)) (by decide) (t := (.array .int)) (t' := (.array .int)) (by decide) (by decide)))).ext E23)
  obtain ⟨T26, h26, X26, e26, W26, st26⟩ := putF X23 hx hZ hown (host := "") (Or.inl (own_at hw 17 rfl)) Via.refl e23 f25 f24 (Or.inl (own_at hw 18 rfl)) (own_at hw 1 rfl) (ty := (.array .int)) (by decide) rfl rfl (g := (mkF m 33 #[rv r0, iv p1, iv p2] [(.ref b23), (.ref r0)])) rfl rfl (hb hby d1_33)
  have Fw26 : Fld Z h26 r0 cS0 "scratch" "[I" (.ref b23) := f25.same W26
  have N26 := Fr.snoc X26 N18 ge_r0
  have f27 := (f24.wr W26)
  have f28 := ((((((((F_maxNames_r0.ext E2).other W5 (Or.inr (slot_ne (Or.inr (own_at hw 20 rfl)) (Or.inl (own_at hw 11 rfl)) (by decide) (t := .int) (t' := (.array .byte)) (by decide) (by decide)))).ext E8).other W11 (Or.inr (slot_ne (Or.inr (own_at hw 20 rfl)) (Or.inl (own_at hw 14 rfl)) (by decide) (t := .int) (t' := (.array .int)) (by decide) (by decide)))).ext E15).other W18 (Or.inr (slot_ne (Or.inr (own_at hw 20 rfl)) (Or.inl (own_at hw 16 rfl)) (by decide) (t := .int) (t' := (.array .int)) (by decide) (by decide)))).ext E23).other W26 (Or.inr (slot_ne (Or.inr (own_at hw 20 rfl)) (Or.inl (own_at hw 18 rfl)) (by decide) (t := .int) (t' := (.array .int)) (by decide) (by decide))))
  obtain ⟨T29, h29, X29, e29, W29, st29⟩ := putF X26 hx hZ hown (host := "") (Or.inl (own_at hw 19 rfl)) Via.refl e26 f28 f27 (Or.inr ⟨(own_at hw 20 rfl), rfl, hnm⟩) (own_at hw 1 rfl) (ty := .int) (by decide) rfl rfl (g := (mkF m 38 #[rv r0, iv p1, iv p2] [(.int p1), (.ref r0)])) rfl rfl (hb hby d1_38)
  have Fw29 : Fld Z h29 r0 cS0 "maxNames" "I" (.int p1) := f28.same W29
  have N29 := Fr.snoc X29 N26 ge_r0
  have f30 := (f27.wr W29)
  have f31 := (((((((((F_maxBytes_r0.ext E2).other W5 (Or.inr (slot_ne (Or.inr (own_at hw 22 rfl)) (Or.inl (own_at hw 11 rfl)) (by decide) (t := .int) (t' := (.array .byte)) (by decide) (by decide)))).ext E8).other W11 (Or.inr (slot_ne (Or.inr (own_at hw 22 rfl)) (Or.inl (own_at hw 14 rfl)) (by decide) (t := .int) (t' := (.array .int)) (by decide) (by decide)))).ext E15).other W18 (Or.inr (slot_ne (Or.inr (own_at hw 22 rfl)) (Or.inl (own_at hw 16 rfl)) (by decide) (t := .int) (t' := (.array .int)) (by decide) (by decide)))).ext E23).other W26 (Or.inr (slot_ne (Or.inr (own_at hw 22 rfl)) (Or.inl (own_at hw 18 rfl)) (by decide) (t := .int) (t' := (.array .int)) (by decide) (by decide)))).other W29 (Or.inr (slot_ne (Or.inr (own_at hw 22 rfl)) (Or.inr (own_at hw 20 rfl)) (by decide) (t := .int) (t' := .int) (by decide) (by decide))))
  obtain ⟨T32, h32, X32, e32, W32, st32⟩ := putF X29 hx hZ hown (host := "") (Or.inl (own_at hw 21 rfl)) Via.refl e29 f31 f30 (Or.inr ⟨(own_at hw 22 rfl), rfl, hnm⟩) (own_at hw 1 rfl) (ty := .int) (by decide) rfl rfl (g := (mkF m 43 #[rv r0, iv p1, iv p2] [(.int p2), (.ref r0)])) rfl rfl (hb hby d1_43)
  have Fw32 : Fld Z h32 r0 cS0 "maxBytes" "I" (.int p2) := f31.same W32
  have N32 := Fr.snoc X32 N29 ge_r0
  have f33 := (f30.wr W32)
  have f34 := (Fw29.other W32 (Or.inr (slot_ne (Or.inr (own_at hw 20 rfl)) (Or.inr (own_at hw 22 rfl)) (by decide) (t := .int) (t' := .int) (by decide) (by decide))))
  have f35 := ((((((((((F_count_r0.ext E2).other W5 (Or.inr (slot_ne (Or.inl (own_at hw 31 rfl)) (Or.inl (own_at hw 11 rfl)) (by decide) (t := .int) (t' := (.array .byte)) (by decide) (by decide)))).ext E8).other W11 (Or.inr (slot_ne (Or.inl (own_at hw 31 rfl)) (Or.inl (own_at hw 14 rfl)) (by decide) (t := .int) (t' := (.array .int)) (by decide) (by decide)))).ext E15).other W18 (Or.inr (slot_ne (Or.inl (own_at hw 31 rfl)) (Or.inl (own_at hw 16 rfl)) (by decide) (t := .int) (t' := (.array .int)) (by decide) (by decide)))).ext E23).other W26 (Or.inr (slot_ne (Or.inl (own_at hw 31 rfl)) (Or.inl (own_at hw 18 rfl)) (by decide) (t := .int) (t' := (.array .int)) (by decide) (by decide)))).other W29 (Or.inr (slot_ne (Or.inl (own_at hw 31 rfl)) (Or.inr (own_at hw 20 rfl)) (by decide) (t := .int) (t' := .int) (by decide) (by decide)))).other W32 (Or.inr (slot_ne (Or.inl (own_at hw 31 rfl)) (Or.inr (own_at hw 22 rfl)) (by decide) (t := .int) (t' := .int) (by decide) (by decide))))
  have f36 := ((((((((((F_used_r0.ext E2).other W5 (Or.inr (slot_ne (Or.inl (own_at hw 33 rfl)) (Or.inl (own_at hw 11 rfl)) (by decide) (t := .int) (t' := (.array .byte)) (by decide) (by decide)))).ext E8).other W11 (Or.inr (slot_ne (Or.inl (own_at hw 33 rfl)) (Or.inl (own_at hw 14 rfl)) (by decide) (t := .int) (t' := (.array .int)) (by decide) (by decide)))).ext E15).other W18 (Or.inr (slot_ne (Or.inl (own_at hw 33 rfl)) (Or.inl (own_at hw 16 rfl)) (by decide) (t := .int) (t' := (.array .int)) (by decide) (by decide)))).ext E23).other W26 (Or.inr (slot_ne (Or.inl (own_at hw 33 rfl)) (Or.inl (own_at hw 18 rfl)) (by decide) (t := .int) (t' := (.array .int)) (by decide) (by decide)))).other W29 (Or.inr (slot_ne (Or.inl (own_at hw 33 rfl)) (Or.inr (own_at hw 20 rfl)) (by decide) (t := .int) (t' := .int) (by decide) (by decide)))).other W32 (Or.inr (slot_ne (Or.inl (own_at hw 33 rfl)) (Or.inr (own_at hw 22 rfl)) (by decide) (t := .int) (t' := .int) (by decide) (by decide))))
  have f37 := ((((((((((F_limit_r0.ext E2).other W5 (Or.inr (slot_ne (Or.inl (own_at hw 29 rfl)) (Or.inl (own_at hw 11 rfl)) (by decide) (t := (.array .byte)) (t' := (.array .byte)) (by decide) (by decide)))).ext E8).other W11 (Or.inr (slot_ne (Or.inl (own_at hw 29 rfl)) (Or.inl (own_at hw 14 rfl)) (by decide) (t := (.array .byte)) (t' := (.array .int)) (by decide) (by decide)))).ext E15).other W18 (Or.inr (slot_ne (Or.inl (own_at hw 29 rfl)) (Or.inl (own_at hw 16 rfl)) (by decide) (t := (.array .byte)) (t' := (.array .int)) (by decide) (by decide)))).ext E23).other W26 (Or.inr (slot_ne (Or.inl (own_at hw 29 rfl)) (Or.inl (own_at hw 18 rfl)) (by decide) (t := (.array .byte)) (t' := (.array .int)) (by decide) (by decide)))).other W29 (Or.inr (slot_ne (Or.inl (own_at hw 29 rfl)) (Or.inr (own_at hw 20 rfl)) (by decide) (t := (.array .byte)) (t' := .int) (by decide) (by decide)))).other W32 (Or.inr (slot_ne (Or.inl (own_at hw 29 rfl)) (Or.inr (own_at hw 22 rfl)) (by decide) (t := (.array .byte)) (t' := .int) (by decide) (by decide))))
  have f38 := ((((((((Fw5.ext E8).other W11 (Or.inr (slot_ne (Or.inl (own_at hw 11 rfl)) (Or.inl (own_at hw 14 rfl)) (by decide) (t := (.array .byte)) (t' := (.array .int)) (by decide) (by decide)))).ext E15).other W18 (Or.inr (slot_ne (Or.inl (own_at hw 11 rfl)) (Or.inl (own_at hw 16 rfl)) (by decide) (t := (.array .byte)) (t' := (.array .int)) (by decide) (by decide)))).ext E23).other W26 (Or.inr (slot_ne (Or.inl (own_at hw 11 rfl)) (Or.inl (own_at hw 18 rfl)) (by decide) (t := (.array .byte)) (t' := (.array .int)) (by decide) (by decide)))).other W29 (Or.inr (slot_ne (Or.inl (own_at hw 11 rfl)) (Or.inr (own_at hw 20 rfl)) (by decide) (t := (.array .byte)) (t' := .int) (by decide) (by decide)))).other W32 (Or.inr (slot_ne (Or.inl (own_at hw 11 rfl)) (Or.inr (own_at hw 22 rfl)) (by decide) (t := (.array .byte)) (t' := .int) (by decide) (by decide))))
  have f39 := (((((((((V_b2.other W5 (Ne.symm (Nat.ne_of_lt (Nat.lt_of_lt_of_le E_r0.lt (Nat.le_of_eq g2.symm))))).ext E8).other W11 (Ne.symm (Nat.ne_of_lt (Nat.lt_of_lt_of_le E_r0.lt (Nat.le_of_eq g2.symm))))).ext E15).other W18 (Ne.symm (Nat.ne_of_lt (Nat.lt_of_lt_of_le E_r0.lt (Nat.le_of_eq g2.symm))))).ext E23).other W26 (Ne.symm (Nat.ne_of_lt (Nat.lt_of_lt_of_le E_r0.lt (Nat.le_of_eq g2.symm))))).other W29 (Ne.symm (Nat.ne_of_lt (Nat.lt_of_lt_of_le E_r0.lt (Nat.le_of_eq g2.symm))))).other W32 (Ne.symm (Nat.ne_of_lt (Nat.lt_of_lt_of_le E_r0.lt (Nat.le_of_eq g2.symm)))))
  have f40 := ((((f20.ext E23).wr W26).wr W29).wr W32)
  have f41 := ((((((Fw11.ext E15).other W18 (Or.inr (slot_ne (Or.inl (own_at hw 14 rfl)) (Or.inl (own_at hw 16 rfl)) (by decide) (t := (.array .int)) (t' := (.array .int)) (by decide) (by decide)))).ext E23).other W26 (Or.inr (slot_ne (Or.inl (own_at hw 14 rfl)) (Or.inl (own_at hw 18 rfl)) (by decide) (t := (.array .int)) (t' := (.array .int)) (by decide) (by decide)))).other W29 (Or.inr (slot_ne (Or.inl (own_at hw 14 rfl)) (Or.inr (own_at hw 20 rfl)) (by decide) (t := (.array .int)) (t' := .int) (by decide) (by decide)))).other W32 (Or.inr (slot_ne (Or.inl (own_at hw 14 rfl)) (Or.inr (own_at hw 22 rfl)) (by decide) (t := (.array .int)) (t' := .int) (by decide) (by decide))))
  have f42 := (((((((V_b8.other W11 (Ne.symm (Nat.ne_of_lt (Nat.lt_of_lt_of_le f6.lt (Nat.le_of_eq g8.symm))))).ext E15).other W18 (Ne.symm (Nat.ne_of_lt (Nat.lt_of_lt_of_le f6.lt (Nat.le_of_eq g8.symm))))).ext E23).other W26 (Ne.symm (Nat.ne_of_lt (Nat.lt_of_lt_of_le f6.lt (Nat.le_of_eq g8.symm))))).other W29 (Ne.symm (Nat.ne_of_lt (Nat.lt_of_lt_of_le f6.lt (Nat.le_of_eq g8.symm))))).other W32 (Ne.symm (Nat.ne_of_lt (Nat.lt_of_lt_of_le f6.lt (Nat.le_of_eq g8.symm)))))
  have f43 := ((((f21.ext E23).wr W26).wr W29).wr W32)
  have f44 := ((((Fw18.ext E23).other W26 (Or.inr (slot_ne (Or.inl (own_at hw 16 rfl)) (Or.inl (own_at hw 18 rfl)) (by decide) (t := (.array .int)) (t' := (.array .int)) (by decide) (by decide)))).other W29 (Or.inr (slot_ne (Or.inl (own_at hw 16 rfl)) (Or.inr (own_at hw 20 rfl)) (by decide) (t := (.array .int)) (t' := .int) (by decide) (by decide)))).other W32 (Or.inr (slot_ne (Or.inl (own_at hw 16 rfl)) (Or.inr (own_at hw 22 rfl)) (by decide) (t := (.array .int)) (t' := .int) (by decide) (by decide))))
  have f45 := (((((V_b15.other W18 (Ne.symm (Nat.ne_of_lt (Nat.lt_of_lt_of_le f12.lt (Nat.le_of_eq g15.symm))))).ext E23).other W26 (Ne.symm (Nat.ne_of_lt (Nat.lt_of_lt_of_le f12.lt (Nat.le_of_eq g15.symm))))).other W29 (Ne.symm (Nat.ne_of_lt (Nat.lt_of_lt_of_le f12.lt (Nat.le_of_eq g15.symm))))).other W32 (Ne.symm (Nat.ne_of_lt (Nat.lt_of_lt_of_le f12.lt (Nat.le_of_eq g15.symm)))))
  have f46 := ((Fw26.other W29 (Or.inr (slot_ne (Or.inl (own_at hw 18 rfl)) (Or.inr (own_at hw 20 rfl)) (by decide) (t := (.array .int)) (t' := .int) (by decide) (by decide)))).other W32 (Or.inr (slot_ne (Or.inl (own_at hw 18 rfl)) (Or.inr (own_at hw 22 rfl)) (by decide) (t := (.array .int)) (t' := .int) (by decide) (by decide))))
  obtain ⟨fs, hr, hrun, hended, hW, hsame⟩ := X32.leave (v := none) (fun _ => rfl)
  refine ⟨_, _, k0 _ ?_, hrun, hended, _, _, rfl, ?_, ⟨_, rfl⟩, hW, hsame.mono (by decide) (by decide)⟩
  · show OwnS p e below s₁ (mkF m 0 #[rv r0, iv p1, iv p2] []) _
    refine XS.aloadN X0.here hx rfl (hb hby d1_0) rfl rfl ?_
    refine st1 _ ?_
    refine XS.aloadN X1.here hx rfl (hb hby d1_4) rfl rfl ?_
    refine XS.sipush X1.here hx rfl (hb hby d1_5) ?_
    refine st2 _ ?_
    refine st5 _ ?_
    refine XS.aloadN X5.here hx rfl (hb hby d1_13) rfl rfl ?_
    refine XS.sipush X5.here hx rfl (hb hby d1_14) ?_
    refine st8 _ ?_
    refine st11 _ ?_
    refine XS.aloadN X11.here hx rfl (hb hby d1_22) rfl rfl ?_
    refine XS.iconst X11.here hx rfl (hb hby d1_23) ?_
    refine st15 _ ?_
    refine st18 _ ?_
    refine XS.aloadN X18.here hx rfl (hb hby d1_29) rfl rfl ?_
    refine XS.iconst X18.here hx rfl (hb hby d1_30) ?_
    refine st23 _ ?_
    refine st26 _ ?_
    refine XS.aloadN X26.here hx rfl (hb hby d1_36) rfl rfl ?_
    refine XS.iloadN X26.here hx rfl (hb hby d1_37) rfl ?_
    refine st29 _ ?_
    refine XS.aloadN X29.here hx rfl (hb hby d1_41) rfl rfl ?_
    refine XS.iloadN X29.here hx rfl (hb hby d1_42) rfl ?_
    refine st32 _ ?_
    exact X32.returnOut hx Bd.returns (hb hby d1_46) hr
  · show Q_1 Z r0 p1 p2 u_bytes_r0 u_starts_r0 u_order_r0 u_scratch_r0 u_maxNames_r0 u_maxBytes_r0 h0 n0 _ T32.heap _
    rw [e32]
    exact ⟨b2, b8, b15, b23, k2, k8, k15, k23, rfl, N32, (((((((((((Keep.refl h0 [r0]).ext E2).wr W5 (Or.inl (List.mem_of_getElem? (i := 0) rfl))).ext E8).wr W11 (Or.inl (List.mem_of_getElem? (i := 0) rfl))).ext E15).wr W18 (Or.inl (List.mem_of_getElem? (i := 0) rfl))).ext E23).wr W26 (Or.inl (List.mem_of_getElem? (i := 0) rfl))).wr W29 (Or.inl (List.mem_of_getElem? (i := 0) rfl))).wr W32 (Or.inl (List.mem_of_getElem? (i := 0) rfl))), sz_b2, sz_b8, sz_b15, (Nat.ne_of_lt (Nat.lt_of_lt_of_le f7.lt (Nat.le_of_eq g8.symm))), (Ne.symm (Nat.ne_of_lt (Nat.lt_of_lt_of_le f13.lt (Nat.le_of_eq g15.symm)))), (Ne.symm (Nat.ne_of_lt (Nat.lt_of_lt_of_le f14.lt (Nat.le_of_eq g15.symm)))), f33, f34, Fw32, f35, f36, f37, f38, f39, f40, f41, f42, f43, f44, f45, f46⟩
theorem d3_0 : decode prog_6_method_3_code 0 = .ok (.iload_n 3, 1) := by decide +kernel
theorem d3_1 : decode prog_6_method_3_code 1 = .ok (.iload_n 2, 1) := by decide +kernel
theorem d3_2 : decode prog_6_method_3_code 2 = .ok (.isub, 1) := by decide +kernel
theorem d3_3 : decode prog_6_method_3_code 3 = .ok (.istore 4, 2) := by decide +kernel
theorem d3_5 : decode prog_6_method_3_code 5 = .ok (.aload_n 0, 1) := by decide +kernel
theorem d3_6 : decode prog_6_method_3_code 6 = .ok (.getfield 36, 3) := by decide +kernel
theorem d3_9 : decode prog_6_method_3_code 9 = .ok (.ifnull 23, 3) := by decide +kernel
theorem d3_32 : decode prog_6_method_3_code 32 = .ok (.aload_n 0, 1) := by decide +kernel
theorem d3_33 : decode prog_6_method_3_code 33 = .ok (.getfield 30, 3) := by decide +kernel
theorem d3_36 : decode prog_6_method_3_code 36 = .ok (.iconst 1, 1) := by decide +kernel
theorem d3_37 : decode prog_6_method_3_code 37 = .ok (.if_icmp .le 52, 3) := by decide +kernel
theorem d3_89 : decode prog_6_method_3_code 89 = .ok (.aload_n 0, 1) := by decide +kernel
theorem d3_90 : decode prog_6_method_3_code 90 = .ok (.getfield 30, 3) := by decide +kernel
theorem d3_93 : decode prog_6_method_3_code 93 = .ok (.aload_n 0, 1) := by decide +kernel
theorem d3_94 : decode prog_6_method_3_code 94 = .ok (.getfield 13, 3) := by decide +kernel
theorem d3_97 : decode prog_6_method_3_code 97 = .ok (.arraylength, 1) := by decide +kernel
theorem d3_98 : decode prog_6_method_3_code 98 = .ok (.if_icmp .ne 27, 3) := by decide +kernel
theorem d3_125 : decode prog_6_method_3_code 125 = .ok (.aload_n 0, 1) := by decide +kernel
theorem d3_126 : decode prog_6_method_3_code 126 = .ok (.getfield 33, 3) := by decide +kernel
theorem d3_129 : decode prog_6_method_3_code 129 = .ok (.iload 4, 2) := by decide +kernel
theorem d3_131 : decode prog_6_method_3_code 131 = .ok (.iadd, 1) := by decide +kernel
theorem d3_132 : decode prog_6_method_3_code 132 = .ok (.aload_n 0, 1) := by decide +kernel
theorem d3_133 : decode prog_6_method_3_code 133 = .ok (.getfield 7, 3) := by decide +kernel
theorem d3_136 : decode prog_6_method_3_code 136 = .ok (.arraylength, 1) := by decide +kernel
theorem d3_137 : decode prog_6_method_3_code 137 = .ok (.if_icmp .le 38, 3) := by decide +kernel
theorem d3_175 : decode prog_6_method_3_code 175 = .ok (.aload_n 1, 1) := by decide +kernel
theorem d3_176 : decode prog_6_method_3_code 176 = .ok (.iload_n 2, 1) := by decide +kernel
theorem d3_177 : decode prog_6_method_3_code 177 = .ok (.aload_n 0, 1) := by decide +kernel
theorem d3_178 : decode prog_6_method_3_code 178 = .ok (.getfield 7, 3) := by decide +kernel
theorem d3_181 : decode prog_6_method_3_code 181 = .ok (.aload_n 0, 1) := by decide +kernel
theorem d3_182 : decode prog_6_method_3_code 182 = .ok (.getfield 33, 3) := by decide +kernel
theorem d3_185 : decode prog_6_method_3_code 185 = .ok (.iload 4, 2) := by decide +kernel
theorem d3_187 : decode prog_6_method_3_code 187 = .ok (.invokestatic 64, 3) := by decide +kernel
theorem d3_190 : decode prog_6_method_3_code 190 = .ok (.aload_n 0, 1) := by decide +kernel
theorem d3_191 : decode prog_6_method_3_code 191 = .ok (.getfield 13, 3) := by decide +kernel
theorem d3_194 : decode prog_6_method_3_code 194 = .ok (.aload_n 0, 1) := by decide +kernel
theorem d3_195 : decode prog_6_method_3_code 195 = .ok (.dup, 1) := by decide +kernel
theorem d3_196 : decode prog_6_method_3_code 196 = .ok (.getfield 30, 3) := by decide +kernel
theorem d3_199 : decode prog_6_method_3_code 199 = .ok (.dup_x1, 1) := by decide +kernel
theorem d3_200 : decode prog_6_method_3_code 200 = .ok (.iconst 1, 1) := by decide +kernel
theorem d3_201 : decode prog_6_method_3_code 201 = .ok (.iadd, 1) := by decide +kernel
theorem d3_202 : decode prog_6_method_3_code 202 = .ok (.putfield 30, 3) := by decide +kernel
theorem d3_205 : decode prog_6_method_3_code 205 = .ok (.aload_n 0, 1) := by decide +kernel
theorem d3_206 : decode prog_6_method_3_code 206 = .ok (.getfield 33, 3) := by decide +kernel
theorem d3_209 : decode prog_6_method_3_code 209 = .ok (.iastore, 1) := by decide +kernel
theorem d3_210 : decode prog_6_method_3_code 210 = .ok (.aload_n 0, 1) := by decide +kernel
theorem d3_211 : decode prog_6_method_3_code 211 = .ok (.dup, 1) := by decide +kernel
theorem d3_212 : decode prog_6_method_3_code 212 = .ok (.getfield 33, 3) := by decide +kernel
theorem d3_215 : decode prog_6_method_3_code 215 = .ok (.iload 4, 2) := by decide +kernel
theorem d3_217 : decode prog_6_method_3_code 217 = .ok (.iadd, 1) := by decide +kernel
theorem d3_218 : decode prog_6_method_3_code 218 = .ok (.putfield 33, 3) := by decide +kernel
theorem d3_221 : decode prog_6_method_3_code 221 = .ok (.return_, 1) := by decide +kernel
theorem ef_3 (m : MethodId) (x0 : Addr) (x1 : Addr) (x2 : Int32) (x3 : Int32) : entryFrame m #[(.ref x0), (.ref x1), (.int x2), (.int x3)] 5 = mkF m 0 #[.val (.ref x0), .val (.ref x1), .val (.int x2), .val (.int x3), .unset] [] := by first | (simp [entryFrame, mkF, argsToLocals, Value.category]; done) | rfl
def Q_3_0 (Z : State) (r0 : Addr) (r1 : Addr) (bA : Addr) (kB : ClassId) (sA : Addr) (kS : ClassId) (oZ : Addr) (cZ : Addr) (kN : ClassId) (b0 : Int32) (b1 : Int32) (b2 : Int32) (s0 : Int32) (s1 : Int32) (s2 : Int32) (y : Int32) (h0 : Heap) (n0 : Nat) (v : Option Value) (h : Heap) (L : List Loc) : Prop := v = none ∧ Fr n0 L ∧ Keep h0 h [r0, bA, sA] ∧ Exa Z h r0 cS0 ∧ Fld Z h r0 cS0 "maxNames" "I" (.int 3) ∧ Fld Z h r0 cS0 "maxBytes" "I" (.int 3) ∧ Fld Z h r0 cS0 "count" "I" (.int 1) ∧ Fld Z h r0 cS0 "used" "I" (.int 1) ∧ Fld Z h r0 cS0 "limit" "[B" .null ∧ Fld Z h r0 cS0 "bytes" "[B" (.ref bA) ∧ Arv Z h bA kB .byte (4096 : Int32) [(.int y), (.int b1), (.int b2)] (.int 0) ∧ Exa Z h bA "[B" ∧ Fld Z h r0 cS0 "starts" "[I" (.ref sA) ∧ Arv Z h sA kS .int (256 : Int32) [(.int 0), (.int s1), (.int s2)] (.int 0) ∧ Exa Z h sA "[I" ∧ Fld Z h r0 cS0 "order" "[I" (.ref oZ) ∧ Fld Z h r0 cS0 "scratch" "[I" (.ref cZ)
set_option maxRecDepth 65536 in
set_option maxHeartbeats 40000000 in
theorem rm3_0 (l : Launch) (Z : State) (a0 : Array Value) (hw : ∀ d ∈ tables_1, d.before a0 Z = true) (ws : List Jvm.Cond) (r0 : Addr) (r1 : Addr) (bA : Addr) (kB : ClassId) (sA : Addr) (kS : ClassId) (oZ : Addr) (cZ : Addr) (kN : ClassId) (b0 : Int32) (b1 : Int32) (b2 : Int32) (s0 : Int32) (s1 : Int32) (s2 : Int32) (y : Int32) (h0 : Heap) (n0 : Nat) (Z0 : n0 ≤ h0.size) (E_r0 : Exa Z h0 r0 cS0) (F_maxNames_r0 : Fld Z h0 r0 cS0 "maxNames" "I" (.int 3)) (F_maxBytes_r0 : Fld Z h0 r0 cS0 "maxBytes" "I" (.int 3)) (F_count_r0 : Fld Z h0 r0 cS0 "count" "I" (.int 0)) (F_used_r0 : Fld Z h0 r0 cS0 "used" "I" (.int 0)) (F_limit_r0 : Fld Z h0 r0 cS0 "limit" "[B" .null) (F_bytes_r0 : Fld Z h0 r0 cS0 "bytes" "[B" (.ref bA)) (V_bA : Arv Z h0 bA kB .byte (4096 : Int32) [(.int b0), (.int b1), (.int b2)] (.int 0)) (E_bA : Exa Z h0 bA "[B") (F_starts_r0 : Fld Z h0 r0 cS0 "starts" "[I" (.ref sA)) (V_sA : Arv Z h0 sA kS .int (256 : Int32) [(.int s0), (.int s1), (.int s2)] (.int 0)) (E_sA : Exa Z h0 sA "[I") (F_order_r0 : Fld Z h0 r0 cS0 "order" "[I" (.ref oZ)) (F_scratch_r0 : Fld Z h0 r0 cS0 "scratch" "[I" (.ref cZ)) (V_r1 : Arv Z h0 r1 kN .byte (1 : Int32) [(.int y)] (.int 0)) (E_r1 : Exa Z h0 r1 "[B") (ge_bA : n0 ≤ bA) (ne_r0_bA : r0 ≠ bA) (ge_r0 : n0 ≤ r0) (ne_sA_bA : sA ≠ bA) (ne_sA_r0 : sA ≠ r0) (ge_sA : n0 ≤ sA) (ne_r0_sA : r0 ≠ sA) (ne_bA_r0 : bA ≠ r0) (ne_bA_sA : bA ≠ sA) :
    MetFree l (⟨cS0, "offer", "([BII)V"⟩ : MethodName) (head1 (Jvm.Cond.code (⟨cS0, "offer", "([BII)V"⟩ : MethodName) prog_6_method_3_code 5 none :: ws) ({ frames := 1, cells := 0, slots := 0, locals := 18 } : Room)) (fun a U => a = #[(.ref r0), (.ref r1), (.int 0), (.int 1)] ∧ Z.Warmed39 U.vm ∧ U.heap = h0) (fun _ _ _ _ _ => True) (fun _ U o U' => ∃ v L, o = .returned v ∧ Q_3_0 Z r0 r1 bA kB sA kS oZ cZ kN b0 b1 b2 s0 s1 s2 y h0 n0 v U'.heap L ∧ FrameEnd U o U' L ({ frames := 1, cells := 0, slots := 0, locals := 18 } : Room).cells ({ frames := 1, cells := 0, slots := 0, locals := 18 } : Room).slots) := by
  refine MetFree.of_bodySF (plainFor_of_name pn_com_example_measurewright_measurewright_cli_NameBatch) hisR ?_
  intro p e s m args below meth c s₁ Bd hml0 hP hK
  obtain ⟨rfl, hZ, hh⟩ := hP
  have hx := Bd.exec
  have hby := Bd.bytes
  have hml : c.maxLocals = 5 := hml0
  have hown : s.vm.findClass cS0 = some m.cls := findClass_of_methodNamed Bd.named
  have hnm := (name_of_methodNamed Bd.named Bd.method).1
  have X0 : Stand p l e ({ frames := 1, cells := 0, slots := 0, locals := 18 } : Room) s m #[(.ref r0), (.ref r1), (.int 0), (.int 1)] below meth c s₁ [] 0 0 := Stand.of_body Bd
  have e0 : s₁.heap = h0 := by rw [← hh, Bd.state]; rfl
  have N0 := Fr.nil n0
  have k0 : ∀ t, OwnS p e below s₁ (mkF m 0 #[rv r0, rv r1, iv 0, iv 1, .unset] []) t → OwnS p e below s₁ (entryFrame m #[(.ref r0), (.ref r1), (.int 0), (.int 1)] 5) t := fun t k => castTop (ef_3 m r0 r1 (0 : Int32) (1 : Int32)) k
  obtain ⟨T1, X1, e1, st1⟩ := getF X0 hx hZ hown (host := "") (Or.inl (own_at hw 28 rfl)) Via.refl e0 F_limit_r0 (g := (mkF m 6 #[rv r0, rv r1, iv 0, iv 1, iv 1] [(.ref r0)])) rfl rfl (hb hby d3_6)
  obtain ⟨T2, X2, e2, st2⟩ := getF X1 hx hZ hown (host := "") (Or.inl (own_at hw 30 rfl)) Via.refl e1 F_count_r0 (g := (mkF m 33 #[rv r0, rv r1, iv 0, iv 1, iv 1] [(.ref r0)])) rfl rfl (hb hby d3_33)
  obtain ⟨T3, X3, e3, st3⟩ := getF X2 hx hZ hown (host := "") (Or.inl (own_at hw 30 rfl)) Via.refl e2 F_count_r0 (g := (mkF m 90 #[rv r0, rv r1, iv 0, iv 1, iv 1] [(.ref r0)])) rfl rfl (hb hby d3_90)
  obtain ⟨T4, X4, e4, st4⟩ := getF X3 hx hZ hown (host := "") (Or.inl (own_at hw 13 rfl)) Via.refl e3 F_starts_r0 (g := (mkF m 94 #[rv r0, rv r1, iv 0, iv 1, iv 1] [(.ref r0), (.int 0)])) rfl rfl (hb hby d3_94)
  obtain ⟨cl_z5, Ar_z5, q_z5, S_z5, N_z5, H_z5, G_z5⟩ := id V_sA
  obtain ⟨T6, X6, e6, st6⟩ := getF X4 hx hZ hown (host := "") (Or.inl (own_at hw 32 rfl)) Via.refl e4 F_used_r0 (g := (mkF m 126 #[rv r0, rv r1, iv 0, iv 1, iv 1] [(.ref r0)])) rfl rfl (hb hby d3_126)
  obtain ⟨T7, X7, e7, st7⟩ := getF X6 hx hZ hown (host := "") (Or.inl (own_at hw 10 rfl)) Via.refl e6 F_bytes_r0 (g := (mkF m 133 #[rv r0, rv r1, iv 0, iv 1, iv 1] [(.ref r0), (.int 1)])) rfl rfl (hb hby d3_133)
  obtain ⟨cl_z8, Ar_z8, q_z8, S_z8, N_z8, H_z8, G_z8⟩ := id V_bA
  obtain ⟨T9, X9, e9, st9⟩ := getF X7 hx hZ hown (host := "") (Or.inl (own_at hw 10 rfl)) Via.refl e7 F_bytes_r0 (g := (mkF m 178 #[rv r0, rv r1, iv 0, iv 1, iv 1] [(.ref r0), (.int 0), (.ref r1)])) rfl rfl (hb hby d3_178)
  obtain ⟨T10, X10, e10, st10⟩ := getF X9 hx hZ hown (host := "") (Or.inl (own_at hw 32 rfl)) Via.refl e9 F_used_r0 (g := (mkF m 182 #[rv r0, rv r1, iv 0, iv 1, iv 1] [(.ref r0), (.ref bA), (.int 0), (.ref r1)])) rfl rfl (hb hby d3_182)
  obtain ⟨T11, h11, L11, X11, e11, N11, K11, Vr11, st11⟩ := cpA X10 hx hZ hown (own_at hw 34 rfl) (own_at hw 37 rfl) (own_at hw 35 rfl) (own_at hw 36 rfl) e10 V_r1 V_bA (us := [(.int y)]) (Or.inl ⟨rfl, rfl⟩) (by decide) (by decide) (by decide) (by decide) (by decide) rfl (Nat.le_of_ble_eq_true rfl) N0 ge_bA (g := (mkF m 187 #[rv r0, rv r1, iv 0, iv 1, iv 1] [(.int 1), (.int 0), (.ref bA), (.int 0), (.ref r1)])) rfl (by rw [hml]; rfl) rfl (hb hby d3_187) (by decide) (W := 0) (Nat.le_refl _) (by decide)
  have pl11 := (allS (P := fun x => ∃ cell : Cell, h0[x]? = some cell ∧ cell.vm.isStatics = false) (own_ns E_bA) all0)
  have V11 : Arv Z h11 bA kB .byte (4096 : Int32) [(.int y), (.int b1), (.int b2)] (.int 0) := Vr11
  have f12 := (F_starts_r0.keep K11 (ninS ne_r0_bA nin0))
  obtain ⟨T13, X13, e13, st13⟩ := getF X11 hx hZ hown (host := "") (Or.inl (own_at hw 13 rfl)) Via.refl e11 f12 (g := (mkF m 191 #[rv r0, rv r1, iv 0, iv 1, iv 1] [(.ref r0)])) rfl rfl (hb hby d3_191)
  have f14 := (F_count_r0.keep K11 (ninS ne_r0_bA nin0))
  obtain ⟨T15, X15, e15, st15⟩ := getF X13 hx hZ hown (host := "") (Or.inl (own_at hw 30 rfl)) Via.refl e13 f14 (g := (mkF m 196 #[rv r0, rv r1, iv 0, iv 1, iv 1] [(.ref r0), (.ref r0), (.ref sA)])) rfl rfl (hb hby d3_196)
  have f16 := (E_r0.keep K11)
  obtain ⟨T17, h17, X17, e17, W17, st17⟩ := putF X15 hx hZ hown (host := "") (Or.inl (own_at hw 30 rfl)) Via.refl e15 f14 f16 (Or.inl (own_at hw 31 rfl)) (own_at hw 1 rfl) (ty := .int) (by decide) rfl rfl (g := (mkF m 202 #[rv r0, rv r1, iv 0, iv 1, iv 1] [(.int 1), (.ref r0), (.int 0), (.ref sA)])) rfl rfl (hb hby d3_202)
  have Fw17 : Fld Z h17 r0 cS0 "count" "I" (.int 1) := f14.same W17
  have N17 := Fr.snoc X17 N11 ge_r0
  have f18 := ((F_used_r0.keep K11 (ninS ne_r0_bA nin0)).other W17 (Or.inr (slot_ne (Or.inl (own_at hw 33 rfl)) (Or.inl (own_at hw 31 rfl)) (by decide) (t := .int) (t' := .int) (by decide) (by decide))))
  obtain ⟨T19, X19, e19, st19⟩ := getF X17 hx hZ hown (host := "") (Or.inl (own_at hw 32 rfl)) Via.refl e17 f18 (g := (mkF m 206 #[rv r0, rv r1, iv 0, iv 1, iv 1] [(.ref r0), (.int 0), (.ref sA)])) rfl rfl (hb hby d3_206)
  have f20 := ((V_sA.keep K11 (ninS ne_sA_bA nin0)).other W17 ne_sA_r0)
  obtain ⟨cl_z21, Ar_z21, q_z21, S_z21, N_z21, H_z21, G_z21⟩ := id f20
  have hin22 : ¬ ((0 : Int32) < 0 ∨ cl_z21.slots.size ≤ ((0 : Int32)).toNatClampNeg) := inb_of S_z21 ⟨by decide, by decide⟩
  obtain ⟨T23, h23, X23, e23, W23, st23⟩ := stI X19 hx hZ e19 Ar_z21 (j := (0 : Int32)) hin22 (g := (mkF m 209 #[rv r0, rv r1, iv 0, iv 1, iv 1] [(.int 0), (.int 0), (.ref sA)])) rfl rfl (hb hby d3_209)
  have V23 : Arv Z h23 sA kS .int (256 : Int32) [(.int 0), (.int s1), (.int s2)] (.int 0) := Arv.set Ar_z21 q_z21 S_z21 N_z21 H_z21 G_z21 rfl W23 0 rfl (Nat.le_of_ble_eq_true rfl)
  have N23 := Fr.snoc X23 N17 ge_sA
  have f24 := (f18.other W23 (Or.inl ne_r0_sA))
  obtain ⟨T25, X25, e25, st25⟩ := getF X23 hx hZ hown (host := "") (Or.inl (own_at hw 32 rfl)) Via.refl e23 f24 (g := (mkF m 212 #[rv r0, rv r1, iv 0, iv 1, iv 1] [(.ref r0), (.ref r0)])) rfl rfl (hb hby d3_212)
  have f26 := ((f16.wr W17).wr W23)
  obtain ⟨T27, h27, X27, e27, W27, st27⟩ := putF X25 hx hZ hown (host := "") (Or.inl (own_at hw 32 rfl)) Via.refl e25 f24 f26 (Or.inl (own_at hw 33 rfl)) (own_at hw 1 rfl) (ty := .int) (by decide) rfl rfl (g := (mkF m 218 #[rv r0, rv r1, iv 0, iv 1, iv 1] [(.int 1), (.ref r0)])) rfl rfl (hb hby d3_218)
  have Fw27 : Fld Z h27 r0 cS0 "used" "I" (.int 1) := f24.same W27
  have N27 := Fr.snoc X27 N23 ge_r0
  have f28 := (f26.wr W27)
  have f29 := ((((F_maxNames_r0.keep K11 (ninS ne_r0_bA nin0)).other W17 (Or.inr (slot_ne (Or.inr (own_at hw 20 rfl)) (Or.inl (own_at hw 31 rfl)) (by decide) (t := .int) (t' := .int) (by decide) (by decide)))).other W23 (Or.inl ne_r0_sA)).other W27 (Or.inr (slot_ne (Or.inr (own_at hw 20 rfl)) (Or.inl (own_at hw 33 rfl)) (by decide) (t := .int) (t' := .int) (by decide) (by decide))))
  have f30 := ((((F_maxBytes_r0.keep K11 (ninS ne_r0_bA nin0)).other W17 (Or.inr (slot_ne (Or.inr (own_at hw 22 rfl)) (Or.inl (own_at hw 31 rfl)) (by decide) (t := .int) (t' := .int) (by decide) (by decide)))).other W23 (Or.inl ne_r0_sA)).other W27 (Or.inr (slot_ne (Or.inr (own_at hw 22 rfl)) (Or.inl (own_at hw 33 rfl)) (by decide) (t := .int) (t' := .int) (by decide) (by decide))))
  have f31 := ((Fw17.other W23 (Or.inl ne_r0_sA)).other W27 (Or.inr (slot_ne (Or.inl (own_at hw 31 rfl)) (Or.inl (own_at hw 33 rfl)) (by decide) (t := .int) (t' := .int) (by decide) (by decide))))
  have f32 := ((((F_limit_r0.keep K11 (ninS ne_r0_bA nin0)).other W17 (Or.inr (slot_ne (Or.inl (own_at hw 29 rfl)) (Or.inl (own_at hw 31 rfl)) (by decide) (t := (.array .byte)) (t' := .int) (by decide) (by decide)))).other W23 (Or.inl ne_r0_sA)).other W27 (Or.inr (slot_ne (Or.inl (own_at hw 29 rfl)) (Or.inl (own_at hw 33 rfl)) (by decide) (t := (.array .byte)) (t' := .int) (by decide) (by decide))))
  have f33 := ((((F_bytes_r0.keep K11 (ninS ne_r0_bA nin0)).other W17 (Or.inr (slot_ne (Or.inl (own_at hw 11 rfl)) (Or.inl (own_at hw 31 rfl)) (by decide) (t := (.array .byte)) (t' := .int) (by decide) (by decide)))).other W23 (Or.inl ne_r0_sA)).other W27 (Or.inr (slot_ne (Or.inl (own_at hw 11 rfl)) (Or.inl (own_at hw 33 rfl)) (by decide) (t := (.array .byte)) (t' := .int) (by decide) (by decide))))
  have f34 := (((V11.other W17 ne_bA_r0).other W23 ne_bA_sA).other W27 ne_bA_r0)
  have f35 := ((((E_bA.keep K11).wr W17).wr W23).wr W27)
  have f36 := (((f12.other W17 (Or.inr (slot_ne (Or.inl (own_at hw 14 rfl)) (Or.inl (own_at hw 31 rfl)) (by decide) (t := (.array .int)) (t' := .int) (by decide) (by decide)))).other W23 (Or.inl ne_r0_sA)).other W27 (Or.inr (slot_ne (Or.inl (own_at hw 14 rfl)) (Or.inl (own_at hw 33 rfl)) (by decide) (t := (.array .int)) (t' := .int) (by decide) (by decide))))
  have f37 := (V23.other W27 ne_sA_r0)
  have f38 := ((((E_sA.keep K11).wr W17).wr W23).wr W27)
  have f39 := ((((F_order_r0.keep K11 (ninS ne_r0_bA nin0)).other W17 (Or.inr (slot_ne (Or.inl (own_at hw 16 rfl)) (Or.inl (own_at hw 31 rfl)) (by decide) (t := (.array .int)) (t' := .int) (by decide) (by decide)))).other W23 (Or.inl ne_r0_sA)).other W27 (Or.inr (slot_ne (Or.inl (own_at hw 16 rfl)) (Or.inl (own_at hw 33 rfl)) (by decide) (t := (.array .int)) (t' := .int) (by decide) (by decide))))
  have f40 := ((((F_scratch_r0.keep K11 (ninS ne_r0_bA nin0)).other W17 (Or.inr (slot_ne (Or.inl (own_at hw 18 rfl)) (Or.inl (own_at hw 31 rfl)) (by decide) (t := (.array .int)) (t' := .int) (by decide) (by decide)))).other W23 (Or.inl ne_r0_sA)).other W27 (Or.inr (slot_ne (Or.inl (own_at hw 18 rfl)) (Or.inl (own_at hw 33 rfl)) (by decide) (t := (.array .int)) (t' := .int) (by decide) (by decide))))
  obtain ⟨fs, hr, hrun, hended, hW, hsame⟩ := X27.leave (v := none) (fun _ => rfl)
  refine ⟨_, _, k0 _ ?_, hrun, hended, _, _, rfl, ?_, ⟨_, rfl⟩, hW, hsame.mono (by decide) (by decide)⟩
  · show OwnS p e below s₁ (mkF m 0 #[rv r0, rv r1, iv 0, iv 1, .unset] []) _
    refine XS.iloadN X0.here hx rfl (hb hby d3_0) rfl ?_
    refine XS.iloadN X0.here hx rfl (hb hby d3_1) rfl ?_
    refine XS.isub X0.here hx rfl (hb hby d3_2) rfl ?_
    refine XS.istore X0.here hx rfl (hb hby d3_3) rfl (l' := #[rv r0, rv r1, iv 0, iv 1, iv 1]) rfl ?_
    refine XS.aloadN X0.here hx rfl (hb hby d3_5) rfl rfl ?_
    refine st1 _ ?_
    refine XS.ifnullYes X1.here hx rfl (pc0 := 9) (pc' := 32) rfl (hb hby d3_9) rfl (by decide) (by decide) ?_
    refine XS.aloadN X1.here hx rfl (hb hby d3_32) rfl rfl ?_
    refine st2 _ ?_
    refine XS.iconst X2.here hx rfl (hb hby d3_36) ?_
    refine XS.icmpYes X2.here hx rfl (pc0 := 37) (pc' := 89) rfl (hb hby d3_37) rfl (flt (by decide : ¬ ((1 : Int32) < (0 : Int32)))).2.2.2 (by decide) (by decide) ?_
    refine XS.aloadN X2.here hx rfl (hb hby d3_89) rfl rfl ?_
    refine st3 _ ?_
    refine XS.aloadN X3.here hx rfl (hb hby d3_93) rfl rfl ?_
    refine st4 _ ?_
    refine X4.arraylength hx (by rw [e4]; exact Ar_z5.1) (State.isArrayOf_alike hZ.alike Ar_z5.2.1) (g := (mkF m 97 #[rv r0, rv r1, iv 0, iv 1, iv 1] [(.ref sA), (.int 0)])) rfl rfl (hb hby d3_97) _ ?_
    rw [len_of S_z5 N_z5]
    refine XS.icmpYes X4.here hx rfl (pc0 := 98) (pc' := 125) rfl (hb hby d3_98) rfl (feq (by decide : ¬ ((0 : Int32) = (256 : Int32)))).2 (by decide) (by decide) ?_
    refine XS.aloadN X4.here hx rfl (hb hby d3_125) rfl rfl ?_
    refine st6 _ ?_
    refine XS.iload X6.here hx rfl (hb hby d3_129) rfl ?_
    refine XS.iadd X6.here hx rfl (hb hby d3_131) rfl ?_
    refine XS.aloadN X6.here hx rfl (hb hby d3_132) rfl rfl ?_
    refine st7 _ ?_
    refine X7.arraylength hx (by rw [e7]; exact Ar_z8.1) (State.isArrayOf_alike hZ.alike Ar_z8.2.1) (g := (mkF m 136 #[rv r0, rv r1, iv 0, iv 1, iv 1] [(.ref bA), (.int 1)])) rfl rfl (hb hby d3_136) _ ?_
    rw [len_of S_z8 N_z8]
    refine XS.icmpYes X7.here hx rfl (pc0 := 137) (pc' := 175) rfl (hb hby d3_137) rfl (flt (by decide : ¬ ((4096 : Int32) < (1 : Int32)))).2.2.2 (by decide) (by decide) ?_
    refine XS.aloadN X7.here hx rfl (hb hby d3_175) rfl rfl ?_
    refine XS.iloadN X7.here hx rfl (hb hby d3_176) rfl ?_
    refine XS.aloadN X7.here hx rfl (hb hby d3_177) rfl rfl ?_
    refine st9 _ ?_
    refine XS.aloadN X9.here hx rfl (hb hby d3_181) rfl rfl ?_
    refine st10 _ ?_
    refine XS.iload X10.here hx rfl (hb hby d3_185) rfl ?_
    refine st11 _ ?_
    refine XS.aloadN X11.here hx rfl (hb hby d3_190) rfl rfl ?_
    refine st13 _ ?_
    refine XS.aloadN X13.here hx rfl (hb hby d3_194) rfl rfl ?_
    refine XS.dup X13.here hx rfl (hb hby d3_195) rfl rfl ?_
    refine st15 _ ?_
    show OwnS p e below T15 (mkF m 199 #[rv r0, rv r1, iv 0, iv 1, iv 1] [(.int 0), (.ref r0), (.ref sA)]) _
    refine XS.dupX1 X15.here hx rfl (hb hby d3_199) rfl rfl rfl ?_
    refine XS.iconst X15.here hx rfl (hb hby d3_200) ?_
    refine XS.iadd X15.here hx rfl (hb hby d3_201) rfl ?_
    refine st17 _ ?_
    refine XS.aloadN X17.here hx rfl (hb hby d3_205) rfl rfl ?_
    refine st19 _ ?_
    refine st23 _ ?_
    refine XS.aloadN X23.here hx rfl (hb hby d3_210) rfl rfl ?_
    refine XS.dup X23.here hx rfl (hb hby d3_211) rfl rfl ?_
    refine st25 _ ?_
    refine XS.iload X25.here hx rfl (hb hby d3_215) rfl ?_
    refine XS.iadd X25.here hx rfl (hb hby d3_217) rfl ?_
    refine st27 _ ?_
    exact X27.returnOut hx Bd.returns (hb hby d3_221) hr
  · show Q_3_0 Z r0 r1 bA kB sA kS oZ cZ kN b0 b1 b2 s0 s1 s2 y h0 n0 _ T27.heap _
    rw [e27]
    exact ⟨rfl, N27, (((((Keep.refl h0 [r0, bA, sA]).trans K11 (allS (Or.inl (List.mem_of_getElem? (i := 1) rfl)) all0)).wr W17 (Or.inl (List.mem_of_getElem? (i := 0) rfl))).wr W23 (Or.inl (List.mem_of_getElem? (i := 2) rfl))).wr W27 (Or.inl (List.mem_of_getElem? (i := 0) rfl))), f28, f29, f30, f31, Fw27, f32, f33, f34, f35, f36, f37, f38, f39, f40⟩
def Q_3_1 (Z : State) (r0 : Addr) (r1 : Addr) (bA : Addr) (kB : ClassId) (sA : Addr) (kS : ClassId) (oZ : Addr) (cZ : Addr) (kN : ClassId) (b0 : Int32) (b1 : Int32) (b2 : Int32) (s0 : Int32) (s1 : Int32) (s2 : Int32) (y : Int32) (h0 : Heap) (n0 : Nat) (v : Option Value) (h : Heap) (L : List Loc) : Prop := v = none ∧ Fr n0 L ∧ Keep h0 h [r0, bA, sA] ∧ Exa Z h r0 cS0 ∧ Fld Z h r0 cS0 "maxNames" "I" (.int 3) ∧ Fld Z h r0 cS0 "maxBytes" "I" (.int 3) ∧ Fld Z h r0 cS0 "count" "I" (.int 2) ∧ Fld Z h r0 cS0 "used" "I" (.int 2) ∧ Fld Z h r0 cS0 "limit" "[B" .null ∧ Fld Z h r0 cS0 "bytes" "[B" (.ref bA) ∧ Arv Z h bA kB .byte (4096 : Int32) [(.int b0), (.int y), (.int b2)] (.int 0) ∧ Exa Z h bA "[B" ∧ Fld Z h r0 cS0 "starts" "[I" (.ref sA) ∧ Arv Z h sA kS .int (256 : Int32) [(.int s0), (.int 1), (.int s2)] (.int 0) ∧ Exa Z h sA "[I" ∧ Fld Z h r0 cS0 "order" "[I" (.ref oZ) ∧ Fld Z h r0 cS0 "scratch" "[I" (.ref cZ)
set_option maxRecDepth 65536 in
set_option maxHeartbeats 40000000 in
theorem rm3_1 (l : Launch) (Z : State) (a0 : Array Value) (hw : ∀ d ∈ tables_1, d.before a0 Z = true) (ws : List Jvm.Cond) (r0 : Addr) (r1 : Addr) (bA : Addr) (kB : ClassId) (sA : Addr) (kS : ClassId) (oZ : Addr) (cZ : Addr) (kN : ClassId) (b0 : Int32) (b1 : Int32) (b2 : Int32) (s0 : Int32) (s1 : Int32) (s2 : Int32) (y : Int32) (h0 : Heap) (n0 : Nat) (Z0 : n0 ≤ h0.size) (E_r0 : Exa Z h0 r0 cS0) (F_maxNames_r0 : Fld Z h0 r0 cS0 "maxNames" "I" (.int 3)) (F_maxBytes_r0 : Fld Z h0 r0 cS0 "maxBytes" "I" (.int 3)) (F_count_r0 : Fld Z h0 r0 cS0 "count" "I" (.int 1)) (F_used_r0 : Fld Z h0 r0 cS0 "used" "I" (.int 1)) (F_limit_r0 : Fld Z h0 r0 cS0 "limit" "[B" .null) (F_bytes_r0 : Fld Z h0 r0 cS0 "bytes" "[B" (.ref bA)) (V_bA : Arv Z h0 bA kB .byte (4096 : Int32) [(.int b0), (.int b1), (.int b2)] (.int 0)) (E_bA : Exa Z h0 bA "[B") (F_starts_r0 : Fld Z h0 r0 cS0 "starts" "[I" (.ref sA)) (V_sA : Arv Z h0 sA kS .int (256 : Int32) [(.int s0), (.int s1), (.int s2)] (.int 0)) (E_sA : Exa Z h0 sA "[I") (F_order_r0 : Fld Z h0 r0 cS0 "order" "[I" (.ref oZ)) (F_scratch_r0 : Fld Z h0 r0 cS0 "scratch" "[I" (.ref cZ)) (V_r1 : Arv Z h0 r1 kN .byte (1 : Int32) [(.int y)] (.int 0)) (E_r1 : Exa Z h0 r1 "[B") (ge_bA : n0 ≤ bA) (ne_r0_bA : r0 ≠ bA) (ge_r0 : n0 ≤ r0) (ne_sA_bA : sA ≠ bA) (ne_sA_r0 : sA ≠ r0) (ge_sA : n0 ≤ sA) (ne_r0_sA : r0 ≠ sA) (ne_bA_r0 : bA ≠ r0) (ne_bA_sA : bA ≠ sA) :
    MetFree l (⟨cS0, "offer", "([BII)V"⟩ : MethodName) (head1 (Jvm.Cond.code (⟨cS0, "offer", "([BII)V"⟩ : MethodName) prog_6_method_3_code 5 none :: ws) ({ frames := 1, cells := 0, slots := 0, locals := 18 } : Room)) (fun a U => a = #[(.ref r0), (.ref r1), (.int 0), (.int 1)] ∧ Z.Warmed39 U.vm ∧ U.heap = h0) (fun _ _ _ _ _ => True) (fun _ U o U' => ∃ v L, o = .returned v ∧ Q_3_1 Z r0 r1 bA kB sA kS oZ cZ kN b0 b1 b2 s0 s1 s2 y h0 n0 v U'.heap L ∧ FrameEnd U o U' L ({ frames := 1, cells := 0, slots := 0, locals := 18 } : Room).cells ({ frames := 1, cells := 0, slots := 0, locals := 18 } : Room).slots) := by
  refine MetFree.of_bodySF (plainFor_of_name pn_com_example_measurewright_measurewright_cli_NameBatch) hisR ?_
  intro p e s m args below meth c s₁ Bd hml0 hP hK
  obtain ⟨rfl, hZ, hh⟩ := hP
  have hx := Bd.exec
  have hby := Bd.bytes
  have hml : c.maxLocals = 5 := hml0
  have hown : s.vm.findClass cS0 = some m.cls := findClass_of_methodNamed Bd.named
  have hnm := (name_of_methodNamed Bd.named Bd.method).1
  have X0 : Stand p l e ({ frames := 1, cells := 0, slots := 0, locals := 18 } : Room) s m #[(.ref r0), (.ref r1), (.int 0), (.int 1)] below meth c s₁ [] 0 0 := Stand.of_body Bd
  have e0 : s₁.heap = h0 := by rw [← hh, Bd.state]; rfl
  have N0 := Fr.nil n0
  have k0 : ∀ t, OwnS p e below s₁ (mkF m 0 #[rv r0, rv r1, iv 0, iv 1, .unset] []) t → OwnS p e below s₁ (entryFrame m #[(.ref r0), (.ref r1), (.int 0), (.int 1)] 5) t := fun t k => castTop (ef_3 m r0 r1 (0 : Int32) (1 : Int32)) k
  obtain ⟨T1, X1, e1, st1⟩ := getF X0 hx hZ hown (host := "") (Or.inl (own_at hw 28 rfl)) Via.refl e0 F_limit_r0 (g := (mkF m 6 #[rv r0, rv r1, iv 0, iv 1, iv 1] [(.ref r0)])) rfl rfl (hb hby d3_6)
  obtain ⟨T2, X2, e2, st2⟩ := getF X1 hx hZ hown (host := "") (Or.inl (own_at hw 30 rfl)) Via.refl e1 F_count_r0 (g := (mkF m 33 #[rv r0, rv r1, iv 0, iv 1, iv 1] [(.ref r0)])) rfl rfl (hb hby d3_33)
  obtain ⟨T3, X3, e3, st3⟩ := getF X2 hx hZ hown (host := "") (Or.inl (own_at hw 30 rfl)) Via.refl e2 F_count_r0 (g := (mkF m 90 #[rv r0, rv r1, iv 0, iv 1, iv 1] [(.ref r0)])) rfl rfl (hb hby d3_90)
  obtain ⟨T4, X4, e4, st4⟩ := getF X3 hx hZ hown (host := "") (Or.inl (own_at hw 13 rfl)) Via.refl e3 F_starts_r0 (g := (mkF m 94 #[rv r0, rv r1, iv 0, iv 1, iv 1] [(.ref r0), (.int 1)])) rfl rfl (hb hby d3_94)
  obtain ⟨cl_z5, Ar_z5, q_z5, S_z5, N_z5, H_z5, G_z5⟩ := id V_sA
  obtain ⟨T6, X6, e6, st6⟩ := getF X4 hx hZ hown (host := "") (Or.inl (own_at hw 32 rfl)) Via.refl e4 F_used_r0 (g := (mkF m 126 #[rv r0, rv r1, iv 0, iv 1, iv 1] [(.ref r0)])) rfl rfl (hb hby d3_126)
  obtain ⟨T7, X7, e7, st7⟩ := getF X6 hx hZ hown (host := "") (Or.inl (own_at hw 10 rfl)) Via.refl e6 F_bytes_r0 (g := (mkF m 133 #[rv r0, rv r1, iv 0, iv 1, iv 1] [(.ref r0), (.int 2)])) rfl rfl (hb hby d3_133)
  obtain ⟨cl_z8, Ar_z8, q_z8, S_z8, N_z8, H_z8, G_z8⟩ := id V_bA
  obtain ⟨T9, X9, e9, st9⟩ := getF X7 hx hZ hown (host := "") (Or.inl (own_at hw 10 rfl)) Via.refl e7 F_bytes_r0 (g := (mkF m 178 #[rv r0, rv r1, iv 0, iv 1, iv 1] [(.ref r0), (.int 0), (.ref r1)])) rfl rfl (hb hby d3_178)
  obtain ⟨T10, X10, e10, st10⟩ := getF X9 hx hZ hown (host := "") (Or.inl (own_at hw 32 rfl)) Via.refl e9 F_used_r0 (g := (mkF m 182 #[rv r0, rv r1, iv 0, iv 1, iv 1] [(.ref r0), (.ref bA), (.int 0), (.ref r1)])) rfl rfl (hb hby d3_182)
  obtain ⟨T11, h11, L11, X11, e11, N11, K11, Vr11, st11⟩ := cpA X10 hx hZ hown (own_at hw 34 rfl) (own_at hw 37 rfl) (own_at hw 35 rfl) (own_at hw 36 rfl) e10 V_r1 V_bA (us := [(.int y)]) (Or.inl ⟨rfl, rfl⟩) (by decide) (by decide) (by decide) (by decide) (by decide) rfl (Nat.le_of_ble_eq_true rfl) N0 ge_bA (g := (mkF m 187 #[rv r0, rv r1, iv 0, iv 1, iv 1] [(.int 1), (.int 1), (.ref bA), (.int 0), (.ref r1)])) rfl (by rw [hml]; rfl) rfl (hb hby d3_187) (by decide) (W := 0) (Nat.le_refl _) (by decide)
  have pl11 := (allS (P := fun x => ∃ cell : Cell, h0[x]? = some cell ∧ cell.vm.isStatics = false) (own_ns E_bA) all0)
  have V11 : Arv Z h11 bA kB .byte (4096 : Int32) [(.int b0), (.int y), (.int b2)] (.int 0) := Vr11
  have f12 := (F_starts_r0.keep K11 (ninS ne_r0_bA nin0))
  obtain ⟨T13, X13, e13, st13⟩ := getF X11 hx hZ hown (host := "") (Or.inl (own_at hw 13 rfl)) Via.refl e11 f12 (g := (mkF m 191 #[rv r0, rv r1, iv 0, iv 1, iv 1] [(.ref r0)])) rfl rfl (hb hby d3_191)
  have f14 := (F_count_r0.keep K11 (ninS ne_r0_bA nin0))
  obtain ⟨T15, X15, e15, st15⟩ := getF X13 hx hZ hown (host := "") (Or.inl (own_at hw 30 rfl)) Via.refl e13 f14 (g := (mkF m 196 #[rv r0, rv r1, iv 0, iv 1, iv 1] [(.ref r0), (.ref r0), (.ref sA)])) rfl rfl (hb hby d3_196)
  have f16 := (E_r0.keep K11)
  obtain ⟨T17, h17, X17, e17, W17, st17⟩ := putF X15 hx hZ hown (host := "") (Or.inl (own_at hw 30 rfl)) Via.refl e15 f14 f16 (Or.inl (own_at hw 31 rfl)) (own_at hw 1 rfl) (ty := .int) (by decide) rfl rfl (g := (mkF m 202 #[rv r0, rv r1, iv 0, iv 1, iv 1] [(.int 2), (.ref r0), (.int 1), (.ref sA)])) rfl rfl (hb hby d3_202)
  have Fw17 : Fld Z h17 r0 cS0 "count" "I" (.int 2) := f14.same W17
  have N17 := Fr.snoc X17 N11 ge_r0
  have f18 := ((F_used_r0.keep K11 (ninS ne_r0_bA nin0)).other W17 (Or.inr (slot_ne (Or.inl (own_at hw 33 rfl)) (Or.inl (own_at hw 31 rfl)) (by decide) (t := .int) (t' := .int) (by decide) (by decide))))
  obtain ⟨T19, X19, e19, st19⟩ := getF X17 hx hZ hown (host := "") (Or.inl (own_at hw 32 rfl)) Via.refl e17 f18 (g := (mkF m 206 #[rv r0, rv r1, iv 0, iv 1, iv 1] [(.ref r0), (.int 1), (.ref sA)])) rfl rfl (hb hby d3_206)
  have f20 := ((V_sA.keep K11 (ninS ne_sA_bA nin0)).other W17 ne_sA_r0)
  obtain ⟨cl_z21, Ar_z21, q_z21, S_z21, N_z21, H_z21, G_z21⟩ := id f20
  have hin22 : ¬ ((1 : Int32) < 0 ∨ cl_z21.slots.size ≤ ((1 : Int32)).toNatClampNeg) := inb_of S_z21 ⟨by decide, by decide⟩
  obtain ⟨T23, h23, X23, e23, W23, st23⟩ := stI X19 hx hZ e19 Ar_z21 (j := (1 : Int32)) hin22 (g := (mkF m 209 #[rv r0, rv r1, iv 0, iv 1, iv 1] [(.int 1), (.int 1), (.ref sA)])) rfl rfl (hb hby d3_209)
  have V23 : Arv Z h23 sA kS .int (256 : Int32) [(.int s0), (.int 1), (.int s2)] (.int 0) := Arv.set Ar_z21 q_z21 S_z21 N_z21 H_z21 G_z21 rfl W23 1 rfl (Nat.le_of_ble_eq_true rfl)
  have N23 := Fr.snoc X23 N17 ge_sA
  have f24 := (f18.other W23 (Or.inl ne_r0_sA))
  obtain ⟨T25, X25, e25, st25⟩ := getF X23 hx hZ hown (host := "") (Or.inl (own_at hw 32 rfl)) Via.refl e23 f24 (g := (mkF m 212 #[rv r0, rv r1, iv 0, iv 1, iv 1] [(.ref r0), (.ref r0)])) rfl rfl (hb hby d3_212)
  have f26 := ((f16.wr W17).wr W23)
  obtain ⟨T27, h27, X27, e27, W27, st27⟩ := putF X25 hx hZ hown (host := "") (Or.inl (own_at hw 32 rfl)) Via.refl e25 f24 f26 (Or.inl (own_at hw 33 rfl)) (own_at hw 1 rfl) (ty := .int) (by decide) rfl rfl (g := (mkF m 218 #[rv r0, rv r1, iv 0, iv 1, iv 1] [(.int 2), (.ref r0)])) rfl rfl (hb hby d3_218)
  have Fw27 : Fld Z h27 r0 cS0 "used" "I" (.int 2) := f24.same W27
  have N27 := Fr.snoc X27 N23 ge_r0
  have f28 := (f26.wr W27)
  have f29 := ((((F_maxNames_r0.keep K11 (ninS ne_r0_bA nin0)).other W17 (Or.inr (slot_ne (Or.inr (own_at hw 20 rfl)) (Or.inl (own_at hw 31 rfl)) (by decide) (t := .int) (t' := .int) (by decide) (by decide)))).other W23 (Or.inl ne_r0_sA)).other W27 (Or.inr (slot_ne (Or.inr (own_at hw 20 rfl)) (Or.inl (own_at hw 33 rfl)) (by decide) (t := .int) (t' := .int) (by decide) (by decide))))
  have f30 := ((((F_maxBytes_r0.keep K11 (ninS ne_r0_bA nin0)).other W17 (Or.inr (slot_ne (Or.inr (own_at hw 22 rfl)) (Or.inl (own_at hw 31 rfl)) (by decide) (t := .int) (t' := .int) (by decide) (by decide)))).other W23 (Or.inl ne_r0_sA)).other W27 (Or.inr (slot_ne (Or.inr (own_at hw 22 rfl)) (Or.inl (own_at hw 33 rfl)) (by decide) (t := .int) (t' := .int) (by decide) (by decide))))
  have f31 := ((Fw17.other W23 (Or.inl ne_r0_sA)).other W27 (Or.inr (slot_ne (Or.inl (own_at hw 31 rfl)) (Or.inl (own_at hw 33 rfl)) (by decide) (t := .int) (t' := .int) (by decide) (by decide))))
  have f32 := ((((F_limit_r0.keep K11 (ninS ne_r0_bA nin0)).other W17 (Or.inr (slot_ne (Or.inl (own_at hw 29 rfl)) (Or.inl (own_at hw 31 rfl)) (by decide) (t := (.array .byte)) (t' := .int) (by decide) (by decide)))).other W23 (Or.inl ne_r0_sA)).other W27 (Or.inr (slot_ne (Or.inl (own_at hw 29 rfl)) (Or.inl (own_at hw 33 rfl)) (by decide) (t := (.array .byte)) (t' := .int) (by decide) (by decide))))
  have f33 := ((((F_bytes_r0.keep K11 (ninS ne_r0_bA nin0)).other W17 (Or.inr (slot_ne (Or.inl (own_at hw 11 rfl)) (Or.inl (own_at hw 31 rfl)) (by decide) (t := (.array .byte)) (t' := .int) (by decide) (by decide)))).other W23 (Or.inl ne_r0_sA)).other W27 (Or.inr (slot_ne (Or.inl (own_at hw 11 rfl)) (Or.inl (own_at hw 33 rfl)) (by decide) (t := (.array .byte)) (t' := .int) (by decide) (by decide))))
  have f34 := (((V11.other W17 ne_bA_r0).other W23 ne_bA_sA).other W27 ne_bA_r0)
  have f35 := ((((E_bA.keep K11).wr W17).wr W23).wr W27)
  have f36 := (((f12.other W17 (Or.inr (slot_ne (Or.inl (own_at hw 14 rfl)) (Or.inl (own_at hw 31 rfl)) (by decide) (t := (.array .int)) (t' := .int) (by decide) (by decide)))).other W23 (Or.inl ne_r0_sA)).other W27 (Or.inr (slot_ne (Or.inl (own_at hw 14 rfl)) (Or.inl (own_at hw 33 rfl)) (by decide) (t := (.array .int)) (t' := .int) (by decide) (by decide))))
  have f37 := (V23.other W27 ne_sA_r0)
  have f38 := ((((E_sA.keep K11).wr W17).wr W23).wr W27)
  have f39 := ((((F_order_r0.keep K11 (ninS ne_r0_bA nin0)).other W17 (Or.inr (slot_ne (Or.inl (own_at hw 16 rfl)) (Or.inl (own_at hw 31 rfl)) (by decide) (t := (.array .int)) (t' := .int) (by decide) (by decide)))).other W23 (Or.inl ne_r0_sA)).other W27 (Or.inr (slot_ne (Or.inl (own_at hw 16 rfl)) (Or.inl (own_at hw 33 rfl)) (by decide) (t := (.array .int)) (t' := .int) (by decide) (by decide))))
  have f40 := ((((F_scratch_r0.keep K11 (ninS ne_r0_bA nin0)).other W17 (Or.inr (slot_ne (Or.inl (own_at hw 18 rfl)) (Or.inl (own_at hw 31 rfl)) (by decide) (t := (.array .int)) (t' := .int) (by decide) (by decide)))).other W23 (Or.inl ne_r0_sA)).other W27 (Or.inr (slot_ne (Or.inl (own_at hw 18 rfl)) (Or.inl (own_at hw 33 rfl)) (by decide) (t := (.array .int)) (t' := .int) (by decide) (by decide))))
  obtain ⟨fs, hr, hrun, hended, hW, hsame⟩ := X27.leave (v := none) (fun _ => rfl)
  refine ⟨_, _, k0 _ ?_, hrun, hended, _, _, rfl, ?_, ⟨_, rfl⟩, hW, hsame.mono (by decide) (by decide)⟩
  · show OwnS p e below s₁ (mkF m 0 #[rv r0, rv r1, iv 0, iv 1, .unset] []) _
    refine XS.iloadN X0.here hx rfl (hb hby d3_0) rfl ?_
    refine XS.iloadN X0.here hx rfl (hb hby d3_1) rfl ?_
    refine XS.isub X0.here hx rfl (hb hby d3_2) rfl ?_
    refine XS.istore X0.here hx rfl (hb hby d3_3) rfl (l' := #[rv r0, rv r1, iv 0, iv 1, iv 1]) rfl ?_
    refine XS.aloadN X0.here hx rfl (hb hby d3_5) rfl rfl ?_
    refine st1 _ ?_
    refine XS.ifnullYes X1.here hx rfl (pc0 := 9) (pc' := 32) rfl (hb hby d3_9) rfl (by decide) (by decide) ?_
    refine XS.aloadN X1.here hx rfl (hb hby d3_32) rfl rfl ?_
    refine st2 _ ?_
    refine XS.iconst X2.here hx rfl (hb hby d3_36) ?_
    refine XS.icmpYes X2.here hx rfl (pc0 := 37) (pc' := 89) rfl (hb hby d3_37) rfl (flt (by decide : ¬ ((1 : Int32) < (1 : Int32)))).2.2.2 (by decide) (by decide) ?_
    refine XS.aloadN X2.here hx rfl (hb hby d3_89) rfl rfl ?_
    refine st3 _ ?_
    refine XS.aloadN X3.here hx rfl (hb hby d3_93) rfl rfl ?_
    refine st4 _ ?_
    refine X4.arraylength hx (by rw [e4]; exact Ar_z5.1) (State.isArrayOf_alike hZ.alike Ar_z5.2.1) (g := (mkF m 97 #[rv r0, rv r1, iv 0, iv 1, iv 1] [(.ref sA), (.int 1)])) rfl rfl (hb hby d3_97) _ ?_
    rw [len_of S_z5 N_z5]
    refine XS.icmpYes X4.here hx rfl (pc0 := 98) (pc' := 125) rfl (hb hby d3_98) rfl (feq (by decide : ¬ ((1 : Int32) = (256 : Int32)))).2 (by decide) (by decide) ?_
    refine XS.aloadN X4.here hx rfl (hb hby d3_125) rfl rfl ?_
    refine st6 _ ?_
    refine XS.iload X6.here hx rfl (hb hby d3_129) rfl ?_
    refine XS.iadd X6.here hx rfl (hb hby d3_131) rfl ?_
    refine XS.aloadN X6.here hx rfl (hb hby d3_132) rfl rfl ?_
    refine st7 _ ?_
    refine X7.arraylength hx (by rw [e7]; exact Ar_z8.1) (State.isArrayOf_alike hZ.alike Ar_z8.2.1) (g := (mkF m 136 #[rv r0, rv r1, iv 0, iv 1, iv 1] [(.ref bA), (.int 2)])) rfl rfl (hb hby d3_136) _ ?_
    rw [len_of S_z8 N_z8]
    refine XS.icmpYes X7.here hx rfl (pc0 := 137) (pc' := 175) rfl (hb hby d3_137) rfl (flt (by decide : ¬ ((4096 : Int32) < (2 : Int32)))).2.2.2 (by decide) (by decide) ?_
    refine XS.aloadN X7.here hx rfl (hb hby d3_175) rfl rfl ?_
    refine XS.iloadN X7.here hx rfl (hb hby d3_176) rfl ?_
    refine XS.aloadN X7.here hx rfl (hb hby d3_177) rfl rfl ?_
    refine st9 _ ?_
    refine XS.aloadN X9.here hx rfl (hb hby d3_181) rfl rfl ?_
    refine st10 _ ?_
    refine XS.iload X10.here hx rfl (hb hby d3_185) rfl ?_
    refine st11 _ ?_
    refine XS.aloadN X11.here hx rfl (hb hby d3_190) rfl rfl ?_
    refine st13 _ ?_
    refine XS.aloadN X13.here hx rfl (hb hby d3_194) rfl rfl ?_
    refine XS.dup X13.here hx rfl (hb hby d3_195) rfl rfl ?_
    refine st15 _ ?_
    show OwnS p e below T15 (mkF m 199 #[rv r0, rv r1, iv 0, iv 1, iv 1] [(.int 1), (.ref r0), (.ref sA)]) _
    refine XS.dupX1 X15.here hx rfl (hb hby d3_199) rfl rfl rfl ?_
    refine XS.iconst X15.here hx rfl (hb hby d3_200) ?_
    refine XS.iadd X15.here hx rfl (hb hby d3_201) rfl ?_
    refine st17 _ ?_
    refine XS.aloadN X17.here hx rfl (hb hby d3_205) rfl rfl ?_
    refine st19 _ ?_
    refine st23 _ ?_
    refine XS.aloadN X23.here hx rfl (hb hby d3_210) rfl rfl ?_
    refine XS.dup X23.here hx rfl (hb hby d3_211) rfl rfl ?_
    refine st25 _ ?_
    refine XS.iload X25.here hx rfl (hb hby d3_215) rfl ?_
    refine XS.iadd X25.here hx rfl (hb hby d3_217) rfl ?_
    refine st27 _ ?_
    exact X27.returnOut hx Bd.returns (hb hby d3_221) hr
  · show Q_3_1 Z r0 r1 bA kB sA kS oZ cZ kN b0 b1 b2 s0 s1 s2 y h0 n0 _ T27.heap _
    rw [e27]
    exact ⟨rfl, N27, (((((Keep.refl h0 [r0, bA, sA]).trans K11 (allS (Or.inl (List.mem_of_getElem? (i := 1) rfl)) all0)).wr W17 (Or.inl (List.mem_of_getElem? (i := 0) rfl))).wr W23 (Or.inl (List.mem_of_getElem? (i := 2) rfl))).wr W27 (Or.inl (List.mem_of_getElem? (i := 0) rfl))), f28, f29, f30, f31, Fw27, f32, f33, f34, f35, f36, f37, f38, f39, f40⟩
theorem d3_40 : decode prog_6_method_3_code 40 = .ok (.aload_n 0, 1) := by decide +kernel
theorem d3_41 : decode prog_6_method_3_code 41 = .ok (.getfield 30, 3) := by decide +kernel
theorem d3_44 : decode prog_6_method_3_code 44 = .ok (.aload_n 0, 1) := by decide +kernel
theorem d3_45 : decode prog_6_method_3_code 45 = .ok (.getfield 23, 3) := by decide +kernel
theorem d3_48 : decode prog_6_method_3_code 48 = .ok (.if_icmp .eq 17, 3) := by decide +kernel
theorem d3_51 : decode prog_6_method_3_code 51 = .ok (.aload_n 0, 1) := by decide +kernel
theorem d3_52 : decode prog_6_method_3_code 52 = .ok (.getfield 33, 3) := by decide +kernel
theorem d3_55 : decode prog_6_method_3_code 55 = .ok (.iload 4, 2) := by decide +kernel
theorem d3_57 : decode prog_6_method_3_code 57 = .ok (.iadd, 1) := by decide +kernel
theorem d3_58 : decode prog_6_method_3_code 58 = .ok (.aload_n 0, 1) := by decide +kernel
theorem d3_59 : decode prog_6_method_3_code 59 = .ok (.getfield 27, 3) := by decide +kernel
theorem d3_62 : decode prog_6_method_3_code 62 = .ok (.if_icmp .le 27, 3) := by decide +kernel
def Q_3_2 (Z : State) (r0 : Addr) (r1 : Addr) (bA : Addr) (kB : ClassId) (sA : Addr) (kS : ClassId) (oZ : Addr) (cZ : Addr) (kN : ClassId) (b0 : Int32) (b1 : Int32) (b2 : Int32) (s0 : Int32) (s1 : Int32) (s2 : Int32) (y : Int32) (h0 : Heap) (n0 : Nat) (v : Option Value) (h : Heap) (L : List Loc) : Prop := v = none ∧ Fr n0 L ∧ Keep h0 h [r0, bA, sA] ∧ Exa Z h r0 cS0 ∧ Fld Z h r0 cS0 "maxNames" "I" (.int 3) ∧ Fld Z h r0 cS0 "maxBytes" "I" (.int 3) ∧ Fld Z h r0 cS0 "count" "I" (.int 3) ∧ Fld Z h r0 cS0 "used" "I" (.int 3) ∧ Fld Z h r0 cS0 "limit" "[B" .null ∧ Fld Z h r0 cS0 "bytes" "[B" (.ref bA) ∧ Arv Z h bA kB .byte (4096 : Int32) [(.int b0), (.int b1), (.int y)] (.int 0) ∧ Exa Z h bA "[B" ∧ Fld Z h r0 cS0 "starts" "[I" (.ref sA) ∧ Arv Z h sA kS .int (256 : Int32) [(.int s0), (.int s1), (.int 2)] (.int 0) ∧ Exa Z h sA "[I" ∧ Fld Z h r0 cS0 "order" "[I" (.ref oZ) ∧ Fld Z h r0 cS0 "scratch" "[I" (.ref cZ)
set_option maxRecDepth 65536 in
set_option maxHeartbeats 40000000 in
theorem rm3_2 (l : Launch) (Z : State) (a0 : Array Value) (hw : ∀ d ∈ tables_1, d.before a0 Z = true) (ws : List Jvm.Cond) (r0 : Addr) (r1 : Addr) (bA : Addr) (kB : ClassId) (sA : Addr) (kS : ClassId) (oZ : Addr) (cZ : Addr) (kN : ClassId) (b0 : Int32) (b1 : Int32) (b2 : Int32) (s0 : Int32) (s1 : Int32) (s2 : Int32) (y : Int32) (h0 : Heap) (n0 : Nat) (Z0 : n0 ≤ h0.size) (E_r0 : Exa Z h0 r0 cS0) (F_maxNames_r0 : Fld Z h0 r0 cS0 "maxNames" "I" (.int 3)) (F_maxBytes_r0 : Fld Z h0 r0 cS0 "maxBytes" "I" (.int 3)) (F_count_r0 : Fld Z h0 r0 cS0 "count" "I" (.int 2)) (F_used_r0 : Fld Z h0 r0 cS0 "used" "I" (.int 2)) (F_limit_r0 : Fld Z h0 r0 cS0 "limit" "[B" .null) (F_bytes_r0 : Fld Z h0 r0 cS0 "bytes" "[B" (.ref bA)) (V_bA : Arv Z h0 bA kB .byte (4096 : Int32) [(.int b0), (.int b1), (.int b2)] (.int 0)) (E_bA : Exa Z h0 bA "[B") (F_starts_r0 : Fld Z h0 r0 cS0 "starts" "[I" (.ref sA)) (V_sA : Arv Z h0 sA kS .int (256 : Int32) [(.int s0), (.int s1), (.int s2)] (.int 0)) (E_sA : Exa Z h0 sA "[I") (F_order_r0 : Fld Z h0 r0 cS0 "order" "[I" (.ref oZ)) (F_scratch_r0 : Fld Z h0 r0 cS0 "scratch" "[I" (.ref cZ)) (V_r1 : Arv Z h0 r1 kN .byte (1 : Int32) [(.int y)] (.int 0)) (E_r1 : Exa Z h0 r1 "[B") (ge_bA : n0 ≤ bA) (ne_r0_bA : r0 ≠ bA) (ge_r0 : n0 ≤ r0) (ne_sA_bA : sA ≠ bA) (ne_sA_r0 : sA ≠ r0) (ge_sA : n0 ≤ sA) (ne_r0_sA : r0 ≠ sA) (ne_bA_r0 : bA ≠ r0) (ne_bA_sA : bA ≠ sA) :
    MetFree l (⟨cS0, "offer", "([BII)V"⟩ : MethodName) (head1 (Jvm.Cond.code (⟨cS0, "offer", "([BII)V"⟩ : MethodName) prog_6_method_3_code 5 none :: ws) ({ frames := 1, cells := 0, slots := 0, locals := 18 } : Room)) (fun a U => a = #[(.ref r0), (.ref r1), (.int 0), (.int 1)] ∧ Z.Warmed39 U.vm ∧ U.heap = h0) (fun _ _ _ _ _ => True) (fun _ U o U' => ∃ v L, o = .returned v ∧ Q_3_2 Z r0 r1 bA kB sA kS oZ cZ kN b0 b1 b2 s0 s1 s2 y h0 n0 v U'.heap L ∧ FrameEnd U o U' L ({ frames := 1, cells := 0, slots := 0, locals := 18 } : Room).cells ({ frames := 1, cells := 0, slots := 0, locals := 18 } : Room).slots) := by
  refine MetFree.of_bodySF (plainFor_of_name pn_com_example_measurewright_measurewright_cli_NameBatch) hisR ?_
  intro p e s m args below meth c s₁ Bd hml0 hP hK
  obtain ⟨rfl, hZ, hh⟩ := hP
  have hx := Bd.exec
  have hby := Bd.bytes
  have hml : c.maxLocals = 5 := hml0
  have hown : s.vm.findClass cS0 = some m.cls := findClass_of_methodNamed Bd.named
  have hnm := (name_of_methodNamed Bd.named Bd.method).1
  have X0 : Stand p l e ({ frames := 1, cells := 0, slots := 0, locals := 18 } : Room) s m #[(.ref r0), (.ref r1), (.int 0), (.int 1)] below meth c s₁ [] 0 0 := Stand.of_body Bd
  have e0 : s₁.heap = h0 := by rw [← hh, Bd.state]; rfl
  have N0 := Fr.nil n0
  have k0 : ∀ t, OwnS p e below s₁ (mkF m 0 #[rv r0, rv r1, iv 0, iv 1, .unset] []) t → OwnS p e below s₁ (entryFrame m #[(.ref r0), (.ref r1), (.int 0), (.int 1)] 5) t := fun t k => castTop (ef_3 m r0 r1 (0 : Int32) (1 : Int32)) k
  obtain ⟨T1, X1, e1, st1⟩ := getF X0 hx hZ hown (host := "") (Or.inl (own_at hw 28 rfl)) Via.refl e0 F_limit_r0 (g := (mkF m 6 #[rv r0, rv r1, iv 0, iv 1, iv 1] [(.ref r0)])) rfl rfl (hb hby d3_6)
  obtain ⟨T2, X2, e2, st2⟩ := getF X1 hx hZ hown (host := "") (Or.inl (own_at hw 30 rfl)) Via.refl e1 F_count_r0 (g := (mkF m 33 #[rv r0, rv r1, iv 0, iv 1, iv 1] [(.ref r0)])) rfl rfl (hb hby d3_33)
  obtain ⟨T3, X3, e3, st3⟩ := getF X2 hx hZ hown (host := "") (Or.inl (own_at hw 30 rfl)) Via.refl e2 F_count_r0 (g := (mkF m 41 #[rv r0, rv r1, iv 0, iv 1, iv 1] [(.ref r0)])) rfl rfl (hb hby d3_41)
  obtain ⟨T4, X4, e4, st4⟩ := getF X3 hx hZ hown (host := "") (Or.inl (own_at hw 19 rfl)) Via.refl e3 F_maxNames_r0 (g := (mkF m 45 #[rv r0, rv r1, iv 0, iv 1, iv 1] [(.ref r0), (.int 2)])) rfl rfl (hb hby d3_45)
  obtain ⟨T5, X5, e5, st5⟩ := getF X4 hx hZ hown (host := "") (Or.inl (own_at hw 32 rfl)) Via.refl e4 F_used_r0 (g := (mkF m 52 #[rv r0, rv r1, iv 0, iv 1, iv 1] [(.ref r0)])) rfl rfl (hb hby d3_52)
  obtain ⟨T6, X6, e6, st6⟩ := getF X5 hx hZ hown (host := "") (Or.inl (own_at hw 21 rfl)) Via.refl e5 F_maxBytes_r0 (g := (mkF m 59 #[rv r0, rv r1, iv 0, iv 1, iv 1] [(.ref r0), (.int 3)])) rfl rfl (hb hby d3_59)
  obtain ⟨T7, X7, e7, st7⟩ := getF X6 hx hZ hown (host := "") (Or.inl (own_at hw 30 rfl)) Via.refl e6 F_count_r0 (g := (mkF m 90 #[rv r0, rv r1, iv 0, iv 1, iv 1] [(.ref r0)])) rfl rfl (hb hby d3_90)
  obtain ⟨T8, X8, e8, st8⟩ := getF X7 hx hZ hown (host := "") (Or.inl (own_at hw 13 rfl)) Via.refl e7 F_starts_r0 (g := (mkF m 94 #[rv r0, rv r1, iv 0, iv 1, iv 1] [(.ref r0), (.int 2)])) rfl rfl (hb hby d3_94)
  obtain ⟨cl_z9, Ar_z9, q_z9, S_z9, N_z9, H_z9, G_z9⟩ := id V_sA
  obtain ⟨T10, X10, e10, st10⟩ := getF X8 hx hZ hown (host := "") (Or.inl (own_at hw 32 rfl)) Via.refl e8 F_used_r0 (g := (mkF m 126 #[rv r0, rv r1, iv 0, iv 1, iv 1] [(.ref r0)])) rfl rfl (hb hby d3_126)
  obtain ⟨T11, X11, e11, st11⟩ := getF X10 hx hZ hown (host := "") (Or.inl (own_at hw 10 rfl)) Via.refl e10 F_bytes_r0 (g := (mkF m 133 #[rv r0, rv r1, iv 0, iv 1, iv 1] [(.ref r0), (.int 3)])) rfl rfl (hb hby d3_133)
  obtain ⟨cl_z12, Ar_z12, q_z12, S_z12, N_z12, H_z12, G_z12⟩ := id V_bA
  obtain ⟨T13, X13, e13, st13⟩ := getF X11 hx hZ hown (host := "") (Or.inl (own_at hw 10 rfl)) Via.refl e11 F_bytes_r0 (g := (mkF m 178 #[rv r0, rv r1, iv 0, iv 1, iv 1] [(.ref r0), (.int 0), (.ref r1)])) rfl rfl (hb hby d3_178)
  obtain ⟨T14, X14, e14, st14⟩ := getF X13 hx hZ hown (host := "") (Or.inl (own_at hw 32 rfl)) Via.refl e13 F_used_r0 (g := (mkF m 182 #[rv r0, rv r1, iv 0, iv 1, iv 1] [(.ref r0), (.ref bA), (.int 0), (.ref r1)])) rfl rfl (hb hby d3_182)
  obtain ⟨T15, h15, L15, X15, e15, N15, K15, Vr15, st15⟩ := cpA X14 hx hZ hown (own_at hw 34 rfl) (own_at hw 37 rfl) (own_at hw 35 rfl) (own_at hw 36 rfl) e14 V_r1 V_bA (us := [(.int y)]) (Or.inl ⟨rfl, rfl⟩) (by decide) (by decide) (by decide) (by decide) (by decide) rfl (Nat.le_of_ble_eq_true rfl) N0 ge_bA (g := (mkF m 187 #[rv r0, rv r1, iv 0, iv 1, iv 1] [(.int 1), (.int 2), (.ref bA), (.int 0), (.ref r1)])) rfl (by rw [hml]; rfl) rfl (hb hby d3_187) (by decide) (W := 0) (Nat.le_refl _) (by decide)
  have pl15 := (allS (P := fun x => ∃ cell : Cell, h0[x]? = some cell ∧ cell.vm.isStatics = false) (own_ns E_bA) all0)
  have V15 : Arv Z h15 bA kB .byte (4096 : Int32) [(.int b0), (.int b1), (.int y)] (.int 0) := Vr15
  have f16 := (F_starts_r0.keep K15 (ninS ne_r0_bA nin0))
  obtain ⟨T17, X17, e17, st17⟩ := getF X15 hx hZ hown (host := "") (Or.inl (own_at hw 13 rfl)) Via.refl e15 f16 (g := (mkF m 191 #[rv r0, rv r1, iv 0, iv 1, iv 1] [(.ref r0)])) rfl rfl (hb hby d3_191)
  have f18 := (F_count_r0.keep K15 (ninS ne_r0_bA nin0))
  obtain ⟨T19, X19, e19, st19⟩ := getF X17 hx hZ hown (host := "") (Or.inl (own_at hw 30 rfl)) Via.refl e17 f18 (g := (mkF m 196 #[rv r0, rv r1, iv 0, iv 1, iv 1] [(.ref r0), (.ref r0), (.ref sA)])) rfl rfl (hb hby d3_196)
  have f20 := (E_r0.keep K15)
  obtain ⟨T21, h21, X21, e21, W21, st21⟩ := putF X19 hx hZ hown (host := "") (Or.inl (own_at hw 30 rfl)) Via.refl e19 f18 f20 (Or.inl (own_at hw 31 rfl)) (own_at hw 1 rfl) (ty := .int) (by decide) rfl rfl (g := (mkF m 202 #[rv r0, rv r1, iv 0, iv 1, iv 1] [(.int 3), (.ref r0), (.int 2), (.ref sA)])) rfl rfl (hb hby d3_202)
  have Fw21 : Fld Z h21 r0 cS0 "count" "I" (.int 3) := f18.same W21
  have N21 := Fr.snoc X21 N15 ge_r0
  have f22 := ((F_used_r0.keep K15 (ninS ne_r0_bA nin0)).other W21 (Or.inr (slot_ne (Or.inl (own_at hw 33 rfl)) (Or.inl (own_at hw 31 rfl)) (by decide) (t := .int) (t' := .int) (by decide) (by decide))))
  obtain ⟨T23, X23, e23, st23⟩ := getF X21 hx hZ hown (host := "") (Or.inl (own_at hw 32 rfl)) Via.refl e21 f22 (g := (mkF m 206 #[rv r0, rv r1, iv 0, iv 1, iv 1] [(.ref r0), (.int 2), (.ref sA)])) rfl rfl (hb hby d3_206)
  have f24 := ((V_sA.keep K15 (ninS ne_sA_bA nin0)).other W21 ne_sA_r0)
  obtain ⟨cl_z25, Ar_z25, q_z25, S_z25, N_z25, H_z25, G_z25⟩ := id f24
  have hin26 : ¬ ((2 : Int32) < 0 ∨ cl_z25.slots.size ≤ ((2 : Int32)).toNatClampNeg) := inb_of S_z25 ⟨by decide, by decide⟩
  obtain ⟨T27, h27, X27, e27, W27, st27⟩ := stI X23 hx hZ e23 Ar_z25 (j := (2 : Int32)) hin26 (g := (mkF m 209 #[rv r0, rv r1, iv 0, iv 1, iv 1] [(.int 2), (.int 2), (.ref sA)])) rfl rfl (hb hby d3_209)
  have V27 : Arv Z h27 sA kS .int (256 : Int32) [(.int s0), (.int s1), (.int 2)] (.int 0) := Arv.set Ar_z25 q_z25 S_z25 N_z25 H_z25 G_z25 rfl W27 2 rfl (Nat.le_of_ble_eq_true rfl)
  have N27 := Fr.snoc X27 N21 ge_sA
  have f28 := (f22.other W27 (Or.inl ne_r0_sA))
  obtain ⟨T29, X29, e29, st29⟩ := getF X27 hx hZ hown (host := "") (Or.inl (own_at hw 32 rfl)) Via.refl e27 f28 (g := (mkF m 212 #[rv r0, rv r1, iv 0, iv 1, iv 1] [(.ref r0), (.ref r0)])) rfl rfl (hb hby d3_212)
  have f30 := ((f20.wr W21).wr W27)
  obtain ⟨T31, h31, X31, e31, W31, st31⟩ := putF X29 hx hZ hown (host := "") (Or.inl (own_at hw 32 rfl)) Via.refl e29 f28 f30 (Or.inl (own_at hw 33 rfl)) (own_at hw 1 rfl) (ty := .int) (by decide) rfl rfl (g := (mkF m 218 #[rv r0, rv r1, iv 0, iv 1, iv 1] [(.int 3), (.ref r0)])) rfl rfl (hb hby d3_218)
  have Fw31 : Fld Z h31 r0 cS0 "used" "I" (.int 3) := f28.same W31
  have N31 := Fr.snoc X31 N27 ge_r0
  have f32 := (f30.wr W31)
  have f33 := ((((F_maxNames_r0.keep K15 (ninS ne_r0_bA nin0)).other W21 (Or.inr (slot_ne (Or.inr (own_at hw 20 rfl)) (Or.inl (own_at hw 31 rfl)) (by decide) (t := .int) (t' := .int) (by decide) (by decide)))).other W27 (Or.inl ne_r0_sA)).other W31 (Or.inr (slot_ne (Or.inr (own_at hw 20 rfl)) (Or.inl (own_at hw 33 rfl)) (by decide) (t := .int) (t' := .int) (by decide) (by decide))))
  have f34 := ((((F_maxBytes_r0.keep K15 (ninS ne_r0_bA nin0)).other W21 (Or.inr (slot_ne (Or.inr (own_at hw 22 rfl)) (Or.inl (own_at hw 31 rfl)) (by decide) (t := .int) (t' := .int) (by decide) (by decide)))).other W27 (Or.inl ne_r0_sA)).other W31 (Or.inr (slot_ne (Or.inr (own_at hw 22 rfl)) (Or.inl (own_at hw 33 rfl)) (by decide) (t := .int) (t' := .int) (by decide) (by decide))))
  have f35 := ((Fw21.other W27 (Or.inl ne_r0_sA)).other W31 (Or.inr (slot_ne (Or.inl (own_at hw 31 rfl)) (Or.inl (own_at hw 33 rfl)) (by decide) (t := .int) (t' := .int) (by decide) (by decide))))
  have f36 := ((((F_limit_r0.keep K15 (ninS ne_r0_bA nin0)).other W21 (Or.inr (slot_ne (Or.inl (own_at hw 29 rfl)) (Or.inl (own_at hw 31 rfl)) (by decide) (t := (.array .byte)) (t' := .int) (by decide) (by decide)))).other W27 (Or.inl ne_r0_sA)).other W31 (Or.inr (slot_ne (Or.inl (own_at hw 29 rfl)) (Or.inl (own_at hw 33 rfl)) (by decide) (t := (.array .byte)) (t' := .int) (by decide) (by decide))))
  have f37 := ((((F_bytes_r0.keep K15 (ninS ne_r0_bA nin0)).other W21 (Or.inr (slot_ne (Or.inl (own_at hw 11 rfl)) (Or.inl (own_at hw 31 rfl)) (by decide) (t := (.array .byte)) (t' := .int) (by decide) (by decide)))).other W27 (Or.inl ne_r0_sA)).other W31 (Or.inr (slot_ne (Or.inl (own_at hw 11 rfl)) (Or.inl (own_at hw 33 rfl)) (by decide) (t := (.array .byte)) (t' := .int) (by decide) (by decide))))
  have f38 := (((V15.other W21 ne_bA_r0).other W27 ne_bA_sA).other W31 ne_bA_r0)
  have f39 := ((((E_bA.keep K15).wr W21).wr W27).wr W31)
  have f40 := (((f16.other W21 (Or.inr (slot_ne (Or.inl (own_at hw 14 rfl)) (Or.inl (own_at hw 31 rfl)) (by decide) (t := (.array .int)) (t' := .int) (by decide) (by decide)))).other W27 (Or.inl ne_r0_sA)).other W31 (Or.inr (slot_ne (Or.inl (own_at hw 14 rfl)) (Or.inl (own_at hw 33 rfl)) (by decide) (t := (.array .int)) (t' := .int) (by decide) (by decide))))
  have f41 := (V27.other W31 ne_sA_r0)
  have f42 := ((((E_sA.keep K15).wr W21).wr W27).wr W31)
  have f43 := ((((F_order_r0.keep K15 (ninS ne_r0_bA nin0)).other W21 (Or.inr (slot_ne (Or.inl (own_at hw 16 rfl)) (Or.inl (own_at hw 31 rfl)) (by decide) (t := (.array .int)) (t' := .int) (by decide) (by decide)))).other W27 (Or.inl ne_r0_sA)).other W31 (Or.inr (slot_ne (Or.inl (own_at hw 16 rfl)) (Or.inl (own_at hw 33 rfl)) (by decide) (t := (.array .int)) (t' := .int) (by decide) (by decide))))
  have f44 := ((((F_scratch_r0.keep K15 (ninS ne_r0_bA nin0)).other W21 (Or.inr (slot_ne (Or.inl (own_at hw 18 rfl)) (Or.inl (own_at hw 31 rfl)) (by decide) (t := (.array .int)) (t' := .int) (by decide) (by decide)))).other W27 (Or.inl ne_r0_sA)).other W31 (Or.inr (slot_ne (Or.inl (own_at hw 18 rfl)) (Or.inl (own_at hw 33 rfl)) (by decide) (t := (.array .int)) (t' := .int) (by decide) (by decide))))
  obtain ⟨fs, hr, hrun, hended, hW, hsame⟩ := X31.leave (v := none) (fun _ => rfl)
  refine ⟨_, _, k0 _ ?_, hrun, hended, _, _, rfl, ?_, ⟨_, rfl⟩, hW, hsame.mono (by decide) (by decide)⟩
  · show OwnS p e below s₁ (mkF m 0 #[rv r0, rv r1, iv 0, iv 1, .unset] []) _
    refine XS.iloadN X0.here hx rfl (hb hby d3_0) rfl ?_
    refine XS.iloadN X0.here hx rfl (hb hby d3_1) rfl ?_
    refine XS.isub X0.here hx rfl (hb hby d3_2) rfl ?_
    refine XS.istore X0.here hx rfl (hb hby d3_3) rfl (l' := #[rv r0, rv r1, iv 0, iv 1, iv 1]) rfl ?_
    refine XS.aloadN X0.here hx rfl (hb hby d3_5) rfl rfl ?_
    refine st1 _ ?_
    refine XS.ifnullYes X1.here hx rfl (pc0 := 9) (pc' := 32) rfl (hb hby d3_9) rfl (by decide) (by decide) ?_
    refine XS.aloadN X1.here hx rfl (hb hby d3_32) rfl rfl ?_
    refine st2 _ ?_
    refine XS.iconst X2.here hx rfl (hb hby d3_36) ?_
    refine XS.icmpNo X2.here hx rfl (hb hby d3_37) rfl (tlt (by decide : (1 : Int32) < (2 : Int32))).2.2.2 ?_
    refine XS.aloadN X2.here hx rfl (hb hby d3_40) rfl rfl ?_
    refine st3 _ ?_
    refine XS.aloadN X3.here hx rfl (hb hby d3_44) rfl rfl ?_
    refine st4 _ ?_
    refine XS.icmpNo X4.here hx rfl (hb hby d3_48) rfl (feq (by decide : ¬ ((2 : Int32) = (3 : Int32)))).1 ?_
    refine XS.aloadN X4.here hx rfl (hb hby d3_51) rfl rfl ?_
    refine st5 _ ?_
    refine XS.iload X5.here hx rfl (hb hby d3_55) rfl ?_
    refine XS.iadd X5.here hx rfl (hb hby d3_57) rfl ?_
    refine XS.aloadN X5.here hx rfl (hb hby d3_58) rfl rfl ?_
    refine st6 _ ?_
    refine XS.icmpYes X6.here hx rfl (pc0 := 62) (pc' := 89) rfl (hb hby d3_62) rfl (flt (by decide : ¬ ((3 : Int32) < (3 : Int32)))).2.2.2 (by decide) (by decide) ?_
    refine XS.aloadN X6.here hx rfl (hb hby d3_89) rfl rfl ?_
    refine st7 _ ?_
    refine XS.aloadN X7.here hx rfl (hb hby d3_93) rfl rfl ?_
    refine st8 _ ?_
    refine X8.arraylength hx (by rw [e8]; exact Ar_z9.1) (State.isArrayOf_alike hZ.alike Ar_z9.2.1) (g := (mkF m 97 #[rv r0, rv r1, iv 0, iv 1, iv 1] [(.ref sA), (.int 2)])) rfl rfl (hb hby d3_97) _ ?_
    rw [len_of S_z9 N_z9]
    refine XS.icmpYes X8.here hx rfl (pc0 := 98) (pc' := 125) rfl (hb hby d3_98) rfl (feq (by decide : ¬ ((2 : Int32) = (256 : Int32)))).2 (by decide) (by decide) ?_
    refine XS.aloadN X8.here hx rfl (hb hby d3_125) rfl rfl ?_
    refine st10 _ ?_
    refine XS.iload X10.here hx rfl (hb hby d3_129) rfl ?_
    refine XS.iadd X10.here hx rfl (hb hby d3_131) rfl ?_
    refine XS.aloadN X10.here hx rfl (hb hby d3_132) rfl rfl ?_
    refine st11 _ ?_
    refine X11.arraylength hx (by rw [e11]; exact Ar_z12.1) (State.isArrayOf_alike hZ.alike Ar_z12.2.1) (g := (mkF m 136 #[rv r0, rv r1, iv 0, iv 1, iv 1] [(.ref bA), (.int 3)])) rfl rfl (hb hby d3_136) _ ?_
    rw [len_of S_z12 N_z12]
    refine XS.icmpYes X11.here hx rfl (pc0 := 137) (pc' := 175) rfl (hb hby d3_137) rfl (flt (by decide : ¬ ((4096 : Int32) < (3 : Int32)))).2.2.2 (by decide) (by decide) ?_
    refine XS.aloadN X11.here hx rfl (hb hby d3_175) rfl rfl ?_
    show OwnS p e below T11 (mkF m 176 #[rv r0, rv r1, iv 0, iv 1, iv 1] [(.ref r1)]) _
    refine XS.iloadN X11.here hx rfl (hb hby d3_176) rfl ?_
    refine XS.aloadN X11.here hx rfl (hb hby d3_177) rfl rfl ?_
    refine st13 _ ?_
    refine XS.aloadN X13.here hx rfl (hb hby d3_181) rfl rfl ?_
    refine st14 _ ?_
    refine XS.iload X14.here hx rfl (hb hby d3_185) rfl ?_
    refine st15 _ ?_
    refine XS.aloadN X15.here hx rfl (hb hby d3_190) rfl rfl ?_
    refine st17 _ ?_
    refine XS.aloadN X17.here hx rfl (hb hby d3_194) rfl rfl ?_
    refine XS.dup X17.here hx rfl (hb hby d3_195) rfl rfl ?_
    refine st19 _ ?_
    refine XS.dupX1 X19.here hx rfl (hb hby d3_199) rfl rfl rfl ?_
    refine XS.iconst X19.here hx rfl (hb hby d3_200) ?_
    refine XS.iadd X19.here hx rfl (hb hby d3_201) rfl ?_
    refine st21 _ ?_
    refine XS.aloadN X21.here hx rfl (hb hby d3_205) rfl rfl ?_
    refine st23 _ ?_
    refine st27 _ ?_
    refine XS.aloadN X27.here hx rfl (hb hby d3_210) rfl rfl ?_
    refine XS.dup X27.here hx rfl (hb hby d3_211) rfl rfl ?_
    refine st29 _ ?_
    refine XS.iload X29.here hx rfl (hb hby d3_215) rfl ?_
    refine XS.iadd X29.here hx rfl (hb hby d3_217) rfl ?_
    refine st31 _ ?_
    exact X31.returnOut hx Bd.returns (hb hby d3_221) hr
  · show Q_3_2 Z r0 r1 bA kB sA kS oZ cZ kN b0 b1 b2 s0 s1 s2 y h0 n0 _ T31.heap _
    rw [e31]
    exact ⟨rfl, N31, (((((Keep.refl h0 [r0, bA, sA]).trans K15 (allS (Or.inl (List.mem_of_getElem? (i := 1) rfl)) all0)).wr W21 (Or.inl (List.mem_of_getElem? (i := 0) rfl))).wr W27 (Or.inl (List.mem_of_getElem? (i := 2) rfl))).wr W31 (Or.inl (List.mem_of_getElem? (i := 0) rfl))), f32, f33, f34, f35, Fw31, f36, f37, f38, f39, f40, f41, f42, f43, f44⟩
theorem d12_0 : decode jdk_48_method_14_code 0 = .ok (.iconst 0, 1) := by decide +kernel
theorem d12_1 : decode jdk_48_method_14_code 1 = .ok (.istore 5, 2) := by decide +kernel
theorem d12_3 : decode jdk_48_method_14_code 3 = .ok (.iload 4, 2) := by decide +kernel
theorem d12_5 : decode jdk_48_method_14_code 5 = .ok (.bipush 7, 2) := by decide +kernel
theorem d12_7 : decode jdk_48_method_14_code 7 = .ok (.if_icmp .le 63, 3) := by decide +kernel
theorem d12_70 : decode jdk_48_method_14_code 70 = .ok (.iload 5, 2) := by decide +kernel
theorem d12_72 : decode jdk_48_method_14_code 72 = .ok (.iload 4, 2) := by decide +kernel
theorem d12_74 : decode jdk_48_method_14_code 74 = .ok (.if_icmp .ge 27, 3) := by decide +kernel
theorem d12_77 : decode jdk_48_method_14_code 77 = .ok (.aload_n 0, 1) := by decide +kernel
theorem d12_78 : decode jdk_48_method_14_code 78 = .ok (.iload_n 1, 1) := by decide +kernel
theorem d12_79 : decode jdk_48_method_14_code 79 = .ok (.iload 5, 2) := by decide +kernel
theorem d12_81 : decode jdk_48_method_14_code 81 = .ok (.iadd, 1) := by decide +kernel
theorem d12_82 : decode jdk_48_method_14_code 82 = .ok (.baload, 1) := by decide +kernel
theorem d12_83 : decode jdk_48_method_14_code 83 = .ok (.aload_n 2, 1) := by decide +kernel
theorem d12_84 : decode jdk_48_method_14_code 84 = .ok (.iload_n 3, 1) := by decide +kernel
theorem d12_85 : decode jdk_48_method_14_code 85 = .ok (.iload 5, 2) := by decide +kernel
theorem d12_87 : decode jdk_48_method_14_code 87 = .ok (.iadd, 1) := by decide +kernel
theorem d12_88 : decode jdk_48_method_14_code 88 = .ok (.baload, 1) := by decide +kernel
theorem d12_89 : decode jdk_48_method_14_code 89 = .ok (.if_icmp .eq 6, 3) := by decide +kernel
theorem d12_95 : decode jdk_48_method_14_code 95 = .ok (.iinc 5 1, 3) := by decide +kernel
theorem d12_98 : decode jdk_48_method_14_code 98 = .ok (.goto (-28), 3) := by decide +kernel
theorem d12_101 : decode jdk_48_method_14_code 101 = .ok (.iconst (-1), 1) := by decide +kernel
theorem d12_102 : decode jdk_48_method_14_code 102 = .ok (.ireturn, 1) := by decide +kernel
theorem pn_jdk_internal_util_ArraysSupport : plainName cS2 = true := by first | (simp [plainName, overriddenIn]; done) | decide +kernel
theorem ef_12 (m : MethodId) (x0 : Addr) (x1 : Int32) (x2 : Addr) (x3 : Int32) (x4 : Int32) : entryFrame m #[(.ref x0), (.int x1), (.ref x2), (.int x3), (.int x4)] 8 = mkF m 0 #[.val (.ref x0), .val (.int x1), .val (.ref x2), .val (.int x3), .val (.int x4), .unset, .unset, .unset] [] := by first | (simp [entryFrame, mkF, argsToLocals, Value.category]; done) | rfl
def Q_12_s01e (Z : State) (r0 : Addr) (kA : ClassId) (x0 : Int32) (x1 : Int32) (x2 : Int32) (h0 : Heap) (n0 : Nat) (v : Option Value) (h : Heap) (L : List Loc) : Prop := v = some (.int (-1)) ∧ Fr n0 L ∧ h = h0
set_option maxRecDepth 65536 in
set_option maxHeartbeats 40000000 in
theorem rm12_s01e (l : Launch) (Z : State) (a0 : Array Value) (hw : ∀ d ∈ tables_1, d.before a0 Z = true) (ws : List Jvm.Cond) (r0 : Addr) (kA : ClassId) (x0 : Int32) (x1 : Int32) (x2 : Int32) (h0 : Heap) (n0 : Nat) (Z0 : n0 ≤ h0.size) (V_r0 : Arv Z h0 r0 kA .byte (4096 : Int32) [(.int x0), (.int x1), (.int x2)] (.int 0)) (hcmp : x0 = x1) :
    MetFree l (⟨cS2, "mismatch", "([BI[BII)I"⟩ : MethodName) (head1 (Jvm.Cond.code (⟨cS2, "mismatch", "([BI[BII)I"⟩ : MethodName) jdk_48_method_14_code 8 (some .int) :: ws) ({ frames := 0, cells := 0, slots := 0, locals := 0 } : Room)) (fun a U => a = #[(.ref r0), (.int 0), (.ref r0), (.int 1), (.int 1)] ∧ Z.Warmed39 U.vm ∧ U.heap = h0) (fun _ _ _ _ _ => True) (fun _ U o U' => ∃ v L, o = .returned v ∧ Q_12_s01e Z r0 kA x0 x1 x2 h0 n0 v U'.heap L ∧ FrameEnd U o U' L ({ frames := 0, cells := 0, slots := 0, locals := 0 } : Room).cells ({ frames := 0, cells := 0, slots := 0, locals := 0 } : Room).slots) := by
  refine MetFree.of_bodySF (plainFor_of_name pn_jdk_internal_util_ArraysSupport) hisR ?_
  intro p e s m args below meth c s₁ Bd hml0 hP hK
  obtain ⟨rfl, hZ, hh⟩ := hP
  have hx := Bd.exec
  have hby := Bd.bytes
  have hml : c.maxLocals = 8 := hml0
  have hown : s.vm.findClass cS2 = some m.cls := findClass_of_methodNamed Bd.named
  have hnm := (name_of_methodNamed Bd.named Bd.method).1
  have X0 : Stand p l e ({ frames := 0, cells := 0, slots := 0, locals := 0 } : Room) s m #[(.ref r0), (.int 0), (.ref r0), (.int 1), (.int 1)] below meth c s₁ [] 0 0 := Stand.of_body Bd
  have e0 : s₁.heap = h0 := by rw [← hh, Bd.state]; rfl
  have N0 := Fr.nil n0
  have k0 : ∀ t, OwnS p e below s₁ (mkF m 0 #[rv r0, iv 0, rv r0, iv 1, iv 1, .unset, .unset, .unset] []) t → OwnS p e below s₁ (entryFrame m #[(.ref r0), (.int 0), (.ref r0), (.int 1), (.int 1)] 8) t := fun t k => castTop (ef_12 m r0 (0 : Int32) r0 (1 : Int32) (1 : Int32)) k
  obtain ⟨cl_z1, Ar_z1, q_z1, S_z1, N_z1, H_z1, G_z1⟩ := id V_r0
  have hin2 : ¬ ((0 : Int32) < 0 ∨ cl_z1.slots.size ≤ ((0 : Int32)).toNatClampNeg) := inb_of S_z1 ⟨by decide, by decide⟩
  have hin3 : ¬ ((1 : Int32) < 0 ∨ cl_z1.slots.size ≤ ((1 : Int32)).toNatClampNeg) := inb_of S_z1 ⟨by decide, by decide⟩
  obtain ⟨fs, hr, hrun, hended, hW, hsame⟩ := X0.leave (v := some (.int (-1))) (fun h => by rw [Bd.returns] at h; cases h)
  refine ⟨_, _, k0 _ ?_, hrun, hended, _, _, rfl, ?_, ⟨_, rfl⟩, hW, hsame.mono (by decide) (by decide)⟩
  · show OwnS p e below s₁ (mkF m 0 #[rv r0, iv 0, rv r0, iv 1, iv 1, .unset, .unset, .unset] []) _
    refine XS.iconst X0.here hx rfl (hb hby d12_0) ?_
    refine XS.istore X0.here hx rfl (hb hby d12_1) rfl (l' := #[rv r0, iv 0, rv r0, iv 1, iv 1, iv 0, .unset, .unset]) rfl ?_
    refine XS.iload X0.here hx rfl (hb hby d12_3) rfl ?_
    refine XS.bipush X0.here hx rfl (hb hby d12_5) ?_
    refine XS.icmpYes X0.here hx rfl (pc0 := 7) (pc' := 70) rfl (hb hby d12_7) rfl (flt (by decide : ¬ ((7 : Int32) < (1 : Int32)))).2.2.2 (by decide) (by decide) ?_
    refine XS.iload X0.here hx rfl (hb hby d12_70) rfl ?_
    refine XS.iload X0.here hx rfl (hb hby d12_72) rfl ?_
    refine XS.icmpNo X0.here hx rfl (hb hby d12_74) rfl (tlt (by decide : (0 : Int32) < (1 : Int32))).2.1 ?_
    refine XS.aloadN X0.here hx rfl (hb hby d12_77) rfl rfl ?_
    refine XS.iloadN X0.here hx rfl (hb hby d12_78) rfl ?_
    refine XS.iload X0.here hx rfl (hb hby d12_79) rfl ?_
    refine XS.iadd X0.here hx rfl (hb hby d12_81) rfl ?_
    refine X0.baloadBytes hx (j := (0 : Int32)) (v := (.int x0)) (by rw [e0]; exact Ar_z1.1) (State.isArrayOf_alike hZ.alike Ar_z1.2.1) Ar_z1.2.2 hin2 (Has.at H_z1 hin2 rfl) (g := (mkF m 82 #[rv r0, iv 0, rv r0, iv 1, iv 1, iv 0, .unset, .unset] [(.int 0), (.ref r0)])) rfl rfl (hb hby d12_82) _ ?_
    refine XS.aloadN X0.here hx rfl (hb hby d12_83) rfl rfl ?_
    refine XS.iloadN X0.here hx rfl (hb hby d12_84) rfl ?_
    refine XS.iload X0.here hx rfl (hb hby d12_85) rfl ?_
    refine XS.iadd X0.here hx rfl (hb hby d12_87) rfl ?_
    refine X0.baloadBytes hx (j := (1 : Int32)) (v := (.int x1)) (by rw [e0]; exact Ar_z1.1) (State.isArrayOf_alike hZ.alike Ar_z1.2.1) Ar_z1.2.2 hin3 (Has.at H_z1 hin3 rfl) (g := (mkF m 88 #[rv r0, iv 0, rv r0, iv 1, iv 1, iv 0, .unset, .unset] [(.int 1), (.ref r0), (.int x0)])) rfl rfl (hb hby d12_88) _ ?_
    refine XS.icmpYes X0.here hx rfl (pc0 := 89) (pc' := 95) rfl (hb hby d12_89) rfl (teq hcmp).1 (by decide) (by decide) ?_
    refine XS.iinc X0.here hx rfl (hb hby d12_95) rfl (l' := #[rv r0, iv 0, rv r0, iv 1, iv 1, iv ((0 : Int32) + (1 : Int32)), .unset, .unset]) rfl ?_
    refine XS.goto X0.here hx rfl (pc0 := 98) (pc' := 70) rfl (hb hby d12_98) (by decide) (by decide) ?_
    refine XS.iload X0.here hx rfl (hb hby d12_70) rfl ?_
    refine XS.iload X0.here hx rfl (hb hby d12_72) rfl ?_
    refine XS.icmpYes X0.here hx rfl (pc0 := 74) (pc' := 101) rfl (hb hby d12_74) rfl (flt (by decide : ¬ ((1 : Int32) < (1 : Int32)))).2.1 (by decide) (by decide) ?_
    refine XS.iconst X0.here hx rfl (hb hby d12_101) ?_
    exact retI X0 hx Bd.returns (hb hby d12_102) hr
  · show Q_12_s01e Z r0 kA x0 x1 x2 h0 n0 _ s₁.heap _
    rw [e0]
    exact ⟨rfl, N0, rfl⟩
theorem d12_92 : decode jdk_48_method_14_code 92 = .ok (.iload 5, 2) := by decide +kernel
theorem d12_94 : decode jdk_48_method_14_code 94 = .ok (.ireturn, 1) := by decide +kernel
def Q_12_s01n (Z : State) (r0 : Addr) (kA : ClassId) (x0 : Int32) (x1 : Int32) (x2 : Int32) (h0 : Heap) (n0 : Nat) (v : Option Value) (h : Heap) (L : List Loc) : Prop := v = some (.int 0) ∧ Fr n0 L ∧ h = h0
set_option maxRecDepth 65536 in
set_option maxHeartbeats 40000000 in
theorem rm12_s01n (l : Launch) (Z : State) (a0 : Array Value) (hw : ∀ d ∈ tables_1, d.before a0 Z = true) (ws : List Jvm.Cond) (r0 : Addr) (kA : ClassId) (x0 : Int32) (x1 : Int32) (x2 : Int32) (h0 : Heap) (n0 : Nat) (Z0 : n0 ≤ h0.size) (V_r0 : Arv Z h0 r0 kA .byte (4096 : Int32) [(.int x0), (.int x1), (.int x2)] (.int 0)) (hcmp : ¬ (x0 = x1)) :
    MetFree l (⟨cS2, "mismatch", "([BI[BII)I"⟩ : MethodName) (head1 (Jvm.Cond.code (⟨cS2, "mismatch", "([BI[BII)I"⟩ : MethodName) jdk_48_method_14_code 8 (some .int) :: ws) ({ frames := 0, cells := 0, slots := 0, locals := 0 } : Room)) (fun a U => a = #[(.ref r0), (.int 0), (.ref r0), (.int 1), (.int 1)] ∧ Z.Warmed39 U.vm ∧ U.heap = h0) (fun _ _ _ _ _ => True) (fun _ U o U' => ∃ v L, o = .returned v ∧ Q_12_s01n Z r0 kA x0 x1 x2 h0 n0 v U'.heap L ∧ FrameEnd U o U' L ({ frames := 0, cells := 0, slots := 0, locals := 0 } : Room).cells ({ frames := 0, cells := 0, slots := 0, locals := 0 } : Room).slots) := by
  refine MetFree.of_bodySF (plainFor_of_name pn_jdk_internal_util_ArraysSupport) hisR ?_
  intro p e s m args below meth c s₁ Bd hml0 hP hK
  obtain ⟨rfl, hZ, hh⟩ := hP
  have hx := Bd.exec
  have hby := Bd.bytes
  have hml : c.maxLocals = 8 := hml0
  have hown : s.vm.findClass cS2 = some m.cls := findClass_of_methodNamed Bd.named
  have hnm := (name_of_methodNamed Bd.named Bd.method).1
  have X0 : Stand p l e ({ frames := 0, cells := 0, slots := 0, locals := 0 } : Room) s m #[(.ref r0), (.int 0), (.ref r0), (.int 1), (.int 1)] below meth c s₁ [] 0 0 := Stand.of_body Bd
  have e0 : s₁.heap = h0 := by rw [← hh, Bd.state]; rfl
  have N0 := Fr.nil n0
  have k0 : ∀ t, OwnS p e below s₁ (mkF m 0 #[rv r0, iv 0, rv r0, iv 1, iv 1, .unset, .unset, .unset] []) t → OwnS p e below s₁ (entryFrame m #[(.ref r0), (.int 0), (.ref r0), (.int 1), (.int 1)] 8) t := fun t k => castTop (ef_12 m r0 (0 : Int32) r0 (1 : Int32) (1 : Int32)) k
  obtain ⟨cl_z1, Ar_z1, q_z1, S_z1, N_z1, H_z1, G_z1⟩ := id V_r0
  have hin2 : ¬ ((0 : Int32) < 0 ∨ cl_z1.slots.size ≤ ((0 : Int32)).toNatClampNeg) := inb_of S_z1 ⟨by decide, by decide⟩
  have hin3 : ¬ ((1 : Int32) < 0 ∨ cl_z1.slots.size ≤ ((1 : Int32)).toNatClampNeg) := inb_of S_z1 ⟨by decide, by decide⟩
  obtain ⟨fs, hr, hrun, hended, hW, hsame⟩ := X0.leave (v := some (.int 0)) (fun h => by rw [Bd.returns] at h; cases h)
  refine ⟨_, _, k0 _ ?_, hrun, hended, _, _, rfl, ?_, ⟨_, rfl⟩, hW, hsame.mono (by decide) (by decide)⟩
  · show OwnS p e below s₁ (mkF m 0 #[rv r0, iv 0, rv r0, iv 1, iv 1, .unset, .unset, .unset] []) _
    refine XS.iconst X0.here hx rfl (hb hby d12_0) ?_
    refine XS.istore X0.here hx rfl (hb hby d12_1) rfl (l' := #[rv r0, iv 0, rv r0, iv 1, iv 1, iv 0, .unset, .unset]) rfl ?_
    refine XS.iload X0.here hx rfl (hb hby d12_3) rfl ?_
    refine XS.bipush X0.here hx rfl (hb hby d12_5) ?_
    refine XS.icmpYes X0.here hx rfl (pc0 := 7) (pc' := 70) rfl (hb hby d12_7) rfl (flt (by decide : ¬ ((7 : Int32) < (1 : Int32)))).2.2.2 (by decide) (by decide) ?_
    refine XS.iload X0.here hx rfl (hb hby d12_70) rfl ?_
    refine XS.iload X0.here hx rfl (hb hby d12_72) rfl ?_
    refine XS.icmpNo X0.here hx rfl (hb hby d12_74) rfl (tlt (by decide : (0 : Int32) < (1 : Int32))).2.1 ?_
    refine XS.aloadN X0.here hx rfl (hb hby d12_77) rfl rfl ?_
    refine XS.iloadN X0.here hx rfl (hb hby d12_78) rfl ?_
    refine XS.iload X0.here hx rfl (hb hby d12_79) rfl ?_
    refine XS.iadd X0.here hx rfl (hb hby d12_81) rfl ?_
    refine X0.baloadBytes hx (j := (0 : Int32)) (v := (.int x0)) (by rw [e0]; exact Ar_z1.1) (State.isArrayOf_alike hZ.alike Ar_z1.2.1) Ar_z1.2.2 hin2 (Has.at H_z1 hin2 rfl) (g := (mkF m 82 #[rv r0, iv 0, rv r0, iv 1, iv 1, iv 0, .unset, .unset] [(.int 0), (.ref r0)])) rfl rfl (hb hby d12_82) _ ?_
    refine XS.aloadN X0.here hx rfl (hb hby d12_83) rfl rfl ?_
    refine XS.iloadN X0.here hx rfl (hb hby d12_84) rfl ?_
    refine XS.iload X0.here hx rfl (hb hby d12_85) rfl ?_
    refine XS.iadd X0.here hx rfl (hb hby d12_87) rfl ?_
    refine X0.baloadBytes hx (j := (1 : Int32)) (v := (.int x1)) (by rw [e0]; exact Ar_z1.1) (State.isArrayOf_alike hZ.alike Ar_z1.2.1) Ar_z1.2.2 hin3 (Has.at H_z1 hin3 rfl) (g := (mkF m 88 #[rv r0, iv 0, rv r0, iv 1, iv 1, iv 0, .unset, .unset] [(.int 1), (.ref r0), (.int x0)])) rfl rfl (hb hby d12_88) _ ?_
    refine XS.icmpNo X0.here hx rfl (hb hby d12_89) rfl (feq hcmp).1 ?_
    refine XS.iload X0.here hx rfl (hb hby d12_92) rfl ?_
    exact retI X0 hx Bd.returns (hb hby d12_94) hr
  · show Q_12_s01n Z r0 kA x0 x1 x2 h0 n0 _ s₁.heap _
    rw [e0]
    exact ⟨rfl, N0, rfl⟩
theorem pd_1 : parseMethodDescriptor "(III)V" = some ⟨[.int, .int, .int], none⟩ := by decide +kernel
theorem pd_2 : parseMethodDescriptor "(II)I" = some ⟨[.int, .int], some .int⟩ := by decide +kernel
theorem pd_3 : parseMethodDescriptor "([BI[BII)I" = some ⟨[(.array .byte), .int, (.array .byte), .int, .int], some .int⟩ := by decide +kernel
theorem pd_4 : parseMethodDescriptor "(BB)I" = some ⟨[.byte, .byte], some .int⟩ := by decide +kernel
theorem d10_0 : decode jdk_65_method_202_code 0 = .ok (.aload_n 0, 1) := by decide +kernel
theorem d10_1 : decode jdk_65_method_202_code 1 = .ok (.arraylength, 1) := by decide +kernel
theorem d10_2 : decode jdk_65_method_202_code 2 = .ok (.iload_n 1, 1) := by decide +kernel
theorem d10_3 : decode jdk_65_method_202_code 3 = .ok (.iload_n 2, 1) := by decide +kernel
theorem d10_4 : decode jdk_65_method_202_code 4 = .ok (.invokestatic 13, 3) := by decide +kernel
theorem d10_7 : decode jdk_65_method_202_code 7 = .ok (.aload_n 3, 1) := by decide +kernel
theorem d10_8 : decode jdk_65_method_202_code 8 = .ok (.arraylength, 1) := by decide +kernel
theorem d10_9 : decode jdk_65_method_202_code 9 = .ok (.iload 4, 2) := by decide +kernel
theorem d10_11 : decode jdk_65_method_202_code 11 = .ok (.iload 5, 2) := by decide +kernel
theorem d10_13 : decode jdk_65_method_202_code 13 = .ok (.invokestatic 13, 3) := by decide +kernel
theorem d10_16 : decode jdk_65_method_202_code 16 = .ok (.iload_n 2, 1) := by decide +kernel
theorem d10_17 : decode jdk_65_method_202_code 17 = .ok (.iload_n 1, 1) := by decide +kernel
theorem d10_18 : decode jdk_65_method_202_code 18 = .ok (.isub, 1) := by decide +kernel
theorem d10_19 : decode jdk_65_method_202_code 19 = .ok (.istore 6, 2) := by decide +kernel
theorem d10_21 : decode jdk_65_method_202_code 21 = .ok (.iload 5, 2) := by decide +kernel
theorem d10_23 : decode jdk_65_method_202_code 23 = .ok (.iload 4, 2) := by decide +kernel
theorem d10_25 : decode jdk_65_method_202_code 25 = .ok (.isub, 1) := by decide +kernel
theorem d10_26 : decode jdk_65_method_202_code 26 = .ok (.istore 7, 2) := by decide +kernel
theorem d10_28 : decode jdk_65_method_202_code 28 = .ok (.aload_n 0, 1) := by decide +kernel
theorem d10_29 : decode jdk_65_method_202_code 29 = .ok (.iload_n 1, 1) := by decide +kernel
theorem d10_30 : decode jdk_65_method_202_code 30 = .ok (.aload_n 3, 1) := by decide +kernel
theorem d10_31 : decode jdk_65_method_202_code 31 = .ok (.iload 4, 2) := by decide +kernel
theorem d10_33 : decode jdk_65_method_202_code 33 = .ok (.iload 6, 2) := by decide +kernel
theorem d10_35 : decode jdk_65_method_202_code 35 = .ok (.iload 7, 2) := by decide +kernel
theorem d10_37 : decode jdk_65_method_202_code 37 = .ok (.invokestatic 304, 3) := by decide +kernel
theorem d10_40 : decode jdk_65_method_202_code 40 = .ok (.invokestatic 275, 3) := by decide +kernel
theorem d10_43 : decode jdk_65_method_202_code 43 = .ok (.istore 8, 2) := by decide +kernel
theorem d10_45 : decode jdk_65_method_202_code 45 = .ok (.iload 8, 2) := by decide +kernel
theorem d10_47 : decode jdk_65_method_202_code 47 = .ok (.ifCond .lt 20, 3) := by decide +kernel
theorem d10_50 : decode jdk_65_method_202_code 50 = .ok (.aload_n 0, 1) := by decide +kernel
theorem d10_51 : decode jdk_65_method_202_code 51 = .ok (.iload_n 1, 1) := by decide +kernel
theorem d10_52 : decode jdk_65_method_202_code 52 = .ok (.iload 8, 2) := by decide +kernel
theorem d10_54 : decode jdk_65_method_202_code 54 = .ok (.iadd, 1) := by decide +kernel
theorem d10_55 : decode jdk_65_method_202_code 55 = .ok (.baload, 1) := by decide +kernel
theorem d10_56 : decode jdk_65_method_202_code 56 = .ok (.aload_n 3, 1) := by decide +kernel
theorem d10_57 : decode jdk_65_method_202_code 57 = .ok (.iload 4, 2) := by decide +kernel
theorem d10_59 : decode jdk_65_method_202_code 59 = .ok (.iload 8, 2) := by decide +kernel
theorem d10_61 : decode jdk_65_method_202_code 61 = .ok (.iadd, 1) := by decide +kernel
theorem d10_62 : decode jdk_65_method_202_code 62 = .ok (.baload, 1) := by decide +kernel
theorem d10_63 : decode jdk_65_method_202_code 63 = .ok (.invokestatic 686, 3) := by decide +kernel
theorem d10_66 : decode jdk_65_method_202_code 66 = .ok (.ireturn, 1) := by decide +kernel
theorem d10_67 : decode jdk_65_method_202_code 67 = .ok (.iload 6, 2) := by decide +kernel
theorem d10_69 : decode jdk_65_method_202_code 69 = .ok (.iload 7, 2) := by decide +kernel
theorem d10_71 : decode jdk_65_method_202_code 71 = .ok (.isub, 1) := by decide +kernel
theorem d10_72 : decode jdk_65_method_202_code 72 = .ok (.ireturn, 1) := by decide +kernel
theorem ef_10 (m : MethodId) (x0 : Addr) (x1 : Int32) (x2 : Int32) (x3 : Addr) (x4 : Int32) (x5 : Int32) : entryFrame m #[(.ref x0), (.int x1), (.int x2), (.ref x3), (.int x4), (.int x5)] 9 = mkF m 0 #[.val (.ref x0), .val (.int x1), .val (.int x2), .val (.ref x3), .val (.int x4), .val (.int x5), .unset, .unset, .unset] [] := by first | (simp [entryFrame, mkF, argsToLocals, Value.category]; done) | rfl
def Q_10_s01 (Z : State) (r0 : Addr) (kA : ClassId) (x0 : Int32) (x1 : Int32) (x2 : Int32) (h0 : Heap) (n0 : Nat) (v : Option Value) (h : Heap) (L : List Loc) : Prop := ∃ rr : Int32, v = some (.int rr) ∧ Fr n0 L ∧ h = h0 ∧ True
set_option maxRecDepth 65536 in
set_option maxHeartbeats 40000000 in
theorem rm10_s01 (l : Launch) (Z : State) (a0 : Array Value) (hw : ∀ d ∈ tables_1, d.before a0 Z = true) (ws : List Jvm.Cond) (r0 : Addr) (kA : ClassId) (x0 : Int32) (x1 : Int32) (x2 : Int32) (h0 : Heap) (n0 : Nat) (Z0 : n0 ≤ h0.size) (V_r0 : Arv Z h0 r0 kA .byte (4096 : Int32) [(.int x0), (.int x1), (.int x2)] (.int 0)) :
    MetFree l (⟨cS1, "compareUnsigned", "([BII[BII)I"⟩ : MethodName) (head1 (Jvm.Cond.code (⟨cS1, "compareUnsigned", "([BII[BII)I"⟩ : MethodName) jdk_65_method_202_code 9 (some .int) :: ws) ({ frames := 2, cells := 0, slots := 0, locals := 26 } : Room)) (fun a U => a = #[(.ref r0), (.int 0), (.int 1), (.ref r0), (.int 1), (.int 2)] ∧ Z.Warmed39 U.vm ∧ U.heap = h0) (fun _ _ _ _ _ => True) (fun _ U o U' => ∃ v L, o = .returned v ∧ Q_10_s01 Z r0 kA x0 x1 x2 h0 n0 v U'.heap L ∧ FrameEnd U o U' L ({ frames := 2, cells := 0, slots := 0, locals := 26 } : Room).cells ({ frames := 2, cells := 0, slots := 0, locals := 26 } : Room).slots) := by
  refine MetFree.of_bodySF (plainFor_of_name pn_java_util_Arrays) hisR ?_
  intro p e s m args below meth c s₁ Bd hml0 hP hK
  obtain ⟨rfl, hZ, hh⟩ := hP
  have hx := Bd.exec
  have hby := Bd.bytes
  have hml : c.maxLocals = 9 := hml0
  have hown : s.vm.findClass cS1 = some m.cls := findClass_of_methodNamed Bd.named
  have hnm := (name_of_methodNamed Bd.named Bd.method).1
  have X0 : Stand p l e ({ frames := 2, cells := 0, slots := 0, locals := 26 } : Room) s m #[(.ref r0), (.int 0), (.int 1), (.ref r0), (.int 1), (.int 2)] below meth c s₁ [] 0 0 := Stand.of_body Bd
  have e0 : s₁.heap = h0 := by rw [← hh, Bd.state]; rfl
  have N0 := Fr.nil n0
  have k0 : ∀ t, OwnS p e below s₁ (mkF m 0 #[rv r0, iv 0, iv 1, rv r0, iv 1, iv 2, .unset, .unset, .unset] []) t → OwnS p e below s₁ (entryFrame m #[(.ref r0), (.int 0), (.int 1), (.ref r0), (.int 1), (.int 2)] 9) t := fun t k => castTop (ef_10 m r0 (0 : Int32) (1 : Int32) r0 (1 : Int32) (2 : Int32)) k
  by_cases hb1 : x0 = x1
  · obtain ⟨cl_z2, Ar_z2, q_z2, S_z2, N_z2, H_z2, G_z2⟩ := id V_r0
    obtain ⟨_, _, ⟨T3, L3, j3, i3⟩, -, X3, ⟨Lc3, hQ3, l3, y3, z3⟩, st3⟩ := Jvm.LawKit.callS X0 hx (y := (⟨cS1, "rangeCheck", "(III)V"⟩ : MethodName)) hown (mvT hZ (own_at hw 67 rfl)) (mvT hZ (own_at hw 68 rfl)) (mvT hZ (own_at hw 65 rfl)) (mvT hZ (own_at hw 69 rfl)) (by decide) (backOf (W := 0) (rm11 l Z a0 hw [] (4096 : Int32) (0 : Int32) (1 : Int32) h0 n0 Z0 (by decide : ¬ ((1 : Int32) < (0 : Int32))) (by decide : ¬ ((0 : Int32) < (0 : Int32))) (by decide : ¬ ((4096 : Int32) < (1 : Int32)))) hZ (own_at hw 69 rfl) (own_at hw 65 rfl) (by decide) (by decide)) (g := (mkF m 4 #[rv r0, iv 0, iv 1, rv r0, iv 1, iv 2, .unset, .unset, .unset] [(.int 1), (.int 0), (.int 4096)])) rfl (by rw [hml]; rfl) (argsL := [(.int 4096), (.int 0), (.int 1)]) (rest := []) (lenOf pd_1 rfl) rfl (Nat.le_refl _) (hb hby d10_4) (fun _ _ => ⟨rfl, e0, (by decide : 0 + 0 ≤ _), (by decide : 0 + 0 ≤ _)⟩)
    dsimp only [Pt.U, Pt.locs, Pt.cells, Pt.slots] at X3 l3 y3 z3 st3 hQ3
    subst l3 y3 z3
    obtain ⟨rfl, N3q, e3⟩ := hQ3
    have N3 := Fr.app N0 N3q
    obtain ⟨_, _, ⟨T4, L4, j4, i4⟩, -, X4, ⟨Lc4, hQ4, l4, y4, z4⟩, st4⟩ := Jvm.LawKit.callS X3 hx (y := (⟨cS1, "rangeCheck", "(III)V"⟩ : MethodName)) hown (mvT hZ (own_at hw 67 rfl)) (mvT hZ (own_at hw 68 rfl)) (mvT hZ (own_at hw 65 rfl)) (mvT hZ (own_at hw 69 rfl)) (by decide) (backOf (W := 0) (rm11 l Z a0 hw [] (4096 : Int32) (1 : Int32) (2 : Int32) h0 n0 Z0 (by decide : ¬ ((2 : Int32) < (1 : Int32))) (by decide : ¬ ((1 : Int32) < (0 : Int32))) (by decide : ¬ ((4096 : Int32) < (2 : Int32)))) hZ (own_at hw 69 rfl) (own_at hw 65 rfl) (by decide) (by decide)) (g := (mkF m 13 #[rv r0, iv 0, iv 1, rv r0, iv 1, iv 2, .unset, .unset, .unset] [(.int 2), (.int 1), (.int 4096)])) rfl (by rw [hml]; rfl) (argsL := [(.int 4096), (.int 1), (.int 2)]) (rest := []) (lenOf pd_1 rfl) rfl (Nat.le_refl _) (hb hby d10_13) (fun _ _ => ⟨rfl, e3, (by decide : 0 + 0 ≤ _), (by decide : 0 + 0 ≤ _)⟩)
    dsimp only [Pt.U, Pt.locs, Pt.cells, Pt.slots] at X4 l4 y4 z4 st4 hQ4
    subst l4 y4 z4
    obtain ⟨rfl, N4q, e4⟩ := hQ4
    have N4 := Fr.app N3 N4q
    obtain ⟨_, _, ⟨T5, L5, j5, i5⟩, -, X5, ⟨Lc5, hQ5, l5, y5, z5⟩, st5⟩ := Jvm.LawKit.callS X4 hx (y := (⟨"java/lang/Math", "min", "(II)I"⟩ : MethodName)) hown (mvT hZ (own_at hw 70 rfl)) (mvT hZ (own_at hw 48 rfl)) (mvT hZ (own_at hw 49 rfl)) (mvT hZ (own_at hw 50 rfl)) (by decide) (backOf (W := 4) (rm6_f l Z a0 hw [] (1 : Int32) (1 : Int32) h0 n0 Z0 (by decide : ¬ ((1 : Int32) < (1 : Int32)))) hZ (own_at hw 50 rfl) (own_at hw 49 rfl) (by decide) (by decide)) (g := (mkF m 37 #[rv r0, iv 0, iv 1, rv r0, iv 1, iv 2, iv 1, iv 1, .unset] [(.int 1), (.int 1), (.int 1), (.ref r0), (.int 0), (.ref r0)])) rfl (by rw [hml]; rfl) (argsL := [(.int 1), (.int 1)]) (rest := [(.int 1), (.ref r0), (.int 0), (.ref r0)]) (lenOf pd_2 rfl) rfl (Nat.le_refl _) (hb hby d10_37) (fun _ _ => ⟨rfl, e4, (by decide : 0 + 0 ≤ _), (by decide : 0 + 0 ≤ _)⟩)
    dsimp only [Pt.U, Pt.locs, Pt.cells, Pt.slots] at X5 l5 y5 z5 st5 hQ5
    subst l5 y5 z5
    obtain ⟨rfl, N5q, e5⟩ := hQ5
    have N5 := Fr.app N4 N5q
    obtain ⟨_, _, ⟨T6, L6, j6, i6⟩, -, X6, ⟨Lc6, hQ6, l6, y6, z6⟩, st6⟩ := Jvm.LawKit.callS X5 hx (y := (⟨cS2, "mismatch", "([BI[BII)I"⟩ : MethodName)) hown (mvT hZ (own_at hw 71 rfl)) (mvT hZ (own_at hw 72 rfl)) (mvT hZ (own_at hw 73 rfl)) (mvT hZ (own_at hw 74 rfl)) (by decide) (backOf (W := 0) (rm12_s01e l Z a0 hw [] r0 kA x0 x1 x2 h0 n0 Z0 V_r0 hb1) hZ (own_at hw 74 rfl) (own_at hw 73 rfl) (by decide) (by decide)) (g := (mkF m 40 #[rv r0, iv 0, iv 1, rv r0, iv 1, iv 2, iv 1, iv 1, .unset] [(.int 1), (.int 1), (.ref r0), (.int 0), (.ref r0)])) rfl (by rw [hml]; rfl) (argsL := [(.ref r0), (.int 0), (.ref r0), (.int 1), (.int 1)]) (rest := []) (lenOf pd_3 rfl) rfl (Nat.le_refl _) (hb hby d10_40) (fun _ _ => ⟨rfl, e5, (by decide : 0 + 0 ≤ _), (by decide : 0 + 0 ≤ _)⟩)
    dsimp only [Pt.U, Pt.locs, Pt.cells, Pt.slots] at X6 l6 y6 z6 st6 hQ6
    subst l6 y6 z6
    obtain ⟨rfl, N6q, e6⟩ := hQ6
    have N6 := Fr.app N5 N6q
    obtain ⟨fs, hr, hrun, hended, hW, hsame⟩ := X6.leave (v := some (.int 0)) (fun h => by rw [Bd.returns] at h; cases h)
    refine ⟨_, _, k0 _ ?_, hrun, hended, _, _, rfl, ?_, ⟨_, rfl⟩, hW, hsame.mono (by decide) (by decide)⟩
    · show OwnS p e below s₁ (mkF m 0 #[rv r0, iv 0, iv 1, rv r0, iv 1, iv 2, .unset, .unset, .unset] []) _
      refine XS.aloadN X0.here hx rfl (hb hby d10_0) rfl rfl ?_
      refine X0.arraylength hx (by rw [e0]; exact Ar_z2.1) (State.isArrayOf_alike hZ.alike Ar_z2.2.1) (g := (mkF m 1 #[rv r0, iv 0, iv 1, rv r0, iv 1, iv 2, .unset, .unset, .unset] [(.ref r0)])) rfl rfl (hb hby d10_1) _ ?_
      rw [len_of S_z2 N_z2]
      refine XS.iloadN X0.here hx rfl (hb hby d10_2) rfl ?_
      refine XS.iloadN X0.here hx rfl (hb hby d10_3) rfl ?_
      refine st3 _ ?_
      refine XS.aloadN X3.here hx rfl (hb hby d10_7) rfl rfl ?_
      refine X3.arraylength hx (by rw [e3]; exact Ar_z2.1) (State.isArrayOf_alike hZ.alike Ar_z2.2.1) (g := (mkF m 8 #[rv r0, iv 0, iv 1, rv r0, iv 1, iv 2, .unset, .unset, .unset] [(.ref r0)])) rfl rfl (hb hby d10_8) _ ?_
      rw [len_of S_z2 N_z2]
      refine XS.iload X3.here hx rfl (hb hby d10_9) rfl ?_
      refine XS.iload X3.here hx rfl (hb hby d10_11) rfl ?_
      refine st4 _ ?_
      refine XS.iloadN X4.here hx rfl (hb hby d10_16) rfl ?_
      refine XS.iloadN X4.here hx rfl (hb hby d10_17) rfl ?_
      refine XS.isub X4.here hx rfl (hb hby d10_18) rfl ?_
      refine XS.istore X4.here hx rfl (hb hby d10_19) rfl (l' := #[rv r0, iv 0, iv 1, rv r0, iv 1, iv 2, iv 1, .unset, .unset]) rfl ?_
      refine XS.iload X4.here hx rfl (hb hby d10_21) rfl ?_
      refine XS.iload X4.here hx rfl (hb hby d10_23) rfl ?_
      refine XS.isub X4.here hx rfl (hb hby d10_25) rfl ?_
      refine XS.istore X4.here hx rfl (hb hby d10_26) rfl (l' := #[rv r0, iv 0, iv 1, rv r0, iv 1, iv 2, iv 1, iv 1, .unset]) rfl ?_
      refine XS.aloadN X4.here hx rfl (hb hby d10_28) rfl rfl ?_
      refine XS.iloadN X4.here hx rfl (hb hby d10_29) rfl ?_
      refine XS.aloadN X4.here hx rfl (hb hby d10_30) rfl rfl ?_
      refine XS.iload X4.here hx rfl (hb hby d10_31) rfl ?_
      refine XS.iload X4.here hx rfl (hb hby d10_33) rfl ?_
      refine XS.iload X4.here hx rfl (hb hby d10_35) rfl ?_
      refine st5 _ ?_
      refine st6 _ ?_
      refine XS.istore X6.here hx rfl (hb hby d10_43) rfl (l' := #[rv r0, iv 0, iv 1, rv r0, iv 1, iv 2, iv 1, iv 1, iv (-1 : Int32)]) rfl ?_
      refine XS.iload X6.here hx rfl (hb hby d10_45) rfl ?_
      refine XS.ifYes X6.here hx rfl (pc0 := 47) (pc' := 67) rfl (hb hby d10_47) rfl ((if0 _ _).trans (tlt (by decide : (-1 : Int32) < (0 : Int32))).1) (by decide) (by decide) ?_
      refine XS.iload X6.here hx rfl (hb hby d10_67) rfl ?_
      refine XS.iload X6.here hx rfl (hb hby d10_69) rfl ?_
      refine XS.isub X6.here hx rfl (hb hby d10_71) rfl ?_
      exact retI X6 hx Bd.returns (hb hby d10_72) hr
    · show Q_10_s01 Z r0 kA x0 x1 x2 h0 n0 _ T6.heap _
      rw [e6]
      exact ⟨(0 : Int32), rfl, N6, rfl, trivial⟩
  · obtain ⟨cl_z7, Ar_z7, q_z7, S_z7, N_z7, H_z7, G_z7⟩ := id V_r0
    obtain ⟨_, _, ⟨T8, L8, j8, i8⟩, -, X8, ⟨Lc8, hQ8, l8, y8, z8⟩, st8⟩ := Jvm.LawKit.callS X0 hx (y := (⟨cS1, "rangeCheck", "(III)V"⟩ : MethodName)) hown (mvT hZ (own_at hw 67 rfl)) (mvT hZ (own_at hw 68 rfl)) (mvT hZ (own_at hw 65 rfl)) (mvT hZ (own_at hw 69 rfl)) (by decide) (backOf (W := 0) (rm11 l Z a0 hw [] (4096 : Int32) (0 : Int32) (1 : Int32) h0 n0 Z0 (by decide : ¬ ((1 : Int32) < (0 : Int32))) (by decide : ¬ ((0 : Int32) < (0 : Int32))) (by decide : ¬ ((4096 : Int32) < (1 : Int32)))) hZ (own_at hw 69 rfl) (own_at hw 65 rfl) (by decide) (by decide)) (g := (mkF m 4 #[rv r0, iv 0, iv 1, rv r0, iv 1, iv 2, .unset, .unset, .unset] [(.int 1), (.int 0), (.int 4096)])) rfl (by rw [hml]; rfl) (argsL := [(.int 4096), (.int 0), (.int 1)]) (rest := []) (lenOf pd_1 rfl) rfl (Nat.le_refl _) (hb hby d10_4) (fun _ _ => ⟨rfl, e0, (by decide : 0 + 0 ≤ _), (by decide : 0 + 0 ≤ _)⟩)
    dsimp only [Pt.U, Pt.locs, Pt.cells, Pt.slots] at X8 l8 y8 z8 st8 hQ8
    subst l8 y8 z8
    obtain ⟨rfl, N8q, e8⟩ := hQ8
    have N8 := Fr.app N0 N8q
    obtain ⟨_, _, ⟨T9, L9, j9, i9⟩, -, X9, ⟨Lc9, hQ9, l9, y9, z9⟩, st9⟩ := Jvm.LawKit.callS X8 hx (y := (⟨cS1, "rangeCheck", "(III)V"⟩ : MethodName)) hown (mvT hZ (own_at hw 67 rfl)) (mvT hZ (own_at hw 68 rfl)) (mvT hZ (own_at hw 65 rfl)) (mvT hZ (own_at hw 69 rfl)) (by decide) (backOf (W := 0) (rm11 l Z a0 hw [] (4096 : Int32) (1 : Int32) (2 : Int32) h0 n0 Z0 (by decide : ¬ ((2 : Int32) < (1 : Int32))) (by decide : ¬ ((1 : Int32) < (0 : Int32))) (by decide : ¬ ((4096 : Int32) < (2 : Int32)))) hZ (own_at hw 69 rfl) (own_at hw 65 rfl) (by decide) (by decide)) (g := (mkF m 13 #[rv r0, iv 0, iv 1, rv r0, iv 1, iv 2, .unset, .unset, .unset] [(.int 2), (.int 1), (.int 4096)])) rfl (by rw [hml]; rfl) (argsL := [(.int 4096), (.int 1), (.int 2)]) (rest := []) (lenOf pd_1 rfl) rfl (Nat.le_refl _) (hb hby d10_13) (fun _ _ => ⟨rfl, e8, (by decide : 0 + 0 ≤ _), (by decide : 0 + 0 ≤ _)⟩)
    dsimp only [Pt.U, Pt.locs, Pt.cells, Pt.slots] at X9 l9 y9 z9 st9 hQ9
    subst l9 y9 z9
    obtain ⟨rfl, N9q, e9⟩ := hQ9
    have N9 := Fr.app N8 N9q
    obtain ⟨_, _, ⟨T10, L10, j10, i10⟩, -, X10, ⟨Lc10, hQ10, l10, y10, z10⟩, st10⟩ := Jvm.LawKit.callS X9 hx (y := (⟨"java/lang/Math", "min", "(II)I"⟩ : MethodName)) hown (mvT hZ (own_at hw 70 rfl)) (mvT hZ (own_at hw 48 rfl)) (mvT hZ (own_at hw 49 rfl)) (mvT hZ (own_at hw 50 rfl)) (by decide) (backOf (W := 4) (rm6_f l Z a0 hw [] (1 : Int32) (1 : Int32) h0 n0 Z0 (by decide : ¬ ((1 : Int32) < (1 : Int32)))) hZ (own_at hw 50 rfl) (own_at hw 49 rfl) (by decide) (by decide)) (g := (mkF m 37 #[rv r0, iv 0, iv 1, rv r0, iv 1, iv 2, iv 1, iv 1, .unset] [(.int 1), (.int 1), (.int 1), (.ref r0), (.int 0), (.ref r0)])) rfl (by rw [hml]; rfl) (argsL := [(.int 1), (.int 1)]) (rest := [(.int 1), (.ref r0), (.int 0), (.ref r0)]) (lenOf pd_2 rfl) rfl (Nat.le_refl _) (hb hby d10_37) (fun _ _ => ⟨rfl, e9, (by decide : 0 + 0 ≤ _), (by decide : 0 + 0 ≤ _)⟩)
    dsimp only [Pt.U, Pt.locs, Pt.cells, Pt.slots] at X10 l10 y10 z10 st10 hQ10
    subst l10 y10 z10
    obtain ⟨rfl, N10q, e10⟩ := hQ10
    have N10 := Fr.app N9 N10q
    obtain ⟨_, _, ⟨T11, L11, j11, i11⟩, -, X11, ⟨Lc11, hQ11, l11, y11, z11⟩, st11⟩ := Jvm.LawKit.callS X10 hx (y := (⟨cS2, "mismatch", "([BI[BII)I"⟩ : MethodName)) hown (mvT hZ (own_at hw 71 rfl)) (mvT hZ (own_at hw 72 rfl)) (mvT hZ (own_at hw 73 rfl)) (mvT hZ (own_at hw 74 rfl)) (by decide) (backOf (W := 0) (rm12_s01n l Z a0 hw [] r0 kA x0 x1 x2 h0 n0 Z0 V_r0 hb1) hZ (own_at hw 74 rfl) (own_at hw 73 rfl) (by decide) (by decide)) (g := (mkF m 40 #[rv r0, iv 0, iv 1, rv r0, iv 1, iv 2, iv 1, iv 1, .unset] [(.int 1), (.int 1), (.ref r0), (.int 0), (.ref r0)])) rfl (by rw [hml]; rfl) (argsL := [(.ref r0), (.int 0), (.ref r0), (.int 1), (.int 1)]) (rest := []) (lenOf pd_3 rfl) rfl (Nat.le_refl _) (hb hby d10_40) (fun _ _ => ⟨rfl, e10, (by decide : 0 + 0 ≤ _), (by decide : 0 + 0 ≤ _)⟩)
    dsimp only [Pt.U, Pt.locs, Pt.cells, Pt.slots] at X11 l11 y11 z11 st11 hQ11
    subst l11 y11 z11
    obtain ⟨rfl, N11q, e11⟩ := hQ11
    have N11 := Fr.app N10 N11q
    have hin12 : ¬ ((0 : Int32) < 0 ∨ cl_z7.slots.size ≤ ((0 : Int32)).toNatClampNeg) := inb_of S_z7 ⟨by decide, by decide⟩
    have hin13 : ¬ ((1 : Int32) < 0 ∨ cl_z7.slots.size ≤ ((1 : Int32)).toNatClampNeg) := inb_of S_z7 ⟨by decide, by decide⟩
    obtain ⟨_, _, ⟨T14, L14, j14, i14⟩, -, X14, ⟨Lc14, hQ14, l14, y14, z14⟩, st14⟩ := Jvm.LawKit.callS X11 hx (y := (⟨"java/lang/Byte", "compareUnsigned", "(BB)I"⟩ : MethodName)) hown (mvT hZ (own_at hw 100 rfl)) (mvT hZ (own_at hw 101 rfl)) (mvT hZ (own_at hw 102 rfl)) (mvT hZ (own_at hw 103 rfl)) (by decide) (backOf (W := 0) (rm19 l Z a0 hw [] x0 x1 h0 n0 Z0 ) hZ (own_at hw 103 rfl) (own_at hw 102 rfl) (by decide) (by decide)) (g := (mkF m 63 #[rv r0, iv 0, iv 1, rv r0, iv 1, iv 2, iv 1, iv 1, iv 0] [(.int x1), (.int x0)])) rfl (by rw [hml]; rfl) (argsL := [(.int x0), (.int x1)]) (rest := []) (lenOf pd_4 rfl) rfl (Nat.le_refl _) (hb hby d10_63) (fun _ _ => ⟨rfl, e11, (by decide : 0 + 0 ≤ _), (by decide : 0 + 0 ≤ _)⟩)
    dsimp only [Pt.U, Pt.locs, Pt.cells, Pt.slots] at X14 l14 y14 z14 st14 hQ14
    subst l14 y14 z14
    obtain ⟨rfl, N14q, e14⟩ := hQ14
    have N14 := Fr.app N11 N14q
    obtain ⟨fs, hr, hrun, hended, hW, hsame⟩ := X14.leave (v := some (.int ((x0 &&& (255 : Int32)) - (x1 &&& (255 : Int32))))) (fun h => by rw [Bd.returns] at h; cases h)
    refine ⟨_, _, k0 _ ?_, hrun, hended, _, _, rfl, ?_, ⟨_, rfl⟩, hW, hsame.mono (by decide) (by decide)⟩
    · show OwnS p e below s₁ (mkF m 0 #[rv r0, iv 0, iv 1, rv r0, iv 1, iv 2, .unset, .unset, .unset] []) _
      refine XS.aloadN X0.here hx rfl (hb hby d10_0) rfl rfl ?_
      refine X0.arraylength hx (by rw [e0]; exact Ar_z7.1) (State.isArrayOf_alike hZ.alike Ar_z7.2.1) (g := (mkF m 1 #[rv r0, iv 0, iv 1, rv r0, iv 1, iv 2, .unset, .unset, .unset] [(.ref r0)])) rfl rfl (hb hby d10_1) _ ?_
      rw [len_of S_z7 N_z7]
      refine XS.iloadN X0.here hx rfl (hb hby d10_2) rfl ?_
      refine XS.iloadN X0.here hx rfl (hb hby d10_3) rfl ?_
      refine st8 _ ?_
      refine XS.aloadN X8.here hx rfl (hb hby d10_7) rfl rfl ?_
      refine X8.arraylength hx (by rw [e8]; exact Ar_z7.1) (State.isArrayOf_alike hZ.alike Ar_z7.2.1) (g := (mkF m 8 #[rv r0, iv 0, iv 1, rv r0, iv 1, iv 2, .unset, .unset, .unset] [(.ref r0)])) rfl rfl (hb hby d10_8) _ ?_
      rw [len_of S_z7 N_z7]
      refine XS.iload X8.here hx rfl (hb hby d10_9) rfl ?_
      refine XS.iload X8.here hx rfl (hb hby d10_11) rfl ?_
      refine st9 _ ?_
      refine XS.iloadN X9.here hx rfl (hb hby d10_16) rfl ?_
      refine XS.iloadN X9.here hx rfl (hb hby d10_17) rfl ?_
      refine XS.isub X9.here hx rfl (hb hby d10_18) rfl ?_
      refine XS.istore X9.here hx rfl (hb hby d10_19) rfl (l' := #[rv r0, iv 0, iv 1, rv r0, iv 1, iv 2, iv 1, .unset, .unset]) rfl ?_
      refine XS.iload X9.here hx rfl (hb hby d10_21) rfl ?_
      refine XS.iload X9.here hx rfl (hb hby d10_23) rfl ?_
      refine XS.isub X9.here hx rfl (hb hby d10_25) rfl ?_
      refine XS.istore X9.here hx rfl (hb hby d10_26) rfl (l' := #[rv r0, iv 0, iv 1, rv r0, iv 1, iv 2, iv 1, iv 1, .unset]) rfl ?_
      refine XS.aloadN X9.here hx rfl (hb hby d10_28) rfl rfl ?_
      refine XS.iloadN X9.here hx rfl (hb hby d10_29) rfl ?_
      refine XS.aloadN X9.here hx rfl (hb hby d10_30) rfl rfl ?_
      refine XS.iload X9.here hx rfl (hb hby d10_31) rfl ?_
      refine XS.iload X9.here hx rfl (hb hby d10_33) rfl ?_
      refine XS.iload X9.here hx rfl (hb hby d10_35) rfl ?_
      refine st10 _ ?_
      refine st11 _ ?_
      refine XS.istore X11.here hx rfl (hb hby d10_43) rfl (l' := #[rv r0, iv 0, iv 1, rv r0, iv 1, iv 2, iv 1, iv 1, iv 0]) rfl ?_
      refine XS.iload X11.here hx rfl (hb hby d10_45) rfl ?_
      refine XS.ifNo X11.here hx rfl (hb hby d10_47) rfl ((if0 _ _).trans (flt (by decide : ¬ ((0 : Int32) < (0 : Int32)))).1) ?_
      refine XS.aloadN X11.here hx rfl (hb hby d10_50) rfl rfl ?_
      refine XS.iloadN X11.here hx rfl (hb hby d10_51) rfl ?_
      refine XS.iload X11.here hx rfl (hb hby d10_52) rfl ?_
      refine XS.iadd X11.here hx rfl (hb hby d10_54) rfl ?_
      refine X11.baloadBytes hx (j := (0 : Int32)) (v := (.int x0)) (by rw [e11]; exact Ar_z7.1) (State.isArrayOf_alike hZ.alike Ar_z7.2.1) Ar_z7.2.2 hin12 (Has.at H_z7 hin12 rfl) (g := (mkF m 55 #[rv r0, iv 0, iv 1, rv r0, iv 1, iv 2, iv 1, iv 1, iv 0] [(.int 0), (.ref r0)])) rfl rfl (hb hby d10_55) _ ?_
      refine XS.aloadN X11.here hx rfl (hb hby d10_56) rfl rfl ?_
      refine XS.iload X11.here hx rfl (hb hby d10_57) rfl ?_
      refine XS.iload X11.here hx rfl (hb hby d10_59) rfl ?_
      refine XS.iadd X11.here hx rfl (hb hby d10_61) rfl ?_
      show OwnS p e below T11 (mkF m 62 #[rv r0, iv 0, iv 1, rv r0, iv 1, iv 2, iv 1, iv 1, iv 0] [(.int 1), (.ref r0), (.int x0)]) _
      refine X11.baloadBytes hx (j := (1 : Int32)) (v := (.int x1)) (by rw [e11]; exact Ar_z7.1) (State.isArrayOf_alike hZ.alike Ar_z7.2.1) Ar_z7.2.2 hin13 (Has.at H_z7 hin13 rfl) (g := (mkF m 62 #[rv r0, iv 0, iv 1, rv r0, iv 1, iv 2, iv 1, iv 1, iv 0] [(.int 1), (.ref r0), (.int x0)])) rfl rfl (hb hby d10_62) _ ?_
      refine st14 _ ?_
      exact retI X14 hx Bd.returns (hb hby d10_66) hr
    · show Q_10_s01 Z r0 kA x0 x1 x2 h0 n0 _ T14.heap _
      rw [e14]
      exact ⟨((x0 &&& (255 : Int32)) - (x1 &&& (255 : Int32))), rfl, N14, rfl, trivial⟩
def Q_12_s02e (Z : State) (r0 : Addr) (kA : ClassId) (x0 : Int32) (x1 : Int32) (x2 : Int32) (h0 : Heap) (n0 : Nat) (v : Option Value) (h : Heap) (L : List Loc) : Prop := v = some (.int (-1)) ∧ Fr n0 L ∧ h = h0
set_option maxRecDepth 65536 in
set_option maxHeartbeats 40000000 in
theorem rm12_s02e (l : Launch) (Z : State) (a0 : Array Value) (hw : ∀ d ∈ tables_1, d.before a0 Z = true) (ws : List Jvm.Cond) (r0 : Addr) (kA : ClassId) (x0 : Int32) (x1 : Int32) (x2 : Int32) (h0 : Heap) (n0 : Nat) (Z0 : n0 ≤ h0.size) (V_r0 : Arv Z h0 r0 kA .byte (4096 : Int32) [(.int x0), (.int x1), (.int x2)] (.int 0)) (hcmp : x0 = x2) :
    MetFree l (⟨cS2, "mismatch", "([BI[BII)I"⟩ : MethodName) (head1 (Jvm.Cond.code (⟨cS2, "mismatch", "([BI[BII)I"⟩ : MethodName) jdk_48_method_14_code 8 (some .int) :: ws) ({ frames := 0, cells := 0, slots := 0, locals := 0 } : Room)) (fun a U => a = #[(.ref r0), (.int 0), (.ref r0), (.int 2), (.int 1)] ∧ Z.Warmed39 U.vm ∧ U.heap = h0) (fun _ _ _ _ _ => True) (fun _ U o U' => ∃ v L, o = .returned v ∧ Q_12_s02e Z r0 kA x0 x1 x2 h0 n0 v U'.heap L ∧ FrameEnd U o U' L ({ frames := 0, cells := 0, slots := 0, locals := 0 } : Room).cells ({ frames := 0, cells := 0, slots := 0, locals := 0 } : Room).slots) := by
  refine MetFree.of_bodySF (plainFor_of_name pn_jdk_internal_util_ArraysSupport) hisR ?_
  intro p e s m args below meth c s₁ Bd hml0 hP hK
  obtain ⟨rfl, hZ, hh⟩ := hP
  have hx := Bd.exec
  have hby := Bd.bytes
  have hml : c.maxLocals = 8 := hml0
  have hown : s.vm.findClass cS2 = some m.cls := findClass_of_methodNamed Bd.named
  have hnm := (name_of_methodNamed Bd.named Bd.method).1
  have X0 : Stand p l e ({ frames := 0, cells := 0, slots := 0, locals := 0 } : Room) s m #[(.ref r0), (.int 0), (.ref r0), (.int 2), (.int 1)] below meth c s₁ [] 0 0 := Stand.of_body Bd
  have e0 : s₁.heap = h0 := by rw [← hh, Bd.state]; rfl
  have N0 := Fr.nil n0
  have k0 : ∀ t, OwnS p e below s₁ (mkF m 0 #[rv r0, iv 0, rv r0, iv 2, iv 1, .unset, .unset, .unset] []) t → OwnS p e below s₁ (entryFrame m #[(.ref r0), (.int 0), (.ref r0), (.int 2), (.int 1)] 8) t := fun t k => castTop (ef_12 m r0 (0 : Int32) r0 (2 : Int32) (1 : Int32)) k
  obtain ⟨cl_z1, Ar_z1, q_z1, S_z1, N_z1, H_z1, G_z1⟩ := id V_r0
  have hin2 : ¬ ((0 : Int32) < 0 ∨ cl_z1.slots.size ≤ ((0 : Int32)).toNatClampNeg) := inb_of S_z1 ⟨by decide, by decide⟩
  have hin3 : ¬ ((2 : Int32) < 0 ∨ cl_z1.slots.size ≤ ((2 : Int32)).toNatClampNeg) := inb_of S_z1 ⟨by decide, by decide⟩
  obtain ⟨fs, hr, hrun, hended, hW, hsame⟩ := X0.leave (v := some (.int (-1))) (fun h => by rw [Bd.returns] at h; cases h)
  refine ⟨_, _, k0 _ ?_, hrun, hended, _, _, rfl, ?_, ⟨_, rfl⟩, hW, hsame.mono (by decide) (by decide)⟩
  · show OwnS p e below s₁ (mkF m 0 #[rv r0, iv 0, rv r0, iv 2, iv 1, .unset, .unset, .unset] []) _
    refine XS.iconst X0.here hx rfl (hb hby d12_0) ?_
    refine XS.istore X0.here hx rfl (hb hby d12_1) rfl (l' := #[rv r0, iv 0, rv r0, iv 2, iv 1, iv 0, .unset, .unset]) rfl ?_
    refine XS.iload X0.here hx rfl (hb hby d12_3) rfl ?_
    refine XS.bipush X0.here hx rfl (hb hby d12_5) ?_
    refine XS.icmpYes X0.here hx rfl (pc0 := 7) (pc' := 70) rfl (hb hby d12_7) rfl (flt (by decide : ¬ ((7 : Int32) < (1 : Int32)))).2.2.2 (by decide) (by decide) ?_
    refine XS.iload X0.here hx rfl (hb hby d12_70) rfl ?_
    refine XS.iload X0.here hx rfl (hb hby d12_72) rfl ?_
    refine XS.icmpNo X0.here hx rfl (hb hby d12_74) rfl (tlt (by decide : (0 : Int32) < (1 : Int32))).2.1 ?_
    refine XS.aloadN X0.here hx rfl (hb hby d12_77) rfl rfl ?_
    refine XS.iloadN X0.here hx rfl (hb hby d12_78) rfl ?_
    refine XS.iload X0.here hx rfl (hb hby d12_79) rfl ?_
    refine XS.iadd X0.here hx rfl (hb hby d12_81) rfl ?_
    refine X0.baloadBytes hx (j := (0 : Int32)) (v := (.int x0)) (by rw [e0]; exact Ar_z1.1) (State.isArrayOf_alike hZ.alike Ar_z1.2.1) Ar_z1.2.2 hin2 (Has.at H_z1 hin2 rfl) (g := (mkF m 82 #[rv r0, iv 0, rv r0, iv 2, iv 1, iv 0, .unset, .unset] [(.int 0), (.ref r0)])) rfl rfl (hb hby d12_82) _ ?_
    refine XS.aloadN X0.here hx rfl (hb hby d12_83) rfl rfl ?_
    refine XS.iloadN X0.here hx rfl (hb hby d12_84) rfl ?_
    refine XS.iload X0.here hx rfl (hb hby d12_85) rfl ?_
    refine XS.iadd X0.here hx rfl (hb hby d12_87) rfl ?_
    refine X0.baloadBytes hx (j := (2 : Int32)) (v := (.int x2)) (by rw [e0]; exact Ar_z1.1) (State.isArrayOf_alike hZ.alike Ar_z1.2.1) Ar_z1.2.2 hin3 (Has.at H_z1 hin3 rfl) (g := (mkF m 88 #[rv r0, iv 0, rv r0, iv 2, iv 1, iv 0, .unset, .unset] [(.int 2), (.ref r0), (.int x0)])) rfl rfl (hb hby d12_88) _ ?_
    refine XS.icmpYes X0.here hx rfl (pc0 := 89) (pc' := 95) rfl (hb hby d12_89) rfl (teq hcmp).1 (by decide) (by decide) ?_
    refine XS.iinc X0.here hx rfl (hb hby d12_95) rfl (l' := #[rv r0, iv 0, rv r0, iv 2, iv 1, iv ((0 : Int32) + (1 : Int32)), .unset, .unset]) rfl ?_
    refine XS.goto X0.here hx rfl (pc0 := 98) (pc' := 70) rfl (hb hby d12_98) (by decide) (by decide) ?_
    refine XS.iload X0.here hx rfl (hb hby d12_70) rfl ?_
    refine XS.iload X0.here hx rfl (hb hby d12_72) rfl ?_
    refine XS.icmpYes X0.here hx rfl (pc0 := 74) (pc' := 101) rfl (hb hby d12_74) rfl (flt (by decide : ¬ ((1 : Int32) < (1 : Int32)))).2.1 (by decide) (by decide) ?_
    refine XS.iconst X0.here hx rfl (hb hby d12_101) ?_
    exact retI X0 hx Bd.returns (hb hby d12_102) hr
  · show Q_12_s02e Z r0 kA x0 x1 x2 h0 n0 _ s₁.heap _
    rw [e0]
    exact ⟨rfl, N0, rfl⟩
def Q_12_s02n (Z : State) (r0 : Addr) (kA : ClassId) (x0 : Int32) (x1 : Int32) (x2 : Int32) (h0 : Heap) (n0 : Nat) (v : Option Value) (h : Heap) (L : List Loc) : Prop := v = some (.int 0) ∧ Fr n0 L ∧ h = h0
set_option maxRecDepth 65536 in
set_option maxHeartbeats 40000000 in
theorem rm12_s02n (l : Launch) (Z : State) (a0 : Array Value) (hw : ∀ d ∈ tables_1, d.before a0 Z = true) (ws : List Jvm.Cond) (r0 : Addr) (kA : ClassId) (x0 : Int32) (x1 : Int32) (x2 : Int32) (h0 : Heap) (n0 : Nat) (Z0 : n0 ≤ h0.size) (V_r0 : Arv Z h0 r0 kA .byte (4096 : Int32) [(.int x0), (.int x1), (.int x2)] (.int 0)) (hcmp : ¬ (x0 = x2)) :
    MetFree l (⟨cS2, "mismatch", "([BI[BII)I"⟩ : MethodName) (head1 (Jvm.Cond.code (⟨cS2, "mismatch", "([BI[BII)I"⟩ : MethodName) jdk_48_method_14_code 8 (some .int) :: ws) ({ frames := 0, cells := 0, slots := 0, locals := 0 } : Room)) (fun a U => a = #[(.ref r0), (.int 0), (.ref r0), (.int 2), (.int 1)] ∧ Z.Warmed39 U.vm ∧ U.heap = h0) (fun _ _ _ _ _ => True) (fun _ U o U' => ∃ v L, o = .returned v ∧ Q_12_s02n Z r0 kA x0 x1 x2 h0 n0 v U'.heap L ∧ FrameEnd U o U' L ({ frames := 0, cells := 0, slots := 0, locals := 0 } : Room).cells ({ frames := 0, cells := 0, slots := 0, locals := 0 } : Room).slots) := by
  refine MetFree.of_bodySF (plainFor_of_name pn_jdk_internal_util_ArraysSupport) hisR ?_
  intro p e s m args below meth c s₁ Bd hml0 hP hK
  obtain ⟨rfl, hZ, hh⟩ := hP
  have hx := Bd.exec
  have hby := Bd.bytes
  have hml : c.maxLocals = 8 := hml0
  have hown : s.vm.findClass cS2 = some m.cls := findClass_of_methodNamed Bd.named
  have hnm := (name_of_methodNamed Bd.named Bd.method).1
  have X0 : Stand p l e ({ frames := 0, cells := 0, slots := 0, locals := 0 } : Room) s m #[(.ref r0), (.int 0), (.ref r0), (.int 2), (.int 1)] below meth c s₁ [] 0 0 := Stand.of_body Bd
  have e0 : s₁.heap = h0 := by rw [← hh, Bd.state]; rfl
  have N0 := Fr.nil n0
  have k0 : ∀ t, OwnS p e below s₁ (mkF m 0 #[rv r0, iv 0, rv r0, iv 2, iv 1, .unset, .unset, .unset] []) t → OwnS p e below s₁ (entryFrame m #[(.ref r0), (.int 0), (.ref r0), (.int 2), (.int 1)] 8) t := fun t k => castTop (ef_12 m r0 (0 : Int32) r0 (2 : Int32) (1 : Int32)) k
  obtain ⟨cl_z1, Ar_z1, q_z1, S_z1, N_z1, H_z1, G_z1⟩ := id V_r0
  have hin2 : ¬ ((0 : Int32) < 0 ∨ cl_z1.slots.size ≤ ((0 : Int32)).toNatClampNeg) := inb_of S_z1 ⟨by decide, by decide⟩
  have hin3 : ¬ ((2 : Int32) < 0 ∨ cl_z1.slots.size ≤ ((2 : Int32)).toNatClampNeg) := inb_of S_z1 ⟨by decide, by decide⟩
  obtain ⟨fs, hr, hrun, hended, hW, hsame⟩ := X0.leave (v := some (.int 0)) (fun h => by rw [Bd.returns] at h; cases h)
  refine ⟨_, _, k0 _ ?_, hrun, hended, _, _, rfl, ?_, ⟨_, rfl⟩, hW, hsame.mono (by decide) (by decide)⟩
  · show OwnS p e below s₁ (mkF m 0 #[rv r0, iv 0, rv r0, iv 2, iv 1, .unset, .unset, .unset] []) _
    refine XS.iconst X0.here hx rfl (hb hby d12_0) ?_
    refine XS.istore X0.here hx rfl (hb hby d12_1) rfl (l' := #[rv r0, iv 0, rv r0, iv 2, iv 1, iv 0, .unset, .unset]) rfl ?_
    refine XS.iload X0.here hx rfl (hb hby d12_3) rfl ?_
    refine XS.bipush X0.here hx rfl (hb hby d12_5) ?_
    refine XS.icmpYes X0.here hx rfl (pc0 := 7) (pc' := 70) rfl (hb hby d12_7) rfl (flt (by decide : ¬ ((7 : Int32) < (1 : Int32)))).2.2.2 (by decide) (by decide) ?_
    refine XS.iload X0.here hx rfl (hb hby d12_70) rfl ?_
    refine XS.iload X0.here hx rfl (hb hby d12_72) rfl ?_
    refine XS.icmpNo X0.here hx rfl (hb hby d12_74) rfl (tlt (by decide : (0 : Int32) < (1 : Int32))).2.1 ?_
    refine XS.aloadN X0.here hx rfl (hb hby d12_77) rfl rfl ?_
    refine XS.iloadN X0.here hx rfl (hb hby d12_78) rfl ?_
    refine XS.iload X0.here hx rfl (hb hby d12_79) rfl ?_
    refine XS.iadd X0.here hx rfl (hb hby d12_81) rfl ?_
    refine X0.baloadBytes hx (j := (0 : Int32)) (v := (.int x0)) (by rw [e0]; exact Ar_z1.1) (State.isArrayOf_alike hZ.alike Ar_z1.2.1) Ar_z1.2.2 hin2 (Has.at H_z1 hin2 rfl) (g := (mkF m 82 #[rv r0, iv 0, rv r0, iv 2, iv 1, iv 0, .unset, .unset] [(.int 0), (.ref r0)])) rfl rfl (hb hby d12_82) _ ?_
    refine XS.aloadN X0.here hx rfl (hb hby d12_83) rfl rfl ?_
    refine XS.iloadN X0.here hx rfl (hb hby d12_84) rfl ?_
    refine XS.iload X0.here hx rfl (hb hby d12_85) rfl ?_
    refine XS.iadd X0.here hx rfl (hb hby d12_87) rfl ?_
    refine X0.baloadBytes hx (j := (2 : Int32)) (v := (.int x2)) (by rw [e0]; exact Ar_z1.1) (State.isArrayOf_alike hZ.alike Ar_z1.2.1) Ar_z1.2.2 hin3 (Has.at H_z1 hin3 rfl) (g := (mkF m 88 #[rv r0, iv 0, rv r0, iv 2, iv 1, iv 0, .unset, .unset] [(.int 2), (.ref r0), (.int x0)])) rfl rfl (hb hby d12_88) _ ?_
    refine XS.icmpNo X0.here hx rfl (hb hby d12_89) rfl (feq hcmp).1 ?_
    refine XS.iload X0.here hx rfl (hb hby d12_92) rfl ?_
    exact retI X0 hx Bd.returns (hb hby d12_94) hr
  · show Q_12_s02n Z r0 kA x0 x1 x2 h0 n0 _ s₁.heap _
    rw [e0]
    exact ⟨rfl, N0, rfl⟩
def Q_10_s02 (Z : State) (r0 : Addr) (kA : ClassId) (x0 : Int32) (x1 : Int32) (x2 : Int32) (h0 : Heap) (n0 : Nat) (v : Option Value) (h : Heap) (L : List Loc) : Prop := ∃ rr : Int32, v = some (.int rr) ∧ Fr n0 L ∧ h = h0 ∧ True
set_option maxRecDepth 65536 in
set_option maxHeartbeats 40000000 in
theorem rm10_s02 (l : Launch) (Z : State) (a0 : Array Value) (hw : ∀ d ∈ tables_1, d.before a0 Z = true) (ws : List Jvm.Cond) (r0 : Addr) (kA : ClassId) (x0 : Int32) (x1 : Int32) (x2 : Int32) (h0 : Heap) (n0 : Nat) (Z0 : n0 ≤ h0.size) (V_r0 : Arv Z h0 r0 kA .byte (4096 : Int32) [(.int x0), (.int x1), (.int x2)] (.int 0)) :
    MetFree l (⟨cS1, "compareUnsigned", "([BII[BII)I"⟩ : MethodName) (head1 (Jvm.Cond.code (⟨cS1, "compareUnsigned", "([BII[BII)I"⟩ : MethodName) jdk_65_method_202_code 9 (some .int) :: ws) ({ frames := 2, cells := 0, slots := 0, locals := 26 } : Room)) (fun a U => a = #[(.ref r0), (.int 0), (.int 1), (.ref r0), (.int 2), (.int 3)] ∧ Z.Warmed39 U.vm ∧ U.heap = h0) (fun _ _ _ _ _ => True) (fun _ U o U' => ∃ v L, o = .returned v ∧ Q_10_s02 Z r0 kA x0 x1 x2 h0 n0 v U'.heap L ∧ FrameEnd U o U' L ({ frames := 2, cells := 0, slots := 0, locals := 26 } : Room).cells ({ frames := 2, cells := 0, slots := 0, locals := 26 } : Room).slots) := by
  refine MetFree.of_bodySF (plainFor_of_name pn_java_util_Arrays) hisR ?_
  intro p e s m args below meth c s₁ Bd hml0 hP hK
  obtain ⟨rfl, hZ, hh⟩ := hP
  have hx := Bd.exec
  have hby := Bd.bytes
  have hml : c.maxLocals = 9 := hml0
  have hown : s.vm.findClass cS1 = some m.cls := findClass_of_methodNamed Bd.named
  have hnm := (name_of_methodNamed Bd.named Bd.method).1
  have X0 : Stand p l e ({ frames := 2, cells := 0, slots := 0, locals := 26 } : Room) s m #[(.ref r0), (.int 0), (.int 1), (.ref r0), (.int 2), (.int 3)] below meth c s₁ [] 0 0 := Stand.of_body Bd
  have e0 : s₁.heap = h0 := by rw [← hh, Bd.state]; rfl
  have N0 := Fr.nil n0
  have k0 : ∀ t, OwnS p e below s₁ (mkF m 0 #[rv r0, iv 0, iv 1, rv r0, iv 2, iv 3, .unset, .unset, .unset] []) t → OwnS p e below s₁ (entryFrame m #[(.ref r0), (.int 0), (.int 1), (.ref r0), (.int 2), (.int 3)] 9) t := fun t k => castTop (ef_10 m r0 (0 : Int32) (1 : Int32) r0 (2 : Int32) (3 : Int32)) k
  by_cases hb1 : x0 = x2
  · obtain ⟨cl_z2, Ar_z2, q_z2, S_z2, N_z2, H_z2, G_z2⟩ := id V_r0
    obtain ⟨_, _, ⟨T3, L3, j3, i3⟩, -, X3, ⟨Lc3, hQ3, l3, y3, z3⟩, st3⟩ := Jvm.LawKit.callS X0 hx (y := (⟨cS1, "rangeCheck", "(III)V"⟩ : MethodName)) hown (mvT hZ (own_at hw 67 rfl)) (mvT hZ (own_at hw 68 rfl)) (mvT hZ (own_at hw 65 rfl)) (mvT hZ (own_at hw 69 rfl)) (by decide) (backOf (W := 0) (rm11 l Z a0 hw [] (4096 : Int32) (0 : Int32) (1 : Int32) h0 n0 Z0 (by decide : ¬ ((1 : Int32) < (0 : Int32))) (by decide : ¬ ((0 : Int32) < (0 : Int32))) (by decide : ¬ ((4096 : Int32) < (1 : Int32)))) hZ (own_at hw 69 rfl) (own_at hw 65 rfl) (by decide) (by decide)) (g := (mkF m 4 #[rv r0, iv 0, iv 1, rv r0, iv 2, iv 3, .unset, .unset, .unset] [(.int 1), (.int 0), (.int 4096)])) rfl (by rw [hml]; rfl) (argsL := [(.int 4096), (.int 0), (.int 1)]) (rest := []) (lenOf pd_1 rfl) rfl (Nat.le_refl _) (hb hby d10_4) (fun _ _ => ⟨rfl, e0, (by decide : 0 + 0 ≤ _), (by decide : 0 + 0 ≤ _)⟩)
    dsimp only [Pt.U, Pt.locs, Pt.cells, Pt.slots] at X3 l3 y3 z3 st3 hQ3
    subst l3 y3 z3
    obtain ⟨rfl, N3q, e3⟩ := hQ3
    have N3 := Fr.app N0 N3q
    obtain ⟨_, _, ⟨T4, L4, j4, i4⟩, -, X4, ⟨Lc4, hQ4, l4, y4, z4⟩, st4⟩ := Jvm.LawKit.callS X3 hx (y := (⟨cS1, "rangeCheck", "(III)V"⟩ : MethodName)) hown (mvT hZ (own_at hw 67 rfl)) (mvT hZ (own_at hw 68 rfl)) (mvT hZ (own_at hw 65 rfl)) (mvT hZ (own_at hw 69 rfl)) (by decide) (backOf (W := 0) (rm11 l Z a0 hw [] (4096 : Int32) (2 : Int32) (3 : Int32) h0 n0 Z0 (by decide : ¬ ((3 : Int32) < (2 : Int32))) (by decide : ¬ ((2 : Int32) < (0 : Int32))) (by decide : ¬ ((4096 : Int32) < (3 : Int32)))) hZ (own_at hw 69 rfl) (own_at hw 65 rfl) (by decide) (by decide)) (g := (mkF m 13 #[rv r0, iv 0, iv 1, rv r0, iv 2, iv 3, .unset, .unset, .unset] [(.int 3), (.int 2), (.int 4096)])) rfl (by rw [hml]; rfl) (argsL := [(.int 4096), (.int 2), (.int 3)]) (rest := []) (lenOf pd_1 rfl) rfl (Nat.le_refl _) (hb hby d10_13) (fun _ _ => ⟨rfl, e3, (by decide : 0 + 0 ≤ _), (by decide : 0 + 0 ≤ _)⟩)
    dsimp only [Pt.U, Pt.locs, Pt.cells, Pt.slots] at X4 l4 y4 z4 st4 hQ4
    subst l4 y4 z4
    obtain ⟨rfl, N4q, e4⟩ := hQ4
    have N4 := Fr.app N3 N4q
    obtain ⟨_, _, ⟨T5, L5, j5, i5⟩, -, X5, ⟨Lc5, hQ5, l5, y5, z5⟩, st5⟩ := Jvm.LawKit.callS X4 hx (y := (⟨"java/lang/Math", "min", "(II)I"⟩ : MethodName)) hown (mvT hZ (own_at hw 70 rfl)) (mvT hZ (own_at hw 48 rfl)) (mvT hZ (own_at hw 49 rfl)) (mvT hZ (own_at hw 50 rfl)) (by decide) (backOf (W := 4) (rm6_f l Z a0 hw [] (1 : Int32) (1 : Int32) h0 n0 Z0 (by decide : ¬ ((1 : Int32) < (1 : Int32)))) hZ (own_at hw 50 rfl) (own_at hw 49 rfl) (by decide) (by decide)) (g := (mkF m 37 #[rv r0, iv 0, iv 1, rv r0, iv 2, iv 3, iv 1, iv 1, .unset] [(.int 1), (.int 1), (.int 2), (.ref r0), (.int 0), (.ref r0)])) rfl (by rw [hml]; rfl) (argsL := [(.int 1), (.int 1)]) (rest := [(.int 2), (.ref r0), (.int 0), (.ref r0)]) (lenOf pd_2 rfl) rfl (Nat.le_refl _) (hb hby d10_37) (fun _ _ => ⟨rfl, e4, (by decide : 0 + 0 ≤ _), (by decide : 0 + 0 ≤ _)⟩)
    dsimp only [Pt.U, Pt.locs, Pt.cells, Pt.slots] at X5 l5 y5 z5 st5 hQ5
    subst l5 y5 z5
    obtain ⟨rfl, N5q, e5⟩ := hQ5
    have N5 := Fr.app N4 N5q
    obtain ⟨_, _, ⟨T6, L6, j6, i6⟩, -, X6, ⟨Lc6, hQ6, l6, y6, z6⟩, st6⟩ := Jvm.LawKit.callS X5 hx (y := (⟨cS2, "mismatch", "([BI[BII)I"⟩ : MethodName)) hown (mvT hZ (own_at hw 71 rfl)) (mvT hZ (own_at hw 72 rfl)) (mvT hZ (own_at hw 73 rfl)) (mvT hZ (own_at hw 74 rfl)) (by decide) (backOf (W := 0) (rm12_s02e l Z a0 hw [] r0 kA x0 x1 x2 h0 n0 Z0 V_r0 hb1) hZ (own_at hw 74 rfl) (own_at hw 73 rfl) (by decide) (by decide)) (g := (mkF m 40 #[rv r0, iv 0, iv 1, rv r0, iv 2, iv 3, iv 1, iv 1, .unset] [(.int 1), (.int 2), (.ref r0), (.int 0), (.ref r0)])) rfl (by rw [hml]; rfl) (argsL := [(.ref r0), (.int 0), (.ref r0), (.int 2), (.int 1)]) (rest := []) (lenOf pd_3 rfl) rfl (Nat.le_refl _) (hb hby d10_40) (fun _ _ => ⟨rfl, e5, (by decide : 0 + 0 ≤ _), (by decide : 0 + 0 ≤ _)⟩)
    dsimp only [Pt.U, Pt.locs, Pt.cells, Pt.slots] at X6 l6 y6 z6 st6 hQ6
    subst l6 y6 z6
    obtain ⟨rfl, N6q, e6⟩ := hQ6
    have N6 := Fr.app N5 N6q
    obtain ⟨fs, hr, hrun, hended, hW, hsame⟩ := X6.leave (v := some (.int 0)) (fun h => by rw [Bd.returns] at h; cases h)
    refine ⟨_, _, k0 _ ?_, hrun, hended, _, _, rfl, ?_, ⟨_, rfl⟩, hW, hsame.mono (by decide) (by decide)⟩
    · show OwnS p e below s₁ (mkF m 0 #[rv r0, iv 0, iv 1, rv r0, iv 2, iv 3, .unset, .unset, .unset] []) _
      refine XS.aloadN X0.here hx rfl (hb hby d10_0) rfl rfl ?_
      refine X0.arraylength hx (by rw [e0]; exact Ar_z2.1) (State.isArrayOf_alike hZ.alike Ar_z2.2.1) (g := (mkF m 1 #[rv r0, iv 0, iv 1, rv r0, iv 2, iv 3, .unset, .unset, .unset] [(.ref r0)])) rfl rfl (hb hby d10_1) _ ?_
      rw [len_of S_z2 N_z2]
      refine XS.iloadN X0.here hx rfl (hb hby d10_2) rfl ?_
      refine XS.iloadN X0.here hx rfl (hb hby d10_3) rfl ?_
      refine st3 _ ?_
      refine XS.aloadN X3.here hx rfl (hb hby d10_7) rfl rfl ?_
      refine X3.arraylength hx (by rw [e3]; exact Ar_z2.1) (State.isArrayOf_alike hZ.alike Ar_z2.2.1) (g := (mkF m 8 #[rv r0, iv 0, iv 1, rv r0, iv 2, iv 3, .unset, .unset, .unset] [(.ref r0)])) rfl rfl (hb hby d10_8) _ ?_
      rw [len_of S_z2 N_z2]
      refine XS.iload X3.here hx rfl (hb hby d10_9) rfl ?_
      refine XS.iload X3.here hx rfl (hb hby d10_11) rfl ?_
      refine st4 _ ?_
      refine XS.iloadN X4.here hx rfl (hb hby d10_16) rfl ?_
      refine XS.iloadN X4.here hx rfl (hb hby d10_17) rfl ?_
      refine XS.isub X4.here hx rfl (hb hby d10_18) rfl ?_
      refine XS.istore X4.here hx rfl (hb hby d10_19) rfl (l' := #[rv r0, iv 0, iv 1, rv r0, iv 2, iv 3, iv 1, .unset, .unset]) rfl ?_
      refine XS.iload X4.here hx rfl (hb hby d10_21) rfl ?_
      refine XS.iload X4.here hx rfl (hb hby d10_23) rfl ?_
      refine XS.isub X4.here hx rfl (hb hby d10_25) rfl ?_
      refine XS.istore X4.here hx rfl (hb hby d10_26) rfl (l' := #[rv r0, iv 0, iv 1, rv r0, iv 2, iv 3, iv 1, iv 1, .unset]) rfl ?_
      refine XS.aloadN X4.here hx rfl (hb hby d10_28) rfl rfl ?_
      refine XS.iloadN X4.here hx rfl (hb hby d10_29) rfl ?_
      refine XS.aloadN X4.here hx rfl (hb hby d10_30) rfl rfl ?_
      refine XS.iload X4.here hx rfl (hb hby d10_31) rfl ?_
      refine XS.iload X4.here hx rfl (hb hby d10_33) rfl ?_
      refine XS.iload X4.here hx rfl (hb hby d10_35) rfl ?_
      refine st5 _ ?_
      refine st6 _ ?_
      refine XS.istore X6.here hx rfl (hb hby d10_43) rfl (l' := #[rv r0, iv 0, iv 1, rv r0, iv 2, iv 3, iv 1, iv 1, iv (-1 : Int32)]) rfl ?_
      refine XS.iload X6.here hx rfl (hb hby d10_45) rfl ?_
      refine XS.ifYes X6.here hx rfl (pc0 := 47) (pc' := 67) rfl (hb hby d10_47) rfl ((if0 _ _).trans (tlt (by decide : (-1 : Int32) < (0 : Int32))).1) (by decide) (by decide) ?_
      refine XS.iload X6.here hx rfl (hb hby d10_67) rfl ?_
      refine XS.iload X6.here hx rfl (hb hby d10_69) rfl ?_
      refine XS.isub X6.here hx rfl (hb hby d10_71) rfl ?_
      exact retI X6 hx Bd.returns (hb hby d10_72) hr
    · show Q_10_s02 Z r0 kA x0 x1 x2 h0 n0 _ T6.heap _
      rw [e6]
      exact ⟨(0 : Int32), rfl, N6, rfl, trivial⟩
  · obtain ⟨cl_z7, Ar_z7, q_z7, S_z7, N_z7, H_z7, G_z7⟩ := id V_r0
    obtain ⟨_, _, ⟨T8, L8, j8, i8⟩, -, X8, ⟨Lc8, hQ8, l8, y8, z8⟩, st8⟩ := Jvm.LawKit.callS X0 hx (y := (⟨cS1, "rangeCheck", "(III)V"⟩ : MethodName)) hown (mvT hZ (own_at hw 67 rfl)) (mvT hZ (own_at hw 68 rfl)) (mvT hZ (own_at hw 65 rfl)) (mvT hZ (own_at hw 69 rfl)) (by decide) (backOf (W := 0) (rm11 l Z a0 hw [] (4096 : Int32) (0 : Int32) (1 : Int32) h0 n0 Z0 (by decide : ¬ ((1 : Int32) < (0 : Int32))) (by decide : ¬ ((0 : Int32) < (0 : Int32))) (by decide : ¬ ((4096 : Int32) < (1 : Int32)))) hZ (own_at hw 69 rfl) (own_at hw 65 rfl) (by decide) (by decide)) (g := (mkF m 4 #[rv r0, iv 0, iv 1, rv r0, iv 2, iv 3, .unset, .unset, .unset] [(.int 1), (.int 0), (.int 4096)])) rfl (by rw [hml]; rfl) (argsL := [(.int 4096), (.int 0), (.int 1)]) (rest := []) (lenOf pd_1 rfl) rfl (Nat.le_refl _) (hb hby d10_4) (fun _ _ => ⟨rfl, e0, (by decide : 0 + 0 ≤ _), (by decide : 0 + 0 ≤ _)⟩)
    dsimp only [Pt.U, Pt.locs, Pt.cells, Pt.slots] at X8 l8 y8 z8 st8 hQ8
    subst l8 y8 z8
    obtain ⟨rfl, N8q, e8⟩ := hQ8
    have N8 := Fr.app N0 N8q
    obtain ⟨_, _, ⟨T9, L9, j9, i9⟩, -, X9, ⟨Lc9, hQ9, l9, y9, z9⟩, st9⟩ := Jvm.LawKit.callS X8 hx (y := (⟨cS1, "rangeCheck", "(III)V"⟩ : MethodName)) hown (mvT hZ (own_at hw 67 rfl)) (mvT hZ (own_at hw 68 rfl)) (mvT hZ (own_at hw 65 rfl)) (mvT hZ (own_at hw 69 rfl)) (by decide) (backOf (W := 0) (rm11 l Z a0 hw [] (4096 : Int32) (2 : Int32) (3 : Int32) h0 n0 Z0 (by decide : ¬ ((3 : Int32) < (2 : Int32))) (by decide : ¬ ((2 : Int32) < (0 : Int32))) (by decide : ¬ ((4096 : Int32) < (3 : Int32)))) hZ (own_at hw 69 rfl) (own_at hw 65 rfl) (by decide) (by decide)) (g := (mkF m 13 #[rv r0, iv 0, iv 1, rv r0, iv 2, iv 3, .unset, .unset, .unset] [(.int 3), (.int 2), (.int 4096)])) rfl (by rw [hml]; rfl) (argsL := [(.int 4096), (.int 2), (.int 3)]) (rest := []) (lenOf pd_1 rfl) rfl (Nat.le_refl _) (hb hby d10_13) (fun _ _ => ⟨rfl, e8, (by decide : 0 + 0 ≤ _), (by decide : 0 + 0 ≤ _)⟩)
    dsimp only [Pt.U, Pt.locs, Pt.cells, Pt.slots] at X9 l9 y9 z9 st9 hQ9
    subst l9 y9 z9
    obtain ⟨rfl, N9q, e9⟩ := hQ9
    have N9 := Fr.app N8 N9q
    obtain ⟨_, _, ⟨T10, L10, j10, i10⟩, -, X10, ⟨Lc10, hQ10, l10, y10, z10⟩, st10⟩ := Jvm.LawKit.callS X9 hx (y := (⟨"java/lang/Math", "min", "(II)I"⟩ : MethodName)) hown (mvT hZ (own_at hw 70 rfl)) (mvT hZ (own_at hw 48 rfl)) (mvT hZ (own_at hw 49 rfl)) (mvT hZ (own_at hw 50 rfl)) (by decide) (backOf (W := 4) (rm6_f l Z a0 hw [] (1 : Int32) (1 : Int32) h0 n0 Z0 (by decide : ¬ ((1 : Int32) < (1 : Int32)))) hZ (own_at hw 50 rfl) (own_at hw 49 rfl) (by decide) (by decide)) (g := (mkF m 37 #[rv r0, iv 0, iv 1, rv r0, iv 2, iv 3, iv 1, iv 1, .unset] [(.int 1), (.int 1), (.int 2), (.ref r0), (.int 0), (.ref r0)])) rfl (by rw [hml]; rfl) (argsL := [(.int 1), (.int 1)]) (rest := [(.int 2), (.ref r0), (.int 0), (.ref r0)]) (lenOf pd_2 rfl) rfl (Nat.le_refl _) (hb hby d10_37) (fun _ _ => ⟨rfl, e9, (by decide : 0 + 0 ≤ _), (by decide : 0 + 0 ≤ _)⟩)
    dsimp only [Pt.U, Pt.locs, Pt.cells, Pt.slots] at X10 l10 y10 z10 st10 hQ10
    subst l10 y10 z10
    obtain ⟨rfl, N10q, e10⟩ := hQ10
    have N10 := Fr.app N9 N10q
    obtain ⟨_, _, ⟨T11, L11, j11, i11⟩, -, X11, ⟨Lc11, hQ11, l11, y11, z11⟩, st11⟩ := Jvm.LawKit.callS X10 hx (y := (⟨cS2, "mismatch", "([BI[BII)I"⟩ : MethodName)) hown (mvT hZ (own_at hw 71 rfl)) (mvT hZ (own_at hw 72 rfl)) (mvT hZ (own_at hw 73 rfl)) (mvT hZ (own_at hw 74 rfl)) (by decide) (backOf (W := 0) (rm12_s02n l Z a0 hw [] r0 kA x0 x1 x2 h0 n0 Z0 V_r0 hb1) hZ (own_at hw 74 rfl) (own_at hw 73 rfl) (by decide) (by decide)) (g := (mkF m 40 #[rv r0, iv 0, iv 1, rv r0, iv 2, iv 3, iv 1, iv 1, .unset] [(.int 1), (.int 2), (.ref r0), (.int 0), (.ref r0)])) rfl (by rw [hml]; rfl) (argsL := [(.ref r0), (.int 0), (.ref r0), (.int 2), (.int 1)]) (rest := []) (lenOf pd_3 rfl) rfl (Nat.le_refl _) (hb hby d10_40) (fun _ _ => ⟨rfl, e10, (by decide : 0 + 0 ≤ _), (by decide : 0 + 0 ≤ _)⟩)
    dsimp only [Pt.U, Pt.locs, Pt.cells, Pt.slots] at X11 l11 y11 z11 st11 hQ11
    subst l11 y11 z11
    obtain ⟨rfl, N11q, e11⟩ := hQ11
    have N11 := Fr.app N10 N11q
    have hin12 : ¬ ((0 : Int32) < 0 ∨ cl_z7.slots.size ≤ ((0 : Int32)).toNatClampNeg) := inb_of S_z7 ⟨by decide, by decide⟩
    have hin13 : ¬ ((2 : Int32) < 0 ∨ cl_z7.slots.size ≤ ((2 : Int32)).toNatClampNeg) := inb_of S_z7 ⟨by decide, by decide⟩
    obtain ⟨_, _, ⟨T14, L14, j14, i14⟩, -, X14, ⟨Lc14, hQ14, l14, y14, z14⟩, st14⟩ := Jvm.LawKit.callS X11 hx (y := (⟨"java/lang/Byte", "compareUnsigned", "(BB)I"⟩ : MethodName)) hown (mvT hZ (own_at hw 100 rfl)) (mvT hZ (own_at hw 101 rfl)) (mvT hZ (own_at hw 102 rfl)) (mvT hZ (own_at hw 103 rfl)) (by decide) (backOf (W := 0) (rm19 l Z a0 hw [] x0 x2 h0 n0 Z0 ) hZ (own_at hw 103 rfl) (own_at hw 102 rfl) (by decide) (by decide)) (g := (mkF m 63 #[rv r0, iv 0, iv 1, rv r0, iv 2, iv 3, iv 1, iv 1, iv 0] [(.int x2), (.int x0)])) rfl (by rw [hml]; rfl) (argsL := [(.int x0), (.int x2)]) (rest := []) (lenOf pd_4 rfl) rfl (Nat.le_refl _) (hb hby d10_63) (fun _ _ => ⟨rfl, e11, (by decide : 0 + 0 ≤ _), (by decide : 0 + 0 ≤ _)⟩)
    dsimp only [Pt.U, Pt.locs, Pt.cells, Pt.slots] at X14 l14 y14 z14 st14 hQ14
    subst l14 y14 z14
    obtain ⟨rfl, N14q, e14⟩ := hQ14
    have N14 := Fr.app N11 N14q
    obtain ⟨fs, hr, hrun, hended, hW, hsame⟩ := X14.leave (v := some (.int ((x0 &&& (255 : Int32)) - (x2 &&& (255 : Int32))))) (fun h => by rw [Bd.returns] at h; cases h)
    refine ⟨_, _, k0 _ ?_, hrun, hended, _, _, rfl, ?_, ⟨_, rfl⟩, hW, hsame.mono (by decide) (by decide)⟩
    · show OwnS p e below s₁ (mkF m 0 #[rv r0, iv 0, iv 1, rv r0, iv 2, iv 3, .unset, .unset, .unset] []) _
      refine XS.aloadN X0.here hx rfl (hb hby d10_0) rfl rfl ?_
      refine X0.arraylength hx (by rw [e0]; exact Ar_z7.1) (State.isArrayOf_alike hZ.alike Ar_z7.2.1) (g := (mkF m 1 #[rv r0, iv 0, iv 1, rv r0, iv 2, iv 3, .unset, .unset, .unset] [(.ref r0)])) rfl rfl (hb hby d10_1) _ ?_
      rw [len_of S_z7 N_z7]
      refine XS.iloadN X0.here hx rfl (hb hby d10_2) rfl ?_
      refine XS.iloadN X0.here hx rfl (hb hby d10_3) rfl ?_
      refine st8 _ ?_
      refine XS.aloadN X8.here hx rfl (hb hby d10_7) rfl rfl ?_
      refine X8.arraylength hx (by rw [e8]; exact Ar_z7.1) (State.isArrayOf_alike hZ.alike Ar_z7.2.1) (g := (mkF m 8 #[rv r0, iv 0, iv 1, rv r0, iv 2, iv 3, .unset, .unset, .unset] [(.ref r0)])) rfl rfl (hb hby d10_8) _ ?_
      rw [len_of S_z7 N_z7]
      refine XS.iload X8.here hx rfl (hb hby d10_9) rfl ?_
      refine XS.iload X8.here hx rfl (hb hby d10_11) rfl ?_
      refine st9 _ ?_
      refine XS.iloadN X9.here hx rfl (hb hby d10_16) rfl ?_
      refine XS.iloadN X9.here hx rfl (hb hby d10_17) rfl ?_
      refine XS.isub X9.here hx rfl (hb hby d10_18) rfl ?_
      refine XS.istore X9.here hx rfl (hb hby d10_19) rfl (l' := #[rv r0, iv 0, iv 1, rv r0, iv 2, iv 3, iv 1, .unset, .unset]) rfl ?_
      refine XS.iload X9.here hx rfl (hb hby d10_21) rfl ?_
      refine XS.iload X9.here hx rfl (hb hby d10_23) rfl ?_
      refine XS.isub X9.here hx rfl (hb hby d10_25) rfl ?_
      refine XS.istore X9.here hx rfl (hb hby d10_26) rfl (l' := #[rv r0, iv 0, iv 1, rv r0, iv 2, iv 3, iv 1, iv 1, .unset]) rfl ?_
      refine XS.aloadN X9.here hx rfl (hb hby d10_28) rfl rfl ?_
      refine XS.iloadN X9.here hx rfl (hb hby d10_29) rfl ?_
      refine XS.aloadN X9.here hx rfl (hb hby d10_30) rfl rfl ?_
      refine XS.iload X9.here hx rfl (hb hby d10_31) rfl ?_
      refine XS.iload X9.here hx rfl (hb hby d10_33) rfl ?_
      refine XS.iload X9.here hx rfl (hb hby d10_35) rfl ?_
      refine st10 _ ?_
      refine st11 _ ?_
      refine XS.istore X11.here hx rfl (hb hby d10_43) rfl (l' := #[rv r0, iv 0, iv 1, rv r0, iv 2, iv 3, iv 1, iv 1, iv 0]) rfl ?_
      refine XS.iload X11.here hx rfl (hb hby d10_45) rfl ?_
      refine XS.ifNo X11.here hx rfl (hb hby d10_47) rfl ((if0 _ _).trans (flt (by decide : ¬ ((0 : Int32) < (0 : Int32)))).1) ?_
      refine XS.aloadN X11.here hx rfl (hb hby d10_50) rfl rfl ?_
      refine XS.iloadN X11.here hx rfl (hb hby d10_51) rfl ?_
      refine XS.iload X11.here hx rfl (hb hby d10_52) rfl ?_
      refine XS.iadd X11.here hx rfl (hb hby d10_54) rfl ?_
      refine X11.baloadBytes hx (j := (0 : Int32)) (v := (.int x0)) (by rw [e11]; exact Ar_z7.1) (State.isArrayOf_alike hZ.alike Ar_z7.2.1) Ar_z7.2.2 hin12 (Has.at H_z7 hin12 rfl) (g := (mkF m 55 #[rv r0, iv 0, iv 1, rv r0, iv 2, iv 3, iv 1, iv 1, iv 0] [(.int 0), (.ref r0)])) rfl rfl (hb hby d10_55) _ ?_
      refine XS.aloadN X11.here hx rfl (hb hby d10_56) rfl rfl ?_
      refine XS.iload X11.here hx rfl (hb hby d10_57) rfl ?_
      refine XS.iload X11.here hx rfl (hb hby d10_59) rfl ?_
      refine XS.iadd X11.here hx rfl (hb hby d10_61) rfl ?_
      show OwnS p e below T11 (mkF m 62 #[rv r0, iv 0, iv 1, rv r0, iv 2, iv 3, iv 1, iv 1, iv 0] [(.int 2), (.ref r0), (.int x0)]) _
      refine X11.baloadBytes hx (j := (2 : Int32)) (v := (.int x2)) (by rw [e11]; exact Ar_z7.1) (State.isArrayOf_alike hZ.alike Ar_z7.2.1) Ar_z7.2.2 hin13 (Has.at H_z7 hin13 rfl) (g := (mkF m 62 #[rv r0, iv 0, iv 1, rv r0, iv 2, iv 3, iv 1, iv 1, iv 0] [(.int 2), (.ref r0), (.int x0)])) rfl rfl (hb hby d10_62) _ ?_
      refine st14 _ ?_
      exact retI X14 hx Bd.returns (hb hby d10_66) hr
    · show Q_10_s02 Z r0 kA x0 x1 x2 h0 n0 _ T14.heap _
      rw [e14]
      exact ⟨((x0 &&& (255 : Int32)) - (x2 &&& (255 : Int32))), rfl, N14, rfl, trivial⟩
def Q_12_s12e (Z : State) (r0 : Addr) (kA : ClassId) (x0 : Int32) (x1 : Int32) (x2 : Int32) (h0 : Heap) (n0 : Nat) (v : Option Value) (h : Heap) (L : List Loc) : Prop := v = some (.int (-1)) ∧ Fr n0 L ∧ h = h0
set_option maxRecDepth 65536 in
set_option maxHeartbeats 40000000 in
theorem rm12_s12e (l : Launch) (Z : State) (a0 : Array Value) (hw : ∀ d ∈ tables_1, d.before a0 Z = true) (ws : List Jvm.Cond) (r0 : Addr) (kA : ClassId) (x0 : Int32) (x1 : Int32) (x2 : Int32) (h0 : Heap) (n0 : Nat) (Z0 : n0 ≤ h0.size) (V_r0 : Arv Z h0 r0 kA .byte (4096 : Int32) [(.int x0), (.int x1), (.int x2)] (.int 0)) (hcmp : x1 = x2) :
    MetFree l (⟨cS2, "mismatch", "([BI[BII)I"⟩ : MethodName) (head1 (Jvm.Cond.code (⟨cS2, "mismatch", "([BI[BII)I"⟩ : MethodName) jdk_48_method_14_code 8 (some .int) :: ws) ({ frames := 0, cells := 0, slots := 0, locals := 0 } : Room)) (fun a U => a = #[(.ref r0), (.int 1), (.ref r0), (.int 2), (.int 1)] ∧ Z.Warmed39 U.vm ∧ U.heap = h0) (fun _ _ _ _ _ => True) (fun _ U o U' => ∃ v L, o = .returned v ∧ Q_12_s12e Z r0 kA x0 x1 x2 h0 n0 v U'.heap L ∧ FrameEnd U o U' L ({ frames := 0, cells := 0, slots := 0, locals := 0 } : Room).cells ({ frames := 0, cells := 0, slots := 0, locals := 0 } : Room).slots) := by
  refine MetFree.of_bodySF (plainFor_of_name pn_jdk_internal_util_ArraysSupport) hisR ?_
  intro p e s m args below meth c s₁ Bd hml0 hP hK
  obtain ⟨rfl, hZ, hh⟩ := hP
  have hx := Bd.exec
  have hby := Bd.bytes
  have hml : c.maxLocals = 8 := hml0
  have hown : s.vm.findClass cS2 = some m.cls := findClass_of_methodNamed Bd.named
  have hnm := (name_of_methodNamed Bd.named Bd.method).1
  have X0 : Stand p l e ({ frames := 0, cells := 0, slots := 0, locals := 0 } : Room) s m #[(.ref r0), (.int 1), (.ref r0), (.int 2), (.int 1)] below meth c s₁ [] 0 0 := Stand.of_body Bd
  have e0 : s₁.heap = h0 := by rw [← hh, Bd.state]; rfl
  have N0 := Fr.nil n0
  have k0 : ∀ t, OwnS p e below s₁ (mkF m 0 #[rv r0, iv 1, rv r0, iv 2, iv 1, .unset, .unset, .unset] []) t → OwnS p e below s₁ (entryFrame m #[(.ref r0), (.int 1), (.ref r0), (.int 2), (.int 1)] 8) t := fun t k => castTop (ef_12 m r0 (1 : Int32) r0 (2 : Int32) (1 : Int32)) k
  obtain ⟨cl_z1, Ar_z1, q_z1, S_z1, N_z1, H_z1, G_z1⟩ := id V_r0
  have hin2 : ¬ ((1 : Int32) < 0 ∨ cl_z1.slots.size ≤ ((1 : Int32)).toNatClampNeg) := inb_of S_z1 ⟨by decide, by decide⟩
  have hin3 : ¬ ((2 : Int32) < 0 ∨ cl_z1.slots.size ≤ ((2 : Int32)).toNatClampNeg) := inb_of S_z1 ⟨by decide, by decide⟩
  obtain ⟨fs, hr, hrun, hended, hW, hsame⟩ := X0.leave (v := some (.int (-1))) (fun h => by rw [Bd.returns] at h; cases h)
  refine ⟨_, _, k0 _ ?_, hrun, hended, _, _, rfl, ?_, ⟨_, rfl⟩, hW, hsame.mono (by decide) (by decide)⟩
  · show OwnS p e below s₁ (mkF m 0 #[rv r0, iv 1, rv r0, iv 2, iv 1, .unset, .unset, .unset] []) _
    refine XS.iconst X0.here hx rfl (hb hby d12_0) ?_
    refine XS.istore X0.here hx rfl (hb hby d12_1) rfl (l' := #[rv r0, iv 1, rv r0, iv 2, iv 1, iv 0, .unset, .unset]) rfl ?_
    refine XS.iload X0.here hx rfl (hb hby d12_3) rfl ?_
    refine XS.bipush X0.here hx rfl (hb hby d12_5) ?_
    refine XS.icmpYes X0.here hx rfl (pc0 := 7) (pc' := 70) rfl (hb hby d12_7) rfl (flt (by decide : ¬ ((7 : Int32) < (1 : Int32)))).2.2.2 (by decide) (by decide) ?_
    refine XS.iload X0.here hx rfl (hb hby d12_70) rfl ?_
    refine XS.iload X0.here hx rfl (hb hby d12_72) rfl ?_
    refine XS.icmpNo X0.here hx rfl (hb hby d12_74) rfl (tlt (by decide : (0 : Int32) < (1 : Int32))).2.1 ?_
    refine XS.aloadN X0.here hx rfl (hb hby d12_77) rfl rfl ?_
    refine XS.iloadN X0.here hx rfl (hb hby d12_78) rfl ?_
    refine XS.iload X0.here hx rfl (hb hby d12_79) rfl ?_
    refine XS.iadd X0.here hx rfl (hb hby d12_81) rfl ?_
    refine X0.baloadBytes hx (j := (1 : Int32)) (v := (.int x1)) (by rw [e0]; exact Ar_z1.1) (State.isArrayOf_alike hZ.alike Ar_z1.2.1) Ar_z1.2.2 hin2 (Has.at H_z1 hin2 rfl) (g := (mkF m 82 #[rv r0, iv 1, rv r0, iv 2, iv 1, iv 0, .unset, .unset] [(.int 1), (.ref r0)])) rfl rfl (hb hby d12_82) _ ?_
    refine XS.aloadN X0.here hx rfl (hb hby d12_83) rfl rfl ?_
    refine XS.iloadN X0.here hx rfl (hb hby d12_84) rfl ?_
    refine XS.iload X0.here hx rfl (hb hby d12_85) rfl ?_
    refine XS.iadd X0.here hx rfl (hb hby d12_87) rfl ?_
    refine X0.baloadBytes hx (j := (2 : Int32)) (v := (.int x2)) (by rw [e0]; exact Ar_z1.1) (State.isArrayOf_alike hZ.alike Ar_z1.2.1) Ar_z1.2.2 hin3 (Has.at H_z1 hin3 rfl) (g := (mkF m 88 #[rv r0, iv 1, rv r0, iv 2, iv 1, iv 0, .unset, .unset] [(.int 2), (.ref r0), (.int x1)])) rfl rfl (hb hby d12_88) _ ?_
    refine XS.icmpYes X0.here hx rfl (pc0 := 89) (pc' := 95) rfl (hb hby d12_89) rfl (teq hcmp).1 (by decide) (by decide) ?_
    refine XS.iinc X0.here hx rfl (hb hby d12_95) rfl (l' := #[rv r0, iv 1, rv r0, iv 2, iv 1, iv ((0 : Int32) + (1 : Int32)), .unset, .unset]) rfl ?_
    refine XS.goto X0.here hx rfl (pc0 := 98) (pc' := 70) rfl (hb hby d12_98) (by decide) (by decide) ?_
    refine XS.iload X0.here hx rfl (hb hby d12_70) rfl ?_
    refine XS.iload X0.here hx rfl (hb hby d12_72) rfl ?_
    refine XS.icmpYes X0.here hx rfl (pc0 := 74) (pc' := 101) rfl (hb hby d12_74) rfl (flt (by decide : ¬ ((1 : Int32) < (1 : Int32)))).2.1 (by decide) (by decide) ?_
    refine XS.iconst X0.here hx rfl (hb hby d12_101) ?_
    exact retI X0 hx Bd.returns (hb hby d12_102) hr
  · show Q_12_s12e Z r0 kA x0 x1 x2 h0 n0 _ s₁.heap _
    rw [e0]
    exact ⟨rfl, N0, rfl⟩
def Q_12_s12n (Z : State) (r0 : Addr) (kA : ClassId) (x0 : Int32) (x1 : Int32) (x2 : Int32) (h0 : Heap) (n0 : Nat) (v : Option Value) (h : Heap) (L : List Loc) : Prop := v = some (.int 0) ∧ Fr n0 L ∧ h = h0
set_option maxRecDepth 65536 in
set_option maxHeartbeats 40000000 in
theorem rm12_s12n (l : Launch) (Z : State) (a0 : Array Value) (hw : ∀ d ∈ tables_1, d.before a0 Z = true) (ws : List Jvm.Cond) (r0 : Addr) (kA : ClassId) (x0 : Int32) (x1 : Int32) (x2 : Int32) (h0 : Heap) (n0 : Nat) (Z0 : n0 ≤ h0.size) (V_r0 : Arv Z h0 r0 kA .byte (4096 : Int32) [(.int x0), (.int x1), (.int x2)] (.int 0)) (hcmp : ¬ (x1 = x2)) :
    MetFree l (⟨cS2, "mismatch", "([BI[BII)I"⟩ : MethodName) (head1 (Jvm.Cond.code (⟨cS2, "mismatch", "([BI[BII)I"⟩ : MethodName) jdk_48_method_14_code 8 (some .int) :: ws) ({ frames := 0, cells := 0, slots := 0, locals := 0 } : Room)) (fun a U => a = #[(.ref r0), (.int 1), (.ref r0), (.int 2), (.int 1)] ∧ Z.Warmed39 U.vm ∧ U.heap = h0) (fun _ _ _ _ _ => True) (fun _ U o U' => ∃ v L, o = .returned v ∧ Q_12_s12n Z r0 kA x0 x1 x2 h0 n0 v U'.heap L ∧ FrameEnd U o U' L ({ frames := 0, cells := 0, slots := 0, locals := 0 } : Room).cells ({ frames := 0, cells := 0, slots := 0, locals := 0 } : Room).slots) := by
  refine MetFree.of_bodySF (plainFor_of_name pn_jdk_internal_util_ArraysSupport) hisR ?_
  intro p e s m args below meth c s₁ Bd hml0 hP hK
  obtain ⟨rfl, hZ, hh⟩ := hP
  have hx := Bd.exec
  have hby := Bd.bytes
  have hml : c.maxLocals = 8 := hml0
  have hown : s.vm.findClass cS2 = some m.cls := findClass_of_methodNamed Bd.named
  have hnm := (name_of_methodNamed Bd.named Bd.method).1
  have X0 : Stand p l e ({ frames := 0, cells := 0, slots := 0, locals := 0 } : Room) s m #[(.ref r0), (.int 1), (.ref r0), (.int 2), (.int 1)] below meth c s₁ [] 0 0 := Stand.of_body Bd
  have e0 : s₁.heap = h0 := by rw [← hh, Bd.state]; rfl
  have N0 := Fr.nil n0
  have k0 : ∀ t, OwnS p e below s₁ (mkF m 0 #[rv r0, iv 1, rv r0, iv 2, iv 1, .unset, .unset, .unset] []) t → OwnS p e below s₁ (entryFrame m #[(.ref r0), (.int 1), (.ref r0), (.int 2), (.int 1)] 8) t := fun t k => castTop (ef_12 m r0 (1 : Int32) r0 (2 : Int32) (1 : Int32)) k
  obtain ⟨cl_z1, Ar_z1, q_z1, S_z1, N_z1, H_z1, G_z1⟩ := id V_r0
  have hin2 : ¬ ((1 : Int32) < 0 ∨ cl_z1.slots.size ≤ ((1 : Int32)).toNatClampNeg) := inb_of S_z1 ⟨by decide, by decide⟩
  have hin3 : ¬ ((2 : Int32) < 0 ∨ cl_z1.slots.size ≤ ((2 : Int32)).toNatClampNeg) := inb_of S_z1 ⟨by decide, by decide⟩
  obtain ⟨fs, hr, hrun, hended, hW, hsame⟩ := X0.leave (v := some (.int 0)) (fun h => by rw [Bd.returns] at h; cases h)
  refine ⟨_, _, k0 _ ?_, hrun, hended, _, _, rfl, ?_, ⟨_, rfl⟩, hW, hsame.mono (by decide) (by decide)⟩
  · show OwnS p e below s₁ (mkF m 0 #[rv r0, iv 1, rv r0, iv 2, iv 1, .unset, .unset, .unset] []) _
    refine XS.iconst X0.here hx rfl (hb hby d12_0) ?_
    refine XS.istore X0.here hx rfl (hb hby d12_1) rfl (l' := #[rv r0, iv 1, rv r0, iv 2, iv 1, iv 0, .unset, .unset]) rfl ?_
    refine XS.iload X0.here hx rfl (hb hby d12_3) rfl ?_
    refine XS.bipush X0.here hx rfl (hb hby d12_5) ?_
    refine XS.icmpYes X0.here hx rfl (pc0 := 7) (pc' := 70) rfl (hb hby d12_7) rfl (flt (by decide : ¬ ((7 : Int32) < (1 : Int32)))).2.2.2 (by decide) (by decide) ?_
    refine XS.iload X0.here hx rfl (hb hby d12_70) rfl ?_
    refine XS.iload X0.here hx rfl (hb hby d12_72) rfl ?_
    refine XS.icmpNo X0.here hx rfl (hb hby d12_74) rfl (tlt (by decide : (0 : Int32) < (1 : Int32))).2.1 ?_
    refine XS.aloadN X0.here hx rfl (hb hby d12_77) rfl rfl ?_
    refine XS.iloadN X0.here hx rfl (hb hby d12_78) rfl ?_
    refine XS.iload X0.here hx rfl (hb hby d12_79) rfl ?_
    refine XS.iadd X0.here hx rfl (hb hby d12_81) rfl ?_
    refine X0.baloadBytes hx (j := (1 : Int32)) (v := (.int x1)) (by rw [e0]; exact Ar_z1.1) (State.isArrayOf_alike hZ.alike Ar_z1.2.1) Ar_z1.2.2 hin2 (Has.at H_z1 hin2 rfl) (g := (mkF m 82 #[rv r0, iv 1, rv r0, iv 2, iv 1, iv 0, .unset, .unset] [(.int 1), (.ref r0)])) rfl rfl (hb hby d12_82) _ ?_
    refine XS.aloadN X0.here hx rfl (hb hby d12_83) rfl rfl ?_
    refine XS.iloadN X0.here hx rfl (hb hby d12_84) rfl ?_
    refine XS.iload X0.here hx rfl (hb hby d12_85) rfl ?_
    refine XS.iadd X0.here hx rfl (hb hby d12_87) rfl ?_
    refine X0.baloadBytes hx (j := (2 : Int32)) (v := (.int x2)) (by rw [e0]; exact Ar_z1.1) (State.isArrayOf_alike hZ.alike Ar_z1.2.1) Ar_z1.2.2 hin3 (Has.at H_z1 hin3 rfl) (g := (mkF m 88 #[rv r0, iv 1, rv r0, iv 2, iv 1, iv 0, .unset, .unset] [(.int 2), (.ref r0), (.int x1)])) rfl rfl (hb hby d12_88) _ ?_
    refine XS.icmpNo X0.here hx rfl (hb hby d12_89) rfl (feq hcmp).1 ?_
    refine XS.iload X0.here hx rfl (hb hby d12_92) rfl ?_
    exact retI X0 hx Bd.returns (hb hby d12_94) hr
  · show Q_12_s12n Z r0 kA x0 x1 x2 h0 n0 _ s₁.heap _
    rw [e0]
    exact ⟨rfl, N0, rfl⟩
def Q_10_s12 (Z : State) (r0 : Addr) (kA : ClassId) (x0 : Int32) (x1 : Int32) (x2 : Int32) (h0 : Heap) (n0 : Nat) (v : Option Value) (h : Heap) (L : List Loc) : Prop := ∃ rr : Int32, v = some (.int rr) ∧ Fr n0 L ∧ h = h0 ∧ True
set_option maxRecDepth 65536 in
set_option maxHeartbeats 40000000 in
theorem rm10_s12 (l : Launch) (Z : State) (a0 : Array Value) (hw : ∀ d ∈ tables_1, d.before a0 Z = true) (ws : List Jvm.Cond) (r0 : Addr) (kA : ClassId) (x0 : Int32) (x1 : Int32) (x2 : Int32) (h0 : Heap) (n0 : Nat) (Z0 : n0 ≤ h0.size) (V_r0 : Arv Z h0 r0 kA .byte (4096 : Int32) [(.int x0), (.int x1), (.int x2)] (.int 0)) :
    MetFree l (⟨cS1, "compareUnsigned", "([BII[BII)I"⟩ : MethodName) (head1 (Jvm.Cond.code (⟨cS1, "compareUnsigned", "([BII[BII)I"⟩ : MethodName) jdk_65_method_202_code 9 (some .int) :: ws) ({ frames := 2, cells := 0, slots := 0, locals := 26 } : Room)) (fun a U => a = #[(.ref r0), (.int 1), (.int 2), (.ref r0), (.int 2), (.int 3)] ∧ Z.Warmed39 U.vm ∧ U.heap = h0) (fun _ _ _ _ _ => True) (fun _ U o U' => ∃ v L, o = .returned v ∧ Q_10_s12 Z r0 kA x0 x1 x2 h0 n0 v U'.heap L ∧ FrameEnd U o U' L ({ frames := 2, cells := 0, slots := 0, locals := 26 } : Room).cells ({ frames := 2, cells := 0, slots := 0, locals := 26 } : Room).slots) := by
  refine MetFree.of_bodySF (plainFor_of_name pn_java_util_Arrays) hisR ?_
  intro p e s m args below meth c s₁ Bd hml0 hP hK
  obtain ⟨rfl, hZ, hh⟩ := hP
  have hx := Bd.exec
  have hby := Bd.bytes
  have hml : c.maxLocals = 9 := hml0
  have hown : s.vm.findClass cS1 = some m.cls := findClass_of_methodNamed Bd.named
  have hnm := (name_of_methodNamed Bd.named Bd.method).1
  have X0 : Stand p l e ({ frames := 2, cells := 0, slots := 0, locals := 26 } : Room) s m #[(.ref r0), (.int 1), (.int 2), (.ref r0), (.int 2), (.int 3)] below meth c s₁ [] 0 0 := Stand.of_body Bd
  have e0 : s₁.heap = h0 := by rw [← hh, Bd.state]; rfl
  have N0 := Fr.nil n0
  have k0 : ∀ t, OwnS p e below s₁ (mkF m 0 #[rv r0, iv 1, iv 2, rv r0, iv 2, iv 3, .unset, .unset, .unset] []) t → OwnS p e below s₁ (entryFrame m #[(.ref r0), (.int 1), (.int 2), (.ref r0), (.int 2), (.int 3)] 9) t := fun t k => castTop (ef_10 m r0 (1 : Int32) (2 : Int32) r0 (2 : Int32) (3 : Int32)) k
  by_cases hb1 : x1 = x2
  · obtain ⟨cl_z2, Ar_z2, q_z2, S_z2, N_z2, H_z2, G_z2⟩ := id V_r0
    obtain ⟨_, _, ⟨T3, L3, j3, i3⟩, -, X3, ⟨Lc3, hQ3, l3, y3, z3⟩, st3⟩ := Jvm.LawKit.callS X0 hx (y := (⟨cS1, "rangeCheck", "(III)V"⟩ : MethodName)) hown (mvT hZ (own_at hw 67 rfl)) (mvT hZ (own_at hw 68 rfl)) (mvT hZ (own_at hw 65 rfl)) (mvT hZ (own_at hw 69 rfl)) (by decide) (backOf (W := 0) (rm11 l Z a0 hw [] (4096 : Int32) (1 : Int32) (2 : Int32) h0 n0 Z0 (by decide : ¬ ((2 : Int32) < (1 : Int32))) (by decide : ¬ ((1 : Int32) < (0 : Int32))) (by decide : ¬ ((4096 : Int32) < (2 : Int32)))) hZ (own_at hw 69 rfl) (own_at hw 65 rfl) (by decide) (by decide)) (g := (mkF m 4 #[rv r0, iv 1, iv 2, rv r0, iv 2, iv 3, .unset, .unset, .unset] [(.int 2), (.int 1), (.int 4096)])) rfl (by rw [hml]; rfl) (argsL := [(.int 4096), (.int 1), (.int 2)]) (rest := []) (lenOf pd_1 rfl) rfl (Nat.le_refl _) (hb hby d10_4) (fun _ _ => ⟨rfl, e0, (by decide : 0 + 0 ≤ _), (by decide : 0 + 0 ≤ _)⟩)
    dsimp only [Pt.U, Pt.locs, Pt.cells, Pt.slots] at X3 l3 y3 z3 st3 hQ3
    subst l3 y3 z3
    obtain ⟨rfl, N3q, e3⟩ := hQ3
    have N3 := Fr.app N0 N3q
    obtain ⟨_, _, ⟨T4, L4, j4, i4⟩, -, X4, ⟨Lc4, hQ4, l4, y4, z4⟩, st4⟩ := Jvm.LawKit.callS X3 hx (y := (⟨cS1, "rangeCheck", "(III)V"⟩ : MethodName)) hown (mvT hZ (own_at hw 67 rfl)) (mvT hZ (own_at hw 68 rfl)) (mvT hZ (own_at hw 65 rfl)) (mvT hZ (own_at hw 69 rfl)) (by decide) (backOf (W := 0) (rm11 l Z a0 hw [] (4096 : Int32) (2 : Int32) (3 : Int32) h0 n0 Z0 (by decide : ¬ ((3 : Int32) < (2 : Int32))) (by decide : ¬ ((2 : Int32) < (0 : Int32))) (by decide : ¬ ((4096 : Int32) < (3 : Int32)))) hZ (own_at hw 69 rfl) (own_at hw 65 rfl) (by decide) (by decide)) (g := (mkF m 13 #[rv r0, iv 1, iv 2, rv r0, iv 2, iv 3, .unset, .unset, .unset] [(.int 3), (.int 2), (.int 4096)])) rfl (by rw [hml]; rfl) (argsL := [(.int 4096), (.int 2), (.int 3)]) (rest := []) (lenOf pd_1 rfl) rfl (Nat.le_refl _) (hb hby d10_13) (fun _ _ => ⟨rfl, e3, (by decide : 0 + 0 ≤ _), (by decide : 0 + 0 ≤ _)⟩)
    dsimp only [Pt.U, Pt.locs, Pt.cells, Pt.slots] at X4 l4 y4 z4 st4 hQ4
    subst l4 y4 z4
    obtain ⟨rfl, N4q, e4⟩ := hQ4
    have N4 := Fr.app N3 N4q
    obtain ⟨_, _, ⟨T5, L5, j5, i5⟩, -, X5, ⟨Lc5, hQ5, l5, y5, z5⟩, st5⟩ := Jvm.LawKit.callS X4 hx (y := (⟨"java/lang/Math", "min", "(II)I"⟩ : MethodName)) hown (mvT hZ (own_at hw 70 rfl)) (mvT hZ (own_at hw 48 rfl)) (mvT hZ (own_at hw 49 rfl)) (mvT hZ (own_at hw 50 rfl)) (by decide) (backOf (W := 4) (rm6_f l Z a0 hw [] (1 : Int32) (1 : Int32) h0 n0 Z0 (by decide : ¬ ((1 : Int32) < (1 : Int32)))) hZ (own_at hw 50 rfl) (own_at hw 49 rfl) (by decide) (by decide)) (g := (mkF m 37 #[rv r0, iv 1, iv 2, rv r0, iv 2, iv 3, iv 1, iv 1, .unset] [(.int 1), (.int 1), (.int 2), (.ref r0), (.int 1), (.ref r0)])) rfl (by rw [hml]; rfl) (argsL := [(.int 1), (.int 1)]) (rest := [(.int 2), (.ref r0), (.int 1), (.ref r0)]) (lenOf pd_2 rfl) rfl (Nat.le_refl _) (hb hby d10_37) (fun _ _ => ⟨rfl, e4, (by decide : 0 + 0 ≤ _), (by decide : 0 + 0 ≤ _)⟩)
    dsimp only [Pt.U, Pt.locs, Pt.cells, Pt.slots] at X5 l5 y5 z5 st5 hQ5
    subst l5 y5 z5
    obtain ⟨rfl, N5q, e5⟩ := hQ5
    have N5 := Fr.app N4 N5q
    obtain ⟨_, _, ⟨T6, L6, j6, i6⟩, -, X6, ⟨Lc6, hQ6, l6, y6, z6⟩, st6⟩ := Jvm.LawKit.callS X5 hx (y := (⟨cS2, "mismatch", "([BI[BII)I"⟩ : MethodName)) hown (mvT hZ (own_at hw 71 rfl)) (mvT hZ (own_at hw 72 rfl)) (mvT hZ (own_at hw 73 rfl)) (mvT hZ (own_at hw 74 rfl)) (by decide) (backOf (W := 0) (rm12_s12e l Z a0 hw [] r0 kA x0 x1 x2 h0 n0 Z0 V_r0 hb1) hZ (own_at hw 74 rfl) (own_at hw 73 rfl) (by decide) (by decide)) (g := (mkF m 40 #[rv r0, iv 1, iv 2, rv r0, iv 2, iv 3, iv 1, iv 1, .unset] [(.int 1), (.int 2), (.ref r0), (.int 1), (.ref r0)])) rfl (by rw [hml]; rfl) (argsL := [(.ref r0), (.int 1), (.ref r0), (.int 2), (.int 1)]) (rest := []) (lenOf pd_3 rfl) rfl (Nat.le_refl _) (hb hby d10_40) (fun _ _ => ⟨rfl, e5, (by decide : 0 + 0 ≤ _), (by decide : 0 + 0 ≤ _)⟩)
    dsimp only [Pt.U, Pt.locs, Pt.cells, Pt.slots] at X6 l6 y6 z6 st6 hQ6
    subst l6 y6 z6
    obtain ⟨rfl, N6q, e6⟩ := hQ6
    have N6 := Fr.app N5 N6q
    obtain ⟨fs, hr, hrun, hended, hW, hsame⟩ := X6.leave (v := some (.int 0)) (fun h => by rw [Bd.returns] at h; cases h)
    refine ⟨_, _, k0 _ ?_, hrun, hended, _, _, rfl, ?_, ⟨_, rfl⟩, hW, hsame.mono (by decide) (by decide)⟩
    · show OwnS p e below s₁ (mkF m 0 #[rv r0, iv 1, iv 2, rv r0, iv 2, iv 3, .unset, .unset, .unset] []) _
      refine XS.aloadN X0.here hx rfl (hb hby d10_0) rfl rfl ?_
      refine X0.arraylength hx (by rw [e0]; exact Ar_z2.1) (State.isArrayOf_alike hZ.alike Ar_z2.2.1) (g := (mkF m 1 #[rv r0, iv 1, iv 2, rv r0, iv 2, iv 3, .unset, .unset, .unset] [(.ref r0)])) rfl rfl (hb hby d10_1) _ ?_
      rw [len_of S_z2 N_z2]
      refine XS.iloadN X0.here hx rfl (hb hby d10_2) rfl ?_
      refine XS.iloadN X0.here hx rfl (hb hby d10_3) rfl ?_
      refine st3 _ ?_
      refine XS.aloadN X3.here hx rfl (hb hby d10_7) rfl rfl ?_
      refine X3.arraylength hx (by rw [e3]; exact Ar_z2.1) (State.isArrayOf_alike hZ.alike Ar_z2.2.1) (g := (mkF m 8 #[rv r0, iv 1, iv 2, rv r0, iv 2, iv 3, .unset, .unset, .unset] [(.ref r0)])) rfl rfl (hb hby d10_8) _ ?_
      rw [len_of S_z2 N_z2]
      refine XS.iload X3.here hx rfl (hb hby d10_9) rfl ?_
      refine XS.iload X3.here hx rfl (hb hby d10_11) rfl ?_
      refine st4 _ ?_
      refine XS.iloadN X4.here hx rfl (hb hby d10_16) rfl ?_
      refine XS.iloadN X4.here hx rfl (hb hby d10_17) rfl ?_
      refine XS.isub X4.here hx rfl (hb hby d10_18) rfl ?_
      refine XS.istore X4.here hx rfl (hb hby d10_19) rfl (l' := #[rv r0, iv 1, iv 2, rv r0, iv 2, iv 3, iv 1, .unset, .unset]) rfl ?_
      refine XS.iload X4.here hx rfl (hb hby d10_21) rfl ?_
      refine XS.iload X4.here hx rfl (hb hby d10_23) rfl ?_
      refine XS.isub X4.here hx rfl (hb hby d10_25) rfl ?_
      refine XS.istore X4.here hx rfl (hb hby d10_26) rfl (l' := #[rv r0, iv 1, iv 2, rv r0, iv 2, iv 3, iv 1, iv 1, .unset]) rfl ?_
      refine XS.aloadN X4.here hx rfl (hb hby d10_28) rfl rfl ?_
      refine XS.iloadN X4.here hx rfl (hb hby d10_29) rfl ?_
      refine XS.aloadN X4.here hx rfl (hb hby d10_30) rfl rfl ?_
      refine XS.iload X4.here hx rfl (hb hby d10_31) rfl ?_
      refine XS.iload X4.here hx rfl (hb hby d10_33) rfl ?_
      refine XS.iload X4.here hx rfl (hb hby d10_35) rfl ?_
      refine st5 _ ?_
      refine st6 _ ?_
      refine XS.istore X6.here hx rfl (hb hby d10_43) rfl (l' := #[rv r0, iv 1, iv 2, rv r0, iv 2, iv 3, iv 1, iv 1, iv (-1 : Int32)]) rfl ?_
      refine XS.iload X6.here hx rfl (hb hby d10_45) rfl ?_
      refine XS.ifYes X6.here hx rfl (pc0 := 47) (pc' := 67) rfl (hb hby d10_47) rfl ((if0 _ _).trans (tlt (by decide : (-1 : Int32) < (0 : Int32))).1) (by decide) (by decide) ?_
      refine XS.iload X6.here hx rfl (hb hby d10_67) rfl ?_
      refine XS.iload X6.here hx rfl (hb hby d10_69) rfl ?_
      refine XS.isub X6.here hx rfl (hb hby d10_71) rfl ?_
      exact retI X6 hx Bd.returns (hb hby d10_72) hr
    · show Q_10_s12 Z r0 kA x0 x1 x2 h0 n0 _ T6.heap _
      rw [e6]
      exact ⟨(0 : Int32), rfl, N6, rfl, trivial⟩
  · obtain ⟨cl_z7, Ar_z7, q_z7, S_z7, N_z7, H_z7, G_z7⟩ := id V_r0
    obtain ⟨_, _, ⟨T8, L8, j8, i8⟩, -, X8, ⟨Lc8, hQ8, l8, y8, z8⟩, st8⟩ := Jvm.LawKit.callS X0 hx (y := (⟨cS1, "rangeCheck", "(III)V"⟩ : MethodName)) hown (mvT hZ (own_at hw 67 rfl)) (mvT hZ (own_at hw 68 rfl)) (mvT hZ (own_at hw 65 rfl)) (mvT hZ (own_at hw 69 rfl)) (by decide) (backOf (W := 0) (rm11 l Z a0 hw [] (4096 : Int32) (1 : Int32) (2 : Int32) h0 n0 Z0 (by decide : ¬ ((2 : Int32) < (1 : Int32))) (by decide : ¬ ((1 : Int32) < (0 : Int32))) (by decide : ¬ ((4096 : Int32) < (2 : Int32)))) hZ (own_at hw 69 rfl) (own_at hw 65 rfl) (by decide) (by decide)) (g := (mkF m 4 #[rv r0, iv 1, iv 2, rv r0, iv 2, iv 3, .unset, .unset, .unset] [(.int 2), (.int 1), (.int 4096)])) rfl (by rw [hml]; rfl) (argsL := [(.int 4096), (.int 1), (.int 2)]) (rest := []) (lenOf pd_1 rfl) rfl (Nat.le_refl _) (hb hby d10_4) (fun _ _ => ⟨rfl, e0, (by decide : 0 + 0 ≤ _), (by decide : 0 + 0 ≤ _)⟩)
    dsimp only [Pt.U, Pt.locs, Pt.cells, Pt.slots] at X8 l8 y8 z8 st8 hQ8
    subst l8 y8 z8
    obtain ⟨rfl, N8q, e8⟩ := hQ8
    have N8 := Fr.app N0 N8q
    obtain ⟨_, _, ⟨T9, L9, j9, i9⟩, -, X9, ⟨Lc9, hQ9, l9, y9, z9⟩, st9⟩ := Jvm.LawKit.callS X8 hx (y := (⟨cS1, "rangeCheck", "(III)V"⟩ : MethodName)) hown (mvT hZ (own_at hw 67 rfl)) (mvT hZ (own_at hw 68 rfl)) (mvT hZ (own_at hw 65 rfl)) (mvT hZ (own_at hw 69 rfl)) (by decide) (backOf (W := 0) (rm11 l Z a0 hw [] (4096 : Int32) (2 : Int32) (3 : Int32) h0 n0 Z0 (by decide : ¬ ((3 : Int32) < (2 : Int32))) (by decide : ¬ ((2 : Int32) < (0 : Int32))) (by decide : ¬ ((4096 : Int32) < (3 : Int32)))) hZ (own_at hw 69 rfl) (own_at hw 65 rfl) (by decide) (by decide)) (g := (mkF m 13 #[rv r0, iv 1, iv 2, rv r0, iv 2, iv 3, .unset, .unset, .unset] [(.int 3), (.int 2), (.int 4096)])) rfl (by rw [hml]; rfl) (argsL := [(.int 4096), (.int 2), (.int 3)]) (rest := []) (lenOf pd_1 rfl) rfl (Nat.le_refl _) (hb hby d10_13) (fun _ _ => ⟨rfl, e8, (by decide : 0 + 0 ≤ _), (by decide : 0 + 0 ≤ _)⟩)
    dsimp only [Pt.U, Pt.locs, Pt.cells, Pt.slots] at X9 l9 y9 z9 st9 hQ9
    subst l9 y9 z9
    obtain ⟨rfl, N9q, e9⟩ := hQ9
    have N9 := Fr.app N8 N9q
    obtain ⟨_, _, ⟨T10, L10, j10, i10⟩, -, X10, ⟨Lc10, hQ10, l10, y10, z10⟩, st10⟩ := Jvm.LawKit.callS X9 hx (y := (⟨"java/lang/Math", "min", "(II)I"⟩ : MethodName)) hown (mvT hZ (own_at hw 70 rfl)) (mvT hZ (own_at hw 48 rfl)) (mvT hZ (own_at hw 49 rfl)) (mvT hZ (own_at hw 50 rfl)) (by decide) (backOf (W := 4) (rm6_f l Z a0 hw [] (1 : Int32) (1 : Int32) h0 n0 Z0 (by decide : ¬ ((1 : Int32) < (1 : Int32)))) hZ (own_at hw 50 rfl) (own_at hw 49 rfl) (by decide) (by decide)) (g := (mkF m 37 #[rv r0, iv 1, iv 2, rv r0, iv 2, iv 3, iv 1, iv 1, .unset] [(.int 1), (.int 1), (.int 2), (.ref r0), (.int 1), (.ref r0)])) rfl (by rw [hml]; rfl) (argsL := [(.int 1), (.int 1)]) (rest := [(.int 2), (.ref r0), (.int 1), (.ref r0)]) (lenOf pd_2 rfl) rfl (Nat.le_refl _) (hb hby d10_37) (fun _ _ => ⟨rfl, e9, (by decide : 0 + 0 ≤ _), (by decide : 0 + 0 ≤ _)⟩)
    dsimp only [Pt.U, Pt.locs, Pt.cells, Pt.slots] at X10 l10 y10 z10 st10 hQ10
    subst l10 y10 z10
    obtain ⟨rfl, N10q, e10⟩ := hQ10
    have N10 := Fr.app N9 N10q
    obtain ⟨_, _, ⟨T11, L11, j11, i11⟩, -, X11, ⟨Lc11, hQ11, l11, y11, z11⟩, st11⟩ := Jvm.LawKit.callS X10 hx (y := (⟨cS2, "mismatch", "([BI[BII)I"⟩ : MethodName)) hown (mvT hZ (own_at hw 71 rfl)) (mvT hZ (own_at hw 72 rfl)) (mvT hZ (own_at hw 73 rfl)) (mvT hZ (own_at hw 74 rfl)) (by decide) (backOf (W := 0) (rm12_s12n l Z a0 hw [] r0 kA x0 x1 x2 h0 n0 Z0 V_r0 hb1) hZ (own_at hw 74 rfl) (own_at hw 73 rfl) (by decide) (by decide)) (g := (mkF m 40 #[rv r0, iv 1, iv 2, rv r0, iv 2, iv 3, iv 1, iv 1, .unset] [(.int 1), (.int 2), (.ref r0), (.int 1), (.ref r0)])) rfl (by rw [hml]; rfl) (argsL := [(.ref r0), (.int 1), (.ref r0), (.int 2), (.int 1)]) (rest := []) (lenOf pd_3 rfl) rfl (Nat.le_refl _) (hb hby d10_40) (fun _ _ => ⟨rfl, e10, (by decide : 0 + 0 ≤ _), (by decide : 0 + 0 ≤ _)⟩)
    dsimp only [Pt.U, Pt.locs, Pt.cells, Pt.slots] at X11 l11 y11 z11 st11 hQ11
    subst l11 y11 z11
    obtain ⟨rfl, N11q, e11⟩ := hQ11
    have N11 := Fr.app N10 N11q
    have hin12 : ¬ ((1 : Int32) < 0 ∨ cl_z7.slots.size ≤ ((1 : Int32)).toNatClampNeg) := inb_of S_z7 ⟨by decide, by decide⟩
    have hin13 : ¬ ((2 : Int32) < 0 ∨ cl_z7.slots.size ≤ ((2 : Int32)).toNatClampNeg) := inb_of S_z7 ⟨by decide, by decide⟩
    obtain ⟨_, _, ⟨T14, L14, j14, i14⟩, -, X14, ⟨Lc14, hQ14, l14, y14, z14⟩, st14⟩ := Jvm.LawKit.callS X11 hx (y := (⟨"java/lang/Byte", "compareUnsigned", "(BB)I"⟩ : MethodName)) hown (mvT hZ (own_at hw 100 rfl)) (mvT hZ (own_at hw 101 rfl)) (mvT hZ (own_at hw 102 rfl)) (mvT hZ (own_at hw 103 rfl)) (by decide) (backOf (W := 0) (rm19 l Z a0 hw [] x1 x2 h0 n0 Z0 ) hZ (own_at hw 103 rfl) (own_at hw 102 rfl) (by decide) (by decide)) (g := (mkF m 63 #[rv r0, iv 1, iv 2, rv r0, iv 2, iv 3, iv 1, iv 1, iv 0] [(.int x2), (.int x1)])) rfl (by rw [hml]; rfl) (argsL := [(.int x1), (.int x2)]) (rest := []) (lenOf pd_4 rfl) rfl (Nat.le_refl _) (hb hby d10_63) (fun _ _ => ⟨rfl, e11, (by decide : 0 + 0 ≤ _), (by decide : 0 + 0 ≤ _)⟩)
    dsimp only [Pt.U, Pt.locs, Pt.cells, Pt.slots] at X14 l14 y14 z14 st14 hQ14
    subst l14 y14 z14
    obtain ⟨rfl, N14q, e14⟩ := hQ14
    have N14 := Fr.app N11 N14q
    obtain ⟨fs, hr, hrun, hended, hW, hsame⟩ := X14.leave (v := some (.int ((x1 &&& (255 : Int32)) - (x2 &&& (255 : Int32))))) (fun h => by rw [Bd.returns] at h; cases h)
    refine ⟨_, _, k0 _ ?_, hrun, hended, _, _, rfl, ?_, ⟨_, rfl⟩, hW, hsame.mono (by decide) (by decide)⟩
    · show OwnS p e below s₁ (mkF m 0 #[rv r0, iv 1, iv 2, rv r0, iv 2, iv 3, .unset, .unset, .unset] []) _
      refine XS.aloadN X0.here hx rfl (hb hby d10_0) rfl rfl ?_
      refine X0.arraylength hx (by rw [e0]; exact Ar_z7.1) (State.isArrayOf_alike hZ.alike Ar_z7.2.1) (g := (mkF m 1 #[rv r0, iv 1, iv 2, rv r0, iv 2, iv 3, .unset, .unset, .unset] [(.ref r0)])) rfl rfl (hb hby d10_1) _ ?_
      rw [len_of S_z7 N_z7]
      refine XS.iloadN X0.here hx rfl (hb hby d10_2) rfl ?_
      refine XS.iloadN X0.here hx rfl (hb hby d10_3) rfl ?_
      refine st8 _ ?_
      refine XS.aloadN X8.here hx rfl (hb hby d10_7) rfl rfl ?_
      refine X8.arraylength hx (by rw [e8]; exact Ar_z7.1) (State.isArrayOf_alike hZ.alike Ar_z7.2.1) (g := (mkF m 8 #[rv r0, iv 1, iv 2, rv r0, iv 2, iv 3, .unset, .unset, .unset] [(.ref r0)])) rfl rfl (hb hby d10_8) _ ?_
      rw [len_of S_z7 N_z7]
      refine XS.iload X8.here hx rfl (hb hby d10_9) rfl ?_
      refine XS.iload X8.here hx rfl (hb hby d10_11) rfl ?_
      refine st9 _ ?_
      refine XS.iloadN X9.here hx rfl (hb hby d10_16) rfl ?_
      refine XS.iloadN X9.here hx rfl (hb hby d10_17) rfl ?_
      refine XS.isub X9.here hx rfl (hb hby d10_18) rfl ?_
      refine XS.istore X9.here hx rfl (hb hby d10_19) rfl (l' := #[rv r0, iv 1, iv 2, rv r0, iv 2, iv 3, iv 1, .unset, .unset]) rfl ?_
      refine XS.iload X9.here hx rfl (hb hby d10_21) rfl ?_
      refine XS.iload X9.here hx rfl (hb hby d10_23) rfl ?_
      refine XS.isub X9.here hx rfl (hb hby d10_25) rfl ?_
      refine XS.istore X9.here hx rfl (hb hby d10_26) rfl (l' := #[rv r0, iv 1, iv 2, rv r0, iv 2, iv 3, iv 1, iv 1, .unset]) rfl ?_
      refine XS.aloadN X9.here hx rfl (hb hby d10_28) rfl rfl ?_
      refine XS.iloadN X9.here hx rfl (hb hby d10_29) rfl ?_
      refine XS.aloadN X9.here hx rfl (hb hby d10_30) rfl rfl ?_
      refine XS.iload X9.here hx rfl (hb hby d10_31) rfl ?_
      refine XS.iload X9.here hx rfl (hb hby d10_33) rfl ?_
      refine XS.iload X9.here hx rfl (hb hby d10_35) rfl ?_
      refine st10 _ ?_
      refine st11 _ ?_
      refine XS.istore X11.here hx rfl (hb hby d10_43) rfl (l' := #[rv r0, iv 1, iv 2, rv r0, iv 2, iv 3, iv 1, iv 1, iv 0]) rfl ?_
      refine XS.iload X11.here hx rfl (hb hby d10_45) rfl ?_
      refine XS.ifNo X11.here hx rfl (hb hby d10_47) rfl ((if0 _ _).trans (flt (by decide : ¬ ((0 : Int32) < (0 : Int32)))).1) ?_
      refine XS.aloadN X11.here hx rfl (hb hby d10_50) rfl rfl ?_
      refine XS.iloadN X11.here hx rfl (hb hby d10_51) rfl ?_
      refine XS.iload X11.here hx rfl (hb hby d10_52) rfl ?_
      refine XS.iadd X11.here hx rfl (hb hby d10_54) rfl ?_
      refine X11.baloadBytes hx (j := (1 : Int32)) (v := (.int x1)) (by rw [e11]; exact Ar_z7.1) (State.isArrayOf_alike hZ.alike Ar_z7.2.1) Ar_z7.2.2 hin12 (Has.at H_z7 hin12 rfl) (g := (mkF m 55 #[rv r0, iv 1, iv 2, rv r0, iv 2, iv 3, iv 1, iv 1, iv 0] [(.int 1), (.ref r0)])) rfl rfl (hb hby d10_55) _ ?_
      refine XS.aloadN X11.here hx rfl (hb hby d10_56) rfl rfl ?_
      refine XS.iload X11.here hx rfl (hb hby d10_57) rfl ?_
      refine XS.iload X11.here hx rfl (hb hby d10_59) rfl ?_
      refine XS.iadd X11.here hx rfl (hb hby d10_61) rfl ?_
      show OwnS p e below T11 (mkF m 62 #[rv r0, iv 1, iv 2, rv r0, iv 2, iv 3, iv 1, iv 1, iv 0] [(.int 2), (.ref r0), (.int x1)]) _
      refine X11.baloadBytes hx (j := (2 : Int32)) (v := (.int x2)) (by rw [e11]; exact Ar_z7.1) (State.isArrayOf_alike hZ.alike Ar_z7.2.1) Ar_z7.2.2 hin13 (Has.at H_z7 hin13 rfl) (g := (mkF m 62 #[rv r0, iv 1, iv 2, rv r0, iv 2, iv 3, iv 1, iv 1, iv 0] [(.int 2), (.ref r0), (.int x1)])) rfl rfl (hb hby d10_62) _ ?_
      refine st14 _ ?_
      exact retI X14 hx Bd.returns (hb hby d10_66) hr
    · show Q_10_s12 Z r0 kA x0 x1 x2 h0 n0 _ T14.heap _
      rw [e14]
      exact ⟨((x1 &&& (255 : Int32)) - (x2 &&& (255 : Int32))), rfl, N14, rfl, trivial⟩
def Q_12_de (Z : State) (r0 : Addr) (r2 : Addr) (kA : ClassId) (kA2 : ClassId) (y : Int32) (lb : Int32) (h0 : Heap) (n0 : Nat) (v : Option Value) (h : Heap) (L : List Loc) : Prop := v = some (.int (-1)) ∧ Fr n0 L ∧ h = h0
set_option maxRecDepth 65536 in
set_option maxHeartbeats 40000000 in
theorem rm12_de (l : Launch) (Z : State) (a0 : Array Value) (hw : ∀ d ∈ tables_1, d.before a0 Z = true) (ws : List Jvm.Cond) (r0 : Addr) (r2 : Addr) (kA : ClassId) (kA2 : ClassId) (y : Int32) (lb : Int32) (h0 : Heap) (n0 : Nat) (Z0 : n0 ≤ h0.size) (V_r0 : Arv Z h0 r0 kA .byte (1 : Int32) [(.int y)] (.int 0)) (V_r2 : Arv Z h0 r2 kA2 .byte (1 : Int32) [(.int lb)] (.int 0)) (hcmp : y = lb) :
    MetFree l (⟨cS2, "mismatch", "([BI[BII)I"⟩ : MethodName) (head1 (Jvm.Cond.code (⟨cS2, "mismatch", "([BI[BII)I"⟩ : MethodName) jdk_48_method_14_code 8 (some .int) :: ws) ({ frames := 0, cells := 0, slots := 0, locals := 0 } : Room)) (fun a U => a = #[(.ref r0), (.int 0), (.ref r2), (.int 0), (.int 1)] ∧ Z.Warmed39 U.vm ∧ U.heap = h0) (fun _ _ _ _ _ => True) (fun _ U o U' => ∃ v L, o = .returned v ∧ Q_12_de Z r0 r2 kA kA2 y lb h0 n0 v U'.heap L ∧ FrameEnd U o U' L ({ frames := 0, cells := 0, slots := 0, locals := 0 } : Room).cells ({ frames := 0, cells := 0, slots := 0, locals := 0 } : Room).slots) := by
  refine MetFree.of_bodySF (plainFor_of_name pn_jdk_internal_util_ArraysSupport) hisR ?_
  intro p e s m args below meth c s₁ Bd hml0 hP hK
  obtain ⟨rfl, hZ, hh⟩ := hP
  have hx := Bd.exec
  have hby := Bd.bytes
  have hml : c.maxLocals = 8 := hml0
  have hown : s.vm.findClass cS2 = some m.cls := findClass_of_methodNamed Bd.named
  have hnm := (name_of_methodNamed Bd.named Bd.method).1
  have X0 : Stand p l e ({ frames := 0, cells := 0, slots := 0, locals := 0 } : Room) s m #[(.ref r0), (.int 0), (.ref r2), (.int 0), (.int 1)] below meth c s₁ [] 0 0 := Stand.of_body Bd
  have e0 : s₁.heap = h0 := by rw [← hh, Bd.state]; rfl
  have N0 := Fr.nil n0
  have k0 : ∀ t, OwnS p e below s₁ (mkF m 0 #[rv r0, iv 0, rv r2, iv 0, iv 1, .unset, .unset, .unset] []) t → OwnS p e below s₁ (entryFrame m #[(.ref r0), (.int 0), (.ref r2), (.int 0), (.int 1)] 8) t := fun t k => castTop (ef_12 m r0 (0 : Int32) r2 (0 : Int32) (1 : Int32)) k
  obtain ⟨cl_z1, Ar_z1, q_z1, S_z1, N_z1, H_z1, G_z1⟩ := id V_r0
  have hin2 : ¬ ((0 : Int32) < 0 ∨ cl_z1.slots.size ≤ ((0 : Int32)).toNatClampNeg) := inb_of S_z1 ⟨by decide, by decide⟩
  obtain ⟨cl_z3, Ar_z3, q_z3, S_z3, N_z3, H_z3, G_z3⟩ := id V_r2
  have hin4 : ¬ ((0 : Int32) < 0 ∨ cl_z3.slots.size ≤ ((0 : Int32)).toNatClampNeg) := inb_of S_z3 ⟨by decide, by decide⟩
  obtain ⟨fs, hr, hrun, hended, hW, hsame⟩ := X0.leave (v := some (.int (-1))) (fun h => by rw [Bd.returns] at h; cases h)
  refine ⟨_, _, k0 _ ?_, hrun, hended, _, _, rfl, ?_, ⟨_, rfl⟩, hW, hsame.mono (by decide) (by decide)⟩
  · show OwnS p e below s₁ (mkF m 0 #[rv r0, iv 0, rv r2, iv 0, iv 1, .unset, .unset, .unset] []) _
    refine XS.iconst X0.here hx rfl (hb hby d12_0) ?_
    refine XS.istore X0.here hx rfl (hb hby d12_1) rfl (l' := #[rv r0, iv 0, rv r2, iv 0, iv 1, iv 0, .unset, .unset]) rfl ?_
    refine XS.iload X0.here hx rfl (hb hby d12_3) rfl ?_
    refine XS.bipush X0.here hx rfl (hb hby d12_5) ?_
    refine XS.icmpYes X0.here hx rfl (pc0 := 7) (pc' := 70) rfl (hb hby d12_7) rfl (flt (by decide : ¬ ((7 : Int32) < (1 : Int32)))).2.2.2 (by decide) (by decide) ?_
    refine XS.iload X0.here hx rfl (hb hby d12_70) rfl ?_
    refine XS.iload X0.here hx rfl (hb hby d12_72) rfl ?_
    refine XS.icmpNo X0.here hx rfl (hb hby d12_74) rfl (tlt (by decide : (0 : Int32) < (1 : Int32))).2.1 ?_
    refine XS.aloadN X0.here hx rfl (hb hby d12_77) rfl rfl ?_
    refine XS.iloadN X0.here hx rfl (hb hby d12_78) rfl ?_
    refine XS.iload X0.here hx rfl (hb hby d12_79) rfl ?_
    refine XS.iadd X0.here hx rfl (hb hby d12_81) rfl ?_
    refine X0.baloadBytes hx (j := (0 : Int32)) (v := (.int y)) (by rw [e0]; exact Ar_z1.1) (State.isArrayOf_alike hZ.alike Ar_z1.2.1) Ar_z1.2.2 hin2 (Has.at H_z1 hin2 rfl) (g := (mkF m 82 #[rv r0, iv 0, rv r2, iv 0, iv 1, iv 0, .unset, .unset] [(.int 0), (.ref r0)])) rfl rfl (hb hby d12_82) _ ?_
    refine XS.aloadN X0.here hx rfl (hb hby d12_83) rfl rfl ?_
    refine XS.iloadN X0.here hx rfl (hb hby d12_84) rfl ?_
    refine XS.iload X0.here hx rfl (hb hby d12_85) rfl ?_
    refine XS.iadd X0.here hx rfl (hb hby d12_87) rfl ?_
    refine X0.baloadBytes hx (j := (0 : Int32)) (v := (.int lb)) (by rw [e0]; exact Ar_z3.1) (State.isArrayOf_alike hZ.alike Ar_z3.2.1) Ar_z3.2.2 hin4 (Has.at H_z3 hin4 rfl) (g := (mkF m 88 #[rv r0, iv 0, rv r2, iv 0, iv 1, iv 0, .unset, .unset] [(.int 0), (.ref r2), (.int y)])) rfl rfl (hb hby d12_88) _ ?_
    refine XS.icmpYes X0.here hx rfl (pc0 := 89) (pc' := 95) rfl (hb hby d12_89) rfl (teq hcmp).1 (by decide) (by decide) ?_
    refine XS.iinc X0.here hx rfl (hb hby d12_95) rfl (l' := #[rv r0, iv 0, rv r2, iv 0, iv 1, iv ((0 : Int32) + (1 : Int32)), .unset, .unset]) rfl ?_
    refine XS.goto X0.here hx rfl (pc0 := 98) (pc' := 70) rfl (hb hby d12_98) (by decide) (by decide) ?_
    refine XS.iload X0.here hx rfl (hb hby d12_70) rfl ?_
    refine XS.iload X0.here hx rfl (hb hby d12_72) rfl ?_
    refine XS.icmpYes X0.here hx rfl (pc0 := 74) (pc' := 101) rfl (hb hby d12_74) rfl (flt (by decide : ¬ ((1 : Int32) < (1 : Int32)))).2.1 (by decide) (by decide) ?_
    refine XS.iconst X0.here hx rfl (hb hby d12_101) ?_
    exact retI X0 hx Bd.returns (hb hby d12_102) hr
  · show Q_12_de Z r0 r2 kA kA2 y lb h0 n0 _ s₁.heap _
    rw [e0]
    exact ⟨rfl, N0, rfl⟩
def Q_12_dn (Z : State) (r0 : Addr) (r2 : Addr) (kA : ClassId) (kA2 : ClassId) (y : Int32) (lb : Int32) (h0 : Heap) (n0 : Nat) (v : Option Value) (h : Heap) (L : List Loc) : Prop := v = some (.int 0) ∧ Fr n0 L ∧ h = h0
set_option maxRecDepth 65536 in
set_option maxHeartbeats 40000000 in
theorem rm12_dn (l : Launch) (Z : State) (a0 : Array Value) (hw : ∀ d ∈ tables_1, d.before a0 Z = true) (ws : List Jvm.Cond) (r0 : Addr) (r2 : Addr) (kA : ClassId) (kA2 : ClassId) (y : Int32) (lb : Int32) (h0 : Heap) (n0 : Nat) (Z0 : n0 ≤ h0.size) (V_r0 : Arv Z h0 r0 kA .byte (1 : Int32) [(.int y)] (.int 0)) (V_r2 : Arv Z h0 r2 kA2 .byte (1 : Int32) [(.int lb)] (.int 0)) (hcmp : ¬ (y = lb)) :
    MetFree l (⟨cS2, "mismatch", "([BI[BII)I"⟩ : MethodName) (head1 (Jvm.Cond.code (⟨cS2, "mismatch", "([BI[BII)I"⟩ : MethodName) jdk_48_method_14_code 8 (some .int) :: ws) ({ frames := 0, cells := 0, slots := 0, locals := 0 } : Room)) (fun a U => a = #[(.ref r0), (.int 0), (.ref r2), (.int 0), (.int 1)] ∧ Z.Warmed39 U.vm ∧ U.heap = h0) (fun _ _ _ _ _ => True) (fun _ U o U' => ∃ v L, o = .returned v ∧ Q_12_dn Z r0 r2 kA kA2 y lb h0 n0 v U'.heap L ∧ FrameEnd U o U' L ({ frames := 0, cells := 0, slots := 0, locals := 0 } : Room).cells ({ frames := 0, cells := 0, slots := 0, locals := 0 } : Room).slots) := by
  refine MetFree.of_bodySF (plainFor_of_name pn_jdk_internal_util_ArraysSupport) hisR ?_
  intro p e s m args below meth c s₁ Bd hml0 hP hK
  obtain ⟨rfl, hZ, hh⟩ := hP
  have hx := Bd.exec
  have hby := Bd.bytes
  have hml : c.maxLocals = 8 := hml0
  have hown : s.vm.findClass cS2 = some m.cls := findClass_of_methodNamed Bd.named
  have hnm := (name_of_methodNamed Bd.named Bd.method).1
  have X0 : Stand p l e ({ frames := 0, cells := 0, slots := 0, locals := 0 } : Room) s m #[(.ref r0), (.int 0), (.ref r2), (.int 0), (.int 1)] below meth c s₁ [] 0 0 := Stand.of_body Bd
  have e0 : s₁.heap = h0 := by rw [← hh, Bd.state]; rfl
  have N0 := Fr.nil n0
  have k0 : ∀ t, OwnS p e below s₁ (mkF m 0 #[rv r0, iv 0, rv r2, iv 0, iv 1, .unset, .unset, .unset] []) t → OwnS p e below s₁ (entryFrame m #[(.ref r0), (.int 0), (.ref r2), (.int 0), (.int 1)] 8) t := fun t k => castTop (ef_12 m r0 (0 : Int32) r2 (0 : Int32) (1 : Int32)) k
  obtain ⟨cl_z1, Ar_z1, q_z1, S_z1, N_z1, H_z1, G_z1⟩ := id V_r0
  have hin2 : ¬ ((0 : Int32) < 0 ∨ cl_z1.slots.size ≤ ((0 : Int32)).toNatClampNeg) := inb_of S_z1 ⟨by decide, by decide⟩
  obtain ⟨cl_z3, Ar_z3, q_z3, S_z3, N_z3, H_z3, G_z3⟩ := id V_r2
  have hin4 : ¬ ((0 : Int32) < 0 ∨ cl_z3.slots.size ≤ ((0 : Int32)).toNatClampNeg) := inb_of S_z3 ⟨by decide, by decide⟩
  obtain ⟨fs, hr, hrun, hended, hW, hsame⟩ := X0.leave (v := some (.int 0)) (fun h => by rw [Bd.returns] at h; cases h)
  refine ⟨_, _, k0 _ ?_, hrun, hended, _, _, rfl, ?_, ⟨_, rfl⟩, hW, hsame.mono (by decide) (by decide)⟩
  · show OwnS p e below s₁ (mkF m 0 #[rv r0, iv 0, rv r2, iv 0, iv 1, .unset, .unset, .unset] []) _
    refine XS.iconst X0.here hx rfl (hb hby d12_0) ?_
    refine XS.istore X0.here hx rfl (hb hby d12_1) rfl (l' := #[rv r0, iv 0, rv r2, iv 0, iv 1, iv 0, .unset, .unset]) rfl ?_
    refine XS.iload X0.here hx rfl (hb hby d12_3) rfl ?_
    refine XS.bipush X0.here hx rfl (hb hby d12_5) ?_
    refine XS.icmpYes X0.here hx rfl (pc0 := 7) (pc' := 70) rfl (hb hby d12_7) rfl (flt (by decide : ¬ ((7 : Int32) < (1 : Int32)))).2.2.2 (by decide) (by decide) ?_
    refine XS.iload X0.here hx rfl (hb hby d12_70) rfl ?_
    refine XS.iload X0.here hx rfl (hb hby d12_72) rfl ?_
    refine XS.icmpNo X0.here hx rfl (hb hby d12_74) rfl (tlt (by decide : (0 : Int32) < (1 : Int32))).2.1 ?_
    refine XS.aloadN X0.here hx rfl (hb hby d12_77) rfl rfl ?_
    refine XS.iloadN X0.here hx rfl (hb hby d12_78) rfl ?_
    refine XS.iload X0.here hx rfl (hb hby d12_79) rfl ?_
    refine XS.iadd X0.here hx rfl (hb hby d12_81) rfl ?_
    refine X0.baloadBytes hx (j := (0 : Int32)) (v := (.int y)) (by rw [e0]; exact Ar_z1.1) (State.isArrayOf_alike hZ.alike Ar_z1.2.1) Ar_z1.2.2 hin2 (Has.at H_z1 hin2 rfl) (g := (mkF m 82 #[rv r0, iv 0, rv r2, iv 0, iv 1, iv 0, .unset, .unset] [(.int 0), (.ref r0)])) rfl rfl (hb hby d12_82) _ ?_
    refine XS.aloadN X0.here hx rfl (hb hby d12_83) rfl rfl ?_
    refine XS.iloadN X0.here hx rfl (hb hby d12_84) rfl ?_
    refine XS.iload X0.here hx rfl (hb hby d12_85) rfl ?_
    refine XS.iadd X0.here hx rfl (hb hby d12_87) rfl ?_
    refine X0.baloadBytes hx (j := (0 : Int32)) (v := (.int lb)) (by rw [e0]; exact Ar_z3.1) (State.isArrayOf_alike hZ.alike Ar_z3.2.1) Ar_z3.2.2 hin4 (Has.at H_z3 hin4 rfl) (g := (mkF m 88 #[rv r0, iv 0, rv r2, iv 0, iv 1, iv 0, .unset, .unset] [(.int 0), (.ref r2), (.int y)])) rfl rfl (hb hby d12_88) _ ?_
    refine XS.icmpNo X0.here hx rfl (hb hby d12_89) rfl (feq hcmp).1 ?_
    refine XS.iload X0.here hx rfl (hb hby d12_92) rfl ?_
    exact retI X0 hx Bd.returns (hb hby d12_94) hr
  · show Q_12_dn Z r0 r2 kA kA2 y lb h0 n0 _ s₁.heap _
    rw [e0]
    exact ⟨rfl, N0, rfl⟩
def Q_10_d (Z : State) (r0 : Addr) (r3 : Addr) (kA : ClassId) (kA2 : ClassId) (y : Int32) (lb : Int32) (h0 : Heap) (n0 : Nat) (v : Option Value) (h : Heap) (L : List Loc) : Prop := ∃ rr : Int32, v = some (.int rr) ∧ Fr n0 L ∧ h = h0 ∧ True
set_option maxRecDepth 65536 in
set_option maxHeartbeats 40000000 in
theorem rm10_d (l : Launch) (Z : State) (a0 : Array Value) (hw : ∀ d ∈ tables_1, d.before a0 Z = true) (ws : List Jvm.Cond) (r0 : Addr) (r3 : Addr) (kA : ClassId) (kA2 : ClassId) (y : Int32) (lb : Int32) (h0 : Heap) (n0 : Nat) (Z0 : n0 ≤ h0.size) (V_r0 : Arv Z h0 r0 kA .byte (1 : Int32) [(.int y)] (.int 0)) (V_r3 : Arv Z h0 r3 kA2 .byte (1 : Int32) [(.int lb)] (.int 0)) :
    MetFree l (⟨cS1, "compareUnsigned", "([BII[BII)I"⟩ : MethodName) (head1 (Jvm.Cond.code (⟨cS1, "compareUnsigned", "([BII[BII)I"⟩ : MethodName) jdk_65_method_202_code 9 (some .int) :: ws) ({ frames := 2, cells := 0, slots := 0, locals := 26 } : Room)) (fun a U => a = #[(.ref r0), (.int 0), (.int 1), (.ref r3), (.int 0), (.int 1)] ∧ Z.Warmed39 U.vm ∧ U.heap = h0) (fun _ _ _ _ _ => True) (fun _ U o U' => ∃ v L, o = .returned v ∧ Q_10_d Z r0 r3 kA kA2 y lb h0 n0 v U'.heap L ∧ FrameEnd U o U' L ({ frames := 2, cells := 0, slots := 0, locals := 26 } : Room).cells ({ frames := 2, cells := 0, slots := 0, locals := 26 } : Room).slots) := by
  refine MetFree.of_bodySF (plainFor_of_name pn_java_util_Arrays) hisR ?_
  intro p e s m args below meth c s₁ Bd hml0 hP hK
  obtain ⟨rfl, hZ, hh⟩ := hP
  have hx := Bd.exec
  have hby := Bd.bytes
  have hml : c.maxLocals = 9 := hml0
  have hown : s.vm.findClass cS1 = some m.cls := findClass_of_methodNamed Bd.named
  have hnm := (name_of_methodNamed Bd.named Bd.method).1
  have X0 : Stand p l e ({ frames := 2, cells := 0, slots := 0, locals := 26 } : Room) s m #[(.ref r0), (.int 0), (.int 1), (.ref r3), (.int 0), (.int 1)] below meth c s₁ [] 0 0 := Stand.of_body Bd
  have e0 : s₁.heap = h0 := by rw [← hh, Bd.state]; rfl
  have N0 := Fr.nil n0
  have k0 : ∀ t, OwnS p e below s₁ (mkF m 0 #[rv r0, iv 0, iv 1, rv r3, iv 0, iv 1, .unset, .unset, .unset] []) t → OwnS p e below s₁ (entryFrame m #[(.ref r0), (.int 0), (.int 1), (.ref r3), (.int 0), (.int 1)] 9) t := fun t k => castTop (ef_10 m r0 (0 : Int32) (1 : Int32) r3 (0 : Int32) (1 : Int32)) k
  by_cases hb1 : y = lb
  · obtain ⟨cl_z2, Ar_z2, q_z2, S_z2, N_z2, H_z2, G_z2⟩ := id V_r0
    obtain ⟨_, _, ⟨T3, L3, j3, i3⟩, -, X3, ⟨Lc3, hQ3, l3, y3, z3⟩, st3⟩ := Jvm.LawKit.callS X0 hx (y := (⟨cS1, "rangeCheck", "(III)V"⟩ : MethodName)) hown (mvT hZ (own_at hw 67 rfl)) (mvT hZ (own_at hw 68 rfl)) (mvT hZ (own_at hw 65 rfl)) (mvT hZ (own_at hw 69 rfl)) (by decide) (backOf (W := 0) (rm11 l Z a0 hw [] (1 : Int32) (0 : Int32) (1 : Int32) h0 n0 Z0 (by decide : ¬ ((1 : Int32) < (0 : Int32))) (by decide : ¬ ((0 : Int32) < (0 : Int32))) (by decide : ¬ ((1 : Int32) < (1 : Int32)))) hZ (own_at hw 69 rfl) (own_at hw 65 rfl) (by decide) (by decide)) (g := (mkF m 4 #[rv r0, iv 0, iv 1, rv r3, iv 0, iv 1, .unset, .unset, .unset] [(.int 1), (.int 0), (.int 1)])) rfl (by rw [hml]; rfl) (argsL := [(.int 1), (.int 0), (.int 1)]) (rest := []) (lenOf pd_1 rfl) rfl (Nat.le_refl _) (hb hby d10_4) (fun _ _ => ⟨rfl, e0, (by decide : 0 + 0 ≤ _), (by decide : 0 + 0 ≤ _)⟩)
    dsimp only [Pt.U, Pt.locs, Pt.cells, Pt.slots] at X3 l3 y3 z3 st3 hQ3
    subst l3 y3 z3
    obtain ⟨rfl, N3q, e3⟩ := hQ3
    have N3 := Fr.app N0 N3q
    obtain ⟨cl_z4, Ar_z4, q_z4, S_z4, N_z4, H_z4, G_z4⟩ := id V_r3
    obtain ⟨_, _, ⟨T5, L5, j5, i5⟩, -, X5, ⟨Lc5, hQ5, l5, y5, z5⟩, st5⟩ := Jvm.LawKit.callS X3 hx (y := (⟨cS1, "rangeCheck", "(III)V"⟩ : MethodName)) hown (mvT hZ (own_at hw 67 rfl)) (mvT hZ (own_at hw 68 rfl)) (mvT hZ (own_at hw 65 rfl)) (mvT hZ (own_at hw 69 rfl)) (by decide) (backOf (W := 0) (rm11 l Z a0 hw [] (1 : Int32) (0 : Int32) (1 : Int32) h0 n0 Z0 (by decide : ¬ ((1 : Int32) < (0 : Int32))) (by decide : ¬ ((0 : Int32) < (0 : Int32))) (by decide : ¬ ((1 : Int32) < (1 : Int32)))) hZ (own_at hw 69 rfl) (own_at hw 65 rfl) (by decide) (by decide)) (g := (mkF m 13 #[rv r0, iv 0, iv 1, rv r3, iv 0, iv 1, .unset, .unset, .unset] [(.int 1), (.int 0), (.int 1)])) rfl (by rw [hml]; rfl) (argsL := [(.int 1), (.int 0), (.int 1)]) (rest := []) (lenOf pd_1 rfl) rfl (Nat.le_refl _) (hb hby d10_13) (fun _ _ => ⟨rfl, e3, (by decide : 0 + 0 ≤ _), (by decide : 0 + 0 ≤ _)⟩)
    dsimp only [Pt.U, Pt.locs, Pt.cells, Pt.slots] at X5 l5 y5 z5 st5 hQ5
    subst l5 y5 z5
    obtain ⟨rfl, N5q, e5⟩ := hQ5
    have N5 := Fr.app N3 N5q
    obtain ⟨_, _, ⟨T6, L6, j6, i6⟩, -, X6, ⟨Lc6, hQ6, l6, y6, z6⟩, st6⟩ := Jvm.LawKit.callS X5 hx (y := (⟨"java/lang/Math", "min", "(II)I"⟩ : MethodName)) hown (mvT hZ (own_at hw 70 rfl)) (mvT hZ (own_at hw 48 rfl)) (mvT hZ (own_at hw 49 rfl)) (mvT hZ (own_at hw 50 rfl)) (by decide) (backOf (W := 4) (rm6_f l Z a0 hw [] (1 : Int32) (1 : Int32) h0 n0 Z0 (by decide : ¬ ((1 : Int32) < (1 : Int32)))) hZ (own_at hw 50 rfl) (own_at hw 49 rfl) (by decide) (by decide)) (g := (mkF m 37 #[rv r0, iv 0, iv 1, rv r3, iv 0, iv 1, iv 1, iv 1, .unset] [(.int 1), (.int 1), (.int 0), (.ref r3), (.int 0), (.ref r0)])) rfl (by rw [hml]; rfl) (argsL := [(.int 1), (.int 1)]) (rest := [(.int 0), (.ref r3), (.int 0), (.ref r0)]) (lenOf pd_2 rfl) rfl (Nat.le_refl _) (hb hby d10_37) (fun _ _ => ⟨rfl, e5, (by decide : 0 + 0 ≤ _), (by decide : 0 + 0 ≤ _)⟩)
    dsimp only [Pt.U, Pt.locs, Pt.cells, Pt.slots] at X6 l6 y6 z6 st6 hQ6
    subst l6 y6 z6
    obtain ⟨rfl, N6q, e6⟩ := hQ6
    have N6 := Fr.app N5 N6q
    obtain ⟨_, _, ⟨T7, L7, j7, i7⟩, -, X7, ⟨Lc7, hQ7, l7, y7, z7⟩, st7⟩ := Jvm.LawKit.callS X6 hx (y := (⟨cS2, "mismatch", "([BI[BII)I"⟩ : MethodName)) hown (mvT hZ (own_at hw 71 rfl)) (mvT hZ (own_at hw 72 rfl)) (mvT hZ (own_at hw 73 rfl)) (mvT hZ (own_at hw 74 rfl)) (by decide) (backOf (W := 0) (rm12_de l Z a0 hw [] r0 r3 kA kA2 y lb h0 n0 Z0 V_r0 V_r3 hb1) hZ (own_at hw 74 rfl) (own_at hw 73 rfl) (by decide) (by decide)) (g := (mkF m 40 #[rv r0, iv 0, iv 1, rv r3, iv 0, iv 1, iv 1, iv 1, .unset] [(.int 1), (.int 0), (.ref r3), (.int 0), (.ref r0)])) rfl (by rw [hml]; rfl) (argsL := [(.ref r0), (.int 0), (.ref r3), (.int 0), (.int 1)]) (rest := []) (lenOf pd_3 rfl) rfl (Nat.le_refl _) (hb hby d10_40) (fun _ _ => ⟨rfl, e6, (by decide : 0 + 0 ≤ _), (by decide : 0 + 0 ≤ _)⟩)
    dsimp only [Pt.U, Pt.locs, Pt.cells, Pt.slots] at X7 l7 y7 z7 st7 hQ7
    subst l7 y7 z7
    obtain ⟨rfl, N7q, e7⟩ := hQ7
    have N7 := Fr.app N6 N7q
    obtain ⟨fs, hr, hrun, hended, hW, hsame⟩ := X7.leave (v := some (.int 0)) (fun h => by rw [Bd.returns] at h; cases h)
    refine ⟨_, _, k0 _ ?_, hrun, hended, _, _, rfl, ?_, ⟨_, rfl⟩, hW, hsame.mono (by decide) (by decide)⟩
    · show OwnS p e below s₁ (mkF m 0 #[rv r0, iv 0, iv 1, rv r3, iv 0, iv 1, .unset, .unset, .unset] []) _
      refine XS.aloadN X0.here hx rfl (hb hby d10_0) rfl rfl ?_
      refine X0.arraylength hx (by rw [e0]; exact Ar_z2.1) (State.isArrayOf_alike hZ.alike Ar_z2.2.1) (g := (mkF m 1 #[rv r0, iv 0, iv 1, rv r3, iv 0, iv 1, .unset, .unset, .unset] [(.ref r0)])) rfl rfl (hb hby d10_1) _ ?_
      rw [len_of S_z2 N_z2]
      refine XS.iloadN X0.here hx rfl (hb hby d10_2) rfl ?_
      refine XS.iloadN X0.here hx rfl (hb hby d10_3) rfl ?_
      refine st3 _ ?_
      refine XS.aloadN X3.here hx rfl (hb hby d10_7) rfl rfl ?_
      refine X3.arraylength hx (by rw [e3]; exact Ar_z4.1) (State.isArrayOf_alike hZ.alike Ar_z4.2.1) (g := (mkF m 8 #[rv r0, iv 0, iv 1, rv r3, iv 0, iv 1, .unset, .unset, .unset] [(.ref r3)])) rfl rfl (hb hby d10_8) _ ?_
      rw [len_of S_z4 N_z4]
      refine XS.iload X3.here hx rfl (hb hby d10_9) rfl ?_
      refine XS.iload X3.here hx rfl (hb hby d10_11) rfl ?_
      refine st5 _ ?_
      refine XS.iloadN X5.here hx rfl (hb hby d10_16) rfl ?_
      refine XS.iloadN X5.here hx rfl (hb hby d10_17) rfl ?_
      refine XS.isub X5.here hx rfl (hb hby d10_18) rfl ?_
      refine XS.istore X5.here hx rfl (hb hby d10_19) rfl (l' := #[rv r0, iv 0, iv 1, rv r3, iv 0, iv 1, iv 1, .unset, .unset]) rfl ?_
      refine XS.iload X5.here hx rfl (hb hby d10_21) rfl ?_
      refine XS.iload X5.here hx rfl (hb hby d10_23) rfl ?_
      refine XS.isub X5.here hx rfl (hb hby d10_25) rfl ?_
      refine XS.istore X5.here hx rfl (hb hby d10_26) rfl (l' := #[rv r0, iv 0, iv 1, rv r3, iv 0, iv 1, iv 1, iv 1, .unset]) rfl ?_
      refine XS.aloadN X5.here hx rfl (hb hby d10_28) rfl rfl ?_
      refine XS.iloadN X5.here hx rfl (hb hby d10_29) rfl ?_
      refine XS.aloadN X5.here hx rfl (hb hby d10_30) rfl rfl ?_
      refine XS.iload X5.here hx rfl (hb hby d10_31) rfl ?_
      refine XS.iload X5.here hx rfl (hb hby d10_33) rfl ?_
      refine XS.iload X5.here hx rfl (hb hby d10_35) rfl ?_
      refine st6 _ ?_
      refine st7 _ ?_
      refine XS.istore X7.here hx rfl (hb hby d10_43) rfl (l' := #[rv r0, iv 0, iv 1, rv r3, iv 0, iv 1, iv 1, iv 1, iv (-1 : Int32)]) rfl ?_
      refine XS.iload X7.here hx rfl (hb hby d10_45) rfl ?_
      refine XS.ifYes X7.here hx rfl (pc0 := 47) (pc' := 67) rfl (hb hby d10_47) rfl ((if0 _ _).trans (tlt (by decide : (-1 : Int32) < (0 : Int32))).1) (by decide) (by decide) ?_
      refine XS.iload X7.here hx rfl (hb hby d10_67) rfl ?_
      refine XS.iload X7.here hx rfl (hb hby d10_69) rfl ?_
      refine XS.isub X7.here hx rfl (hb hby d10_71) rfl ?_
      exact retI X7 hx Bd.returns (hb hby d10_72) hr
    · show Q_10_d Z r0 r3 kA kA2 y lb h0 n0 _ T7.heap _
      rw [e7]
      exact ⟨(0 : Int32), rfl, N7, rfl, trivial⟩
  · obtain ⟨cl_z8, Ar_z8, q_z8, S_z8, N_z8, H_z8, G_z8⟩ := id V_r0
    obtain ⟨_, _, ⟨T9, L9, j9, i9⟩, -, X9, ⟨Lc9, hQ9, l9, y9, z9⟩, st9⟩ := Jvm.LawKit.callS X0 hx (y := (⟨cS1, "rangeCheck", "(III)V"⟩ : MethodName)) hown (mvT hZ (own_at hw 67 rfl)) (mvT hZ (own_at hw 68 rfl)) (mvT hZ (own_at hw 65 rfl)) (mvT hZ (own_at hw 69 rfl)) (by decide) (backOf (W := 0) (rm11 l Z a0 hw [] (1 : Int32) (0 : Int32) (1 : Int32) h0 n0 Z0 (by decide : ¬ ((1 : Int32) < (0 : Int32))) (by decide : ¬ ((0 : Int32) < (0 : Int32))) (by decide : ¬ ((1 : Int32) < (1 : Int32)))) hZ (own_at hw 69 rfl) (own_at hw 65 rfl) (by decide) (by decide)) (g := (mkF m 4 #[rv r0, iv 0, iv 1, rv r3, iv 0, iv 1, .unset, .unset, .unset] [(.int 1), (.int 0), (.int 1)])) rfl (by rw [hml]; rfl) (argsL := [(.int 1), (.int 0), (.int 1)]) (rest := []) (lenOf pd_1 rfl) rfl (Nat.le_refl _) (hb hby d10_4) (fun _ _ => ⟨rfl, e0, (by decide : 0 + 0 ≤ _), (by decide : 0 + 0 ≤ _)⟩)
    dsimp only [Pt.U, Pt.locs, Pt.cells, Pt.slots] at X9 l9 y9 z9 st9 hQ9
    subst l9 y9 z9
    obtain ⟨rfl, N9q, e9⟩ := hQ9
    have N9 := Fr.app N0 N9q
    obtain ⟨cl_z10, Ar_z10, q_z10, S_z10, N_z10, H_z10, G_z10⟩ := id V_r3
    obtain ⟨_, _, ⟨T11, L11, j11, i11⟩, -, X11, ⟨Lc11, hQ11, l11, y11, z11⟩, st11⟩ := Jvm.LawKit.callS X9 hx (y := (⟨cS1, "rangeCheck", "(III)V"⟩ : MethodName)) hown (mvT hZ (own_at hw 67 rfl)) (mvT hZ (own_at hw 68 rfl)) (mvT hZ (own_at hw 65 rfl)) (mvT hZ (own_at hw 69 rfl)) (by decide) (backOf (W := 0) (rm11 l Z a0 hw [] (1 : Int32) (0 : Int32) (1 : Int32) h0 n0 Z0 (by decide : ¬ ((1 : Int32) < (0 : Int32))) (by decide : ¬ ((0 : Int32) < (0 : Int32))) (by decide : ¬ ((1 : Int32) < (1 : Int32)))) hZ (own_at hw 69 rfl) (own_at hw 65 rfl) (by decide) (by decide)) (g := (mkF m 13 #[rv r0, iv 0, iv 1, rv r3, iv 0, iv 1, .unset, .unset, .unset] [(.int 1), (.int 0), (.int 1)])) rfl (by rw [hml]; rfl) (argsL := [(.int 1), (.int 0), (.int 1)]) (rest := []) (lenOf pd_1 rfl) rfl (Nat.le_refl _) (hb hby d10_13) (fun _ _ => ⟨rfl, e9, (by decide : 0 + 0 ≤ _), (by decide : 0 + 0 ≤ _)⟩)
    dsimp only [Pt.U, Pt.locs, Pt.cells, Pt.slots] at X11 l11 y11 z11 st11 hQ11
    subst l11 y11 z11
    obtain ⟨rfl, N11q, e11⟩ := hQ11
    have N11 := Fr.app N9 N11q
    obtain ⟨_, _, ⟨T12, L12, j12, i12⟩, -, X12, ⟨Lc12, hQ12, l12, y12, z12⟩, st12⟩ := Jvm.LawKit.callS X11 hx (y := (⟨"java/lang/Math", "min", "(II)I"⟩ : MethodName)) hown (mvT hZ (own_at hw 70 rfl)) (mvT hZ (own_at hw 48 rfl)) (mvT hZ (own_at hw 49 rfl)) (mvT hZ (own_at hw 50 rfl)) (by decide) (backOf (W := 4) (rm6_f l Z a0 hw [] (1 : Int32) (1 : Int32) h0 n0 Z0 (by decide : ¬ ((1 : Int32) < (1 : Int32)))) hZ (own_at hw 50 rfl) (own_at hw 49 rfl) (by decide) (by decide)) (g := (mkF m 37 #[rv r0, iv 0, iv 1, rv r3, iv 0, iv 1, iv 1, iv 1, .unset] [(.int 1), (.int 1), (.int 0), (.ref r3), (.int 0), (.ref r0)])) rfl (by rw [hml]; rfl) (argsL := [(.int 1), (.int 1)]) (rest := [(.int 0), (.ref r3), (.int 0), (.ref r0)]) (lenOf pd_2 rfl) rfl (Nat.le_refl _) (hb hby d10_37) (fun _ _ => ⟨rfl, e11, (by decide : 0 + 0 ≤ _), (by decide : 0 + 0 ≤ _)⟩)
    dsimp only [Pt.U, Pt.locs, Pt.cells, Pt.slots] at X12 l12 y12 z12 st12 hQ12
    subst l12 y12 z12
    obtain ⟨rfl, N12q, e12⟩ := hQ12
    have N12 := Fr.app N11 N12q
    obtain ⟨_, _, ⟨T13, L13, j13, i13⟩, -, X13, ⟨Lc13, hQ13, l13, y13, z13⟩, st13⟩ := Jvm.LawKit.callS X12 hx (y := (⟨cS2, "mismatch", "([BI[BII)I"⟩ : MethodName)) hown (mvT hZ (own_at hw 71 rfl)) (mvT hZ (own_at hw 72 rfl)) (mvT hZ (own_at hw 73 rfl)) (mvT hZ (own_at hw 74 rfl)) (by decide) (backOf (W := 0) (rm12_dn l Z a0 hw [] r0 r3 kA kA2 y lb h0 n0 Z0 V_r0 V_r3 hb1) hZ (own_at hw 74 rfl) (own_at hw 73 rfl) (by decide) (by decide)) (g := (mkF m 40 #[rv r0, iv 0, iv 1, rv r3, iv 0, iv 1, iv 1, iv 1, .unset] [(.int 1), (.int 0), (.ref r3), (.int 0), (.ref r0)])) rfl (by rw [hml]; rfl) (argsL := [(.ref r0), (.int 0), (.ref r3), (.int 0), (.int 1)]) (rest := []) (lenOf pd_3 rfl) rfl (Nat.le_refl _) (hb hby d10_40) (fun _ _ => ⟨rfl, e12, (by decide : 0 + 0 ≤ _), (by decide : 0 + 0 ≤ _)⟩)
    dsimp only [Pt.U, Pt.locs, Pt.cells, Pt.slots] at X13 l13 y13 z13 st13 hQ13
    subst l13 y13 z13
    obtain ⟨rfl, N13q, e13⟩ := hQ13
    have N13 := Fr.app N12 N13q
    have hin14 : ¬ ((0 : Int32) < 0 ∨ cl_z8.slots.size ≤ ((0 : Int32)).toNatClampNeg) := inb_of S_z8 ⟨by decide, by decide⟩
    have hin15 : ¬ ((0 : Int32) < 0 ∨ cl_z10.slots.size ≤ ((0 : Int32)).toNatClampNeg) := inb_of S_z10 ⟨by decide, by decide⟩
    obtain ⟨_, _, ⟨T16, L16, j16, i16⟩, -, X16, ⟨Lc16, hQ16, l16, y16, z16⟩, st16⟩ := Jvm.LawKit.callS X13 hx (y := (⟨"java/lang/Byte", "compareUnsigned", "(BB)I"⟩ : MethodName)) hown (mvT hZ (own_at hw 100 rfl)) (mvT hZ (own_at hw 101 rfl)) (mvT hZ (own_at hw 102 rfl)) (mvT hZ (own_at hw 103 rfl)) (by decide) (backOf (W := 0) (rm19 l Z a0 hw [] y lb h0 n0 Z0 ) hZ (own_at hw 103 rfl) (own_at hw 102 rfl) (by decide) (by decide)) (g := (mkF m 63 #[rv r0, iv 0, iv 1, rv r3, iv 0, iv 1, iv 1, iv 1, iv 0] [(.int lb), (.int y)])) rfl (by rw [hml]; rfl) (argsL := [(.int y), (.int lb)]) (rest := []) (lenOf pd_4 rfl) rfl (Nat.le_refl _) (hb hby d10_63) (fun _ _ => ⟨rfl, e13, (by decide : 0 + 0 ≤ _), (by decide : 0 + 0 ≤ _)⟩)
    dsimp only [Pt.U, Pt.locs, Pt.cells, Pt.slots] at X16 l16 y16 z16 st16 hQ16
    subst l16 y16 z16
    obtain ⟨rfl, N16q, e16⟩ := hQ16
    have N16 := Fr.app N13 N16q
    obtain ⟨fs, hr, hrun, hended, hW, hsame⟩ := X16.leave (v := some (.int ((y &&& (255 : Int32)) - (lb &&& (255 : Int32))))) (fun h => by rw [Bd.returns] at h; cases h)
    refine ⟨_, _, k0 _ ?_, hrun, hended, _, _, rfl, ?_, ⟨_, rfl⟩, hW, hsame.mono (by decide) (by decide)⟩
    · show OwnS p e below s₁ (mkF m 0 #[rv r0, iv 0, iv 1, rv r3, iv 0, iv 1, .unset, .unset, .unset] []) _
      refine XS.aloadN X0.here hx rfl (hb hby d10_0) rfl rfl ?_
      refine X0.arraylength hx (by rw [e0]; exact Ar_z8.1) (State.isArrayOf_alike hZ.alike Ar_z8.2.1) (g := (mkF m 1 #[rv r0, iv 0, iv 1, rv r3, iv 0, iv 1, .unset, .unset, .unset] [(.ref r0)])) rfl rfl (hb hby d10_1) _ ?_
      rw [len_of S_z8 N_z8]
      refine XS.iloadN X0.here hx rfl (hb hby d10_2) rfl ?_
      refine XS.iloadN X0.here hx rfl (hb hby d10_3) rfl ?_
      refine st9 _ ?_
      refine XS.aloadN X9.here hx rfl (hb hby d10_7) rfl rfl ?_
      refine X9.arraylength hx (by rw [e9]; exact Ar_z10.1) (State.isArrayOf_alike hZ.alike Ar_z10.2.1) (g := (mkF m 8 #[rv r0, iv 0, iv 1, rv r3, iv 0, iv 1, .unset, .unset, .unset] [(.ref r3)])) rfl rfl (hb hby d10_8) _ ?_
      rw [len_of S_z10 N_z10]
      refine XS.iload X9.here hx rfl (hb hby d10_9) rfl ?_
      refine XS.iload X9.here hx rfl (hb hby d10_11) rfl ?_
      refine st11 _ ?_
      refine XS.iloadN X11.here hx rfl (hb hby d10_16) rfl ?_
      refine XS.iloadN X11.here hx rfl (hb hby d10_17) rfl ?_
      refine XS.isub X11.here hx rfl (hb hby d10_18) rfl ?_
      refine XS.istore X11.here hx rfl (hb hby d10_19) rfl (l' := #[rv r0, iv 0, iv 1, rv r3, iv 0, iv 1, iv 1, .unset, .unset]) rfl ?_
      refine XS.iload X11.here hx rfl (hb hby d10_21) rfl ?_
      refine XS.iload X11.here hx rfl (hb hby d10_23) rfl ?_
      refine XS.isub X11.here hx rfl (hb hby d10_25) rfl ?_
      refine XS.istore X11.here hx rfl (hb hby d10_26) rfl (l' := #[rv r0, iv 0, iv 1, rv r3, iv 0, iv 1, iv 1, iv 1, .unset]) rfl ?_
      refine XS.aloadN X11.here hx rfl (hb hby d10_28) rfl rfl ?_
      refine XS.iloadN X11.here hx rfl (hb hby d10_29) rfl ?_
      refine XS.aloadN X11.here hx rfl (hb hby d10_30) rfl rfl ?_
      refine XS.iload X11.here hx rfl (hb hby d10_31) rfl ?_
      refine XS.iload X11.here hx rfl (hb hby d10_33) rfl ?_
      refine XS.iload X11.here hx rfl (hb hby d10_35) rfl ?_
      refine st12 _ ?_
      refine st13 _ ?_
      refine XS.istore X13.here hx rfl (hb hby d10_43) rfl (l' := #[rv r0, iv 0, iv 1, rv r3, iv 0, iv 1, iv 1, iv 1, iv 0]) rfl ?_
      refine XS.iload X13.here hx rfl (hb hby d10_45) rfl ?_
      refine XS.ifNo X13.here hx rfl (hb hby d10_47) rfl ((if0 _ _).trans (flt (by decide : ¬ ((0 : Int32) < (0 : Int32)))).1) ?_
      refine XS.aloadN X13.here hx rfl (hb hby d10_50) rfl rfl ?_
      refine XS.iloadN X13.here hx rfl (hb hby d10_51) rfl ?_
      refine XS.iload X13.here hx rfl (hb hby d10_52) rfl ?_
      refine XS.iadd X13.here hx rfl (hb hby d10_54) rfl ?_
      refine X13.baloadBytes hx (j := (0 : Int32)) (v := (.int y)) (by rw [e13]; exact Ar_z8.1) (State.isArrayOf_alike hZ.alike Ar_z8.2.1) Ar_z8.2.2 hin14 (Has.at H_z8 hin14 rfl) (g := (mkF m 55 #[rv r0, iv 0, iv 1, rv r3, iv 0, iv 1, iv 1, iv 1, iv 0] [(.int 0), (.ref r0)])) rfl rfl (hb hby d10_55) _ ?_
      refine XS.aloadN X13.here hx rfl (hb hby d10_56) rfl rfl ?_
      refine XS.iload X13.here hx rfl (hb hby d10_57) rfl ?_
      refine XS.iload X13.here hx rfl (hb hby d10_59) rfl ?_
      refine XS.iadd X13.here hx rfl (hb hby d10_61) rfl ?_
      show OwnS p e below T13 (mkF m 62 #[rv r0, iv 0, iv 1, rv r3, iv 0, iv 1, iv 1, iv 1, iv 0] [(.int 0), (.ref r3), (.int y)]) _
      refine X13.baloadBytes hx (j := (0 : Int32)) (v := (.int lb)) (by rw [e13]; exact Ar_z10.1) (State.isArrayOf_alike hZ.alike Ar_z10.2.1) Ar_z10.2.2 hin15 (Has.at H_z10 hin15 rfl) (g := (mkF m 62 #[rv r0, iv 0, iv 1, rv r3, iv 0, iv 1, iv 1, iv 1, iv 0] [(.int 0), (.ref r3), (.int y)])) rfl rfl (hb hby d10_62) _ ?_
      refine st16 _ ?_
      exact retI X16 hx Bd.returns (hb hby d10_66) hr
    · show Q_10_d Z r0 r3 kA kA2 y lb h0 n0 _ T16.heap _
      rw [e16]
      exact ⟨((y &&& (255 : Int32)) - (lb &&& (255 : Int32))), rfl, N16, rfl, trivial⟩
theorem d9_0 : decode prog_6_method_11_code 0 = .ok (.iload_n 1, 1) := by decide +kernel
theorem d9_1 : decode prog_6_method_11_code 1 = .ok (.iconst 1, 1) := by decide +kernel
theorem d9_2 : decode prog_6_method_11_code 2 = .ok (.iadd, 1) := by decide +kernel
theorem d9_3 : decode prog_6_method_11_code 3 = .ok (.aload_n 0, 1) := by decide +kernel
theorem d9_4 : decode prog_6_method_11_code 4 = .ok (.getfield 30, 3) := by decide +kernel
theorem d9_7 : decode prog_6_method_11_code 7 = .ok (.if_icmp .ge 14, 3) := by decide +kernel
theorem d9_10 : decode prog_6_method_11_code 10 = .ok (.aload_n 0, 1) := by decide +kernel
theorem d9_11 : decode prog_6_method_11_code 11 = .ok (.getfield 13, 3) := by decide +kernel
theorem d9_14 : decode prog_6_method_11_code 14 = .ok (.iload_n 1, 1) := by decide +kernel
theorem d9_15 : decode prog_6_method_11_code 15 = .ok (.iconst 1, 1) := by decide +kernel
theorem d9_16 : decode prog_6_method_11_code 16 = .ok (.iadd, 1) := by decide +kernel
theorem d9_17 : decode prog_6_method_11_code 17 = .ok (.iaload, 1) := by decide +kernel
theorem d9_18 : decode prog_6_method_11_code 18 = .ok (.goto 7, 3) := by decide +kernel
theorem d9_25 : decode prog_6_method_11_code 25 = .ok (.ireturn, 1) := by decide +kernel
theorem ef_9 (m : MethodId) (x0 : Addr) (x1 : Int32) : entryFrame m #[(.ref x0), (.int x1)] 2 = mkF m 0 #[.val (.ref x0), .val (.int x1)] [] := by first | (simp [entryFrame, mkF, argsToLocals, Value.category]; done) | rfl
def Q_9_0 (Z : State) (r0 : Addr) (sA : Addr) (kS : ClassId) (h0 : Heap) (n0 : Nat) (v : Option Value) (h : Heap) (L : List Loc) : Prop := v = some (.int 1) ∧ Fr n0 L ∧ h = h0
set_option maxRecDepth 65536 in
set_option maxHeartbeats 40000000 in
theorem rm9_0 (l : Launch) (Z : State) (a0 : Array Value) (hw : ∀ d ∈ tables_1, d.before a0 Z = true) (ws : List Jvm.Cond) (r0 : Addr) (sA : Addr) (kS : ClassId) (h0 : Heap) (n0 : Nat) (Z0 : n0 ≤ h0.size) (E_r0 : Exa Z h0 r0 cS0) (F_count_r0 : Fld Z h0 r0 cS0 "count" "I" (.int 3)) (F_used_r0 : Fld Z h0 r0 cS0 "used" "I" (.int 3)) (F_starts_r0 : Fld Z h0 r0 cS0 "starts" "[I" (.ref sA)) (V_sA : Arv Z h0 sA kS .int (256 : Int32) [(.int 0), (.int 1), (.int 2)] (.int 0)) :
    MetFree l (⟨cS0, "end", "(I)I"⟩ : MethodName) (head1 (Jvm.Cond.code (⟨cS0, "end", "(I)I"⟩ : MethodName) prog_6_method_11_code 2 (some .int) :: ws) ({ frames := 0, cells := 0, slots := 0, locals := 0 } : Room)) (fun a U => a = #[(.ref r0), (.int 0)] ∧ Z.Warmed39 U.vm ∧ U.heap = h0) (fun _ _ _ _ _ => True) (fun _ U o U' => ∃ v L, o = .returned v ∧ Q_9_0 Z r0 sA kS h0 n0 v U'.heap L ∧ FrameEnd U o U' L ({ frames := 0, cells := 0, slots := 0, locals := 0 } : Room).cells ({ frames := 0, cells := 0, slots := 0, locals := 0 } : Room).slots) := by
  refine MetFree.of_bodySF (plainFor_of_name pn_com_example_measurewright_measurewright_cli_NameBatch) hisR ?_
  intro p e s m args below meth c s₁ Bd hml0 hP hK
  obtain ⟨rfl, hZ, hh⟩ := hP
  have hx := Bd.exec
  have hby := Bd.bytes
  have hml : c.maxLocals = 2 := hml0
  have hown : s.vm.findClass cS0 = some m.cls := findClass_of_methodNamed Bd.named
  have hnm := (name_of_methodNamed Bd.named Bd.method).1
  have X0 : Stand p l e ({ frames := 0, cells := 0, slots := 0, locals := 0 } : Room) s m #[(.ref r0), (.int 0)] below meth c s₁ [] 0 0 := Stand.of_body Bd
  have e0 : s₁.heap = h0 := by rw [← hh, Bd.state]; rfl
  have N0 := Fr.nil n0
  have k0 : ∀ t, OwnS p e below s₁ (mkF m 0 #[rv r0, iv 0] []) t → OwnS p e below s₁ (entryFrame m #[(.ref r0), (.int 0)] 2) t := fun t k => castTop (ef_9 m r0 (0 : Int32)) k
  obtain ⟨T1, X1, e1, st1⟩ := getF X0 hx hZ hown (host := "") (Or.inl (own_at hw 30 rfl)) Via.refl e0 F_count_r0 (g := (mkF m 4 #[rv r0, iv 0] [(.ref r0), (.int 1)])) rfl rfl (hb hby d9_4)
  obtain ⟨T2, X2, e2, st2⟩ := getF X1 hx hZ hown (host := "") (Or.inl (own_at hw 13 rfl)) Via.refl e1 F_starts_r0 (g := (mkF m 11 #[rv r0, iv 0] [(.ref r0)])) rfl rfl (hb hby d9_11)
  obtain ⟨cl_z3, Ar_z3, q_z3, S_z3, N_z3, H_z3, G_z3⟩ := id V_sA
  have hin4 : ¬ ((1 : Int32) < 0 ∨ cl_z3.slots.size ≤ ((1 : Int32)).toNatClampNeg) := inb_of S_z3 ⟨by decide, by decide⟩
  obtain ⟨fs, hr, hrun, hended, hW, hsame⟩ := X2.leave (v := some (.int 1)) (fun h => by rw [Bd.returns] at h; cases h)
  refine ⟨_, _, k0 _ ?_, hrun, hended, _, _, rfl, ?_, ⟨_, rfl⟩, hW, hsame.mono (by decide) (by decide)⟩
  · show OwnS p e below s₁ (mkF m 0 #[rv r0, iv 0] []) _
    refine XS.iloadN X0.here hx rfl (hb hby d9_0) rfl ?_
    refine XS.iconst X0.here hx rfl (hb hby d9_1) ?_
    refine XS.iadd X0.here hx rfl (hb hby d9_2) rfl ?_
    refine XS.aloadN X0.here hx rfl (hb hby d9_3) rfl rfl ?_
    refine st1 _ ?_
    refine XS.icmpNo X1.here hx rfl (hb hby d9_7) rfl (tlt (by decide : (1 : Int32) < (3 : Int32))).2.1 ?_
    refine XS.aloadN X1.here hx rfl (hb hby d9_10) rfl rfl ?_
    refine st2 _ ?_
    refine XS.iloadN X2.here hx rfl (hb hby d9_14) rfl ?_
    refine XS.iconst X2.here hx rfl (hb hby d9_15) ?_
    refine XS.iadd X2.here hx rfl (hb hby d9_16) rfl ?_
    refine X2.iaload hx (j := (1 : Int32)) (v := (.int 1)) (by rw [e2]; exact Ar_z3.1) (State.isArrayOf_alike hZ.alike Ar_z3.2.1) Ar_z3.2.2 hin4 (Has.at H_z3 hin4 rfl) (g := (mkF m 17 #[rv r0, iv 0] [(.int 1), (.ref sA)])) rfl rfl (hb hby d9_17) _ ?_
    refine XS.goto X2.here hx rfl (pc0 := 18) (pc' := 25) rfl (hb hby d9_18) (by decide) (by decide) ?_
    exact retI X2 hx Bd.returns (hb hby d9_25) hr
  · show Q_9_0 Z r0 sA kS h0 n0 _ T2.heap _
    rw [e2]
    exact ⟨rfl, N0, rfl⟩
def Q_9_1 (Z : State) (r0 : Addr) (sA : Addr) (kS : ClassId) (h0 : Heap) (n0 : Nat) (v : Option Value) (h : Heap) (L : List Loc) : Prop := v = some (.int 2) ∧ Fr n0 L ∧ h = h0
set_option maxRecDepth 65536 in
set_option maxHeartbeats 40000000 in
theorem rm9_1 (l : Launch) (Z : State) (a0 : Array Value) (hw : ∀ d ∈ tables_1, d.before a0 Z = true) (ws : List Jvm.Cond) (r0 : Addr) (sA : Addr) (kS : ClassId) (h0 : Heap) (n0 : Nat) (Z0 : n0 ≤ h0.size) (E_r0 : Exa Z h0 r0 cS0) (F_count_r0 : Fld Z h0 r0 cS0 "count" "I" (.int 3)) (F_used_r0 : Fld Z h0 r0 cS0 "used" "I" (.int 3)) (F_starts_r0 : Fld Z h0 r0 cS0 "starts" "[I" (.ref sA)) (V_sA : Arv Z h0 sA kS .int (256 : Int32) [(.int 0), (.int 1), (.int 2)] (.int 0)) :
    MetFree l (⟨cS0, "end", "(I)I"⟩ : MethodName) (head1 (Jvm.Cond.code (⟨cS0, "end", "(I)I"⟩ : MethodName) prog_6_method_11_code 2 (some .int) :: ws) ({ frames := 0, cells := 0, slots := 0, locals := 0 } : Room)) (fun a U => a = #[(.ref r0), (.int 1)] ∧ Z.Warmed39 U.vm ∧ U.heap = h0) (fun _ _ _ _ _ => True) (fun _ U o U' => ∃ v L, o = .returned v ∧ Q_9_1 Z r0 sA kS h0 n0 v U'.heap L ∧ FrameEnd U o U' L ({ frames := 0, cells := 0, slots := 0, locals := 0 } : Room).cells ({ frames := 0, cells := 0, slots := 0, locals := 0 } : Room).slots) := by
  refine MetFree.of_bodySF (plainFor_of_name pn_com_example_measurewright_measurewright_cli_NameBatch) hisR ?_
  intro p e s m args below meth c s₁ Bd hml0 hP hK
  obtain ⟨rfl, hZ, hh⟩ := hP
  have hx := Bd.exec
  have hby := Bd.bytes
  have hml : c.maxLocals = 2 := hml0
  have hown : s.vm.findClass cS0 = some m.cls := findClass_of_methodNamed Bd.named
  have hnm := (name_of_methodNamed Bd.named Bd.method).1
  have X0 : Stand p l e ({ frames := 0, cells := 0, slots := 0, locals := 0 } : Room) s m #[(.ref r0), (.int 1)] below meth c s₁ [] 0 0 := Stand.of_body Bd
  have e0 : s₁.heap = h0 := by rw [← hh, Bd.state]; rfl
  have N0 := Fr.nil n0
  have k0 : ∀ t, OwnS p e below s₁ (mkF m 0 #[rv r0, iv 1] []) t → OwnS p e below s₁ (entryFrame m #[(.ref r0), (.int 1)] 2) t := fun t k => castTop (ef_9 m r0 (1 : Int32)) k
  obtain ⟨T1, X1, e1, st1⟩ := getF X0 hx hZ hown (host := "") (Or.inl (own_at hw 30 rfl)) Via.refl e0 F_count_r0 (g := (mkF m 4 #[rv r0, iv 1] [(.ref r0), (.int 2)])) rfl rfl (hb hby d9_4)
  obtain ⟨T2, X2, e2, st2⟩ := getF X1 hx hZ hown (host := "") (Or.inl (own_at hw 13 rfl)) Via.refl e1 F_starts_r0 (g := (mkF m 11 #[rv r0, iv 1] [(.ref r0)])) rfl rfl (hb hby d9_11)
  obtain ⟨cl_z3, Ar_z3, q_z3, S_z3, N_z3, H_z3, G_z3⟩ := id V_sA
  have hin4 : ¬ ((2 : Int32) < 0 ∨ cl_z3.slots.size ≤ ((2 : Int32)).toNatClampNeg) := inb_of S_z3 ⟨by decide, by decide⟩
  obtain ⟨fs, hr, hrun, hended, hW, hsame⟩ := X2.leave (v := some (.int 2)) (fun h => by rw [Bd.returns] at h; cases h)
  refine ⟨_, _, k0 _ ?_, hrun, hended, _, _, rfl, ?_, ⟨_, rfl⟩, hW, hsame.mono (by decide) (by decide)⟩
  · show OwnS p e below s₁ (mkF m 0 #[rv r0, iv 1] []) _
    refine XS.iloadN X0.here hx rfl (hb hby d9_0) rfl ?_
    refine XS.iconst X0.here hx rfl (hb hby d9_1) ?_
    refine XS.iadd X0.here hx rfl (hb hby d9_2) rfl ?_
    refine XS.aloadN X0.here hx rfl (hb hby d9_3) rfl rfl ?_
    refine st1 _ ?_
    refine XS.icmpNo X1.here hx rfl (hb hby d9_7) rfl (tlt (by decide : (2 : Int32) < (3 : Int32))).2.1 ?_
    refine XS.aloadN X1.here hx rfl (hb hby d9_10) rfl rfl ?_
    refine st2 _ ?_
    refine XS.iloadN X2.here hx rfl (hb hby d9_14) rfl ?_
    refine XS.iconst X2.here hx rfl (hb hby d9_15) ?_
    refine XS.iadd X2.here hx rfl (hb hby d9_16) rfl ?_
    refine X2.iaload hx (j := (2 : Int32)) (v := (.int 2)) (by rw [e2]; exact Ar_z3.1) (State.isArrayOf_alike hZ.alike Ar_z3.2.1) Ar_z3.2.2 hin4 (Has.at H_z3 hin4 rfl) (g := (mkF m 17 #[rv r0, iv 1] [(.int 2), (.ref sA)])) rfl rfl (hb hby d9_17) _ ?_
    refine XS.goto X2.here hx rfl (pc0 := 18) (pc' := 25) rfl (hb hby d9_18) (by decide) (by decide) ?_
    exact retI X2 hx Bd.returns (hb hby d9_25) hr
  · show Q_9_1 Z r0 sA kS h0 n0 _ T2.heap _
    rw [e2]
    exact ⟨rfl, N0, rfl⟩
theorem d9_21 : decode prog_6_method_11_code 21 = .ok (.aload_n 0, 1) := by decide +kernel
theorem d9_22 : decode prog_6_method_11_code 22 = .ok (.getfield 33, 3) := by decide +kernel
def Q_9_2 (Z : State) (r0 : Addr) (sA : Addr) (kS : ClassId) (h0 : Heap) (n0 : Nat) (v : Option Value) (h : Heap) (L : List Loc) : Prop := v = some (.int 3) ∧ Fr n0 L ∧ h = h0
set_option maxRecDepth 65536 in
set_option maxHeartbeats 40000000 in
theorem rm9_2 (l : Launch) (Z : State) (a0 : Array Value) (hw : ∀ d ∈ tables_1, d.before a0 Z = true) (ws : List Jvm.Cond) (r0 : Addr) (sA : Addr) (kS : ClassId) (h0 : Heap) (n0 : Nat) (Z0 : n0 ≤ h0.size) (E_r0 : Exa Z h0 r0 cS0) (F_count_r0 : Fld Z h0 r0 cS0 "count" "I" (.int 3)) (F_used_r0 : Fld Z h0 r0 cS0 "used" "I" (.int 3)) (F_starts_r0 : Fld Z h0 r0 cS0 "starts" "[I" (.ref sA)) (V_sA : Arv Z h0 sA kS .int (256 : Int32) [(.int 0), (.int 1), (.int 2)] (.int 0)) :
    MetFree l (⟨cS0, "end", "(I)I"⟩ : MethodName) (head1 (Jvm.Cond.code (⟨cS0, "end", "(I)I"⟩ : MethodName) prog_6_method_11_code 2 (some .int) :: ws) ({ frames := 0, cells := 0, slots := 0, locals := 0 } : Room)) (fun a U => a = #[(.ref r0), (.int 2)] ∧ Z.Warmed39 U.vm ∧ U.heap = h0) (fun _ _ _ _ _ => True) (fun _ U o U' => ∃ v L, o = .returned v ∧ Q_9_2 Z r0 sA kS h0 n0 v U'.heap L ∧ FrameEnd U o U' L ({ frames := 0, cells := 0, slots := 0, locals := 0 } : Room).cells ({ frames := 0, cells := 0, slots := 0, locals := 0 } : Room).slots) := by
  refine MetFree.of_bodySF (plainFor_of_name pn_com_example_measurewright_measurewright_cli_NameBatch) hisR ?_
  intro p e s m args below meth c s₁ Bd hml0 hP hK
  obtain ⟨rfl, hZ, hh⟩ := hP
  have hx := Bd.exec
  have hby := Bd.bytes
  have hml : c.maxLocals = 2 := hml0
  have hown : s.vm.findClass cS0 = some m.cls := findClass_of_methodNamed Bd.named
  have hnm := (name_of_methodNamed Bd.named Bd.method).1
  have X0 : Stand p l e ({ frames := 0, cells := 0, slots := 0, locals := 0 } : Room) s m #[(.ref r0), (.int 2)] below meth c s₁ [] 0 0 := Stand.of_body Bd
  have e0 : s₁.heap = h0 := by rw [← hh, Bd.state]; rfl
  have N0 := Fr.nil n0
  have k0 : ∀ t, OwnS p e below s₁ (mkF m 0 #[rv r0, iv 2] []) t → OwnS p e below s₁ (entryFrame m #[(.ref r0), (.int 2)] 2) t := fun t k => castTop (ef_9 m r0 (2 : Int32)) k
  obtain ⟨T1, X1, e1, st1⟩ := getF X0 hx hZ hown (host := "") (Or.inl (own_at hw 30 rfl)) Via.refl e0 F_count_r0 (g := (mkF m 4 #[rv r0, iv 2] [(.ref r0), (.int 3)])) rfl rfl (hb hby d9_4)
  obtain ⟨T2, X2, e2, st2⟩ := getF X1 hx hZ hown (host := "") (Or.inl (own_at hw 32 rfl)) Via.refl e1 F_used_r0 (g := (mkF m 22 #[rv r0, iv 2] [(.ref r0)])) rfl rfl (hb hby d9_22)
  obtain ⟨fs, hr, hrun, hended, hW, hsame⟩ := X2.leave (v := some (.int 3)) (fun h => by rw [Bd.returns] at h; cases h)
  refine ⟨_, _, k0 _ ?_, hrun, hended, _, _, rfl, ?_, ⟨_, rfl⟩, hW, hsame.mono (by decide) (by decide)⟩
  · show OwnS p e below s₁ (mkF m 0 #[rv r0, iv 2] []) _
    refine XS.iloadN X0.here hx rfl (hb hby d9_0) rfl ?_
    refine XS.iconst X0.here hx rfl (hb hby d9_1) ?_
    refine XS.iadd X0.here hx rfl (hb hby d9_2) rfl ?_
    refine XS.aloadN X0.here hx rfl (hb hby d9_3) rfl rfl ?_
    refine st1 _ ?_
    refine XS.icmpYes X1.here hx rfl (pc0 := 7) (pc' := 21) rfl (hb hby d9_7) rfl (flt (by decide : ¬ ((3 : Int32) < (3 : Int32)))).2.1 (by decide) (by decide) ?_
    refine XS.aloadN X1.here hx rfl (hb hby d9_21) rfl rfl ?_
    refine st2 _ ?_
    exact retI X2 hx Bd.returns (hb hby d9_25) hr
  · show Q_9_2 Z r0 sA kS h0 n0 _ T2.heap _
    rw [e2]
    exact ⟨rfl, N0, rfl⟩
theorem pd_5 : parseMethodDescriptor "(I)I" = some ⟨[.int], some .int⟩ := by decide +kernel
theorem pd_6 : parseMethodDescriptor "([BII[BII)I" = some ⟨[(.array .byte), .int, .int, (.array .byte), .int, .int], some .int⟩ := by decide +kernel
theorem d8_0 : decode prog_6_method_10_code 0 = .ok (.aload_n 0, 1) := by decide +kernel
theorem d8_1 : decode prog_6_method_10_code 1 = .ok (.getfield 7, 3) := by decide +kernel
theorem d8_4 : decode prog_6_method_10_code 4 = .ok (.aload_n 0, 1) := by decide +kernel
theorem d8_5 : decode prog_6_method_10_code 5 = .ok (.getfield 13, 3) := by decide +kernel
theorem d8_8 : decode prog_6_method_10_code 8 = .ok (.iload_n 1, 1) := by decide +kernel
theorem d8_9 : decode prog_6_method_10_code 9 = .ok (.iaload, 1) := by decide +kernel
theorem d8_10 : decode prog_6_method_10_code 10 = .ok (.aload_n 0, 1) := by decide +kernel
theorem d8_11 : decode prog_6_method_10_code 11 = .ok (.iload_n 1, 1) := by decide +kernel
theorem d8_12 : decode prog_6_method_10_code 12 = .ok (.invokevirtual 74, 3) := by decide +kernel
theorem d8_15 : decode prog_6_method_10_code 15 = .ok (.aload_n 0, 1) := by decide +kernel
theorem d8_16 : decode prog_6_method_10_code 16 = .ok (.getfield 7, 3) := by decide +kernel
theorem d8_19 : decode prog_6_method_10_code 19 = .ok (.aload_n 0, 1) := by decide +kernel
theorem d8_20 : decode prog_6_method_10_code 20 = .ok (.getfield 13, 3) := by decide +kernel
theorem d8_23 : decode prog_6_method_10_code 23 = .ok (.iload_n 2, 1) := by decide +kernel
theorem d8_24 : decode prog_6_method_10_code 24 = .ok (.iaload, 1) := by decide +kernel
theorem d8_25 : decode prog_6_method_10_code 25 = .ok (.aload_n 0, 1) := by decide +kernel
theorem d8_26 : decode prog_6_method_10_code 26 = .ok (.iload_n 2, 1) := by decide +kernel
theorem d8_27 : decode prog_6_method_10_code 27 = .ok (.invokevirtual 74, 3) := by decide +kernel
theorem d8_30 : decode prog_6_method_10_code 30 = .ok (.invokestatic 39, 3) := by decide +kernel
theorem d8_33 : decode prog_6_method_10_code 33 = .ok (.ireturn, 1) := by decide +kernel
theorem ef_8 (m : MethodId) (x0 : Addr) (x1 : Int32) (x2 : Int32) : entryFrame m #[(.ref x0), (.int x1), (.int x2)] 3 = mkF m 0 #[.val (.ref x0), .val (.int x1), .val (.int x2)] [] := by first | (simp [entryFrame, mkF, argsToLocals, Value.category]; done) | rfl
def Q_8_01 (Z : State) (r0 : Addr) (bA : Addr) (kB : ClassId) (sA : Addr) (kS : ClassId) (x0 : Int32) (x1 : Int32) (x2 : Int32) (h0 : Heap) (n0 : Nat) (v : Option Value) (h : Heap) (L : List Loc) : Prop := ∃ rr : Int32, v = some (.int rr) ∧ Fr n0 L ∧ h = h0 ∧ True
set_option maxRecDepth 65536 in
set_option maxHeartbeats 40000000 in
theorem rm8_01 (l : Launch) (Z : State) (a0 : Array Value) (hw : ∀ d ∈ tables_1, d.before a0 Z = true) (ws : List Jvm.Cond) (r0 : Addr) (bA : Addr) (kB : ClassId) (sA : Addr) (kS : ClassId) (x0 : Int32) (x1 : Int32) (x2 : Int32) (h0 : Heap) (n0 : Nat) (Z0 : n0 ≤ h0.size) (E_r0 : Exa Z h0 r0 cS0) (F_maxNames_r0 : Fld Z h0 r0 cS0 "maxNames" "I" (.int 3)) (F_maxBytes_r0 : Fld Z h0 r0 cS0 "maxBytes" "I" (.int 3)) (F_count_r0 : Fld Z h0 r0 cS0 "count" "I" (.int 3)) (F_used_r0 : Fld Z h0 r0 cS0 "used" "I" (.int 3)) (F_bytes_r0 : Fld Z h0 r0 cS0 "bytes" "[B" (.ref bA)) (V_bA : Arv Z h0 bA kB .byte (4096 : Int32) [(.int x0), (.int x1), (.int x2)] (.int 0)) (E_bA : Exa Z h0 bA "[B") (F_starts_r0 : Fld Z h0 r0 cS0 "starts" "[I" (.ref sA)) (V_sA : Arv Z h0 sA kS .int (256 : Int32) [(.int 0), (.int 1), (.int 2)] (.int 0)) (E_sA : Exa Z h0 sA "[I") :
    MetFree l (⟨cS0, "compare", "(II)I"⟩ : MethodName) (head1 (Jvm.Cond.code (⟨cS0, "compare", "(II)I"⟩ : MethodName) prog_6_method_10_code 3 (some .int) :: ws) ({ frames := 3, cells := 0, slots := 0, locals := 46 } : Room)) (fun a U => a = #[(.ref r0), (.int 0), (.int 1)] ∧ Z.Warmed39 U.vm ∧ U.heap = h0) (fun _ _ _ _ _ => True) (fun _ U o U' => ∃ v L, o = .returned v ∧ Q_8_01 Z r0 bA kB sA kS x0 x1 x2 h0 n0 v U'.heap L ∧ FrameEnd U o U' L ({ frames := 3, cells := 0, slots := 0, locals := 46 } : Room).cells ({ frames := 3, cells := 0, slots := 0, locals := 46 } : Room).slots) := by
  refine MetFree.of_bodySF (plainFor_of_name pn_com_example_measurewright_measurewright_cli_NameBatch) hisR ?_
  intro p e s m args below meth c s₁ Bd hml0 hP hK
  obtain ⟨rfl, hZ, hh⟩ := hP
  have hx := Bd.exec
  have hby := Bd.bytes
  have hml : c.maxLocals = 3 := hml0
  have hown : s.vm.findClass cS0 = some m.cls := findClass_of_methodNamed Bd.named
  have hnm := (name_of_methodNamed Bd.named Bd.method).1
  have X0 : Stand p l e ({ frames := 3, cells := 0, slots := 0, locals := 46 } : Room) s m #[(.ref r0), (.int 0), (.int 1)] below meth c s₁ [] 0 0 := Stand.of_body Bd
  have e0 : s₁.heap = h0 := by rw [← hh, Bd.state]; rfl
  have N0 := Fr.nil n0
  have k0 : ∀ t, OwnS p e below s₁ (mkF m 0 #[rv r0, iv 0, iv 1] []) t → OwnS p e below s₁ (entryFrame m #[(.ref r0), (.int 0), (.int 1)] 3) t := fun t k => castTop (ef_8 m r0 (0 : Int32) (1 : Int32)) k
  obtain ⟨T1, X1, e1, st1⟩ := getF X0 hx hZ hown (host := "") (Or.inl (own_at hw 10 rfl)) Via.refl e0 F_bytes_r0 (g := (mkF m 1 #[rv r0, iv 0, iv 1] [(.ref r0)])) rfl rfl (hb hby d8_1)
  obtain ⟨T2, X2, e2, st2⟩ := getF X1 hx hZ hown (host := "") (Or.inl (own_at hw 13 rfl)) Via.refl e1 F_starts_r0 (g := (mkF m 5 #[rv r0, iv 0, iv 1] [(.ref r0), (.ref bA)])) rfl rfl (hb hby d8_5)
  obtain ⟨cl_z3, Ar_z3, q_z3, S_z3, N_z3, H_z3, G_z3⟩ := id V_sA
  have hin4 : ¬ ((0 : Int32) < 0 ∨ cl_z3.slots.size ≤ ((0 : Int32)).toNatClampNeg) := inb_of S_z3 ⟨by decide, by decide⟩
  obtain ⟨cq5, q5, q5'⟩ := E_r0.cell
  obtain ⟨_, _, ⟨T5, L5, j5, i5⟩, -, X5, ⟨Lc5, hQ5, l5, y5, z5⟩, st5⟩ := X2.privateBack hx (y := (⟨cS0, "end", "(I)I"⟩ : MethodName)) hown (mvT hZ (own_at hw 59 rfl)) (mvT hZ (own_at hw 60 rfl)) (own_selpriv (by decide) (mvT hZ (own_at hw 1 rfl)) (mvP hZ (own_at hw 61 rfl)) (mvT hZ (own_at hw 60 rfl))) (Cond.privateMethod_at (mvP hZ (own_at hw 61 rfl) (args := #[]))) (mvT hZ (own_at hw 62 rfl)) (by decide) (backOf (W := 2) (rm9_0 l Z a0 hw [] r0 sA kS h0 n0 Z0 E_r0 F_count_r0 F_used_r0 F_starts_r0 V_sA) hZ (own_at hw 62 rfl) (own_at hw 2 rfl) (by decide) (by decide)) (g := (mkF m 12 #[rv r0, iv 0, iv 1] [(.int 0), (.ref r0), (.int 0), (.ref bA)])) rfl (by rw [hml]; rfl) (Steps.refl _) (a := r0) (by rw [e2]; exact q5) q5' (argsL := [(.int 0)]) (rest := [(.int 0), (.ref bA)]) (lenOf pd_5 rfl) rfl (Nat.le_refl _) (hb hby d8_12) (fun _ _ => ⟨rfl, e2, (by decide : 0 + 0 ≤ _), (by decide : 0 + 0 ≤ _)⟩)
  dsimp only [Pt.U, Pt.locs, Pt.cells, Pt.slots] at X5 l5 y5 z5 st5 hQ5
  subst l5 y5 z5
  obtain ⟨rfl, N5q, e5⟩ := hQ5
  have N5 := Fr.app N0 N5q
  obtain ⟨T6, X6, e6, st6⟩ := getF X5 hx hZ hown (host := "") (Or.inl (own_at hw 10 rfl)) Via.refl e5 F_bytes_r0 (g := (mkF m 16 #[rv r0, iv 0, iv 1] [(.ref r0), (.int 1), (.int 0), (.ref bA)])) rfl rfl (hb hby d8_16)
  obtain ⟨T7, X7, e7, st7⟩ := getF X6 hx hZ hown (host := "") (Or.inl (own_at hw 13 rfl)) Via.refl e6 F_starts_r0 (g := (mkF m 20 #[rv r0, iv 0, iv 1] [(.ref r0), (.ref bA), (.int 1), (.int 0), (.ref bA)])) rfl rfl (hb hby d8_20)
  have hin8 : ¬ ((1 : Int32) < 0 ∨ cl_z3.slots.size ≤ ((1 : Int32)).toNatClampNeg) := inb_of S_z3 ⟨by decide, by decide⟩
  obtain ⟨cq9, q9, q9'⟩ := E_r0.cell
  obtain ⟨_, _, ⟨T9, L9, j9, i9⟩, -, X9, ⟨Lc9, hQ9, l9, y9, z9⟩, st9⟩ := X7.privateBack hx (y := (⟨cS0, "end", "(I)I"⟩ : MethodName)) hown (mvT hZ (own_at hw 59 rfl)) (mvT hZ (own_at hw 60 rfl)) (own_selpriv (by decide) (mvT hZ (own_at hw 1 rfl)) (mvP hZ (own_at hw 61 rfl)) (mvT hZ (own_at hw 60 rfl))) (Cond.privateMethod_at (mvP hZ (own_at hw 61 rfl) (args := #[]))) (mvT hZ (own_at hw 62 rfl)) (by decide) (backOf (W := 5) (rm9_1 l Z a0 hw [] r0 sA kS h0 n0 Z0 E_r0 F_count_r0 F_used_r0 F_starts_r0 V_sA) hZ (own_at hw 62 rfl) (own_at hw 2 rfl) (by decide) (by decide)) (g := (mkF m 27 #[rv r0, iv 0, iv 1] [(.int 1), (.ref r0), (.int 1), (.ref bA), (.int 1), (.int 0), (.ref bA)])) rfl (by rw [hml]; rfl) (Steps.refl _) (a := r0) (by rw [e7]; exact q9) q9' (argsL := [(.int 1)]) (rest := [(.int 1), (.ref bA), (.int 1), (.int 0), (.ref bA)]) (lenOf pd_5 rfl) rfl (Nat.le_refl _) (hb hby d8_27) (fun _ _ => ⟨rfl, e7, (by decide : 0 + 0 ≤ _), (by decide : 0 + 0 ≤ _)⟩)
  dsimp only [Pt.U, Pt.locs, Pt.cells, Pt.slots] at X9 l9 y9 z9 st9 hQ9
  subst l9 y9 z9
  obtain ⟨rfl, N9q, e9⟩ := hQ9
  have N9 := Fr.app N5 N9q
  obtain ⟨_, _, ⟨T10, L10, j10, i10⟩, -, X10, ⟨Lc10, hQ10, l10, y10, z10⟩, st10⟩ := Jvm.LawKit.callS X9 hx (y := (⟨cS1, "compareUnsigned", "([BII[BII)I"⟩ : MethodName)) hown (mvT hZ (own_at hw 63 rfl)) (mvT hZ (own_at hw 64 rfl)) (mvT hZ (own_at hw 65 rfl)) (mvT hZ (own_at hw 66 rfl)) (by decide) (backOf (W := 0) (rm10_s01 l Z a0 hw [] bA kB x0 x1 x2 h0 n0 Z0 V_bA) hZ (own_at hw 66 rfl) (own_at hw 65 rfl) (by decide) (by decide)) (g := (mkF m 30 #[rv r0, iv 0, iv 1] [(.int 2), (.int 1), (.ref bA), (.int 1), (.int 0), (.ref bA)])) rfl (by rw [hml]; rfl) (argsL := [(.ref bA), (.int 0), (.int 1), (.ref bA), (.int 1), (.int 2)]) (rest := []) (lenOf pd_6 rfl) rfl (Nat.le_refl _) (hb hby d8_30) (fun _ _ => ⟨rfl, e9, (by decide : 0 + 0 ≤ _), (by decide : 0 + 0 ≤ _)⟩)
  dsimp only [Pt.U, Pt.locs, Pt.cells, Pt.slots] at X10 l10 y10 z10 st10 hQ10
  subst l10 y10 z10
  obtain ⟨rr_10, rfl, N10q, e10, -⟩ := hQ10
  have N10 := Fr.app N9 N10q
  obtain ⟨fs, hr, hrun, hended, hW, hsame⟩ := X10.leave (v := some (.int rr_10)) (fun h => by rw [Bd.returns] at h; cases h)
  refine ⟨_, _, k0 _ ?_, hrun, hended, _, _, rfl, ?_, ⟨_, rfl⟩, hW, hsame.mono (by decide) (by decide)⟩
  · show OwnS p e below s₁ (mkF m 0 #[rv r0, iv 0, iv 1] []) _
    refine XS.aloadN X0.here hx rfl (hb hby d8_0) rfl rfl ?_
    refine st1 _ ?_
    refine XS.aloadN X1.here hx rfl (hb hby d8_4) rfl rfl ?_
    refine st2 _ ?_
    refine XS.iloadN X2.here hx rfl (hb hby d8_8) rfl ?_
    refine X2.iaload hx (j := (0 : Int32)) (v := (.int 0)) (by rw [e2]; exact Ar_z3.1) (State.isArrayOf_alike hZ.alike Ar_z3.2.1) Ar_z3.2.2 hin4 (Has.at H_z3 hin4 rfl) (g := (mkF m 9 #[rv r0, iv 0, iv 1] [(.int 0), (.ref sA), (.ref bA)])) rfl rfl (hb hby d8_9) _ ?_
    refine XS.aloadN X2.here hx rfl (hb hby d8_10) rfl rfl ?_
    refine XS.iloadN X2.here hx rfl (hb hby d8_11) rfl ?_
    refine st5.trans ?_
    refine XS.aloadN X5.here hx rfl (hb hby d8_15) rfl rfl ?_
    refine st6 _ ?_
    refine XS.aloadN X6.here hx rfl (hb hby d8_19) rfl rfl ?_
    refine st7 _ ?_
    refine XS.iloadN X7.here hx rfl (hb hby d8_23) rfl ?_
    refine X7.iaload hx (j := (1 : Int32)) (v := (.int 1)) (by rw [e7]; exact Ar_z3.1) (State.isArrayOf_alike hZ.alike Ar_z3.2.1) Ar_z3.2.2 hin8 (Has.at H_z3 hin8 rfl) (g := (mkF m 24 #[rv r0, iv 0, iv 1] [(.int 1), (.ref sA), (.ref bA), (.int 1), (.int 0), (.ref bA)])) rfl rfl (hb hby d8_24) _ ?_
    refine XS.aloadN X7.here hx rfl (hb hby d8_25) rfl rfl ?_
    refine XS.iloadN X7.here hx rfl (hb hby d8_26) rfl ?_
    refine st9.trans ?_
    refine st10 _ ?_
    exact retI X10 hx Bd.returns (hb hby d8_33) hr
  · show Q_8_01 Z r0 bA kB sA kS x0 x1 x2 h0 n0 _ T10.heap _
    rw [e10]
    exact ⟨rr_10, rfl, N10, rfl, trivial⟩
def Q_8_02 (Z : State) (r0 : Addr) (bA : Addr) (kB : ClassId) (sA : Addr) (kS : ClassId) (x0 : Int32) (x1 : Int32) (x2 : Int32) (h0 : Heap) (n0 : Nat) (v : Option Value) (h : Heap) (L : List Loc) : Prop := ∃ rr : Int32, v = some (.int rr) ∧ Fr n0 L ∧ h = h0 ∧ True
set_option maxRecDepth 65536 in
set_option maxHeartbeats 40000000 in
theorem rm8_02 (l : Launch) (Z : State) (a0 : Array Value) (hw : ∀ d ∈ tables_1, d.before a0 Z = true) (ws : List Jvm.Cond) (r0 : Addr) (bA : Addr) (kB : ClassId) (sA : Addr) (kS : ClassId) (x0 : Int32) (x1 : Int32) (x2 : Int32) (h0 : Heap) (n0 : Nat) (Z0 : n0 ≤ h0.size) (E_r0 : Exa Z h0 r0 cS0) (F_maxNames_r0 : Fld Z h0 r0 cS0 "maxNames" "I" (.int 3)) (F_maxBytes_r0 : Fld Z h0 r0 cS0 "maxBytes" "I" (.int 3)) (F_count_r0 : Fld Z h0 r0 cS0 "count" "I" (.int 3)) (F_used_r0 : Fld Z h0 r0 cS0 "used" "I" (.int 3)) (F_bytes_r0 : Fld Z h0 r0 cS0 "bytes" "[B" (.ref bA)) (V_bA : Arv Z h0 bA kB .byte (4096 : Int32) [(.int x0), (.int x1), (.int x2)] (.int 0)) (E_bA : Exa Z h0 bA "[B") (F_starts_r0 : Fld Z h0 r0 cS0 "starts" "[I" (.ref sA)) (V_sA : Arv Z h0 sA kS .int (256 : Int32) [(.int 0), (.int 1), (.int 2)] (.int 0)) (E_sA : Exa Z h0 sA "[I") :
    MetFree l (⟨cS0, "compare", "(II)I"⟩ : MethodName) (head1 (Jvm.Cond.code (⟨cS0, "compare", "(II)I"⟩ : MethodName) prog_6_method_10_code 3 (some .int) :: ws) ({ frames := 3, cells := 0, slots := 0, locals := 46 } : Room)) (fun a U => a = #[(.ref r0), (.int 0), (.int 2)] ∧ Z.Warmed39 U.vm ∧ U.heap = h0) (fun _ _ _ _ _ => True) (fun _ U o U' => ∃ v L, o = .returned v ∧ Q_8_02 Z r0 bA kB sA kS x0 x1 x2 h0 n0 v U'.heap L ∧ FrameEnd U o U' L ({ frames := 3, cells := 0, slots := 0, locals := 46 } : Room).cells ({ frames := 3, cells := 0, slots := 0, locals := 46 } : Room).slots) := by
  refine MetFree.of_bodySF (plainFor_of_name pn_com_example_measurewright_measurewright_cli_NameBatch) hisR ?_
  intro p e s m args below meth c s₁ Bd hml0 hP hK
  obtain ⟨rfl, hZ, hh⟩ := hP
  have hx := Bd.exec
  have hby := Bd.bytes
  have hml : c.maxLocals = 3 := hml0
  have hown : s.vm.findClass cS0 = some m.cls := findClass_of_methodNamed Bd.named
  have hnm := (name_of_methodNamed Bd.named Bd.method).1
  have X0 : Stand p l e ({ frames := 3, cells := 0, slots := 0, locals := 46 } : Room) s m #[(.ref r0), (.int 0), (.int 2)] below meth c s₁ [] 0 0 := Stand.of_body Bd
  have e0 : s₁.heap = h0 := by rw [← hh, Bd.state]; rfl
  have N0 := Fr.nil n0
  have k0 : ∀ t, OwnS p e below s₁ (mkF m 0 #[rv r0, iv 0, iv 2] []) t → OwnS p e below s₁ (entryFrame m #[(.ref r0), (.int 0), (.int 2)] 3) t := fun t k => castTop (ef_8 m r0 (0 : Int32) (2 : Int32)) k
  obtain ⟨T1, X1, e1, st1⟩ := getF X0 hx hZ hown (host := "") (Or.inl (own_at hw 10 rfl)) Via.refl e0 F_bytes_r0 (g := (mkF m 1 #[rv r0, iv 0, iv 2] [(.ref r0)])) rfl rfl (hb hby d8_1)
  obtain ⟨T2, X2, e2, st2⟩ := getF X1 hx hZ hown (host := "") (Or.inl (own_at hw 13 rfl)) Via.refl e1 F_starts_r0 (g := (mkF m 5 #[rv r0, iv 0, iv 2] [(.ref r0), (.ref bA)])) rfl rfl (hb hby d8_5)
  obtain ⟨cl_z3, Ar_z3, q_z3, S_z3, N_z3, H_z3, G_z3⟩ := id V_sA
  have hin4 : ¬ ((0 : Int32) < 0 ∨ cl_z3.slots.size ≤ ((0 : Int32)).toNatClampNeg) := inb_of S_z3 ⟨by decide, by decide⟩
  obtain ⟨cq5, q5, q5'⟩ := E_r0.cell
  obtain ⟨_, _, ⟨T5, L5, j5, i5⟩, -, X5, ⟨Lc5, hQ5, l5, y5, z5⟩, st5⟩ := X2.privateBack hx (y := (⟨cS0, "end", "(I)I"⟩ : MethodName)) hown (mvT hZ (own_at hw 59 rfl)) (mvT hZ (own_at hw 60 rfl)) (own_selpriv (by decide) (mvT hZ (own_at hw 1 rfl)) (mvP hZ (own_at hw 61 rfl)) (mvT hZ (own_at hw 60 rfl))) (Cond.privateMethod_at (mvP hZ (own_at hw 61 rfl) (args := #[]))) (mvT hZ (own_at hw 62 rfl)) (by decide) (backOf (W := 2) (rm9_0 l Z a0 hw [] r0 sA kS h0 n0 Z0 E_r0 F_count_r0 F_used_r0 F_starts_r0 V_sA) hZ (own_at hw 62 rfl) (own_at hw 2 rfl) (by decide) (by decide)) (g := (mkF m 12 #[rv r0, iv 0, iv 2] [(.int 0), (.ref r0), (.int 0), (.ref bA)])) rfl (by rw [hml]; rfl) (Steps.refl _) (a := r0) (by rw [e2]; exact q5) q5' (argsL := [(.int 0)]) (rest := [(.int 0), (.ref bA)]) (lenOf pd_5 rfl) rfl (Nat.le_refl _) (hb hby d8_12) (fun _ _ => ⟨rfl, e2, (by decide : 0 + 0 ≤ _), (by decide : 0 + 0 ≤ _)⟩)
  dsimp only [Pt.U, Pt.locs, Pt.cells, Pt.slots] at X5 l5 y5 z5 st5 hQ5
  subst l5 y5 z5
  obtain ⟨rfl, N5q, e5⟩ := hQ5
  have N5 := Fr.app N0 N5q
  obtain ⟨T6, X6, e6, st6⟩ := getF X5 hx hZ hown (host := "") (Or.inl (own_at hw 10 rfl)) Via.refl e5 F_bytes_r0 (g := (mkF m 16 #[rv r0, iv 0, iv 2] [(.ref r0), (.int 1), (.int 0), (.ref bA)])) rfl rfl (hb hby d8_16)
  obtain ⟨T7, X7, e7, st7⟩ := getF X6 hx hZ hown (host := "") (Or.inl (own_at hw 13 rfl)) Via.refl e6 F_starts_r0 (g := (mkF m 20 #[rv r0, iv 0, iv 2] [(.ref r0), (.ref bA), (.int 1), (.int 0), (.ref bA)])) rfl rfl (hb hby d8_20)
  have hin8 : ¬ ((2 : Int32) < 0 ∨ cl_z3.slots.size ≤ ((2 : Int32)).toNatClampNeg) := inb_of S_z3 ⟨by decide, by decide⟩
  obtain ⟨cq9, q9, q9'⟩ := E_r0.cell
  obtain ⟨_, _, ⟨T9, L9, j9, i9⟩, -, X9, ⟨Lc9, hQ9, l9, y9, z9⟩, st9⟩ := X7.privateBack hx (y := (⟨cS0, "end", "(I)I"⟩ : MethodName)) hown (mvT hZ (own_at hw 59 rfl)) (mvT hZ (own_at hw 60 rfl)) (own_selpriv (by decide) (mvT hZ (own_at hw 1 rfl)) (mvP hZ (own_at hw 61 rfl)) (mvT hZ (own_at hw 60 rfl))) (Cond.privateMethod_at (mvP hZ (own_at hw 61 rfl) (args := #[]))) (mvT hZ (own_at hw 62 rfl)) (by decide) (backOf (W := 5) (rm9_2 l Z a0 hw [] r0 sA kS h0 n0 Z0 E_r0 F_count_r0 F_used_r0 F_starts_r0 V_sA) hZ (own_at hw 62 rfl) (own_at hw 2 rfl) (by decide) (by decide)) (g := (mkF m 27 #[rv r0, iv 0, iv 2] [(.int 2), (.ref r0), (.int 2), (.ref bA), (.int 1), (.int 0), (.ref bA)])) rfl (by rw [hml]; rfl) (Steps.refl _) (a := r0) (by rw [e7]; exact q9) q9' (argsL := [(.int 2)]) (rest := [(.int 2), (.ref bA), (.int 1), (.int 0), (.ref bA)]) (lenOf pd_5 rfl) rfl (Nat.le_refl _) (hb hby d8_27) (fun _ _ => ⟨rfl, e7, (by decide : 0 + 0 ≤ _), (by decide : 0 + 0 ≤ _)⟩)
  dsimp only [Pt.U, Pt.locs, Pt.cells, Pt.slots] at X9 l9 y9 z9 st9 hQ9
  subst l9 y9 z9
  obtain ⟨rfl, N9q, e9⟩ := hQ9
  have N9 := Fr.app N5 N9q
  obtain ⟨_, _, ⟨T10, L10, j10, i10⟩, -, X10, ⟨Lc10, hQ10, l10, y10, z10⟩, st10⟩ := Jvm.LawKit.callS X9 hx (y := (⟨cS1, "compareUnsigned", "([BII[BII)I"⟩ : MethodName)) hown (mvT hZ (own_at hw 63 rfl)) (mvT hZ (own_at hw 64 rfl)) (mvT hZ (own_at hw 65 rfl)) (mvT hZ (own_at hw 66 rfl)) (by decide) (backOf (W := 0) (rm10_s02 l Z a0 hw [] bA kB x0 x1 x2 h0 n0 Z0 V_bA) hZ (own_at hw 66 rfl) (own_at hw 65 rfl) (by decide) (by decide)) (g := (mkF m 30 #[rv r0, iv 0, iv 2] [(.int 3), (.int 2), (.ref bA), (.int 1), (.int 0), (.ref bA)])) rfl (by rw [hml]; rfl) (argsL := [(.ref bA), (.int 0), (.int 1), (.ref bA), (.int 2), (.int 3)]) (rest := []) (lenOf pd_6 rfl) rfl (Nat.le_refl _) (hb hby d8_30) (fun _ _ => ⟨rfl, e9, (by decide : 0 + 0 ≤ _), (by decide : 0 + 0 ≤ _)⟩)
  dsimp only [Pt.U, Pt.locs, Pt.cells, Pt.slots] at X10 l10 y10 z10 st10 hQ10
  subst l10 y10 z10
  obtain ⟨rr_10, rfl, N10q, e10, -⟩ := hQ10
  have N10 := Fr.app N9 N10q
  obtain ⟨fs, hr, hrun, hended, hW, hsame⟩ := X10.leave (v := some (.int rr_10)) (fun h => by rw [Bd.returns] at h; cases h)
  refine ⟨_, _, k0 _ ?_, hrun, hended, _, _, rfl, ?_, ⟨_, rfl⟩, hW, hsame.mono (by decide) (by decide)⟩
  · show OwnS p e below s₁ (mkF m 0 #[rv r0, iv 0, iv 2] []) _
    refine XS.aloadN X0.here hx rfl (hb hby d8_0) rfl rfl ?_
    refine st1 _ ?_
    refine XS.aloadN X1.here hx rfl (hb hby d8_4) rfl rfl ?_
    refine st2 _ ?_
    refine XS.iloadN X2.here hx rfl (hb hby d8_8) rfl ?_
    refine X2.iaload hx (j := (0 : Int32)) (v := (.int 0)) (by rw [e2]; exact Ar_z3.1) (State.isArrayOf_alike hZ.alike Ar_z3.2.1) Ar_z3.2.2 hin4 (Has.at H_z3 hin4 rfl) (g := (mkF m 9 #[rv r0, iv 0, iv 2] [(.int 0), (.ref sA), (.ref bA)])) rfl rfl (hb hby d8_9) _ ?_
    refine XS.aloadN X2.here hx rfl (hb hby d8_10) rfl rfl ?_
    refine XS.iloadN X2.here hx rfl (hb hby d8_11) rfl ?_
    refine st5.trans ?_
    refine XS.aloadN X5.here hx rfl (hb hby d8_15) rfl rfl ?_
    refine st6 _ ?_
    refine XS.aloadN X6.here hx rfl (hb hby d8_19) rfl rfl ?_
    refine st7 _ ?_
    refine XS.iloadN X7.here hx rfl (hb hby d8_23) rfl ?_
    refine X7.iaload hx (j := (2 : Int32)) (v := (.int 2)) (by rw [e7]; exact Ar_z3.1) (State.isArrayOf_alike hZ.alike Ar_z3.2.1) Ar_z3.2.2 hin8 (Has.at H_z3 hin8 rfl) (g := (mkF m 24 #[rv r0, iv 0, iv 2] [(.int 2), (.ref sA), (.ref bA), (.int 1), (.int 0), (.ref bA)])) rfl rfl (hb hby d8_24) _ ?_
    refine XS.aloadN X7.here hx rfl (hb hby d8_25) rfl rfl ?_
    refine XS.iloadN X7.here hx rfl (hb hby d8_26) rfl ?_
    refine st9.trans ?_
    refine st10 _ ?_
    exact retI X10 hx Bd.returns (hb hby d8_33) hr
  · show Q_8_02 Z r0 bA kB sA kS x0 x1 x2 h0 n0 _ T10.heap _
    rw [e10]
    exact ⟨rr_10, rfl, N10, rfl, trivial⟩
def Q_8_12 (Z : State) (r0 : Addr) (bA : Addr) (kB : ClassId) (sA : Addr) (kS : ClassId) (x0 : Int32) (x1 : Int32) (x2 : Int32) (h0 : Heap) (n0 : Nat) (v : Option Value) (h : Heap) (L : List Loc) : Prop := ∃ rr : Int32, v = some (.int rr) ∧ Fr n0 L ∧ h = h0 ∧ True
set_option maxRecDepth 65536 in
set_option maxHeartbeats 40000000 in
theorem rm8_12 (l : Launch) (Z : State) (a0 : Array Value) (hw : ∀ d ∈ tables_1, d.before a0 Z = true) (ws : List Jvm.Cond) (r0 : Addr) (bA : Addr) (kB : ClassId) (sA : Addr) (kS : ClassId) (x0 : Int32) (x1 : Int32) (x2 : Int32) (h0 : Heap) (n0 : Nat) (Z0 : n0 ≤ h0.size) (E_r0 : Exa Z h0 r0 cS0) (F_maxNames_r0 : Fld Z h0 r0 cS0 "maxNames" "I" (.int 3)) (F_maxBytes_r0 : Fld Z h0 r0 cS0 "maxBytes" "I" (.int 3)) (F_count_r0 : Fld Z h0 r0 cS0 "count" "I" (.int 3)) (F_used_r0 : Fld Z h0 r0 cS0 "used" "I" (.int 3)) (F_bytes_r0 : Fld Z h0 r0 cS0 "bytes" "[B" (.ref bA)) (V_bA : Arv Z h0 bA kB .byte (4096 : Int32) [(.int x0), (.int x1), (.int x2)] (.int 0)) (E_bA : Exa Z h0 bA "[B") (F_starts_r0 : Fld Z h0 r0 cS0 "starts" "[I" (.ref sA)) (V_sA : Arv Z h0 sA kS .int (256 : Int32) [(.int 0), (.int 1), (.int 2)] (.int 0)) (E_sA : Exa Z h0 sA "[I") :
    MetFree l (⟨cS0, "compare", "(II)I"⟩ : MethodName) (head1 (Jvm.Cond.code (⟨cS0, "compare", "(II)I"⟩ : MethodName) prog_6_method_10_code 3 (some .int) :: ws) ({ frames := 3, cells := 0, slots := 0, locals := 46 } : Room)) (fun a U => a = #[(.ref r0), (.int 1), (.int 2)] ∧ Z.Warmed39 U.vm ∧ U.heap = h0) (fun _ _ _ _ _ => True) (fun _ U o U' => ∃ v L, o = .returned v ∧ Q_8_12 Z r0 bA kB sA kS x0 x1 x2 h0 n0 v U'.heap L ∧ FrameEnd U o U' L ({ frames := 3, cells := 0, slots := 0, locals := 46 } : Room).cells ({ frames := 3, cells := 0, slots := 0, locals := 46 } : Room).slots) := by
  refine MetFree.of_bodySF (plainFor_of_name pn_com_example_measurewright_measurewright_cli_NameBatch) hisR ?_
  intro p e s m args below meth c s₁ Bd hml0 hP hK
  obtain ⟨rfl, hZ, hh⟩ := hP
  have hx := Bd.exec
  have hby := Bd.bytes
  have hml : c.maxLocals = 3 := hml0
  have hown : s.vm.findClass cS0 = some m.cls := findClass_of_methodNamed Bd.named
  have hnm := (name_of_methodNamed Bd.named Bd.method).1
  have X0 : Stand p l e ({ frames := 3, cells := 0, slots := 0, locals := 46 } : Room) s m #[(.ref r0), (.int 1), (.int 2)] below meth c s₁ [] 0 0 := Stand.of_body Bd
  have e0 : s₁.heap = h0 := by rw [← hh, Bd.state]; rfl
  have N0 := Fr.nil n0
  have k0 : ∀ t, OwnS p e below s₁ (mkF m 0 #[rv r0, iv 1, iv 2] []) t → OwnS p e below s₁ (entryFrame m #[(.ref r0), (.int 1), (.int 2)] 3) t := fun t k => castTop (ef_8 m r0 (1 : Int32) (2 : Int32)) k
  obtain ⟨T1, X1, e1, st1⟩ := getF X0 hx hZ hown (host := "") (Or.inl (own_at hw 10 rfl)) Via.refl e0 F_bytes_r0 (g := (mkF m 1 #[rv r0, iv 1, iv 2] [(.ref r0)])) rfl rfl (hb hby d8_1)
  obtain ⟨T2, X2, e2, st2⟩ := getF X1 hx hZ hown (host := "") (Or.inl (own_at hw 13 rfl)) Via.refl e1 F_starts_r0 (g := (mkF m 5 #[rv r0, iv 1, iv 2] [(.ref r0), (.ref bA)])) rfl rfl (hb hby d8_5)
  obtain ⟨cl_z3, Ar_z3, q_z3, S_z3, N_z3, H_z3, G_z3⟩ := id V_sA
  have hin4 : ¬ ((1 : Int32) < 0 ∨ cl_z3.slots.size ≤ ((1 : Int32)).toNatClampNeg) := inb_of S_z3 ⟨by decide, by decide⟩
  obtain ⟨cq5, q5, q5'⟩ := E_r0.cell
  obtain ⟨_, _, ⟨T5, L5, j5, i5⟩, -, X5, ⟨Lc5, hQ5, l5, y5, z5⟩, st5⟩ := X2.privateBack hx (y := (⟨cS0, "end", "(I)I"⟩ : MethodName)) hown (mvT hZ (own_at hw 59 rfl)) (mvT hZ (own_at hw 60 rfl)) (own_selpriv (by decide) (mvT hZ (own_at hw 1 rfl)) (mvP hZ (own_at hw 61 rfl)) (mvT hZ (own_at hw 60 rfl))) (Cond.privateMethod_at (mvP hZ (own_at hw 61 rfl) (args := #[]))) (mvT hZ (own_at hw 62 rfl)) (by decide) (backOf (W := 2) (rm9_1 l Z a0 hw [] r0 sA kS h0 n0 Z0 E_r0 F_count_r0 F_used_r0 F_starts_r0 V_sA) hZ (own_at hw 62 rfl) (own_at hw 2 rfl) (by decide) (by decide)) (g := (mkF m 12 #[rv r0, iv 1, iv 2] [(.int 1), (.ref r0), (.int 1), (.ref bA)])) rfl (by rw [hml]; rfl) (Steps.refl _) (a := r0) (by rw [e2]; exact q5) q5' (argsL := [(.int 1)]) (rest := [(.int 1), (.ref bA)]) (lenOf pd_5 rfl) rfl (Nat.le_refl _) (hb hby d8_12) (fun _ _ => ⟨rfl, e2, (by decide : 0 + 0 ≤ _), (by decide : 0 + 0 ≤ _)⟩)
  dsimp only [Pt.U, Pt.locs, Pt.cells, Pt.slots] at X5 l5 y5 z5 st5 hQ5
  subst l5 y5 z5
  obtain ⟨rfl, N5q, e5⟩ := hQ5
  have N5 := Fr.app N0 N5q
  obtain ⟨T6, X6, e6, st6⟩ := getF X5 hx hZ hown (host := "") (Or.inl (own_at hw 10 rfl)) Via.refl e5 F_bytes_r0 (g := (mkF m 16 #[rv r0, iv 1, iv 2] [(.ref r0), (.int 2), (.int 1), (.ref bA)])) rfl rfl (hb hby d8_16)
  obtain ⟨T7, X7, e7, st7⟩ := getF X6 hx hZ hown (host := "") (Or.inl (own_at hw 13 rfl)) Via.refl e6 F_starts_r0 (g := (mkF m 20 #[rv r0, iv 1, iv 2] [(.ref r0), (.ref bA), (.int 2), (.int 1), (.ref bA)])) rfl rfl (hb hby d8_20)
  have hin8 : ¬ ((2 : Int32) < 0 ∨ cl_z3.slots.size ≤ ((2 : Int32)).toNatClampNeg) := inb_of S_z3 ⟨by decide, by decide⟩
  obtain ⟨cq9, q9, q9'⟩ := E_r0.cell
  obtain ⟨_, _, ⟨T9, L9, j9, i9⟩, -, X9, ⟨Lc9, hQ9, l9, y9, z9⟩, st9⟩ := X7.privateBack hx (y := (⟨cS0, "end", "(I)I"⟩ : MethodName)) hown (mvT hZ (own_at hw 59 rfl)) (mvT hZ (own_at hw 60 rfl)) (own_selpriv (by decide) (mvT hZ (own_at hw 1 rfl)) (mvP hZ (own_at hw 61 rfl)) (mvT hZ (own_at hw 60 rfl))) (Cond.privateMethod_at (mvP hZ (own_at hw 61 rfl) (args := #[]))) (mvT hZ (own_at hw 62 rfl)) (by decide) (backOf (W := 5) (rm9_2 l Z a0 hw [] r0 sA kS h0 n0 Z0 E_r0 F_count_r0 F_used_r0 F_starts_r0 V_sA) hZ (own_at hw 62 rfl) (own_at hw 2 rfl) (by decide) (by decide)) (g := (mkF m 27 #[rv r0, iv 1, iv 2] [(.int 2), (.ref r0), (.int 2), (.ref bA), (.int 2), (.int 1), (.ref bA)])) rfl (by rw [hml]; rfl) (Steps.refl _) (a := r0) (by rw [e7]; exact q9) q9' (argsL := [(.int 2)]) (rest := [(.int 2), (.ref bA), (.int 2), (.int 1), (.ref bA)]) (lenOf pd_5 rfl) rfl (Nat.le_refl _) (hb hby d8_27) (fun _ _ => ⟨rfl, e7, (by decide : 0 + 0 ≤ _), (by decide : 0 + 0 ≤ _)⟩)
  dsimp only [Pt.U, Pt.locs, Pt.cells, Pt.slots] at X9 l9 y9 z9 st9 hQ9
  subst l9 y9 z9
  obtain ⟨rfl, N9q, e9⟩ := hQ9
  have N9 := Fr.app N5 N9q
  obtain ⟨_, _, ⟨T10, L10, j10, i10⟩, -, X10, ⟨Lc10, hQ10, l10, y10, z10⟩, st10⟩ := Jvm.LawKit.callS X9 hx (y := (⟨cS1, "compareUnsigned", "([BII[BII)I"⟩ : MethodName)) hown (mvT hZ (own_at hw 63 rfl)) (mvT hZ (own_at hw 64 rfl)) (mvT hZ (own_at hw 65 rfl)) (mvT hZ (own_at hw 66 rfl)) (by decide) (backOf (W := 0) (rm10_s12 l Z a0 hw [] bA kB x0 x1 x2 h0 n0 Z0 V_bA) hZ (own_at hw 66 rfl) (own_at hw 65 rfl) (by decide) (by decide)) (g := (mkF m 30 #[rv r0, iv 1, iv 2] [(.int 3), (.int 2), (.ref bA), (.int 2), (.int 1), (.ref bA)])) rfl (by rw [hml]; rfl) (argsL := [(.ref bA), (.int 1), (.int 2), (.ref bA), (.int 2), (.int 3)]) (rest := []) (lenOf pd_6 rfl) rfl (Nat.le_refl _) (hb hby d8_30) (fun _ _ => ⟨rfl, e9, (by decide : 0 + 0 ≤ _), (by decide : 0 + 0 ≤ _)⟩)
  dsimp only [Pt.U, Pt.locs, Pt.cells, Pt.slots] at X10 l10 y10 z10 st10 hQ10
  subst l10 y10 z10
  obtain ⟨rr_10, rfl, N10q, e10, -⟩ := hQ10
  have N10 := Fr.app N9 N10q
  obtain ⟨fs, hr, hrun, hended, hW, hsame⟩ := X10.leave (v := some (.int rr_10)) (fun h => by rw [Bd.returns] at h; cases h)
  refine ⟨_, _, k0 _ ?_, hrun, hended, _, _, rfl, ?_, ⟨_, rfl⟩, hW, hsame.mono (by decide) (by decide)⟩
  · show OwnS p e below s₁ (mkF m 0 #[rv r0, iv 1, iv 2] []) _
    refine XS.aloadN X0.here hx rfl (hb hby d8_0) rfl rfl ?_
    refine st1 _ ?_
    refine XS.aloadN X1.here hx rfl (hb hby d8_4) rfl rfl ?_
    refine st2 _ ?_
    refine XS.iloadN X2.here hx rfl (hb hby d8_8) rfl ?_
    refine X2.iaload hx (j := (1 : Int32)) (v := (.int 1)) (by rw [e2]; exact Ar_z3.1) (State.isArrayOf_alike hZ.alike Ar_z3.2.1) Ar_z3.2.2 hin4 (Has.at H_z3 hin4 rfl) (g := (mkF m 9 #[rv r0, iv 1, iv 2] [(.int 1), (.ref sA), (.ref bA)])) rfl rfl (hb hby d8_9) _ ?_
    refine XS.aloadN X2.here hx rfl (hb hby d8_10) rfl rfl ?_
    refine XS.iloadN X2.here hx rfl (hb hby d8_11) rfl ?_
    refine st5.trans ?_
    refine XS.aloadN X5.here hx rfl (hb hby d8_15) rfl rfl ?_
    refine st6 _ ?_
    refine XS.aloadN X6.here hx rfl (hb hby d8_19) rfl rfl ?_
    refine st7 _ ?_
    refine XS.iloadN X7.here hx rfl (hb hby d8_23) rfl ?_
    refine X7.iaload hx (j := (2 : Int32)) (v := (.int 2)) (by rw [e7]; exact Ar_z3.1) (State.isArrayOf_alike hZ.alike Ar_z3.2.1) Ar_z3.2.2 hin8 (Has.at H_z3 hin8 rfl) (g := (mkF m 24 #[rv r0, iv 1, iv 2] [(.int 2), (.ref sA), (.ref bA), (.int 2), (.int 1), (.ref bA)])) rfl rfl (hb hby d8_24) _ ?_
    refine XS.aloadN X7.here hx rfl (hb hby d8_25) rfl rfl ?_
    refine XS.iloadN X7.here hx rfl (hb hby d8_26) rfl ?_
    refine st9.trans ?_
    refine st10 _ ?_
    exact retI X10 hx Bd.returns (hb hby d8_33) hr
  · show Q_8_12 Z r0 bA kB sA kS x0 x1 x2 h0 n0 _ T10.heap _
    rw [e10]
    exact ⟨rr_10, rfl, N10, rfl, trivial⟩
theorem d7_0 : decode prog_6_method_9_code 0 = .ok (.aload_n 0, 1) := by decide +kernel
theorem d7_1 : decode prog_6_method_9_code 1 = .ok (.getfield 17, 3) := by decide +kernel
theorem d7_4 : decode prog_6_method_9_code 4 = .ok (.iload_n 1, 1) := by decide +kernel
theorem d7_5 : decode prog_6_method_9_code 5 = .ok (.aload_n 0, 1) := by decide +kernel
theorem d7_6 : decode prog_6_method_9_code 6 = .ok (.getfield 20, 3) := by decide +kernel
theorem d7_9 : decode prog_6_method_9_code 9 = .ok (.iload_n 1, 1) := by decide +kernel
theorem d7_10 : decode prog_6_method_9_code 10 = .ok (.iload_n 3, 1) := by decide +kernel
theorem d7_11 : decode prog_6_method_9_code 11 = .ok (.iload_n 1, 1) := by decide +kernel
theorem d7_12 : decode prog_6_method_9_code 12 = .ok (.isub, 1) := by decide +kernel
theorem d7_13 : decode prog_6_method_9_code 13 = .ok (.invokestatic 64, 3) := by decide +kernel
theorem d7_16 : decode prog_6_method_9_code 16 = .ok (.iload_n 1, 1) := by decide +kernel
theorem d7_17 : decode prog_6_method_9_code 17 = .ok (.istore 4, 2) := by decide +kernel
theorem d7_19 : decode prog_6_method_9_code 19 = .ok (.iload_n 2, 1) := by decide +kernel
theorem d7_20 : decode prog_6_method_9_code 20 = .ok (.istore 5, 2) := by decide +kernel
theorem d7_22 : decode prog_6_method_9_code 22 = .ok (.iload_n 1, 1) := by decide +kernel
theorem d7_23 : decode prog_6_method_9_code 23 = .ok (.istore 6, 2) := by decide +kernel
theorem d7_25 : decode prog_6_method_9_code 25 = .ok (.iload 6, 2) := by decide +kernel
theorem d7_27 : decode prog_6_method_9_code 27 = .ok (.iload_n 3, 1) := by decide +kernel
theorem d7_28 : decode prog_6_method_9_code 28 = .ok (.if_icmp .ge 79, 3) := by decide +kernel
theorem d7_31 : decode prog_6_method_9_code 31 = .ok (.iload 5, 2) := by decide +kernel
theorem d7_33 : decode prog_6_method_9_code 33 = .ok (.iload_n 3, 1) := by decide +kernel
theorem d7_34 : decode prog_6_method_9_code 34 = .ok (.if_icmp .eq 30, 3) := by decide +kernel
theorem d7_37 : decode prog_6_method_9_code 37 = .ok (.iload 4, 2) := by decide +kernel
theorem d7_39 : decode prog_6_method_9_code 39 = .ok (.iload_n 2, 1) := by decide +kernel
theorem d7_40 : decode prog_6_method_9_code 40 = .ok (.if_icmp .ge 44, 3) := by decide +kernel
theorem d7_43 : decode prog_6_method_9_code 43 = .ok (.aload_n 0, 1) := by decide +kernel
theorem d7_44 : decode prog_6_method_9_code 44 = .ok (.aload_n 0, 1) := by decide +kernel
theorem d7_45 : decode prog_6_method_9_code 45 = .ok (.getfield 20, 3) := by decide +kernel
theorem d7_48 : decode prog_6_method_9_code 48 = .ok (.iload 4, 2) := by decide +kernel
theorem d7_50 : decode prog_6_method_9_code 50 = .ok (.iaload, 1) := by decide +kernel
theorem d7_51 : decode prog_6_method_9_code 51 = .ok (.aload_n 0, 1) := by decide +kernel
theorem d7_52 : decode prog_6_method_9_code 52 = .ok (.getfield 20, 3) := by decide +kernel
theorem d7_55 : decode prog_6_method_9_code 55 = .ok (.iload 5, 2) := by decide +kernel
theorem d7_57 : decode prog_6_method_9_code 57 = .ok (.iaload, 1) := by decide +kernel
theorem d7_58 : decode prog_6_method_9_code 58 = .ok (.invokevirtual 85, 3) := by decide +kernel
theorem d7_61 : decode prog_6_method_9_code 61 = .ok (.ifCond .gt 23, 3) := by decide +kernel
theorem d7_64 : decode prog_6_method_9_code 64 = .ok (.aload_n 0, 1) := by decide +kernel
theorem d7_65 : decode prog_6_method_9_code 65 = .ok (.getfield 17, 3) := by decide +kernel
theorem d7_68 : decode prog_6_method_9_code 68 = .ok (.iload 6, 2) := by decide +kernel
theorem d7_70 : decode prog_6_method_9_code 70 = .ok (.aload_n 0, 1) := by decide +kernel
theorem d7_71 : decode prog_6_method_9_code 71 = .ok (.getfield 20, 3) := by decide +kernel
theorem d7_74 : decode prog_6_method_9_code 74 = .ok (.iload 4, 2) := by decide +kernel
theorem d7_76 : decode prog_6_method_9_code 76 = .ok (.iinc 4 1, 3) := by decide +kernel
theorem d7_79 : decode prog_6_method_9_code 79 = .ok (.iaload, 1) := by decide +kernel
theorem d7_80 : decode prog_6_method_9_code 80 = .ok (.iastore, 1) := by decide +kernel
theorem d7_81 : decode prog_6_method_9_code 81 = .ok (.goto 20, 3) := by decide +kernel
theorem d7_84 : decode prog_6_method_9_code 84 = .ok (.aload_n 0, 1) := by decide +kernel
theorem d7_85 : decode prog_6_method_9_code 85 = .ok (.getfield 17, 3) := by decide +kernel
theorem d7_88 : decode prog_6_method_9_code 88 = .ok (.iload 6, 2) := by decide +kernel
theorem d7_90 : decode prog_6_method_9_code 90 = .ok (.aload_n 0, 1) := by decide +kernel
theorem d7_91 : decode prog_6_method_9_code 91 = .ok (.getfield 20, 3) := by decide +kernel
theorem d7_94 : decode prog_6_method_9_code 94 = .ok (.iload 5, 2) := by decide +kernel
theorem d7_96 : decode prog_6_method_9_code 96 = .ok (.iinc 5 1, 3) := by decide +kernel
theorem d7_99 : decode prog_6_method_9_code 99 = .ok (.iaload, 1) := by decide +kernel
theorem d7_100 : decode prog_6_method_9_code 100 = .ok (.iastore, 1) := by decide +kernel
theorem d7_101 : decode prog_6_method_9_code 101 = .ok (.iinc 6 1, 3) := by decide +kernel
theorem d7_104 : decode prog_6_method_9_code 104 = .ok (.goto (-79), 3) := by decide +kernel
theorem d7_107 : decode prog_6_method_9_code 107 = .ok (.return_, 1) := by decide +kernel
theorem ef_7 (m : MethodId) (x0 : Addr) (x1 : Int32) (x2 : Int32) (x3 : Int32) : entryFrame m #[(.ref x0), (.int x1), (.int x2), (.int x3)] 7 = mkF m 0 #[.val (.ref x0), .val (.int x1), .val (.int x2), .val (.int x3), .unset, .unset, .unset] [] := by first | (simp [entryFrame, mkF, argsToLocals, Value.category]; done) | rfl
def Q_7_a (Z : State) (r0 : Addr) (bA : Addr) (kB : ClassId) (sA : Addr) (kS : ClassId) (oA : Addr) (kO : ClassId) (cA : Addr) (kC : ClassId) (x0 : Int32) (x1 : Int32) (x2 : Int32) (h0 : Heap) (n0 : Nat) (v : Option Value) (h : Heap) (L : List Loc) : Prop := (v = none ∧ Fr n0 L ∧ Keep h0 h [oA, cA] ∧ Arv Z h oA kO .int (256 : Int32) [(.int 1), (.int 0), (.int 2)] (.int 0) ∧ Arv Z h cA kC .int (256 : Int32) [(.int 0), (.int 1), (.int 0)] (.int 0)) ∨ (v = none ∧ Fr n0 L ∧ Keep h0 h [oA, cA] ∧ Arv Z h oA kO .int (256 : Int32) [(.int 0), (.int 1), (.int 2)] (.int 0) ∧ Arv Z h cA kC .int (256 : Int32) [(.int 0), (.int 1), (.int 0)] (.int 0))
set_option maxRecDepth 65536 in
set_option maxHeartbeats 40000000 in
theorem rm7_a (l : Launch) (Z : State) (a0 : Array Value) (hw : ∀ d ∈ tables_1, d.before a0 Z = true) (ws : List Jvm.Cond) (r0 : Addr) (bA : Addr) (kB : ClassId) (sA : Addr) (kS : ClassId) (oA : Addr) (kO : ClassId) (cA : Addr) (kC : ClassId) (x0 : Int32) (x1 : Int32) (x2 : Int32) (h0 : Heap) (n0 : Nat) (Z0 : n0 ≤ h0.size) (E_r0 : Exa Z h0 r0 cS0) (F_maxNames_r0 : Fld Z h0 r0 cS0 "maxNames" "I" (.int 3)) (F_maxBytes_r0 : Fld Z h0 r0 cS0 "maxBytes" "I" (.int 3)) (F_count_r0 : Fld Z h0 r0 cS0 "count" "I" (.int 3)) (F_used_r0 : Fld Z h0 r0 cS0 "used" "I" (.int 3)) (F_bytes_r0 : Fld Z h0 r0 cS0 "bytes" "[B" (.ref bA)) (V_bA : Arv Z h0 bA kB .byte (4096 : Int32) [(.int x0), (.int x1), (.int x2)] (.int 0)) (E_bA : Exa Z h0 bA "[B") (F_starts_r0 : Fld Z h0 r0 cS0 "starts" "[I" (.ref sA)) (V_sA : Arv Z h0 sA kS .int (256 : Int32) [(.int 0), (.int 1), (.int 2)] (.int 0)) (E_sA : Exa Z h0 sA "[I") (F_order_r0 : Fld Z h0 r0 cS0 "order" "[I" (.ref oA)) (V_oA : Arv Z h0 oA kO .int (256 : Int32) [(.int 0), (.int 1), (.int 2)] (.int 0)) (E_oA : Exa Z h0 oA "[I") (F_scratch_r0 : Fld Z h0 r0 cS0 "scratch" "[I" (.ref cA)) (V_cA : Arv Z h0 cA kC .int (256 : Int32) [(.int 0), (.int 0), (.int 0)] (.int 0)) (E_cA : Exa Z h0 cA "[I") (ge_cA : n0 ≤ cA) (ne_r0_cA : r0 ≠ cA) (ne_bA_cA : bA ≠ cA) (ne_sA_cA : sA ≠ cA) (ne_oA_cA : oA ≠ cA) (ge_oA : n0 ≤ oA) (ne_r0_oA : r0 ≠ oA) (ne_cA_oA : cA ≠ oA) :
    MetFree l (⟨cS0, "merge", "(III)V"⟩ : MethodName) (head1 (Jvm.Cond.code (⟨cS0, "merge", "(III)V"⟩ : MethodName) prog_6_method_9_code 7 none :: ws) ({ frames := 4, cells := 0, slots := 0, locals := 60 } : Room)) (fun a U => a = #[(.ref r0), (.int 0), (.int 1), (.int 2)] ∧ Z.Warmed39 U.vm ∧ U.heap = h0) (fun _ _ _ _ _ => True) (fun _ U o U' => ∃ v L, o = .returned v ∧ Q_7_a Z r0 bA kB sA kS oA kO cA kC x0 x1 x2 h0 n0 v U'.heap L ∧ FrameEnd U o U' L ({ frames := 4, cells := 0, slots := 0, locals := 60 } : Room).cells ({ frames := 4, cells := 0, slots := 0, locals := 60 } : Room).slots) := by
  refine MetFree.of_bodySF (plainFor_of_name pn_com_example_measurewright_measurewright_cli_NameBatch) hisR ?_
  intro p e s m args below meth c s₁ Bd hml0 hP hK
  obtain ⟨rfl, hZ, hh⟩ := hP
  have hx := Bd.exec
  have hby := Bd.bytes
  have hml : c.maxLocals = 7 := hml0
  have hown : s.vm.findClass cS0 = some m.cls := findClass_of_methodNamed Bd.named
  have hnm := (name_of_methodNamed Bd.named Bd.method).1
  have X0 : Stand p l e ({ frames := 4, cells := 0, slots := 0, locals := 60 } : Room) s m #[(.ref r0), (.int 0), (.int 1), (.int 2)] below meth c s₁ [] 0 0 := Stand.of_body Bd
  have e0 : s₁.heap = h0 := by rw [← hh, Bd.state]; rfl
  have N0 := Fr.nil n0
  have k0 : ∀ t, OwnS p e below s₁ (mkF m 0 #[rv r0, iv 0, iv 1, iv 2, .unset, .unset, .unset] []) t → OwnS p e below s₁ (entryFrame m #[(.ref r0), (.int 0), (.int 1), (.int 2)] 7) t := fun t k => castTop (ef_7 m r0 (0 : Int32) (1 : Int32) (2 : Int32)) k
  obtain ⟨T1, X1, e1, st1⟩ := getF X0 hx hZ hown (host := "") (Or.inl (own_at hw 15 rfl)) Via.refl e0 F_order_r0 (g := (mkF m 1 #[rv r0, iv 0, iv 1, iv 2, .unset, .unset, .unset] [(.ref r0)])) rfl rfl (hb hby d7_1)
  obtain ⟨T2, X2, e2, st2⟩ := getF X1 hx hZ hown (host := "") (Or.inl (own_at hw 17 rfl)) Via.refl e1 F_scratch_r0 (g := (mkF m 6 #[rv r0, iv 0, iv 1, iv 2, .unset, .unset, .unset] [(.ref r0), (.int 0), (.ref oA)])) rfl rfl (hb hby d7_6)
  obtain ⟨T3, h3, L3, X3, e3, N3, K3, Vr3, st3⟩ := cpA X2 hx hZ hown (own_at hw 34 rfl) (own_at hw 37 rfl) (own_at hw 35 rfl) (own_at hw 36 rfl) e2 V_oA V_cA (us := [(.int 0), (.int 1)]) (Or.inl ⟨rfl, rfl⟩) (by decide) (by decide) (by decide) (by decide) (by decide) rfl (Nat.le_of_ble_eq_true rfl) N0 ge_cA (g := (mkF m 13 #[rv r0, iv 0, iv 1, iv 2, .unset, .unset, .unset] [(.int 2), (.int 0), (.ref cA), (.int 0), (.ref oA)])) rfl (by rw [hml]; rfl) rfl (hb hby d7_13) (by decide) (W := 0) (Nat.le_refl _) (by decide)
  have pl3 := (allS (P := fun x => ∃ cell : Cell, h0[x]? = some cell ∧ cell.vm.isStatics = false) (own_ns E_cA) all0)
  have V3 : Arv Z h3 cA kC .int (256 : Int32) [(.int 0), (.int 1), (.int 0)] (.int 0) := Vr3
  have f4 := (F_scratch_r0.keep K3 (ninS ne_r0_cA nin0))
  obtain ⟨T5, X5, e5, st5⟩ := getF X3 hx hZ hown (host := "") (Or.inl (own_at hw 17 rfl)) Via.refl e3 f4 (g := (mkF m 45 #[rv r0, iv 0, iv 1, iv 2, iv 0, iv 1, iv 0] [(.ref r0), (.ref r0)])) rfl rfl (hb hby d7_45)
  obtain ⟨cl_z6, Ar_z6, q_z6, S_z6, N_z6, H_z6, G_z6⟩ := id V3
  have hin7 : ¬ ((0 : Int32) < 0 ∨ cl_z6.slots.size ≤ ((0 : Int32)).toNatClampNeg) := inb_of S_z6 ⟨by decide, by decide⟩
  obtain ⟨T8, X8, e8, st8⟩ := getF X5 hx hZ hown (host := "") (Or.inl (own_at hw 17 rfl)) Via.refl e5 f4 (g := (mkF m 52 #[rv r0, iv 0, iv 1, iv 2, iv 0, iv 1, iv 0] [(.ref r0), (.int 0), (.ref r0)])) rfl rfl (hb hby d7_52)
  have hin9 : ¬ ((1 : Int32) < 0 ∨ cl_z6.slots.size ≤ ((1 : Int32)).toNatClampNeg) := inb_of S_z6 ⟨by decide, by decide⟩
  have f11 := (E_r0.keep K3)
  have f12 := (F_maxNames_r0.keep K3 (ninS ne_r0_cA nin0))
  have f13 := (F_maxBytes_r0.keep K3 (ninS ne_r0_cA nin0))
  have f14 := (F_count_r0.keep K3 (ninS ne_r0_cA nin0))
  have f15 := (F_used_r0.keep K3 (ninS ne_r0_cA nin0))
  have f16 := (F_bytes_r0.keep K3 (ninS ne_r0_cA nin0))
  have f17 := (V_bA.keep K3 (ninS ne_bA_cA nin0))
  have f18 := (E_bA.keep K3)
  have f19 := (F_starts_r0.keep K3 (ninS ne_r0_cA nin0))
  have f20 := (V_sA.keep K3 (ninS ne_sA_cA nin0))
  have f21 := (E_sA.keep K3)
  obtain ⟨cq10, q10, q10'⟩ := f11.cell
  obtain ⟨_, _, ⟨T10, L10, j10, i10⟩, -, X10, ⟨Lc10, hQ10, l10, y10, z10⟩, st10⟩ := X8.privateBack hx (y := (⟨cS0, "compare", "(II)I"⟩ : MethodName)) hown (mvT hZ (own_at hw 55 rfl)) (mvT hZ (own_at hw 56 rfl)) (own_selpriv (by decide) (mvT hZ (own_at hw 1 rfl)) (mvP hZ (own_at hw 57 rfl)) (mvT hZ (own_at hw 56 rfl))) (Cond.privateMethod_at (mvP hZ (own_at hw 57 rfl) (args := #[]))) (mvT hZ (own_at hw 58 rfl)) (by decide) (backOf (W := 0) (rm8_01 l Z a0 hw [] r0 bA kB sA kS x0 x1 x2 h3 n0 (Nat.le_trans Z0 K3.1) f11 f12 f13 f14 f15 f16 f17 f18 f19 f20 f21) hZ (own_at hw 58 rfl) (own_at hw 2 rfl) (by decide) (by decide)) (g := (mkF m 58 #[rv r0, iv 0, iv 1, iv 2, iv 0, iv 1, iv 0] [(.int 1), (.int 0), (.ref r0)])) rfl (by rw [hml]; rfl) (Steps.refl _) (a := r0) (by rw [e8]; exact q10) q10' (argsL := [(.int 0), (.int 1)]) (rest := []) (lenOf pd_2 rfl) rfl (Nat.le_refl _) (hb hby d7_58) (fun _ _ => ⟨rfl, e8, (by decide : 0 + 0 ≤ _), (by decide : 0 + 0 ≤ _)⟩)
  dsimp only [Pt.U, Pt.locs, Pt.cells, Pt.slots] at X10 l10 y10 z10 st10 hQ10
  subst l10 y10 z10
  obtain ⟨rr_10, rfl, N10q, e10, -⟩ := hQ10
  have N10 := Fr.app N3 N10q
  have k23 : ∀ t, OwnS p e below T10 (mkF m 61 #[rv r0, iv 0, iv 1, iv 2, iv 0, iv 1, iv 0] [(.int rr_10)]) t → OwnS p e below s₁ (entryFrame m #[(.ref r0), (.int 0), (.int 1), (.int 2)] 7) t := fun t q => by
    refine k0 t ?_
    show OwnS p e below s₁ (mkF m 0 #[rv r0, iv 0, iv 1, iv 2, .unset, .unset, .unset] []) _
    refine XS.aloadN X0.here hx rfl (hb hby d7_0) rfl rfl ?_
    refine st1 _ ?_
    refine XS.iloadN X1.here hx rfl (hb hby d7_4) rfl ?_
    refine XS.aloadN X1.here hx rfl (hb hby d7_5) rfl rfl ?_
    refine st2 _ ?_
    refine XS.iloadN X2.here hx rfl (hb hby d7_9) rfl ?_
    refine XS.iloadN X2.here hx rfl (hb hby d7_10) rfl ?_
    refine XS.iloadN X2.here hx rfl (hb hby d7_11) rfl ?_
    refine XS.isub X2.here hx rfl (hb hby d7_12) rfl ?_
    refine st3 _ ?_
    refine XS.iloadN X3.here hx rfl (hb hby d7_16) rfl ?_
    refine XS.istore X3.here hx rfl (hb hby d7_17) rfl (l' := #[rv r0, iv 0, iv 1, iv 2, iv 0, .unset, .unset]) rfl ?_
    refine XS.iloadN X3.here hx rfl (hb hby d7_19) rfl ?_
    refine XS.istore X3.here hx rfl (hb hby d7_20) rfl (l' := #[rv r0, iv 0, iv 1, iv 2, iv 0, iv 1, .unset]) rfl ?_
    refine XS.iloadN X3.here hx rfl (hb hby d7_22) rfl ?_
    refine XS.istore X3.here hx rfl (hb hby d7_23) rfl (l' := #[rv r0, iv 0, iv 1, iv 2, iv 0, iv 1, iv 0]) rfl ?_
    refine XS.iload X3.here hx rfl (hb hby d7_25) rfl ?_
    refine XS.iloadN X3.here hx rfl (hb hby d7_27) rfl ?_
    refine XS.icmpNo X3.here hx rfl (hb hby d7_28) rfl (tlt (by decide : (0 : Int32) < (2 : Int32))).2.1 ?_
    refine XS.iload X3.here hx rfl (hb hby d7_31) rfl ?_
    refine XS.iloadN X3.here hx rfl (hb hby d7_33) rfl ?_
    refine XS.icmpNo X3.here hx rfl (hb hby d7_34) rfl (feq (by decide : ¬ ((1 : Int32) = (2 : Int32)))).1 ?_
    refine XS.iload X3.here hx rfl (hb hby d7_37) rfl ?_
    refine XS.iloadN X3.here hx rfl (hb hby d7_39) rfl ?_
    refine XS.icmpNo X3.here hx rfl (hb hby d7_40) rfl (tlt (by decide : (0 : Int32) < (1 : Int32))).2.1 ?_
    refine XS.aloadN X3.here hx rfl (hb hby d7_43) rfl rfl ?_
    refine XS.aloadN X3.here hx rfl (hb hby d7_44) rfl rfl ?_
    refine st5 _ ?_
    refine XS.iload X5.here hx rfl (hb hby d7_48) rfl ?_
    refine X5.iaload hx (j := (0 : Int32)) (v := (.int 0)) (by rw [e5]; exact Ar_z6.1) (State.isArrayOf_alike hZ.alike Ar_z6.2.1) Ar_z6.2.2 hin7 (Has.at H_z6 hin7 rfl) (g := (mkF m 50 #[rv r0, iv 0, iv 1, iv 2, iv 0, iv 1, iv 0] [(.int 0), (.ref cA), (.ref r0)])) rfl rfl (hb hby d7_50) _ ?_
    refine XS.aloadN X5.here hx rfl (hb hby d7_51) rfl rfl ?_
    refine st8 _ ?_
    refine XS.iload X8.here hx rfl (hb hby d7_55) rfl ?_
    refine X8.iaload hx (j := (1 : Int32)) (v := (.int 1)) (by rw [e8]; exact Ar_z6.1) (State.isArrayOf_alike hZ.alike Ar_z6.2.1) Ar_z6.2.2 hin9 (Has.at H_z6 hin9 rfl) (g := (mkF m 57 #[rv r0, iv 0, iv 1, iv 2, iv 0, iv 1, iv 0] [(.int 1), (.ref cA), (.int 0), (.ref r0)])) rfl rfl (hb hby d7_57) _ ?_
    refine st10.trans ?_
    exact q
  by_cases hc61_22 : (0 : Int32) < rr_10
  · have f24 := (F_order_r0.keep K3 (ninS ne_r0_cA nin0))
    obtain ⟨T25, X25, e25, st25⟩ := getF X10 hx hZ hown (host := "") (Or.inl (own_at hw 15 rfl)) Via.refl e10 f24 (g := (mkF m 85 #[rv r0, iv 0, iv 1, iv 2, iv 0, iv 1, iv 0] [(.ref r0)])) rfl rfl (hb hby d7_85)
    obtain ⟨T26, X26, e26, st26⟩ := getF X25 hx hZ hown (host := "") (Or.inl (own_at hw 17 rfl)) Via.refl e25 f4 (g := (mkF m 91 #[rv r0, iv 0, iv 1, iv 2, iv 0, iv 1, iv 0] [(.ref r0), (.int 0), (.ref oA)])) rfl rfl (hb hby d7_91)
    have hin27 : ¬ ((1 : Int32) < 0 ∨ cl_z6.slots.size ≤ ((1 : Int32)).toNatClampNeg) := inb_of S_z6 ⟨by decide, by decide⟩
    have f28 := (V_oA.keep K3 (ninS ne_oA_cA nin0))
    obtain ⟨cl_z29, Ar_z29, q_z29, S_z29, N_z29, H_z29, G_z29⟩ := id f28
    have hin30 : ¬ ((0 : Int32) < 0 ∨ cl_z29.slots.size ≤ ((0 : Int32)).toNatClampNeg) := inb_of S_z29 ⟨by decide, by decide⟩
    obtain ⟨T31, h31, X31, e31, W31, st31⟩ := stI X26 hx hZ e26 Ar_z29 (j := (0 : Int32)) hin30 (g := (mkF m 100 #[rv r0, iv 0, iv 1, iv 2, iv 0, iv ((1 : Int32) + (1 : Int32)), iv 0] [(.int 1), (.int 0), (.ref oA)])) rfl rfl (hb hby d7_100)
    have V31 : Arv Z h31 oA kO .int (256 : Int32) [(.int 1), (.int 1), (.int 2)] (.int 0) := Arv.set Ar_z29 q_z29 S_z29 N_z29 H_z29 G_z29 rfl W31 0 rfl (Nat.le_of_ble_eq_true rfl)
    have N31 := Fr.snoc X31 N10 ge_oA
    have f32 := (f24.other W31 (Or.inl ne_r0_oA))
    obtain ⟨T33, X33, e33, st33⟩ := getF X31 hx hZ hown (host := "") (Or.inl (own_at hw 15 rfl)) Via.refl e31 f32 (g := (mkF m 65 #[rv r0, iv 0, iv 1, iv 2, iv 0, iv ((1 : Int32) + (1 : Int32)), iv ((0 : Int32) + (1 : Int32))] [(.ref r0)])) rfl rfl (hb hby d7_65)
    have f34 := (f4.other W31 (Or.inl ne_r0_oA))
    obtain ⟨T35, X35, e35, st35⟩ := getF X33 hx hZ hown (host := "") (Or.inl (own_at hw 17 rfl)) Via.refl e33 f34 (g := (mkF m 71 #[rv r0, iv 0, iv 1, iv 2, iv 0, iv ((1 : Int32) + (1 : Int32)), iv ((0 : Int32) + (1 : Int32))] [(.ref r0), (.int 1), (.ref oA)])) rfl rfl (hb hby d7_71)
    have f36 := (V3.other W31 ne_cA_oA)
    obtain ⟨cl_z37, Ar_z37, q_z37, S_z37, N_z37, H_z37, G_z37⟩ := id f36
    have hin38 : ¬ ((0 : Int32) < 0 ∨ cl_z37.slots.size ≤ ((0 : Int32)).toNatClampNeg) := inb_of S_z37 ⟨by decide, by decide⟩
    obtain ⟨cl_z39, Ar_z39, q_z39, S_z39, N_z39, H_z39, G_z39⟩ := id V31
    have hin40 : ¬ ((1 : Int32) < 0 ∨ cl_z39.slots.size ≤ ((1 : Int32)).toNatClampNeg) := inb_of S_z39 ⟨by decide, by decide⟩
    obtain ⟨T41, h41, X41, e41, W41, st41⟩ := stI X35 hx hZ e35 Ar_z39 (j := (1 : Int32)) hin40 (g := (mkF m 80 #[rv r0, iv 0, iv 1, iv 2, iv ((0 : Int32) + (1 : Int32)), iv ((1 : Int32) + (1 : Int32)), iv ((0 : Int32) + (1 : Int32))] [(.int 0), (.int 1), (.ref oA)])) rfl rfl (hb hby d7_80)
    have V41 : Arv Z h41 oA kO .int (256 : Int32) [(.int 1), (.int 0), (.int 2)] (.int 0) := Arv.set Ar_z39 q_z39 S_z39 N_z39 H_z39 G_z39 rfl W41 1 rfl (Nat.le_of_ble_eq_true rfl)
    have N41 := Fr.snoc X41 N31 ge_oA
    have f42 := (f36.other W41 ne_cA_oA)
    obtain ⟨fs, hr, hrun, hended, hW, hsame⟩ := X41.leave (v := none) (fun _ => rfl)
    refine ⟨_, _, k23 _ ?_, hrun, hended, _, _, rfl, ?_, ⟨_, rfl⟩, hW, hsame.mono (by decide) (by decide)⟩
    · refine XS.ifYes X10.here hx rfl (pc0 := 61) (pc' := 84) rfl (hb hby d7_61) rfl ((if0 _ _).trans (tlt hc61_22).2.2.1) (by decide) (by decide) ?_
      refine XS.aloadN X10.here hx rfl (hb hby d7_84) rfl rfl ?_
      refine st25 _ ?_
      refine XS.iload X25.here hx rfl (hb hby d7_88) rfl ?_
      refine XS.aloadN X25.here hx rfl (hb hby d7_90) rfl rfl ?_
      refine st26 _ ?_
      refine XS.iload X26.here hx rfl (hb hby d7_94) rfl ?_
      refine XS.iinc X26.here hx rfl (hb hby d7_96) rfl (l' := #[rv r0, iv 0, iv 1, iv 2, iv 0, iv ((1 : Int32) + (1 : Int32)), iv 0]) rfl ?_
      refine X26.iaload hx (j := (1 : Int32)) (v := (.int 1)) (by rw [e26]; exact Ar_z6.1) (State.isArrayOf_alike hZ.alike Ar_z6.2.1) Ar_z6.2.2 hin27 (Has.at H_z6 hin27 rfl) (g := (mkF m 99 #[rv r0, iv 0, iv 1, iv 2, iv 0, iv ((1 : Int32) + (1 : Int32)), iv 0] [(.int 1), (.ref cA), (.int 0), (.ref oA)])) rfl rfl (hb hby d7_99) _ ?_
      refine st31 _ ?_
      refine XS.iinc X31.here hx rfl (hb hby d7_101) rfl (l' := #[rv r0, iv 0, iv 1, iv 2, iv 0, iv ((1 : Int32) + (1 : Int32)), iv ((0 : Int32) + (1 : Int32))]) rfl ?_
      refine XS.goto X31.here hx rfl (pc0 := 104) (pc' := 25) rfl (hb hby d7_104) (by decide) (by decide) ?_
      refine XS.iload X31.here hx rfl (hb hby d7_25) rfl ?_
      refine XS.iloadN X31.here hx rfl (hb hby d7_27) rfl ?_
      refine XS.icmpNo X31.here hx rfl (hb hby d7_28) rfl (tlt (by decide : (1 : Int32) < (2 : Int32))).2.1 ?_
      refine XS.iload X31.here hx rfl (hb hby d7_31) rfl ?_
      refine XS.iloadN X31.here hx rfl (hb hby d7_33) rfl ?_
      refine XS.icmpYes X31.here hx rfl (pc0 := 34) (pc' := 64) rfl (hb hby d7_34) rfl (teq (by decide : (2 : Int32) = (2 : Int32))).1 (by decide) (by decide) ?_
      refine XS.aloadN X31.here hx rfl (hb hby d7_64) rfl rfl ?_
      refine st33 _ ?_
      refine XS.iload X33.here hx rfl (hb hby d7_68) rfl ?_
      refine XS.aloadN X33.here hx rfl (hb hby d7_70) rfl rfl ?_
      refine st35 _ ?_
      refine XS.iload X35.here hx rfl (hb hby d7_74) rfl ?_
      refine XS.iinc X35.here hx rfl (hb hby d7_76) rfl (l' := #[rv r0, iv 0, iv 1, iv 2, iv ((0 : Int32) + (1 : Int32)), iv ((1 : Int32) + (1 : Int32)), iv ((0 : Int32) + (1 : Int32))]) rfl ?_
      refine X35.iaload hx (j := (0 : Int32)) (v := (.int 0)) (by rw [e35]; exact Ar_z37.1) (State.isArrayOf_alike hZ.alike Ar_z37.2.1) Ar_z37.2.2 hin38 (Has.at H_z37 hin38 rfl) (g := (mkF m 79 #[rv r0, iv 0, iv 1, iv 2, iv ((0 : Int32) + (1 : Int32)), iv ((1 : Int32) + (1 : Int32)), iv ((0 : Int32) + (1 : Int32))] [(.int 0), (.ref cA), (.int 1), (.ref oA)])) rfl rfl (hb hby d7_79) _ ?_
      refine st41 _ ?_
      refine XS.goto X41.here hx rfl (pc0 := 81) (pc' := 101) rfl (hb hby d7_81) (by decide) (by decide) ?_
      refine XS.iinc X41.here hx rfl (hb hby d7_101) rfl (l' := #[rv r0, iv 0, iv 1, iv 2, iv ((0 : Int32) + (1 : Int32)), iv ((1 : Int32) + (1 : Int32)), iv (((0 : Int32) + (1 : Int32)) + (1 : Int32))]) rfl ?_
      refine XS.goto X41.here hx rfl (pc0 := 104) (pc' := 25) rfl (hb hby d7_104) (by decide) (by decide) ?_
      refine XS.iload X41.here hx rfl (hb hby d7_25) rfl ?_
      refine XS.iloadN X41.here hx rfl (hb hby d7_27) rfl ?_
      refine XS.icmpYes X41.here hx rfl (pc0 := 28) (pc' := 107) rfl (hb hby d7_28) rfl (flt (by decide : ¬ ((2 : Int32) < (2 : Int32)))).2.1 (by decide) (by decide) ?_
      exact X41.returnOut hx Bd.returns (hb hby d7_107) hr
    · show Q_7_a Z r0 bA kB sA kS oA kO cA kC x0 x1 x2 h0 n0 _ T41.heap _
      rw [e41]
      exact Or.inl (⟨rfl, N41, ((((Keep.refl h0 [oA, cA]).trans K3 (allS (Or.inl (List.mem_of_getElem? (i := 1) rfl)) all0)).wr W31 (Or.inl (List.mem_of_getElem? (i := 0) rfl))).wr W41 (Or.inl (List.mem_of_getElem? (i := 0) rfl))), V41, f42⟩)
  · have f43 := (F_order_r0.keep K3 (ninS ne_r0_cA nin0))
    obtain ⟨T44, X44, e44, st44⟩ := getF X10 hx hZ hown (host := "") (Or.inl (own_at hw 15 rfl)) Via.refl e10 f43 (g := (mkF m 65 #[rv r0, iv 0, iv 1, iv 2, iv 0, iv 1, iv 0] [(.ref r0)])) rfl rfl (hb hby d7_65)
    obtain ⟨T45, X45, e45, st45⟩ := getF X44 hx hZ hown (host := "") (Or.inl (own_at hw 17 rfl)) Via.refl e44 f4 (g := (mkF m 71 #[rv r0, iv 0, iv 1, iv 2, iv 0, iv 1, iv 0] [(.ref r0), (.int 0), (.ref oA)])) rfl rfl (hb hby d7_71)
    have hin46 : ¬ ((0 : Int32) < 0 ∨ cl_z6.slots.size ≤ ((0 : Int32)).toNatClampNeg) := inb_of S_z6 ⟨by decide, by decide⟩
    have f47 := (V_oA.keep K3 (ninS ne_oA_cA nin0))
    obtain ⟨cl_z48, Ar_z48, q_z48, S_z48, N_z48, H_z48, G_z48⟩ := id f47
    have hin49 : ¬ ((0 : Int32) < 0 ∨ cl_z48.slots.size ≤ ((0 : Int32)).toNatClampNeg) := inb_of S_z48 ⟨by decide, by decide⟩
    obtain ⟨T50, h50, X50, e50, W50, st50⟩ := stI X45 hx hZ e45 Ar_z48 (j := (0 : Int32)) hin49 (g := (mkF m 80 #[rv r0, iv 0, iv 1, iv 2, iv ((0 : Int32) + (1 : Int32)), iv 1, iv 0] [(.int 0), (.int 0), (.ref oA)])) rfl rfl (hb hby d7_80)
    have V50 : Arv Z h50 oA kO .int (256 : Int32) [(.int 0), (.int 1), (.int 2)] (.int 0) := Arv.set Ar_z48 q_z48 S_z48 N_z48 H_z48 G_z48 rfl W50 0 rfl (Nat.le_of_ble_eq_true rfl)
    have N50 := Fr.snoc X50 N10 ge_oA
    have f51 := (f43.other W50 (Or.inl ne_r0_oA))
    obtain ⟨T52, X52, e52, st52⟩ := getF X50 hx hZ hown (host := "") (Or.inl (own_at hw 15 rfl)) Via.refl e50 f51 (g := (mkF m 85 #[rv r0, iv 0, iv 1, iv 2, iv ((0 : Int32) + (1 : Int32)), iv 1, iv ((0 : Int32) + (1 : Int32))] [(.ref r0)])) rfl rfl (hb hby d7_85)
    have f53 := (f4.other W50 (Or.inl ne_r0_oA))
    obtain ⟨T54, X54, e54, st54⟩ := getF X52 hx hZ hown (host := "") (Or.inl (own_at hw 17 rfl)) Via.refl e52 f53 (g := (mkF m 91 #[rv r0, iv 0, iv 1, iv 2, iv ((0 : Int32) + (1 : Int32)), iv 1, iv ((0 : Int32) + (1 : Int32))] [(.ref r0), (.int 1), (.ref oA)])) rfl rfl (hb hby d7_91)
    have f55 := (V3.other W50 ne_cA_oA)
    obtain ⟨cl_z56, Ar_z56, q_z56, S_z56, N_z56, H_z56, G_z56⟩ := id f55
    have hin57 : ¬ ((1 : Int32) < 0 ∨ cl_z56.slots.size ≤ ((1 : Int32)).toNatClampNeg) := inb_of S_z56 ⟨by decide, by decide⟩
    obtain ⟨cl_z58, Ar_z58, q_z58, S_z58, N_z58, H_z58, G_z58⟩ := id V50
    have hin59 : ¬ ((1 : Int32) < 0 ∨ cl_z58.slots.size ≤ ((1 : Int32)).toNatClampNeg) := inb_of S_z58 ⟨by decide, by decide⟩
    obtain ⟨T60, h60, X60, e60, W60, st60⟩ := stI X54 hx hZ e54 Ar_z58 (j := (1 : Int32)) hin59 (g := (mkF m 100 #[rv r0, iv 0, iv 1, iv 2, iv ((0 : Int32) + (1 : Int32)), iv ((1 : Int32) + (1 : Int32)), iv ((0 : Int32) + (1 : Int32))] [(.int 1), (.int 1), (.ref oA)])) rfl rfl (hb hby d7_100)
    have V60 : Arv Z h60 oA kO .int (256 : Int32) [(.int 0), (.int 1), (.int 2)] (.int 0) := Arv.set Ar_z58 q_z58 S_z58 N_z58 H_z58 G_z58 rfl W60 1 rfl (Nat.le_of_ble_eq_true rfl)
    have N60 := Fr.snoc X60 N50 ge_oA
    have f61 := (f55.other W60 ne_cA_oA)
    obtain ⟨fs, hr, hrun, hended, hW, hsame⟩ := X60.leave (v := none) (fun _ => rfl)
    refine ⟨_, _, k23 _ ?_, hrun, hended, _, _, rfl, ?_, ⟨_, rfl⟩, hW, hsame.mono (by decide) (by decide)⟩
    · refine XS.ifNo X10.here hx rfl (hb hby d7_61) rfl ((if0 _ _).trans (flt hc61_22).2.2.1) ?_
      refine XS.aloadN X10.here hx rfl (hb hby d7_64) rfl rfl ?_
      refine st44 _ ?_
      refine XS.iload X44.here hx rfl (hb hby d7_68) rfl ?_
      refine XS.aloadN X44.here hx rfl (hb hby d7_70) rfl rfl ?_
      refine st45 _ ?_
      refine XS.iload X45.here hx rfl (hb hby d7_74) rfl ?_
      refine XS.iinc X45.here hx rfl (hb hby d7_76) rfl (l' := #[rv r0, iv 0, iv 1, iv 2, iv ((0 : Int32) + (1 : Int32)), iv 1, iv 0]) rfl ?_
      refine X45.iaload hx (j := (0 : Int32)) (v := (.int 0)) (by rw [e45]; exact Ar_z6.1) (State.isArrayOf_alike hZ.alike Ar_z6.2.1) Ar_z6.2.2 hin46 (Has.at H_z6 hin46 rfl) (g := (mkF m 79 #[rv r0, iv 0, iv 1, iv 2, iv ((0 : Int32) + (1 : Int32)), iv 1, iv 0] [(.int 0), (.ref cA), (.int 0), (.ref oA)])) rfl rfl (hb hby d7_79) _ ?_
      refine st50 _ ?_
      refine XS.goto X50.here hx rfl (pc0 := 81) (pc' := 101) rfl (hb hby d7_81) (by decide) (by decide) ?_
      refine XS.iinc X50.here hx rfl (hb hby d7_101) rfl (l' := #[rv r0, iv 0, iv 1, iv 2, iv ((0 : Int32) + (1 : Int32)), iv 1, iv ((0 : Int32) + (1 : Int32))]) rfl ?_
      refine XS.goto X50.here hx rfl (pc0 := 104) (pc' := 25) rfl (hb hby d7_104) (by decide) (by decide) ?_
      refine XS.iload X50.here hx rfl (hb hby d7_25) rfl ?_
      refine XS.iloadN X50.here hx rfl (hb hby d7_27) rfl ?_
      refine XS.icmpNo X50.here hx rfl (hb hby d7_28) rfl (tlt (by decide : (1 : Int32) < (2 : Int32))).2.1 ?_
      refine XS.iload X50.here hx rfl (hb hby d7_31) rfl ?_
      refine XS.iloadN X50.here hx rfl (hb hby d7_33) rfl ?_
      refine XS.icmpNo X50.here hx rfl (hb hby d7_34) rfl (feq (by decide : ¬ ((1 : Int32) = (2 : Int32)))).1 ?_
      refine XS.iload X50.here hx rfl (hb hby d7_37) rfl ?_
      refine XS.iloadN X50.here hx rfl (hb hby d7_39) rfl ?_
      refine XS.icmpYes X50.here hx rfl (pc0 := 40) (pc' := 84) rfl (hb hby d7_40) rfl (flt (by decide : ¬ ((1 : Int32) < (1 : Int32)))).2.1 (by decide) (by decide) ?_
      refine XS.aloadN X50.here hx rfl (hb hby d7_84) rfl rfl ?_
      refine st52 _ ?_
      refine XS.iload X52.here hx rfl (hb hby d7_88) rfl ?_
      refine XS.aloadN X52.here hx rfl (hb hby d7_90) rfl rfl ?_
      refine st54 _ ?_
      refine XS.iload X54.here hx rfl (hb hby d7_94) rfl ?_
      refine XS.iinc X54.here hx rfl (hb hby d7_96) rfl (l' := #[rv r0, iv 0, iv 1, iv 2, iv ((0 : Int32) + (1 : Int32)), iv ((1 : Int32) + (1 : Int32)), iv ((0 : Int32) + (1 : Int32))]) rfl ?_
      refine X54.iaload hx (j := (1 : Int32)) (v := (.int 1)) (by rw [e54]; exact Ar_z56.1) (State.isArrayOf_alike hZ.alike Ar_z56.2.1) Ar_z56.2.2 hin57 (Has.at H_z56 hin57 rfl) (g := (mkF m 99 #[rv r0, iv 0, iv 1, iv 2, iv ((0 : Int32) + (1 : Int32)), iv ((1 : Int32) + (1 : Int32)), iv ((0 : Int32) + (1 : Int32))] [(.int 1), (.ref cA), (.int 1), (.ref oA)])) rfl rfl (hb hby d7_99) _ ?_
      refine st60 _ ?_
      refine XS.iinc X60.here hx rfl (hb hby d7_101) rfl (l' := #[rv r0, iv 0, iv 1, iv 2, iv ((0 : Int32) + (1 : Int32)), iv ((1 : Int32) + (1 : Int32)), iv (((0 : Int32) + (1 : Int32)) + (1 : Int32))]) rfl ?_
      refine XS.goto X60.here hx rfl (pc0 := 104) (pc' := 25) rfl (hb hby d7_104) (by decide) (by decide) ?_
      refine XS.iload X60.here hx rfl (hb hby d7_25) rfl ?_
      refine XS.iloadN X60.here hx rfl (hb hby d7_27) rfl ?_
      refine XS.icmpYes X60.here hx rfl (pc0 := 28) (pc' := 107) rfl (hb hby d7_28) rfl (flt (by decide : ¬ ((2 : Int32) < (2 : Int32)))).2.1 (by decide) (by decide) ?_
      exact X60.returnOut hx Bd.returns (hb hby d7_107) hr
    · show Q_7_a Z r0 bA kB sA kS oA kO cA kC x0 x1 x2 h0 n0 _ T60.heap _
      rw [e60]
      exact Or.inr ((⟨rfl, N60, ((((Keep.refl h0 [oA, cA]).trans K3 (allS (Or.inl (List.mem_of_getElem? (i := 1) rfl)) all0)).wr W50 (Or.inl (List.mem_of_getElem? (i := 0) rfl))).wr W60 (Or.inl (List.mem_of_getElem? (i := 0) rfl))), V60, f61⟩))
def Q_7_b (Z : State) (r0 : Addr) (bA : Addr) (kB : ClassId) (sA : Addr) (kS : ClassId) (oA : Addr) (kO : ClassId) (cA : Addr) (kC : ClassId) (x0 : Int32) (x1 : Int32) (x2 : Int32) (h0 : Heap) (n0 : Nat) (v : Option Value) (h : Heap) (L : List Loc) : Prop := (v = none ∧ Fr n0 L ∧ Keep h0 h [oA, cA] ∧ Arv Z h oA kO .int (256 : Int32) [(.int 2), (.int 0), (.int 1)] (.int 0) ∧ Arv Z h cA kC .int (256 : Int32) [(.int 0), (.int 1), (.int 2)] (.int 0)) ∨ (v = none ∧ Fr n0 L ∧ Keep h0 h [oA, cA] ∧ Arv Z h oA kO .int (256 : Int32) [(.int 0), (.int 2), (.int 1)] (.int 0) ∧ Arv Z h cA kC .int (256 : Int32) [(.int 0), (.int 1), (.int 2)] (.int 0)) ∨ (v = none ∧ Fr n0 L ∧ Keep h0 h [oA, cA] ∧ Arv Z h oA kO .int (256 : Int32) [(.int 0), (.int 1), (.int 2)] (.int 0) ∧ Arv Z h cA kC .int (256 : Int32) [(.int 0), (.int 1), (.int 2)] (.int 0))
set_option maxRecDepth 65536 in
set_option maxHeartbeats 40000000 in
theorem rm7_b (l : Launch) (Z : State) (a0 : Array Value) (hw : ∀ d ∈ tables_1, d.before a0 Z = true) (ws : List Jvm.Cond) (r0 : Addr) (bA : Addr) (kB : ClassId) (sA : Addr) (kS : ClassId) (oA : Addr) (kO : ClassId) (cA : Addr) (kC : ClassId) (x0 : Int32) (x1 : Int32) (x2 : Int32) (h0 : Heap) (n0 : Nat) (Z0 : n0 ≤ h0.size) (E_r0 : Exa Z h0 r0 cS0) (F_maxNames_r0 : Fld Z h0 r0 cS0 "maxNames" "I" (.int 3)) (F_maxBytes_r0 : Fld Z h0 r0 cS0 "maxBytes" "I" (.int 3)) (F_count_r0 : Fld Z h0 r0 cS0 "count" "I" (.int 3)) (F_used_r0 : Fld Z h0 r0 cS0 "used" "I" (.int 3)) (F_bytes_r0 : Fld Z h0 r0 cS0 "bytes" "[B" (.ref bA)) (V_bA : Arv Z h0 bA kB .byte (4096 : Int32) [(.int x0), (.int x1), (.int x2)] (.int 0)) (E_bA : Exa Z h0 bA "[B") (F_starts_r0 : Fld Z h0 r0 cS0 "starts" "[I" (.ref sA)) (V_sA : Arv Z h0 sA kS .int (256 : Int32) [(.int 0), (.int 1), (.int 2)] (.int 0)) (E_sA : Exa Z h0 sA "[I") (F_order_r0 : Fld Z h0 r0 cS0 "order" "[I" (.ref oA)) (V_oA : Arv Z h0 oA kO .int (256 : Int32) [(.int 0), (.int 1), (.int 2)] (.int 0)) (E_oA : Exa Z h0 oA "[I") (F_scratch_r0 : Fld Z h0 r0 cS0 "scratch" "[I" (.ref cA)) (V_cA : Arv Z h0 cA kC .int (256 : Int32) [(.int 0), (.int 1), (.int 0)] (.int 0)) (E_cA : Exa Z h0 cA "[I") (ge_cA : n0 ≤ cA) (ne_r0_cA : r0 ≠ cA) (ne_bA_cA : bA ≠ cA) (ne_sA_cA : sA ≠ cA) (ne_oA_cA : oA ≠ cA) (ge_oA : n0 ≤ oA) (ne_r0_oA : r0 ≠ oA) (ne_cA_oA : cA ≠ oA) (ne_bA_oA : bA ≠ oA) (ne_sA_oA : sA ≠ oA) :
    MetFree l (⟨cS0, "merge", "(III)V"⟩ : MethodName) (head1 (Jvm.Cond.code (⟨cS0, "merge", "(III)V"⟩ : MethodName) prog_6_method_9_code 7 none :: ws) ({ frames := 4, cells := 0, slots := 0, locals := 60 } : Room)) (fun a U => a = #[(.ref r0), (.int 0), (.int 2), (.int 3)] ∧ Z.Warmed39 U.vm ∧ U.heap = h0) (fun _ _ _ _ _ => True) (fun _ U o U' => ∃ v L, o = .returned v ∧ Q_7_b Z r0 bA kB sA kS oA kO cA kC x0 x1 x2 h0 n0 v U'.heap L ∧ FrameEnd U o U' L ({ frames := 4, cells := 0, slots := 0, locals := 60 } : Room).cells ({ frames := 4, cells := 0, slots := 0, locals := 60 } : Room).slots) := by
  refine MetFree.of_bodySF (plainFor_of_name pn_com_example_measurewright_measurewright_cli_NameBatch) hisR ?_
  intro p e s m args below meth c s₁ Bd hml0 hP hK
  obtain ⟨rfl, hZ, hh⟩ := hP
  have hx := Bd.exec
  have hby := Bd.bytes
  have hml : c.maxLocals = 7 := hml0
  have hown : s.vm.findClass cS0 = some m.cls := findClass_of_methodNamed Bd.named
  have hnm := (name_of_methodNamed Bd.named Bd.method).1
  have X0 : Stand p l e ({ frames := 4, cells := 0, slots := 0, locals := 60 } : Room) s m #[(.ref r0), (.int 0), (.int 2), (.int 3)] below meth c s₁ [] 0 0 := Stand.of_body Bd
  have e0 : s₁.heap = h0 := by rw [← hh, Bd.state]; rfl
  have N0 := Fr.nil n0
  have k0 : ∀ t, OwnS p e below s₁ (mkF m 0 #[rv r0, iv 0, iv 2, iv 3, .unset, .unset, .unset] []) t → OwnS p e below s₁ (entryFrame m #[(.ref r0), (.int 0), (.int 2), (.int 3)] 7) t := fun t k => castTop (ef_7 m r0 (0 : Int32) (2 : Int32) (3 : Int32)) k
  obtain ⟨T1, X1, e1, st1⟩ := getF X0 hx hZ hown (host := "") (Or.inl (own_at hw 15 rfl)) Via.refl e0 F_order_r0 (g := (mkF m 1 #[rv r0, iv 0, iv 2, iv 3, .unset, .unset, .unset] [(.ref r0)])) rfl rfl (hb hby d7_1)
  obtain ⟨T2, X2, e2, st2⟩ := getF X1 hx hZ hown (host := "") (Or.inl (own_at hw 17 rfl)) Via.refl e1 F_scratch_r0 (g := (mkF m 6 #[rv r0, iv 0, iv 2, iv 3, .unset, .unset, .unset] [(.ref r0), (.int 0), (.ref oA)])) rfl rfl (hb hby d7_6)
  obtain ⟨T3, h3, L3, X3, e3, N3, K3, Vr3, st3⟩ := cpA X2 hx hZ hown (own_at hw 34 rfl) (own_at hw 37 rfl) (own_at hw 35 rfl) (own_at hw 36 rfl) e2 V_oA V_cA (us := [(.int 0), (.int 1), (.int 2)]) (Or.inl ⟨rfl, rfl⟩) (by decide) (by decide) (by decide) (by decide) (by decide) rfl (Nat.le_of_ble_eq_true rfl) N0 ge_cA (g := (mkF m 13 #[rv r0, iv 0, iv 2, iv 3, .unset, .unset, .unset] [(.int 3), (.int 0), (.ref cA), (.int 0), (.ref oA)])) rfl (by rw [hml]; rfl) rfl (hb hby d7_13) (by decide) (W := 0) (Nat.le_refl _) (by decide)
  have pl3 := (allS (P := fun x => ∃ cell : Cell, h0[x]? = some cell ∧ cell.vm.isStatics = false) (own_ns E_cA) all0)
  have V3 : Arv Z h3 cA kC .int (256 : Int32) [(.int 0), (.int 1), (.int 2)] (.int 0) := Vr3
  have f4 := (F_scratch_r0.keep K3 (ninS ne_r0_cA nin0))
  obtain ⟨T5, X5, e5, st5⟩ := getF X3 hx hZ hown (host := "") (Or.inl (own_at hw 17 rfl)) Via.refl e3 f4 (g := (mkF m 45 #[rv r0, iv 0, iv 2, iv 3, iv 0, iv 2, iv 0] [(.ref r0), (.ref r0)])) rfl rfl (hb hby d7_45)
  obtain ⟨cl_z6, Ar_z6, q_z6, S_z6, N_z6, H_z6, G_z6⟩ := id V3
  have hin7 : ¬ ((0 : Int32) < 0 ∨ cl_z6.slots.size ≤ ((0 : Int32)).toNatClampNeg) := inb_of S_z6 ⟨by decide, by decide⟩
  obtain ⟨T8, X8, e8, st8⟩ := getF X5 hx hZ hown (host := "") (Or.inl (own_at hw 17 rfl)) Via.refl e5 f4 (g := (mkF m 52 #[rv r0, iv 0, iv 2, iv 3, iv 0, iv 2, iv 0] [(.ref r0), (.int 0), (.ref r0)])) rfl rfl (hb hby d7_52)
  have hin9 : ¬ ((2 : Int32) < 0 ∨ cl_z6.slots.size ≤ ((2 : Int32)).toNatClampNeg) := inb_of S_z6 ⟨by decide, by decide⟩
  have f11 := (E_r0.keep K3)
  have f12 := (F_maxNames_r0.keep K3 (ninS ne_r0_cA nin0))
  have f13 := (F_maxBytes_r0.keep K3 (ninS ne_r0_cA nin0))
  have f14 := (F_count_r0.keep K3 (ninS ne_r0_cA nin0))
  have f15 := (F_used_r0.keep K3 (ninS ne_r0_cA nin0))
  have f16 := (F_bytes_r0.keep K3 (ninS ne_r0_cA nin0))
  have f17 := (V_bA.keep K3 (ninS ne_bA_cA nin0))
  have f18 := (E_bA.keep K3)
  have f19 := (F_starts_r0.keep K3 (ninS ne_r0_cA nin0))
  have f20 := (V_sA.keep K3 (ninS ne_sA_cA nin0))
  have f21 := (E_sA.keep K3)
  obtain ⟨cq10, q10, q10'⟩ := f11.cell
  obtain ⟨_, _, ⟨T10, L10, j10, i10⟩, -, X10, ⟨Lc10, hQ10, l10, y10, z10⟩, st10⟩ := X8.privateBack hx (y := (⟨cS0, "compare", "(II)I"⟩ : MethodName)) hown (mvT hZ (own_at hw 55 rfl)) (mvT hZ (own_at hw 56 rfl)) (own_selpriv (by decide) (mvT hZ (own_at hw 1 rfl)) (mvP hZ (own_at hw 57 rfl)) (mvT hZ (own_at hw 56 rfl))) (Cond.privateMethod_at (mvP hZ (own_at hw 57 rfl) (args := #[]))) (mvT hZ (own_at hw 58 rfl)) (by decide) (backOf (W := 0) (rm8_02 l Z a0 hw [] r0 bA kB sA kS x0 x1 x2 h3 n0 (Nat.le_trans Z0 K3.1) f11 f12 f13 f14 f15 f16 f17 f18 f19 f20 f21) hZ (own_at hw 58 rfl) (own_at hw 2 rfl) (by decide) (by decide)) (g := (mkF m 58 #[rv r0, iv 0, iv 2, iv 3, iv 0, iv 2, iv 0] [(.int 2), (.int 0), (.ref r0)])) rfl (by rw [hml]; rfl) (Steps.refl _) (a := r0) (by rw [e8]; exact q10) q10' (argsL := [(.int 0), (.int 2)]) (rest := []) (lenOf pd_2 rfl) rfl (Nat.le_refl _) (hb hby d7_58) (fun _ _ => ⟨rfl, e8, (by decide : 0 + 0 ≤ _), (by decide : 0 + 0 ≤ _)⟩)
  dsimp only [Pt.U, Pt.locs, Pt.cells, Pt.slots] at X10 l10 y10 z10 st10 hQ10
  subst l10 y10 z10
  obtain ⟨rr_10, rfl, N10q, e10, -⟩ := hQ10
  have N10 := Fr.app N3 N10q
  have k23 : ∀ t, OwnS p e below T10 (mkF m 61 #[rv r0, iv 0, iv 2, iv 3, iv 0, iv 2, iv 0] [(.int rr_10)]) t → OwnS p e below s₁ (entryFrame m #[(.ref r0), (.int 0), (.int 2), (.int 3)] 7) t := fun t q => by
    refine k0 t ?_
    show OwnS p e below s₁ (mkF m 0 #[rv r0, iv 0, iv 2, iv 3, .unset, .unset, .unset] []) _
    refine XS.aloadN X0.here hx rfl (hb hby d7_0) rfl rfl ?_
    refine st1 _ ?_
    refine XS.iloadN X1.here hx rfl (hb hby d7_4) rfl ?_
    refine XS.aloadN X1.here hx rfl (hb hby d7_5) rfl rfl ?_
    refine st2 _ ?_
    refine XS.iloadN X2.here hx rfl (hb hby d7_9) rfl ?_
    refine XS.iloadN X2.here hx rfl (hb hby d7_10) rfl ?_
    refine XS.iloadN X2.here hx rfl (hb hby d7_11) rfl ?_
    refine XS.isub X2.here hx rfl (hb hby d7_12) rfl ?_
    refine st3 _ ?_
    refine XS.iloadN X3.here hx rfl (hb hby d7_16) rfl ?_
    refine XS.istore X3.here hx rfl (hb hby d7_17) rfl (l' := #[rv r0, iv 0, iv 2, iv 3, iv 0, .unset, .unset]) rfl ?_
    refine XS.iloadN X3.here hx rfl (hb hby d7_19) rfl ?_
    refine XS.istore X3.here hx rfl (hb hby d7_20) rfl (l' := #[rv r0, iv 0, iv 2, iv 3, iv 0, iv 2, .unset]) rfl ?_
    refine XS.iloadN X3.here hx rfl (hb hby d7_22) rfl ?_
    refine XS.istore X3.here hx rfl (hb hby d7_23) rfl (l' := #[rv r0, iv 0, iv 2, iv 3, iv 0, iv 2, iv 0]) rfl ?_
    refine XS.iload X3.here hx rfl (hb hby d7_25) rfl ?_
    refine XS.iloadN X3.here hx rfl (hb hby d7_27) rfl ?_
    refine XS.icmpNo X3.here hx rfl (hb hby d7_28) rfl (tlt (by decide : (0 : Int32) < (3 : Int32))).2.1 ?_
    refine XS.iload X3.here hx rfl (hb hby d7_31) rfl ?_
    refine XS.iloadN X3.here hx rfl (hb hby d7_33) rfl ?_
    refine XS.icmpNo X3.here hx rfl (hb hby d7_34) rfl (feq (by decide : ¬ ((2 : Int32) = (3 : Int32)))).1 ?_
    refine XS.iload X3.here hx rfl (hb hby d7_37) rfl ?_
    refine XS.iloadN X3.here hx rfl (hb hby d7_39) rfl ?_
    refine XS.icmpNo X3.here hx rfl (hb hby d7_40) rfl (tlt (by decide : (0 : Int32) < (2 : Int32))).2.1 ?_
    refine XS.aloadN X3.here hx rfl (hb hby d7_43) rfl rfl ?_
    refine XS.aloadN X3.here hx rfl (hb hby d7_44) rfl rfl ?_
    refine st5 _ ?_
    refine XS.iload X5.here hx rfl (hb hby d7_48) rfl ?_
    refine X5.iaload hx (j := (0 : Int32)) (v := (.int 0)) (by rw [e5]; exact Ar_z6.1) (State.isArrayOf_alike hZ.alike Ar_z6.2.1) Ar_z6.2.2 hin7 (Has.at H_z6 hin7 rfl) (g := (mkF m 50 #[rv r0, iv 0, iv 2, iv 3, iv 0, iv 2, iv 0] [(.int 0), (.ref cA), (.ref r0)])) rfl rfl (hb hby d7_50) _ ?_
    refine XS.aloadN X5.here hx rfl (hb hby d7_51) rfl rfl ?_
    refine st8 _ ?_
    refine XS.iload X8.here hx rfl (hb hby d7_55) rfl ?_
    refine X8.iaload hx (j := (2 : Int32)) (v := (.int 2)) (by rw [e8]; exact Ar_z6.1) (State.isArrayOf_alike hZ.alike Ar_z6.2.1) Ar_z6.2.2 hin9 (Has.at H_z6 hin9 rfl) (g := (mkF m 57 #[rv r0, iv 0, iv 2, iv 3, iv 0, iv 2, iv 0] [(.int 2), (.ref cA), (.int 0), (.ref r0)])) rfl rfl (hb hby d7_57) _ ?_
    refine st10.trans ?_
    exact q
  by_cases hc61_22 : (0 : Int32) < rr_10
  · have f24 := (F_order_r0.keep K3 (ninS ne_r0_cA nin0))
    obtain ⟨T25, X25, e25, st25⟩ := getF X10 hx hZ hown (host := "") (Or.inl (own_at hw 15 rfl)) Via.refl e10 f24 (g := (mkF m 85 #[rv r0, iv 0, iv 2, iv 3, iv 0, iv 2, iv 0] [(.ref r0)])) rfl rfl (hb hby d7_85)
    obtain ⟨T26, X26, e26, st26⟩ := getF X25 hx hZ hown (host := "") (Or.inl (own_at hw 17 rfl)) Via.refl e25 f4 (g := (mkF m 91 #[rv r0, iv 0, iv 2, iv 3, iv 0, iv 2, iv 0] [(.ref r0), (.int 0), (.ref oA)])) rfl rfl (hb hby d7_91)
    have hin27 : ¬ ((2 : Int32) < 0 ∨ cl_z6.slots.size ≤ ((2 : Int32)).toNatClampNeg) := inb_of S_z6 ⟨by decide, by decide⟩
    have f28 := (V_oA.keep K3 (ninS ne_oA_cA nin0))
    obtain ⟨cl_z29, Ar_z29, q_z29, S_z29, N_z29, H_z29, G_z29⟩ := id f28
    have hin30 : ¬ ((0 : Int32) < 0 ∨ cl_z29.slots.size ≤ ((0 : Int32)).toNatClampNeg) := inb_of S_z29 ⟨by decide, by decide⟩
    obtain ⟨T31, h31, X31, e31, W31, st31⟩ := stI X26 hx hZ e26 Ar_z29 (j := (0 : Int32)) hin30 (g := (mkF m 100 #[rv r0, iv 0, iv 2, iv 3, iv 0, iv ((2 : Int32) + (1 : Int32)), iv 0] [(.int 2), (.int 0), (.ref oA)])) rfl rfl (hb hby d7_100)
    have V31 : Arv Z h31 oA kO .int (256 : Int32) [(.int 2), (.int 1), (.int 2)] (.int 0) := Arv.set Ar_z29 q_z29 S_z29 N_z29 H_z29 G_z29 rfl W31 0 rfl (Nat.le_of_ble_eq_true rfl)
    have N31 := Fr.snoc X31 N10 ge_oA
    have f32 := (f24.other W31 (Or.inl ne_r0_oA))
    obtain ⟨T33, X33, e33, st33⟩ := getF X31 hx hZ hown (host := "") (Or.inl (own_at hw 15 rfl)) Via.refl e31 f32 (g := (mkF m 65 #[rv r0, iv 0, iv 2, iv 3, iv 0, iv ((2 : Int32) + (1 : Int32)), iv ((0 : Int32) + (1 : Int32))] [(.ref r0)])) rfl rfl (hb hby d7_65)
    have f34 := (f4.other W31 (Or.inl ne_r0_oA))
    obtain ⟨T35, X35, e35, st35⟩ := getF X33 hx hZ hown (host := "") (Or.inl (own_at hw 17 rfl)) Via.refl e33 f34 (g := (mkF m 71 #[rv r0, iv 0, iv 2, iv 3, iv 0, iv ((2 : Int32) + (1 : Int32)), iv ((0 : Int32) + (1 : Int32))] [(.ref r0), (.int 1), (.ref oA)])) rfl rfl (hb hby d7_71)
    have f36 := (V3.other W31 ne_cA_oA)
    obtain ⟨cl_z37, Ar_z37, q_z37, S_z37, N_z37, H_z37, G_z37⟩ := id f36
    have hin38 : ¬ ((0 : Int32) < 0 ∨ cl_z37.slots.size ≤ ((0 : Int32)).toNatClampNeg) := inb_of S_z37 ⟨by decide, by decide⟩
    obtain ⟨cl_z39, Ar_z39, q_z39, S_z39, N_z39, H_z39, G_z39⟩ := id V31
    have hin40 : ¬ ((1 : Int32) < 0 ∨ cl_z39.slots.size ≤ ((1 : Int32)).toNatClampNeg) := inb_of S_z39 ⟨by decide, by decide⟩
    obtain ⟨T41, h41, X41, e41, W41, st41⟩ := stI X35 hx hZ e35 Ar_z39 (j := (1 : Int32)) hin40 (g := (mkF m 80 #[rv r0, iv 0, iv 2, iv 3, iv ((0 : Int32) + (1 : Int32)), iv ((2 : Int32) + (1 : Int32)), iv ((0 : Int32) + (1 : Int32))] [(.int 0), (.int 1), (.ref oA)])) rfl rfl (hb hby d7_80)
    have V41 : Arv Z h41 oA kO .int (256 : Int32) [(.int 2), (.int 0), (.int 2)] (.int 0) := Arv.set Ar_z39 q_z39 S_z39 N_z39 H_z39 G_z39 rfl W41 1 rfl (Nat.le_of_ble_eq_true rfl)
    have N41 := Fr.snoc X41 N31 ge_oA
    have f42 := (f32.other W41 (Or.inl ne_r0_oA))
    obtain ⟨T43, X43, e43, st43⟩ := getF X41 hx hZ hown (host := "") (Or.inl (own_at hw 15 rfl)) Via.refl e41 f42 (g := (mkF m 65 #[rv r0, iv 0, iv 2, iv 3, iv ((0 : Int32) + (1 : Int32)), iv ((2 : Int32) + (1 : Int32)), iv (((0 : Int32) + (1 : Int32)) + (1 : Int32))] [(.ref r0)])) rfl rfl (hb hby d7_65)
    have f44 := (f34.other W41 (Or.inl ne_r0_oA))
    obtain ⟨T45, X45, e45, st45⟩ := getF X43 hx hZ hown (host := "") (Or.inl (own_at hw 17 rfl)) Via.refl e43 f44 (g := (mkF m 71 #[rv r0, iv 0, iv 2, iv 3, iv ((0 : Int32) + (1 : Int32)), iv ((2 : Int32) + (1 : Int32)), iv (((0 : Int32) + (1 : Int32)) + (1 : Int32))] [(.ref r0), (.int 2), (.ref oA)])) rfl rfl (hb hby d7_71)
    have f46 := (f36.other W41 ne_cA_oA)
    obtain ⟨cl_z47, Ar_z47, q_z47, S_z47, N_z47, H_z47, G_z47⟩ := id f46
    have hin48 : ¬ ((1 : Int32) < 0 ∨ cl_z47.slots.size ≤ ((1 : Int32)).toNatClampNeg) := inb_of S_z47 ⟨by decide, by decide⟩
    obtain ⟨cl_z49, Ar_z49, q_z49, S_z49, N_z49, H_z49, G_z49⟩ := id V41
    have hin50 : ¬ ((2 : Int32) < 0 ∨ cl_z49.slots.size ≤ ((2 : Int32)).toNatClampNeg) := inb_of S_z49 ⟨by decide, by decide⟩
    obtain ⟨T51, h51, X51, e51, W51, st51⟩ := stI X45 hx hZ e45 Ar_z49 (j := (2 : Int32)) hin50 (g := (mkF m 80 #[rv r0, iv 0, iv 2, iv 3, iv (((0 : Int32) + (1 : Int32)) + (1 : Int32)), iv ((2 : Int32) + (1 : Int32)), iv (((0 : Int32) + (1 : Int32)) + (1 : Int32))] [(.int 1), (.int 2), (.ref oA)])) rfl rfl (hb hby d7_80)
    have V51 : Arv Z h51 oA kO .int (256 : Int32) [(.int 2), (.int 0), (.int 1)] (.int 0) := Arv.set Ar_z49 q_z49 S_z49 N_z49 H_z49 G_z49 rfl W51 2 rfl (Nat.le_of_ble_eq_true rfl)
    have N51 := Fr.snoc X51 N41 ge_oA
    have f52 := (f46.other W51 ne_cA_oA)
    obtain ⟨fs, hr, hrun, hended, hW, hsame⟩ := X51.leave (v := none) (fun _ => rfl)
    refine ⟨_, _, k23 _ ?_, hrun, hended, _, _, rfl, ?_, ⟨_, rfl⟩, hW, hsame.mono (by decide) (by decide)⟩
    · refine XS.ifYes X10.here hx rfl (pc0 := 61) (pc' := 84) rfl (hb hby d7_61) rfl ((if0 _ _).trans (tlt hc61_22).2.2.1) (by decide) (by decide) ?_
      refine XS.aloadN X10.here hx rfl (hb hby d7_84) rfl rfl ?_
      refine st25 _ ?_
      refine XS.iload X25.here hx rfl (hb hby d7_88) rfl ?_
      refine XS.aloadN X25.here hx rfl (hb hby d7_90) rfl rfl ?_
      refine st26 _ ?_
      refine XS.iload X26.here hx rfl (hb hby d7_94) rfl ?_
      refine XS.iinc X26.here hx rfl (hb hby d7_96) rfl (l' := #[rv r0, iv 0, iv 2, iv 3, iv 0, iv ((2 : Int32) + (1 : Int32)), iv 0]) rfl ?_
      refine X26.iaload hx (j := (2 : Int32)) (v := (.int 2)) (by rw [e26]; exact Ar_z6.1) (State.isArrayOf_alike hZ.alike Ar_z6.2.1) Ar_z6.2.2 hin27 (Has.at H_z6 hin27 rfl) (g := (mkF m 99 #[rv r0, iv 0, iv 2, iv 3, iv 0, iv ((2 : Int32) + (1 : Int32)), iv 0] [(.int 2), (.ref cA), (.int 0), (.ref oA)])) rfl rfl (hb hby d7_99) _ ?_
      refine st31 _ ?_
      refine XS.iinc X31.here hx rfl (hb hby d7_101) rfl (l' := #[rv r0, iv 0, iv 2, iv 3, iv 0, iv ((2 : Int32) + (1 : Int32)), iv ((0 : Int32) + (1 : Int32))]) rfl ?_
      refine XS.goto X31.here hx rfl (pc0 := 104) (pc' := 25) rfl (hb hby d7_104) (by decide) (by decide) ?_
      refine XS.iload X31.here hx rfl (hb hby d7_25) rfl ?_
      refine XS.iloadN X31.here hx rfl (hb hby d7_27) rfl ?_
      refine XS.icmpNo X31.here hx rfl (hb hby d7_28) rfl (tlt (by decide : (1 : Int32) < (3 : Int32))).2.1 ?_
      refine XS.iload X31.here hx rfl (hb hby d7_31) rfl ?_
      refine XS.iloadN X31.here hx rfl (hb hby d7_33) rfl ?_
      refine XS.icmpYes X31.here hx rfl (pc0 := 34) (pc' := 64) rfl (hb hby d7_34) rfl (teq (by decide : (3 : Int32) = (3 : Int32))).1 (by decide) (by decide) ?_
      refine XS.aloadN X31.here hx rfl (hb hby d7_64) rfl rfl ?_
      refine st33 _ ?_
      refine XS.iload X33.here hx rfl (hb hby d7_68) rfl ?_
      refine XS.aloadN X33.here hx rfl (hb hby d7_70) rfl rfl ?_
      refine st35 _ ?_
      refine XS.iload X35.here hx rfl (hb hby d7_74) rfl ?_
      refine XS.iinc X35.here hx rfl (hb hby d7_76) rfl (l' := #[rv r0, iv 0, iv 2, iv 3, iv ((0 : Int32) + (1 : Int32)), iv ((2 : Int32) + (1 : Int32)), iv ((0 : Int32) + (1 : Int32))]) rfl ?_
      refine X35.iaload hx (j := (0 : Int32)) (v := (.int 0)) (by rw [e35]; exact Ar_z37.1) (State.isArrayOf_alike hZ.alike Ar_z37.2.1) Ar_z37.2.2 hin38 (Has.at H_z37 hin38 rfl) (g := (mkF m 79 #[rv r0, iv 0, iv 2, iv 3, iv ((0 : Int32) + (1 : Int32)), iv ((2 : Int32) + (1 : Int32)), iv ((0 : Int32) + (1 : Int32))] [(.int 0), (.ref cA), (.int 1), (.ref oA)])) rfl rfl (hb hby d7_79) _ ?_
      refine st41 _ ?_
      refine XS.goto X41.here hx rfl (pc0 := 81) (pc' := 101) rfl (hb hby d7_81) (by decide) (by decide) ?_
      refine XS.iinc X41.here hx rfl (hb hby d7_101) rfl (l' := #[rv r0, iv 0, iv 2, iv 3, iv ((0 : Int32) + (1 : Int32)), iv ((2 : Int32) + (1 : Int32)), iv (((0 : Int32) + (1 : Int32)) + (1 : Int32))]) rfl ?_
      refine XS.goto X41.here hx rfl (pc0 := 104) (pc' := 25) rfl (hb hby d7_104) (by decide) (by decide) ?_
      refine XS.iload X41.here hx rfl (hb hby d7_25) rfl ?_
      refine XS.iloadN X41.here hx rfl (hb hby d7_27) rfl ?_
      refine XS.icmpNo X41.here hx rfl (hb hby d7_28) rfl (tlt (by decide : (2 : Int32) < (3 : Int32))).2.1 ?_
      refine XS.iload X41.here hx rfl (hb hby d7_31) rfl ?_
      refine XS.iloadN X41.here hx rfl (hb hby d7_33) rfl ?_
      refine XS.icmpYes X41.here hx rfl (pc0 := 34) (pc' := 64) rfl (hb hby d7_34) rfl (teq (by decide : (3 : Int32) = (3 : Int32))).1 (by decide) (by decide) ?_
      refine XS.aloadN X41.here hx rfl (hb hby d7_64) rfl rfl ?_
      refine st43 _ ?_
      refine XS.iload X43.here hx rfl (hb hby d7_68) rfl ?_
      refine XS.aloadN X43.here hx rfl (hb hby d7_70) rfl rfl ?_
      show OwnS p e below T43 (mkF m 71 #[rv r0, iv 0, iv 2, iv 3, iv ((0 : Int32) + (1 : Int32)), iv ((2 : Int32) + (1 : Int32)), iv (((0 : Int32) + (1 : Int32)) + (1 : Int32))] [(.ref r0), (.int 2), (.ref oA)]) _
      refine st45 _ ?_
      refine XS.iload X45.here hx rfl (hb hby d7_74) rfl ?_
      refine XS.iinc X45.here hx rfl (hb hby d7_76) rfl (l' := #[rv r0, iv 0, iv 2, iv 3, iv (((0 : Int32) + (1 : Int32)) + (1 : Int32)), iv ((2 : Int32) + (1 : Int32)), iv (((0 : Int32) + (1 : Int32)) + (1 : Int32))]) rfl ?_
      refine X45.iaload hx (j := (1 : Int32)) (v := (.int 1)) (by rw [e45]; exact Ar_z47.1) (State.isArrayOf_alike hZ.alike Ar_z47.2.1) Ar_z47.2.2 hin48 (Has.at H_z47 hin48 rfl) (g := (mkF m 79 #[rv r0, iv 0, iv 2, iv 3, iv (((0 : Int32) + (1 : Int32)) + (1 : Int32)), iv ((2 : Int32) + (1 : Int32)), iv (((0 : Int32) + (1 : Int32)) + (1 : Int32))] [(.int 1), (.ref cA), (.int 2), (.ref oA)])) rfl rfl (hb hby d7_79) _ ?_
      refine st51 _ ?_
      refine XS.goto X51.here hx rfl (pc0 := 81) (pc' := 101) rfl (hb hby d7_81) (by decide) (by decide) ?_
      refine XS.iinc X51.here hx rfl (hb hby d7_101) rfl (l' := #[rv r0, iv 0, iv 2, iv 3, iv (((0 : Int32) + (1 : Int32)) + (1 : Int32)), iv ((2 : Int32) + (1 : Int32)), iv ((((0 : Int32) + (1 : Int32)) + (1 : Int32)) + (1 : Int32))]) rfl ?_
      refine XS.goto X51.here hx rfl (pc0 := 104) (pc' := 25) rfl (hb hby d7_104) (by decide) (by decide) ?_
      refine XS.iload X51.here hx rfl (hb hby d7_25) rfl ?_
      refine XS.iloadN X51.here hx rfl (hb hby d7_27) rfl ?_
      refine XS.icmpYes X51.here hx rfl (pc0 := 28) (pc' := 107) rfl (hb hby d7_28) rfl (flt (by decide : ¬ ((3 : Int32) < (3 : Int32)))).2.1 (by decide) (by decide) ?_
      exact X51.returnOut hx Bd.returns (hb hby d7_107) hr
    · show Q_7_b Z r0 bA kB sA kS oA kO cA kC x0 x1 x2 h0 n0 _ T51.heap _
      rw [e51]
      exact Or.inl (⟨rfl, N51, (((((Keep.refl h0 [oA, cA]).trans K3 (allS (Or.inl (List.mem_of_getElem? (i := 1) rfl)) all0)).wr W31 (Or.inl (List.mem_of_getElem? (i := 0) rfl))).wr W41 (Or.inl (List.mem_of_getElem? (i := 0) rfl))).wr W51 (Or.inl (List.mem_of_getElem? (i := 0) rfl))), V51, f52⟩)
  · have f53 := (F_order_r0.keep K3 (ninS ne_r0_cA nin0))
    obtain ⟨T54, X54, e54, st54⟩ := getF X10 hx hZ hown (host := "") (Or.inl (own_at hw 15 rfl)) Via.refl e10 f53 (g := (mkF m 65 #[rv r0, iv 0, iv 2, iv 3, iv 0, iv 2, iv 0] [(.ref r0)])) rfl rfl (hb hby d7_65)
    obtain ⟨T55, X55, e55, st55⟩ := getF X54 hx hZ hown (host := "") (Or.inl (own_at hw 17 rfl)) Via.refl e54 f4 (g := (mkF m 71 #[rv r0, iv 0, iv 2, iv 3, iv 0, iv 2, iv 0] [(.ref r0), (.int 0), (.ref oA)])) rfl rfl (hb hby d7_71)
    have hin56 : ¬ ((0 : Int32) < 0 ∨ cl_z6.slots.size ≤ ((0 : Int32)).toNatClampNeg) := inb_of S_z6 ⟨by decide, by decide⟩
    have f57 := (V_oA.keep K3 (ninS ne_oA_cA nin0))
    obtain ⟨cl_z58, Ar_z58, q_z58, S_z58, N_z58, H_z58, G_z58⟩ := id f57
    have hin59 : ¬ ((0 : Int32) < 0 ∨ cl_z58.slots.size ≤ ((0 : Int32)).toNatClampNeg) := inb_of S_z58 ⟨by decide, by decide⟩
    obtain ⟨T60, h60, X60, e60, W60, st60⟩ := stI X55 hx hZ e55 Ar_z58 (j := (0 : Int32)) hin59 (g := (mkF m 80 #[rv r0, iv 0, iv 2, iv 3, iv ((0 : Int32) + (1 : Int32)), iv 2, iv 0] [(.int 0), (.int 0), (.ref oA)])) rfl rfl (hb hby d7_80)
    have V60 : Arv Z h60 oA kO .int (256 : Int32) [(.int 0), (.int 1), (.int 2)] (.int 0) := Arv.set Ar_z58 q_z58 S_z58 N_z58 H_z58 G_z58 rfl W60 0 rfl (Nat.le_of_ble_eq_true rfl)
    have N60 := Fr.snoc X60 N10 ge_oA
    have f61 := (f4.other W60 (Or.inl ne_r0_oA))
    obtain ⟨T62, X62, e62, st62⟩ := getF X60 hx hZ hown (host := "") (Or.inl (own_at hw 17 rfl)) Via.refl e60 f61 (g := (mkF m 45 #[rv r0, iv 0, iv 2, iv 3, iv ((0 : Int32) + (1 : Int32)), iv 2, iv ((0 : Int32) + (1 : Int32))] [(.ref r0), (.ref r0)])) rfl rfl (hb hby d7_45)
    have f63 := (V3.other W60 ne_cA_oA)
    obtain ⟨cl_z64, Ar_z64, q_z64, S_z64, N_z64, H_z64, G_z64⟩ := id f63
    have hin65 : ¬ ((1 : Int32) < 0 ∨ cl_z64.slots.size ≤ ((1 : Int32)).toNatClampNeg) := inb_of S_z64 ⟨by decide, by decide⟩
    obtain ⟨T66, X66, e66, st66⟩ := getF X62 hx hZ hown (host := "") (Or.inl (own_at hw 17 rfl)) Via.refl e62 f61 (g := (mkF m 52 #[rv r0, iv 0, iv 2, iv 3, iv ((0 : Int32) + (1 : Int32)), iv 2, iv ((0 : Int32) + (1 : Int32))] [(.ref r0), (.int 1), (.ref r0)])) rfl rfl (hb hby d7_52)
    have hin67 : ¬ ((2 : Int32) < 0 ∨ cl_z64.slots.size ≤ ((2 : Int32)).toNatClampNeg) := inb_of S_z64 ⟨by decide, by decide⟩
    have f69 := (f11.wr W60)
    have f70 := (f12.other W60 (Or.inl ne_r0_oA))
    have f71 := (f13.other W60 (Or.inl ne_r0_oA))
    have f72 := (f14.other W60 (Or.inl ne_r0_oA))
    have f73 := (f15.other W60 (Or.inl ne_r0_oA))
    have f74 := (f16.other W60 (Or.inl ne_r0_oA))
    have f75 := (f17.other W60 ne_bA_oA)
    have f76 := (f18.wr W60)
    have f77 := (f19.other W60 (Or.inl ne_r0_oA))
    have f78 := (f20.other W60 ne_sA_oA)
    have f79 := (f21.wr W60)
    obtain ⟨cq68, q68, q68'⟩ := f69.cell
    obtain ⟨_, _, ⟨T68, L68, j68, i68⟩, -, X68, ⟨Lc68, hQ68, l68, y68, z68⟩, st68⟩ := X66.privateBack hx (y := (⟨cS0, "compare", "(II)I"⟩ : MethodName)) hown (mvT hZ (own_at hw 55 rfl)) (mvT hZ (own_at hw 56 rfl)) (own_selpriv (by decide) (mvT hZ (own_at hw 1 rfl)) (mvP hZ (own_at hw 57 rfl)) (mvT hZ (own_at hw 56 rfl))) (Cond.privateMethod_at (mvP hZ (own_at hw 57 rfl) (args := #[]))) (mvT hZ (own_at hw 58 rfl)) (by decide) (backOf (W := 0) (rm8_12 l Z a0 hw [] r0 bA kB sA kS x0 x1 x2 h60 n0 (Nat.le_trans (Nat.le_trans Z0 K3.1) (Keep.of_wr W60).1) f69 f70 f71 f72 f73 f74 f75 f76 f77 f78 f79) hZ (own_at hw 58 rfl) (own_at hw 2 rfl) (by decide) (by decide)) (g := (mkF m 58 #[rv r0, iv 0, iv 2, iv 3, iv ((0 : Int32) + (1 : Int32)), iv 2, iv ((0 : Int32) + (1 : Int32))] [(.int 2), (.int 1), (.ref r0)])) rfl (by rw [hml]; rfl) (Steps.refl _) (a := r0) (by rw [e66]; exact q68) q68' (argsL := [(.int 1), (.int 2)]) (rest := []) (lenOf pd_2 rfl) rfl (Nat.le_refl _) (hb hby d7_58) (fun _ _ => ⟨rfl, e66, (by decide : 0 + 0 ≤ _), (by decide : 0 + 0 ≤ _)⟩)
    dsimp only [Pt.U, Pt.locs, Pt.cells, Pt.slots] at X68 l68 y68 z68 st68 hQ68
    subst l68 y68 z68
    obtain ⟨rr_68, rfl, N68q, e68, -⟩ := hQ68
    have N68 := Fr.app N60 N68q
    have k81 : ∀ t, OwnS p e below T68 (mkF m 61 #[rv r0, iv 0, iv 2, iv 3, iv ((0 : Int32) + (1 : Int32)), iv 2, iv ((0 : Int32) + (1 : Int32))] [(.int rr_68)]) t → OwnS p e below s₁ (entryFrame m #[(.ref r0), (.int 0), (.int 2), (.int 3)] 7) t := fun t q => by
      refine k23 t ?_
      refine XS.ifNo X10.here hx rfl (hb hby d7_61) rfl ((if0 _ _).trans (flt hc61_22).2.2.1) ?_
      refine XS.aloadN X10.here hx rfl (hb hby d7_64) rfl rfl ?_
      refine st54 _ ?_
      refine XS.iload X54.here hx rfl (hb hby d7_68) rfl ?_
      refine XS.aloadN X54.here hx rfl (hb hby d7_70) rfl rfl ?_
      refine st55 _ ?_
      refine XS.iload X55.here hx rfl (hb hby d7_74) rfl ?_
      refine XS.iinc X55.here hx rfl (hb hby d7_76) rfl (l' := #[rv r0, iv 0, iv 2, iv 3, iv ((0 : Int32) + (1 : Int32)), iv 2, iv 0]) rfl ?_
      refine X55.iaload hx (j := (0 : Int32)) (v := (.int 0)) (by rw [e55]; exact Ar_z6.1) (State.isArrayOf_alike hZ.alike Ar_z6.2.1) Ar_z6.2.2 hin56 (Has.at H_z6 hin56 rfl) (g := (mkF m 79 #[rv r0, iv 0, iv 2, iv 3, iv ((0 : Int32) + (1 : Int32)), iv 2, iv 0] [(.int 0), (.ref cA), (.int 0), (.ref oA)])) rfl rfl (hb hby d7_79) _ ?_
      refine st60 _ ?_
      refine XS.goto X60.here hx rfl (pc0 := 81) (pc' := 101) rfl (hb hby d7_81) (by decide) (by decide) ?_
      refine XS.iinc X60.here hx rfl (hb hby d7_101) rfl (l' := #[rv r0, iv 0, iv 2, iv 3, iv ((0 : Int32) + (1 : Int32)), iv 2, iv ((0 : Int32) + (1 : Int32))]) rfl ?_
      refine XS.goto X60.here hx rfl (pc0 := 104) (pc' := 25) rfl (hb hby d7_104) (by decide) (by decide) ?_
      refine XS.iload X60.here hx rfl (hb hby d7_25) rfl ?_
      refine XS.iloadN X60.here hx rfl (hb hby d7_27) rfl ?_
      refine XS.icmpNo X60.here hx rfl (hb hby d7_28) rfl (tlt (by decide : (1 : Int32) < (3 : Int32))).2.1 ?_
      refine XS.iload X60.here hx rfl (hb hby d7_31) rfl ?_
      refine XS.iloadN X60.here hx rfl (hb hby d7_33) rfl ?_
      refine XS.icmpNo X60.here hx rfl (hb hby d7_34) rfl (feq (by decide : ¬ ((2 : Int32) = (3 : Int32)))).1 ?_
      refine XS.iload X60.here hx rfl (hb hby d7_37) rfl ?_
      refine XS.iloadN X60.here hx rfl (hb hby d7_39) rfl ?_
      refine XS.icmpNo X60.here hx rfl (hb hby d7_40) rfl (tlt (by decide : (1 : Int32) < (2 : Int32))).2.1 ?_
      refine XS.aloadN X60.here hx rfl (hb hby d7_43) rfl rfl ?_
      refine XS.aloadN X60.here hx rfl (hb hby d7_44) rfl rfl ?_
      refine st62 _ ?_
      refine XS.iload X62.here hx rfl (hb hby d7_48) rfl ?_
      refine X62.iaload hx (j := (1 : Int32)) (v := (.int 1)) (by rw [e62]; exact Ar_z64.1) (State.isArrayOf_alike hZ.alike Ar_z64.2.1) Ar_z64.2.2 hin65 (Has.at H_z64 hin65 rfl) (g := (mkF m 50 #[rv r0, iv 0, iv 2, iv 3, iv ((0 : Int32) + (1 : Int32)), iv 2, iv ((0 : Int32) + (1 : Int32))] [(.int 1), (.ref cA), (.ref r0)])) rfl rfl (hb hby d7_50) _ ?_
      refine XS.aloadN X62.here hx rfl (hb hby d7_51) rfl rfl ?_
      refine st66 _ ?_
      refine XS.iload X66.here hx rfl (hb hby d7_55) rfl ?_
      refine X66.iaload hx (j := (2 : Int32)) (v := (.int 2)) (by rw [e66]; exact Ar_z64.1) (State.isArrayOf_alike hZ.alike Ar_z64.2.1) Ar_z64.2.2 hin67 (Has.at H_z64 hin67 rfl) (g := (mkF m 57 #[rv r0, iv 0, iv 2, iv 3, iv ((0 : Int32) + (1 : Int32)), iv 2, iv ((0 : Int32) + (1 : Int32))] [(.int 2), (.ref cA), (.int 1), (.ref r0)])) rfl rfl (hb hby d7_57) _ ?_
      refine st68.trans ?_
      exact q
    by_cases hc61_80 : (0 : Int32) < rr_68
    · have f82 := (f53.other W60 (Or.inl ne_r0_oA))
      obtain ⟨T83, X83, e83, st83⟩ := getF X68 hx hZ hown (host := "") (Or.inl (own_at hw 15 rfl)) Via.refl e68 f82 (g := (mkF m 85 #[rv r0, iv 0, iv 2, iv 3, iv ((0 : Int32) + (1 : Int32)), iv 2, iv ((0 : Int32) + (1 : Int32))] [(.ref r0)])) rfl rfl (hb hby d7_85)
      obtain ⟨T84, X84, e84, st84⟩ := getF X83 hx hZ hown (host := "") (Or.inl (own_at hw 17 rfl)) Via.refl e83 f61 (g := (mkF m 91 #[rv r0, iv 0, iv 2, iv 3, iv ((0 : Int32) + (1 : Int32)), iv 2, iv ((0 : Int32) + (1 : Int32))] [(.ref r0), (.int 1), (.ref oA)])) rfl rfl (hb hby d7_91)
      have hin85 : ¬ ((2 : Int32) < 0 ∨ cl_z64.slots.size ≤ ((2 : Int32)).toNatClampNeg) := inb_of S_z64 ⟨by decide, by decide⟩
      obtain ⟨cl_z86, Ar_z86, q_z86, S_z86, N_z86, H_z86, G_z86⟩ := id V60
      have hin87 : ¬ ((1 : Int32) < 0 ∨ cl_z86.slots.size ≤ ((1 : Int32)).toNatClampNeg) := inb_of S_z86 ⟨by decide, by decide⟩
      obtain ⟨T88, h88, X88, e88, W88, st88⟩ := stI X84 hx hZ e84 Ar_z86 (j := (1 : Int32)) hin87 (g := (mkF m 100 #[rv r0, iv 0, iv 2, iv 3, iv ((0 : Int32) + (1 : Int32)), iv ((2 : Int32) + (1 : Int32)), iv ((0 : Int32) + (1 : Int32))] [(.int 2), (.int 1), (.ref oA)])) rfl rfl (hb hby d7_100)
      have V88 : Arv Z h88 oA kO .int (256 : Int32) [(.int 0), (.int 2), (.int 2)] (.int 0) := Arv.set Ar_z86 q_z86 S_z86 N_z86 H_z86 G_z86 rfl W88 1 rfl (Nat.le_of_ble_eq_true rfl)
      have N88 := Fr.snoc X88 N68 ge_oA
      have f89 := (f82.other W88 (Or.inl ne_r0_oA))
      obtain ⟨T90, X90, e90, st90⟩ := getF X88 hx hZ hown (host := "") (Or.inl (own_at hw 15 rfl)) Via.refl e88 f89 (g := (mkF m 65 #[rv r0, iv 0, iv 2, iv 3, iv ((0 : Int32) + (1 : Int32)), iv ((2 : Int32) + (1 : Int32)), iv (((0 : Int32) + (1 : Int32)) + (1 : Int32))] [(.ref r0)])) rfl rfl (hb hby d7_65)
      have f91 := (f61.other W88 (Or.inl ne_r0_oA))
      obtain ⟨T92, X92, e92, st92⟩ := getF X90 hx hZ hown (host := "") (Or.inl (own_at hw 17 rfl)) Via.refl e90 f91 (g := (mkF m 71 #[rv r0, iv 0, iv 2, iv 3, iv ((0 : Int32) + (1 : Int32)), iv ((2 : Int32) + (1 : Int32)), iv (((0 : Int32) + (1 : Int32)) + (1 : Int32))] [(.ref r0), (.int 2), (.ref oA)])) rfl rfl (hb hby d7_71)
      have f93 := (f63.other W88 ne_cA_oA)
      obtain ⟨cl_z94, Ar_z94, q_z94, S_z94, N_z94, H_z94, G_z94⟩ := id f93
      have hin95 : ¬ ((1 : Int32) < 0 ∨ cl_z94.slots.size ≤ ((1 : Int32)).toNatClampNeg) := inb_of S_z94 ⟨by decide, by decide⟩
      obtain ⟨cl_z96, Ar_z96, q_z96, S_z96, N_z96, H_z96, G_z96⟩ := id V88
      have hin97 : ¬ ((2 : Int32) < 0 ∨ cl_z96.slots.size ≤ ((2 : Int32)).toNatClampNeg) := inb_of S_z96 ⟨by decide, by decide⟩
      obtain ⟨T98, h98, X98, e98, W98, st98⟩ := stI X92 hx hZ e92 Ar_z96 (j := (2 : Int32)) hin97 (g := (mkF m 80 #[rv r0, iv 0, iv 2, iv 3, iv (((0 : Int32) + (1 : Int32)) + (1 : Int32)), iv ((2 : Int32) + (1 : Int32)), iv (((0 : Int32) + (1 : Int32)) + (1 : Int32))] [(.int 1), (.int 2), (.ref oA)])) rfl rfl (hb hby d7_80)
      have V98 : Arv Z h98 oA kO .int (256 : Int32) [(.int 0), (.int 2), (.int 1)] (.int 0) := Arv.set Ar_z96 q_z96 S_z96 N_z96 H_z96 G_z96 rfl W98 2 rfl (Nat.le_of_ble_eq_true rfl)
      have N98 := Fr.snoc X98 N88 ge_oA
      have f99 := (f93.other W98 ne_cA_oA)
      obtain ⟨fs, hr, hrun, hended, hW, hsame⟩ := X98.leave (v := none) (fun _ => rfl)
      refine ⟨_, _, k81 _ ?_, hrun, hended, _, _, rfl, ?_, ⟨_, rfl⟩, hW, hsame.mono (by decide) (by decide)⟩
      · refine XS.ifYes X68.here hx rfl (pc0 := 61) (pc' := 84) rfl (hb hby d7_61) rfl ((if0 _ _).trans (tlt hc61_80).2.2.1) (by decide) (by decide) ?_
        refine XS.aloadN X68.here hx rfl (hb hby d7_84) rfl rfl ?_
        refine st83 _ ?_
        refine XS.iload X83.here hx rfl (hb hby d7_88) rfl ?_
        refine XS.aloadN X83.here hx rfl (hb hby d7_90) rfl rfl ?_
        refine st84 _ ?_
        refine XS.iload X84.here hx rfl (hb hby d7_94) rfl ?_
        refine XS.iinc X84.here hx rfl (hb hby d7_96) rfl (l' := #[rv r0, iv 0, iv 2, iv 3, iv ((0 : Int32) + (1 : Int32)), iv ((2 : Int32) + (1 : Int32)), iv ((0 : Int32) + (1 : Int32))]) rfl ?_
        refine X84.iaload hx (j := (2 : Int32)) (v := (.int 2)) (by rw [e84]; exact Ar_z64.1) (State.isArrayOf_alike hZ.alike Ar_z64.2.1) Ar_z64.2.2 hin85 (Has.at H_z64 hin85 rfl) (g := (mkF m 99 #[rv r0, iv 0, iv 2, iv 3, iv ((0 : Int32) + (1 : Int32)), iv ((2 : Int32) + (1 : Int32)), iv ((0 : Int32) + (1 : Int32))] [(.int 2), (.ref cA), (.int 1), (.ref oA)])) rfl rfl (hb hby d7_99) _ ?_
        refine st88 _ ?_
        refine XS.iinc X88.here hx rfl (hb hby d7_101) rfl (l' := #[rv r0, iv 0, iv 2, iv 3, iv ((0 : Int32) + (1 : Int32)), iv ((2 : Int32) + (1 : Int32)), iv (((0 : Int32) + (1 : Int32)) + (1 : Int32))]) rfl ?_
        refine XS.goto X88.here hx rfl (pc0 := 104) (pc' := 25) rfl (hb hby d7_104) (by decide) (by decide) ?_
        refine XS.iload X88.here hx rfl (hb hby d7_25) rfl ?_
        refine XS.iloadN X88.here hx rfl (hb hby d7_27) rfl ?_
        refine XS.icmpNo X88.here hx rfl (hb hby d7_28) rfl (tlt (by decide : (2 : Int32) < (3 : Int32))).2.1 ?_
        refine XS.iload X88.here hx rfl (hb hby d7_31) rfl ?_
        refine XS.iloadN X88.here hx rfl (hb hby d7_33) rfl ?_
        refine XS.icmpYes X88.here hx rfl (pc0 := 34) (pc' := 64) rfl (hb hby d7_34) rfl (teq (by decide : (3 : Int32) = (3 : Int32))).1 (by decide) (by decide) ?_
        refine XS.aloadN X88.here hx rfl (hb hby d7_64) rfl rfl ?_
        refine st90 _ ?_
        refine XS.iload X90.here hx rfl (hb hby d7_68) rfl ?_
        refine XS.aloadN X90.here hx rfl (hb hby d7_70) rfl rfl ?_
        refine st92 _ ?_
        refine XS.iload X92.here hx rfl (hb hby d7_74) rfl ?_
        refine XS.iinc X92.here hx rfl (hb hby d7_76) rfl (l' := #[rv r0, iv 0, iv 2, iv 3, iv (((0 : Int32) + (1 : Int32)) + (1 : Int32)), iv ((2 : Int32) + (1 : Int32)), iv (((0 : Int32) + (1 : Int32)) + (1 : Int32))]) rfl ?_
        refine X92.iaload hx (j := (1 : Int32)) (v := (.int 1)) (by rw [e92]; exact Ar_z94.1) (State.isArrayOf_alike hZ.alike Ar_z94.2.1) Ar_z94.2.2 hin95 (Has.at H_z94 hin95 rfl) (g := (mkF m 79 #[rv r0, iv 0, iv 2, iv 3, iv (((0 : Int32) + (1 : Int32)) + (1 : Int32)), iv ((2 : Int32) + (1 : Int32)), iv (((0 : Int32) + (1 : Int32)) + (1 : Int32))] [(.int 1), (.ref cA), (.int 2), (.ref oA)])) rfl rfl (hb hby d7_79) _ ?_
        refine st98 _ ?_
        refine XS.goto X98.here hx rfl (pc0 := 81) (pc' := 101) rfl (hb hby d7_81) (by decide) (by decide) ?_
        refine XS.iinc X98.here hx rfl (hb hby d7_101) rfl (l' := #[rv r0, iv 0, iv 2, iv 3, iv (((0 : Int32) + (1 : Int32)) + (1 : Int32)), iv ((2 : Int32) + (1 : Int32)), iv ((((0 : Int32) + (1 : Int32)) + (1 : Int32)) + (1 : Int32))]) rfl ?_
        refine XS.goto X98.here hx rfl (pc0 := 104) (pc' := 25) rfl (hb hby d7_104) (by decide) (by decide) ?_
        refine XS.iload X98.here hx rfl (hb hby d7_25) rfl ?_
        refine XS.iloadN X98.here hx rfl (hb hby d7_27) rfl ?_
        refine XS.icmpYes X98.here hx rfl (pc0 := 28) (pc' := 107) rfl (hb hby d7_28) rfl (flt (by decide : ¬ ((3 : Int32) < (3 : Int32)))).2.1 (by decide) (by decide) ?_
        exact X98.returnOut hx Bd.returns (hb hby d7_107) hr
      · show Q_7_b Z r0 bA kB sA kS oA kO cA kC x0 x1 x2 h0 n0 _ T98.heap _
        rw [e98]
        exact Or.inr (Or.inl (⟨rfl, N98, (((((Keep.refl h0 [oA, cA]).trans K3 (allS (Or.inl (List.mem_of_getElem? (i := 1) rfl)) all0)).wr W60 (Or.inl (List.mem_of_getElem? (i := 0) rfl))).wr W88 (Or.inl (List.mem_of_getElem? (i := 0) rfl))).wr W98 (Or.inl (List.mem_of_getElem? (i := 0) rfl))), V98, f99⟩))
    · have f100 := (f53.other W60 (Or.inl ne_r0_oA))
      obtain ⟨T101, X101, e101, st101⟩ := getF X68 hx hZ hown (host := "") (Or.inl (own_at hw 15 rfl)) Via.refl e68 f100 (g := (mkF m 65 #[rv r0, iv 0, iv 2, iv 3, iv ((0 : Int32) + (1 : Int32)), iv 2, iv ((0 : Int32) + (1 : Int32))] [(.ref r0)])) rfl rfl (hb hby d7_65)
      obtain ⟨T102, X102, e102, st102⟩ := getF X101 hx hZ hown (host := "") (Or.inl (own_at hw 17 rfl)) Via.refl e101 f61 (g := (mkF m 71 #[rv r0, iv 0, iv 2, iv 3, iv ((0 : Int32) + (1 : Int32)), iv 2, iv ((0 : Int32) + (1 : Int32))] [(.ref r0), (.int 1), (.ref oA)])) rfl rfl (hb hby d7_71)
      have hin103 : ¬ ((1 : Int32) < 0 ∨ cl_z64.slots.size ≤ ((1 : Int32)).toNatClampNeg) := inb_of S_z64 ⟨by decide, by decide⟩
      obtain ⟨cl_z104, Ar_z104, q_z104, S_z104, N_z104, H_z104, G_z104⟩ := id V60
      have hin105 : ¬ ((1 : Int32) < 0 ∨ cl_z104.slots.size ≤ ((1 : Int32)).toNatClampNeg) := inb_of S_z104 ⟨by decide, by decide⟩
      obtain ⟨T106, h106, X106, e106, W106, st106⟩ := stI X102 hx hZ e102 Ar_z104 (j := (1 : Int32)) hin105 (g := (mkF m 80 #[rv r0, iv 0, iv 2, iv 3, iv (((0 : Int32) + (1 : Int32)) + (1 : Int32)), iv 2, iv ((0 : Int32) + (1 : Int32))] [(.int 1), (.int 1), (.ref oA)])) rfl rfl (hb hby d7_80)
      have V106 : Arv Z h106 oA kO .int (256 : Int32) [(.int 0), (.int 1), (.int 2)] (.int 0) := Arv.set Ar_z104 q_z104 S_z104 N_z104 H_z104 G_z104 rfl W106 1 rfl (Nat.le_of_ble_eq_true rfl)
      have N106 := Fr.snoc X106 N68 ge_oA
      have f107 := (f100.other W106 (Or.inl ne_r0_oA))
      obtain ⟨T108, X108, e108, st108⟩ := getF X106 hx hZ hown (host := "") (Or.inl (own_at hw 15 rfl)) Via.refl e106 f107 (g := (mkF m 85 #[rv r0, iv 0, iv 2, iv 3, iv (((0 : Int32) + (1 : Int32)) + (1 : Int32)), iv 2, iv (((0 : Int32) + (1 : Int32)) + (1 : Int32))] [(.ref r0)])) rfl rfl (hb hby d7_85)
      have f109 := (f61.other W106 (Or.inl ne_r0_oA))
      obtain ⟨T110, X110, e110, st110⟩ := getF X108 hx hZ hown (host := "") (Or.inl (own_at hw 17 rfl)) Via.refl e108 f109 (g := (mkF m 91 #[rv r0, iv 0, iv 2, iv 3, iv (((0 : Int32) + (1 : Int32)) + (1 : Int32)), iv 2, iv (((0 : Int32) + (1 : Int32)) + (1 : Int32))] [(.ref r0), (.int 2), (.ref oA)])) rfl rfl (hb hby d7_91)
      have f111 := (f63.other W106 ne_cA_oA)
      obtain ⟨cl_z112, Ar_z112, q_z112, S_z112, N_z112, H_z112, G_z112⟩ := id f111
      have hin113 : ¬ ((2 : Int32) < 0 ∨ cl_z112.slots.size ≤ ((2 : Int32)).toNatClampNeg) := inb_of S_z112 ⟨by decide, by decide⟩
      obtain ⟨cl_z114, Ar_z114, q_z114, S_z114, N_z114, H_z114, G_z114⟩ := id V106
      have hin115 : ¬ ((2 : Int32) < 0 ∨ cl_z114.slots.size ≤ ((2 : Int32)).toNatClampNeg) := inb_of S_z114 ⟨by decide, by decide⟩
      obtain ⟨T116, h116, X116, e116, W116, st116⟩ := stI X110 hx hZ e110 Ar_z114 (j := (2 : Int32)) hin115 (g := (mkF m 100 #[rv r0, iv 0, iv 2, iv 3, iv (((0 : Int32) + (1 : Int32)) + (1 : Int32)), iv ((2 : Int32) + (1 : Int32)), iv (((0 : Int32) + (1 : Int32)) + (1 : Int32))] [(.int 2), (.int 2), (.ref oA)])) rfl rfl (hb hby d7_100)
      have V116 : Arv Z h116 oA kO .int (256 : Int32) [(.int 0), (.int 1), (.int 2)] (.int 0) := Arv.set Ar_z114 q_z114 S_z114 N_z114 H_z114 G_z114 rfl W116 2 rfl (Nat.le_of_ble_eq_true rfl)
      have N116 := Fr.snoc X116 N106 ge_oA
      have f117 := (f111.other W116 ne_cA_oA)
      obtain ⟨fs, hr, hrun, hended, hW, hsame⟩ := X116.leave (v := none) (fun _ => rfl)
      refine ⟨_, _, k81 _ ?_, hrun, hended, _, _, rfl, ?_, ⟨_, rfl⟩, hW, hsame.mono (by decide) (by decide)⟩
      · refine XS.ifNo X68.here hx rfl (hb hby d7_61) rfl ((if0 _ _).trans (flt hc61_80).2.2.1) ?_
        refine XS.aloadN X68.here hx rfl (hb hby d7_64) rfl rfl ?_
        refine st101 _ ?_
        refine XS.iload X101.here hx rfl (hb hby d7_68) rfl ?_
        refine XS.aloadN X101.here hx rfl (hb hby d7_70) rfl rfl ?_
        refine st102 _ ?_
        refine XS.iload X102.here hx rfl (hb hby d7_74) rfl ?_
        refine XS.iinc X102.here hx rfl (hb hby d7_76) rfl (l' := #[rv r0, iv 0, iv 2, iv 3, iv (((0 : Int32) + (1 : Int32)) + (1 : Int32)), iv 2, iv ((0 : Int32) + (1 : Int32))]) rfl ?_
        refine X102.iaload hx (j := (1 : Int32)) (v := (.int 1)) (by rw [e102]; exact Ar_z64.1) (State.isArrayOf_alike hZ.alike Ar_z64.2.1) Ar_z64.2.2 hin103 (Has.at H_z64 hin103 rfl) (g := (mkF m 79 #[rv r0, iv 0, iv 2, iv 3, iv (((0 : Int32) + (1 : Int32)) + (1 : Int32)), iv 2, iv ((0 : Int32) + (1 : Int32))] [(.int 1), (.ref cA), (.int 1), (.ref oA)])) rfl rfl (hb hby d7_79) _ ?_
        refine st106 _ ?_
        refine XS.goto X106.here hx rfl (pc0 := 81) (pc' := 101) rfl (hb hby d7_81) (by decide) (by decide) ?_
        refine XS.iinc X106.here hx rfl (hb hby d7_101) rfl (l' := #[rv r0, iv 0, iv 2, iv 3, iv (((0 : Int32) + (1 : Int32)) + (1 : Int32)), iv 2, iv (((0 : Int32) + (1 : Int32)) + (1 : Int32))]) rfl ?_
        refine XS.goto X106.here hx rfl (pc0 := 104) (pc' := 25) rfl (hb hby d7_104) (by decide) (by decide) ?_
        refine XS.iload X106.here hx rfl (hb hby d7_25) rfl ?_
        refine XS.iloadN X106.here hx rfl (hb hby d7_27) rfl ?_
        refine XS.icmpNo X106.here hx rfl (hb hby d7_28) rfl (tlt (by decide : (2 : Int32) < (3 : Int32))).2.1 ?_
        refine XS.iload X106.here hx rfl (hb hby d7_31) rfl ?_
        refine XS.iloadN X106.here hx rfl (hb hby d7_33) rfl ?_
        refine XS.icmpNo X106.here hx rfl (hb hby d7_34) rfl (feq (by decide : ¬ ((2 : Int32) = (3 : Int32)))).1 ?_
        refine XS.iload X106.here hx rfl (hb hby d7_37) rfl ?_
        refine XS.iloadN X106.here hx rfl (hb hby d7_39) rfl ?_
        refine XS.icmpYes X106.here hx rfl (pc0 := 40) (pc' := 84) rfl (hb hby d7_40) rfl (flt (by decide : ¬ ((2 : Int32) < (2 : Int32)))).2.1 (by decide) (by decide) ?_
        refine XS.aloadN X106.here hx rfl (hb hby d7_84) rfl rfl ?_
        refine st108 _ ?_
        refine XS.iload X108.here hx rfl (hb hby d7_88) rfl ?_
        refine XS.aloadN X108.here hx rfl (hb hby d7_90) rfl rfl ?_
        refine st110 _ ?_
        refine XS.iload X110.here hx rfl (hb hby d7_94) rfl ?_
        refine XS.iinc X110.here hx rfl (hb hby d7_96) rfl (l' := #[rv r0, iv 0, iv 2, iv 3, iv (((0 : Int32) + (1 : Int32)) + (1 : Int32)), iv ((2 : Int32) + (1 : Int32)), iv (((0 : Int32) + (1 : Int32)) + (1 : Int32))]) rfl ?_
        refine X110.iaload hx (j := (2 : Int32)) (v := (.int 2)) (by rw [e110]; exact Ar_z112.1) (State.isArrayOf_alike hZ.alike Ar_z112.2.1) Ar_z112.2.2 hin113 (Has.at H_z112 hin113 rfl) (g := (mkF m 99 #[rv r0, iv 0, iv 2, iv 3, iv (((0 : Int32) + (1 : Int32)) + (1 : Int32)), iv ((2 : Int32) + (1 : Int32)), iv (((0 : Int32) + (1 : Int32)) + (1 : Int32))] [(.int 2), (.ref cA), (.int 2), (.ref oA)])) rfl rfl (hb hby d7_99) _ ?_
        refine st116 _ ?_
        refine XS.iinc X116.here hx rfl (hb hby d7_101) rfl (l' := #[rv r0, iv 0, iv 2, iv 3, iv (((0 : Int32) + (1 : Int32)) + (1 : Int32)), iv ((2 : Int32) + (1 : Int32)), iv ((((0 : Int32) + (1 : Int32)) + (1 : Int32)) + (1 : Int32))]) rfl ?_
        refine XS.goto X116.here hx rfl (pc0 := 104) (pc' := 25) rfl (hb hby d7_104) (by decide) (by decide) ?_
        refine XS.iload X116.here hx rfl (hb hby d7_25) rfl ?_
        refine XS.iloadN X116.here hx rfl (hb hby d7_27) rfl ?_
        refine XS.icmpYes X116.here hx rfl (pc0 := 28) (pc' := 107) rfl (hb hby d7_28) rfl (flt (by decide : ¬ ((3 : Int32) < (3 : Int32)))).2.1 (by decide) (by decide) ?_
        exact X116.returnOut hx Bd.returns (hb hby d7_107) hr
      · show Q_7_b Z r0 bA kB sA kS oA kO cA kC x0 x1 x2 h0 n0 _ T116.heap _
        rw [e116]
        exact Or.inr (Or.inr ((⟨rfl, N116, (((((Keep.refl h0 [oA, cA]).trans K3 (allS (Or.inl (List.mem_of_getElem? (i := 1) rfl)) all0)).wr W60 (Or.inl (List.mem_of_getElem? (i := 0) rfl))).wr W106 (Or.inl (List.mem_of_getElem? (i := 0) rfl))).wr W116 (Or.inl (List.mem_of_getElem? (i := 0) rfl))), V116, f117⟩)))
def Q_7_c (Z : State) (r0 : Addr) (bA : Addr) (kB : ClassId) (sA : Addr) (kS : ClassId) (oA : Addr) (kO : ClassId) (cA : Addr) (kC : ClassId) (x0 : Int32) (x1 : Int32) (x2 : Int32) (h0 : Heap) (n0 : Nat) (v : Option Value) (h : Heap) (L : List Loc) : Prop := (v = none ∧ Fr n0 L ∧ Keep h0 h [oA, cA] ∧ Arv Z h oA kO .int (256 : Int32) [(.int 2), (.int 1), (.int 0)] (.int 0) ∧ Arv Z h cA kC .int (256 : Int32) [(.int 1), (.int 0), (.int 2)] (.int 0)) ∨ (v = none ∧ Fr n0 L ∧ Keep h0 h [oA, cA] ∧ Arv Z h oA kO .int (256 : Int32) [(.int 1), (.int 2), (.int 0)] (.int 0) ∧ Arv Z h cA kC .int (256 : Int32) [(.int 1), (.int 0), (.int 2)] (.int 0)) ∨ (v = none ∧ Fr n0 L ∧ Keep h0 h [oA, cA] ∧ Arv Z h oA kO .int (256 : Int32) [(.int 1), (.int 0), (.int 2)] (.int 0) ∧ Arv Z h cA kC .int (256 : Int32) [(.int 1), (.int 0), (.int 2)] (.int 0))
set_option maxRecDepth 65536 in
set_option maxHeartbeats 40000000 in
theorem rm7_c (l : Launch) (Z : State) (a0 : Array Value) (hw : ∀ d ∈ tables_1, d.before a0 Z = true) (ws : List Jvm.Cond) (r0 : Addr) (bA : Addr) (kB : ClassId) (sA : Addr) (kS : ClassId) (oA : Addr) (kO : ClassId) (cA : Addr) (kC : ClassId) (x0 : Int32) (x1 : Int32) (x2 : Int32) (h0 : Heap) (n0 : Nat) (Z0 : n0 ≤ h0.size) (E_r0 : Exa Z h0 r0 cS0) (F_maxNames_r0 : Fld Z h0 r0 cS0 "maxNames" "I" (.int 3)) (F_maxBytes_r0 : Fld Z h0 r0 cS0 "maxBytes" "I" (.int 3)) (F_count_r0 : Fld Z h0 r0 cS0 "count" "I" (.int 3)) (F_used_r0 : Fld Z h0 r0 cS0 "used" "I" (.int 3)) (F_bytes_r0 : Fld Z h0 r0 cS0 "bytes" "[B" (.ref bA)) (V_bA : Arv Z h0 bA kB .byte (4096 : Int32) [(.int x0), (.int x1), (.int x2)] (.int 0)) (E_bA : Exa Z h0 bA "[B") (F_starts_r0 : Fld Z h0 r0 cS0 "starts" "[I" (.ref sA)) (V_sA : Arv Z h0 sA kS .int (256 : Int32) [(.int 0), (.int 1), (.int 2)] (.int 0)) (E_sA : Exa Z h0 sA "[I") (F_order_r0 : Fld Z h0 r0 cS0 "order" "[I" (.ref oA)) (V_oA : Arv Z h0 oA kO .int (256 : Int32) [(.int 1), (.int 0), (.int 2)] (.int 0)) (E_oA : Exa Z h0 oA "[I") (F_scratch_r0 : Fld Z h0 r0 cS0 "scratch" "[I" (.ref cA)) (V_cA : Arv Z h0 cA kC .int (256 : Int32) [(.int 0), (.int 1), (.int 0)] (.int 0)) (E_cA : Exa Z h0 cA "[I") (ge_cA : n0 ≤ cA) (ne_r0_cA : r0 ≠ cA) (ne_bA_cA : bA ≠ cA) (ne_sA_cA : sA ≠ cA) (ne_oA_cA : oA ≠ cA) (ge_oA : n0 ≤ oA) (ne_r0_oA : r0 ≠ oA) (ne_cA_oA : cA ≠ oA) (ne_bA_oA : bA ≠ oA) (ne_sA_oA : sA ≠ oA) :
    MetFree l (⟨cS0, "merge", "(III)V"⟩ : MethodName) (head1 (Jvm.Cond.code (⟨cS0, "merge", "(III)V"⟩ : MethodName) prog_6_method_9_code 7 none :: ws) ({ frames := 4, cells := 0, slots := 0, locals := 60 } : Room)) (fun a U => a = #[(.ref r0), (.int 0), (.int 2), (.int 3)] ∧ Z.Warmed39 U.vm ∧ U.heap = h0) (fun _ _ _ _ _ => True) (fun _ U o U' => ∃ v L, o = .returned v ∧ Q_7_c Z r0 bA kB sA kS oA kO cA kC x0 x1 x2 h0 n0 v U'.heap L ∧ FrameEnd U o U' L ({ frames := 4, cells := 0, slots := 0, locals := 60 } : Room).cells ({ frames := 4, cells := 0, slots := 0, locals := 60 } : Room).slots) := by
  refine MetFree.of_bodySF (plainFor_of_name pn_com_example_measurewright_measurewright_cli_NameBatch) hisR ?_
  intro p e s m args below meth c s₁ Bd hml0 hP hK
  obtain ⟨rfl, hZ, hh⟩ := hP
  have hx := Bd.exec
  have hby := Bd.bytes
  have hml : c.maxLocals = 7 := hml0
  have hown : s.vm.findClass cS0 = some m.cls := findClass_of_methodNamed Bd.named
  have hnm := (name_of_methodNamed Bd.named Bd.method).1
  have X0 : Stand p l e ({ frames := 4, cells := 0, slots := 0, locals := 60 } : Room) s m #[(.ref r0), (.int 0), (.int 2), (.int 3)] below meth c s₁ [] 0 0 := Stand.of_body Bd
  have e0 : s₁.heap = h0 := by rw [← hh, Bd.state]; rfl
  have N0 := Fr.nil n0
  have k0 : ∀ t, OwnS p e below s₁ (mkF m 0 #[rv r0, iv 0, iv 2, iv 3, .unset, .unset, .unset] []) t → OwnS p e below s₁ (entryFrame m #[(.ref r0), (.int 0), (.int 2), (.int 3)] 7) t := fun t k => castTop (ef_7 m r0 (0 : Int32) (2 : Int32) (3 : Int32)) k
  obtain ⟨T1, X1, e1, st1⟩ := getF X0 hx hZ hown (host := "") (Or.inl (own_at hw 15 rfl)) Via.refl e0 F_order_r0 (g := (mkF m 1 #[rv r0, iv 0, iv 2, iv 3, .unset, .unset, .unset] [(.ref r0)])) rfl rfl (hb hby d7_1)
  obtain ⟨T2, X2, e2, st2⟩ := getF X1 hx hZ hown (host := "") (Or.inl (own_at hw 17 rfl)) Via.refl e1 F_scratch_r0 (g := (mkF m 6 #[rv r0, iv 0, iv 2, iv 3, .unset, .unset, .unset] [(.ref r0), (.int 0), (.ref oA)])) rfl rfl (hb hby d7_6)
  obtain ⟨T3, h3, L3, X3, e3, N3, K3, Vr3, st3⟩ := cpA X2 hx hZ hown (own_at hw 34 rfl) (own_at hw 37 rfl) (own_at hw 35 rfl) (own_at hw 36 rfl) e2 V_oA V_cA (us := [(.int 1), (.int 0), (.int 2)]) (Or.inl ⟨rfl, rfl⟩) (by decide) (by decide) (by decide) (by decide) (by decide) rfl (Nat.le_of_ble_eq_true rfl) N0 ge_cA (g := (mkF m 13 #[rv r0, iv 0, iv 2, iv 3, .unset, .unset, .unset] [(.int 3), (.int 0), (.ref cA), (.int 0), (.ref oA)])) rfl (by rw [hml]; rfl) rfl (hb hby d7_13) (by decide) (W := 0) (Nat.le_refl _) (by decide)
  have pl3 := (allS (P := fun x => ∃ cell : Cell, h0[x]? = some cell ∧ cell.vm.isStatics = false) (own_ns E_cA) all0)
  have V3 : Arv Z h3 cA kC .int (256 : Int32) [(.int 1), (.int 0), (.int 2)] (.int 0) := Vr3
  have f4 := (F_scratch_r0.keep K3 (ninS ne_r0_cA nin0))
  obtain ⟨T5, X5, e5, st5⟩ := getF X3 hx hZ hown (host := "") (Or.inl (own_at hw 17 rfl)) Via.refl e3 f4 (g := (mkF m 45 #[rv r0, iv 0, iv 2, iv 3, iv 0, iv 2, iv 0] [(.ref r0), (.ref r0)])) rfl rfl (hb hby d7_45)
  obtain ⟨cl_z6, Ar_z6, q_z6, S_z6, N_z6, H_z6, G_z6⟩ := id V3
  have hin7 : ¬ ((0 : Int32) < 0 ∨ cl_z6.slots.size ≤ ((0 : Int32)).toNatClampNeg) := inb_of S_z6 ⟨by decide, by decide⟩
  obtain ⟨T8, X8, e8, st8⟩ := getF X5 hx hZ hown (host := "") (Or.inl (own_at hw 17 rfl)) Via.refl e5 f4 (g := (mkF m 52 #[rv r0, iv 0, iv 2, iv 3, iv 0, iv 2, iv 0] [(.ref r0), (.int 1), (.ref r0)])) rfl rfl (hb hby d7_52)
  have hin9 : ¬ ((2 : Int32) < 0 ∨ cl_z6.slots.size ≤ ((2 : Int32)).toNatClampNeg) := inb_of S_z6 ⟨by decide, by decide⟩
  have f11 := (E_r0.keep K3)
  have f12 := (F_maxNames_r0.keep K3 (ninS ne_r0_cA nin0))
  have f13 := (F_maxBytes_r0.keep K3 (ninS ne_r0_cA nin0))
  have f14 := (F_count_r0.keep K3 (ninS ne_r0_cA nin0))
  have f15 := (F_used_r0.keep K3 (ninS ne_r0_cA nin0))
  have f16 := (F_bytes_r0.keep K3 (ninS ne_r0_cA nin0))
  have f17 := (V_bA.keep K3 (ninS ne_bA_cA nin0))
  have f18 := (E_bA.keep K3)
  have f19 := (F_starts_r0.keep K3 (ninS ne_r0_cA nin0))
  have f20 := (V_sA.keep K3 (ninS ne_sA_cA nin0))
  have f21 := (E_sA.keep K3)
  obtain ⟨cq10, q10, q10'⟩ := f11.cell
  obtain ⟨_, _, ⟨T10, L10, j10, i10⟩, -, X10, ⟨Lc10, hQ10, l10, y10, z10⟩, st10⟩ := X8.privateBack hx (y := (⟨cS0, "compare", "(II)I"⟩ : MethodName)) hown (mvT hZ (own_at hw 55 rfl)) (mvT hZ (own_at hw 56 rfl)) (own_selpriv (by decide) (mvT hZ (own_at hw 1 rfl)) (mvP hZ (own_at hw 57 rfl)) (mvT hZ (own_at hw 56 rfl))) (Cond.privateMethod_at (mvP hZ (own_at hw 57 rfl) (args := #[]))) (mvT hZ (own_at hw 58 rfl)) (by decide) (backOf (W := 0) (rm8_12 l Z a0 hw [] r0 bA kB sA kS x0 x1 x2 h3 n0 (Nat.le_trans Z0 K3.1) f11 f12 f13 f14 f15 f16 f17 f18 f19 f20 f21) hZ (own_at hw 58 rfl) (own_at hw 2 rfl) (by decide) (by decide)) (g := (mkF m 58 #[rv r0, iv 0, iv 2, iv 3, iv 0, iv 2, iv 0] [(.int 2), (.int 1), (.ref r0)])) rfl (by rw [hml]; rfl) (Steps.refl _) (a := r0) (by rw [e8]; exact q10) q10' (argsL := [(.int 1), (.int 2)]) (rest := []) (lenOf pd_2 rfl) rfl (Nat.le_refl _) (hb hby d7_58) (fun _ _ => ⟨rfl, e8, (by decide : 0 + 0 ≤ _), (by decide : 0 + 0 ≤ _)⟩)
  dsimp only [Pt.U, Pt.locs, Pt.cells, Pt.slots] at X10 l10 y10 z10 st10 hQ10
  subst l10 y10 z10
  obtain ⟨rr_10, rfl, N10q, e10, -⟩ := hQ10
  have N10 := Fr.app N3 N10q
  have k23 : ∀ t, OwnS p e below T10 (mkF m 61 #[rv r0, iv 0, iv 2, iv 3, iv 0, iv 2, iv 0] [(.int rr_10)]) t → OwnS p e below s₁ (entryFrame m #[(.ref r0), (.int 0), (.int 2), (.int 3)] 7) t := fun t q => by
    refine k0 t ?_
    show OwnS p e below s₁ (mkF m 0 #[rv r0, iv 0, iv 2, iv 3, .unset, .unset, .unset] []) _
    refine XS.aloadN X0.here hx rfl (hb hby d7_0) rfl rfl ?_
    refine st1 _ ?_
    refine XS.iloadN X1.here hx rfl (hb hby d7_4) rfl ?_
    refine XS.aloadN X1.here hx rfl (hb hby d7_5) rfl rfl ?_
    refine st2 _ ?_
    refine XS.iloadN X2.here hx rfl (hb hby d7_9) rfl ?_
    refine XS.iloadN X2.here hx rfl (hb hby d7_10) rfl ?_
    refine XS.iloadN X2.here hx rfl (hb hby d7_11) rfl ?_
    refine XS.isub X2.here hx rfl (hb hby d7_12) rfl ?_
    refine st3 _ ?_
    refine XS.iloadN X3.here hx rfl (hb hby d7_16) rfl ?_
    refine XS.istore X3.here hx rfl (hb hby d7_17) rfl (l' := #[rv r0, iv 0, iv 2, iv 3, iv 0, .unset, .unset]) rfl ?_
    refine XS.iloadN X3.here hx rfl (hb hby d7_19) rfl ?_
    refine XS.istore X3.here hx rfl (hb hby d7_20) rfl (l' := #[rv r0, iv 0, iv 2, iv 3, iv 0, iv 2, .unset]) rfl ?_
    refine XS.iloadN X3.here hx rfl (hb hby d7_22) rfl ?_
    refine XS.istore X3.here hx rfl (hb hby d7_23) rfl (l' := #[rv r0, iv 0, iv 2, iv 3, iv 0, iv 2, iv 0]) rfl ?_
    refine XS.iload X3.here hx rfl (hb hby d7_25) rfl ?_
    refine XS.iloadN X3.here hx rfl (hb hby d7_27) rfl ?_
    refine XS.icmpNo X3.here hx rfl (hb hby d7_28) rfl (tlt (by decide : (0 : Int32) < (3 : Int32))).2.1 ?_
    refine XS.iload X3.here hx rfl (hb hby d7_31) rfl ?_
    refine XS.iloadN X3.here hx rfl (hb hby d7_33) rfl ?_
    refine XS.icmpNo X3.here hx rfl (hb hby d7_34) rfl (feq (by decide : ¬ ((2 : Int32) = (3 : Int32)))).1 ?_
    refine XS.iload X3.here hx rfl (hb hby d7_37) rfl ?_
    refine XS.iloadN X3.here hx rfl (hb hby d7_39) rfl ?_
    refine XS.icmpNo X3.here hx rfl (hb hby d7_40) rfl (tlt (by decide : (0 : Int32) < (2 : Int32))).2.1 ?_
    refine XS.aloadN X3.here hx rfl (hb hby d7_43) rfl rfl ?_
    refine XS.aloadN X3.here hx rfl (hb hby d7_44) rfl rfl ?_
    refine st5 _ ?_
    refine XS.iload X5.here hx rfl (hb hby d7_48) rfl ?_
    refine X5.iaload hx (j := (0 : Int32)) (v := (.int 1)) (by rw [e5]; exact Ar_z6.1) (State.isArrayOf_alike hZ.alike Ar_z6.2.1) Ar_z6.2.2 hin7 (Has.at H_z6 hin7 rfl) (g := (mkF m 50 #[rv r0, iv 0, iv 2, iv 3, iv 0, iv 2, iv 0] [(.int 0), (.ref cA), (.ref r0)])) rfl rfl (hb hby d7_50) _ ?_
    refine XS.aloadN X5.here hx rfl (hb hby d7_51) rfl rfl ?_
    refine st8 _ ?_
    refine XS.iload X8.here hx rfl (hb hby d7_55) rfl ?_
    refine X8.iaload hx (j := (2 : Int32)) (v := (.int 2)) (by rw [e8]; exact Ar_z6.1) (State.isArrayOf_alike hZ.alike Ar_z6.2.1) Ar_z6.2.2 hin9 (Has.at H_z6 hin9 rfl) (g := (mkF m 57 #[rv r0, iv 0, iv 2, iv 3, iv 0, iv 2, iv 0] [(.int 2), (.ref cA), (.int 1), (.ref r0)])) rfl rfl (hb hby d7_57) _ ?_
    refine st10.trans ?_
    exact q
  by_cases hc61_22 : (0 : Int32) < rr_10
  · have f24 := (F_order_r0.keep K3 (ninS ne_r0_cA nin0))
    obtain ⟨T25, X25, e25, st25⟩ := getF X10 hx hZ hown (host := "") (Or.inl (own_at hw 15 rfl)) Via.refl e10 f24 (g := (mkF m 85 #[rv r0, iv 0, iv 2, iv 3, iv 0, iv 2, iv 0] [(.ref r0)])) rfl rfl (hb hby d7_85)
    obtain ⟨T26, X26, e26, st26⟩ := getF X25 hx hZ hown (host := "") (Or.inl (own_at hw 17 rfl)) Via.refl e25 f4 (g := (mkF m 91 #[rv r0, iv 0, iv 2, iv 3, iv 0, iv 2, iv 0] [(.ref r0), (.int 0), (.ref oA)])) rfl rfl (hb hby d7_91)
    have hin27 : ¬ ((2 : Int32) < 0 ∨ cl_z6.slots.size ≤ ((2 : Int32)).toNatClampNeg) := inb_of S_z6 ⟨by decide, by decide⟩
    have f28 := (V_oA.keep K3 (ninS ne_oA_cA nin0))
    obtain ⟨cl_z29, Ar_z29, q_z29, S_z29, N_z29, H_z29, G_z29⟩ := id f28
    have hin30 : ¬ ((0 : Int32) < 0 ∨ cl_z29.slots.size ≤ ((0 : Int32)).toNatClampNeg) := inb_of S_z29 ⟨by decide, by decide⟩
    obtain ⟨T31, h31, X31, e31, W31, st31⟩ := stI X26 hx hZ e26 Ar_z29 (j := (0 : Int32)) hin30 (g := (mkF m 100 #[rv r0, iv 0, iv 2, iv 3, iv 0, iv ((2 : Int32) + (1 : Int32)), iv 0] [(.int 2), (.int 0), (.ref oA)])) rfl rfl (hb hby d7_100)
    have V31 : Arv Z h31 oA kO .int (256 : Int32) [(.int 2), (.int 0), (.int 2)] (.int 0) := Arv.set Ar_z29 q_z29 S_z29 N_z29 H_z29 G_z29 rfl W31 0 rfl (Nat.le_of_ble_eq_true rfl)
    have N31 := Fr.snoc X31 N10 ge_oA
    have f32 := (f24.other W31 (Or.inl ne_r0_oA))
    obtain ⟨T33, X33, e33, st33⟩ := getF X31 hx hZ hown (host := "") (Or.inl (own_at hw 15 rfl)) Via.refl e31 f32 (g := (mkF m 65 #[rv r0, iv 0, iv 2, iv 3, iv 0, iv ((2 : Int32) + (1 : Int32)), iv ((0 : Int32) + (1 : Int32))] [(.ref r0)])) rfl rfl (hb hby d7_65)
    have f34 := (f4.other W31 (Or.inl ne_r0_oA))
    obtain ⟨T35, X35, e35, st35⟩ := getF X33 hx hZ hown (host := "") (Or.inl (own_at hw 17 rfl)) Via.refl e33 f34 (g := (mkF m 71 #[rv r0, iv 0, iv 2, iv 3, iv 0, iv ((2 : Int32) + (1 : Int32)), iv ((0 : Int32) + (1 : Int32))] [(.ref r0), (.int 1), (.ref oA)])) rfl rfl (hb hby d7_71)
    have f36 := (V3.other W31 ne_cA_oA)
    obtain ⟨cl_z37, Ar_z37, q_z37, S_z37, N_z37, H_z37, G_z37⟩ := id f36
    have hin38 : ¬ ((0 : Int32) < 0 ∨ cl_z37.slots.size ≤ ((0 : Int32)).toNatClampNeg) := inb_of S_z37 ⟨by decide, by decide⟩
    obtain ⟨cl_z39, Ar_z39, q_z39, S_z39, N_z39, H_z39, G_z39⟩ := id V31
    have hin40 : ¬ ((1 : Int32) < 0 ∨ cl_z39.slots.size ≤ ((1 : Int32)).toNatClampNeg) := inb_of S_z39 ⟨by decide, by decide⟩
    obtain ⟨T41, h41, X41, e41, W41, st41⟩ := stI X35 hx hZ e35 Ar_z39 (j := (1 : Int32)) hin40 (g := (mkF m 80 #[rv r0, iv 0, iv 2, iv 3, iv ((0 : Int32) + (1 : Int32)), iv ((2 : Int32) + (1 : Int32)), iv ((0 : Int32) + (1 : Int32))] [(.int 1), (.int 1), (.ref oA)])) rfl rfl (hb hby d7_80)
    have V41 : Arv Z h41 oA kO .int (256 : Int32) [(.int 2), (.int 1), (.int 2)] (.int 0) := Arv.set Ar_z39 q_z39 S_z39 N_z39 H_z39 G_z39 rfl W41 1 rfl (Nat.le_of_ble_eq_true rfl)
    have N41 := Fr.snoc X41 N31 ge_oA
    have f42 := (f32.other W41 (Or.inl ne_r0_oA))
    obtain ⟨T43, X43, e43, st43⟩ := getF X41 hx hZ hown (host := "") (Or.inl (own_at hw 15 rfl)) Via.refl e41 f42 (g := (mkF m 65 #[rv r0, iv 0, iv 2, iv 3, iv ((0 : Int32) + (1 : Int32)), iv ((2 : Int32) + (1 : Int32)), iv (((0 : Int32) + (1 : Int32)) + (1 : Int32))] [(.ref r0)])) rfl rfl (hb hby d7_65)
    have f44 := (f34.other W41 (Or.inl ne_r0_oA))
    obtain ⟨T45, X45, e45, st45⟩ := getF X43 hx hZ hown (host := "") (Or.inl (own_at hw 17 rfl)) Via.refl e43 f44 (g := (mkF m 71 #[rv r0, iv 0, iv 2, iv 3, iv ((0 : Int32) + (1 : Int32)), iv ((2 : Int32) + (1 : Int32)), iv (((0 : Int32) + (1 : Int32)) + (1 : Int32))] [(.ref r0), (.int 2), (.ref oA)])) rfl rfl (hb hby d7_71)
    have f46 := (f36.other W41 ne_cA_oA)
    obtain ⟨cl_z47, Ar_z47, q_z47, S_z47, N_z47, H_z47, G_z47⟩ := id f46
    have hin48 : ¬ ((1 : Int32) < 0 ∨ cl_z47.slots.size ≤ ((1 : Int32)).toNatClampNeg) := inb_of S_z47 ⟨by decide, by decide⟩
    obtain ⟨cl_z49, Ar_z49, q_z49, S_z49, N_z49, H_z49, G_z49⟩ := id V41
    have hin50 : ¬ ((2 : Int32) < 0 ∨ cl_z49.slots.size ≤ ((2 : Int32)).toNatClampNeg) := inb_of S_z49 ⟨by decide, by decide⟩
    obtain ⟨T51, h51, X51, e51, W51, st51⟩ := stI X45 hx hZ e45 Ar_z49 (j := (2 : Int32)) hin50 (g := (mkF m 80 #[rv r0, iv 0, iv 2, iv 3, iv (((0 : Int32) + (1 : Int32)) + (1 : Int32)), iv ((2 : Int32) + (1 : Int32)), iv (((0 : Int32) + (1 : Int32)) + (1 : Int32))] [(.int 0), (.int 2), (.ref oA)])) rfl rfl (hb hby d7_80)
    have V51 : Arv Z h51 oA kO .int (256 : Int32) [(.int 2), (.int 1), (.int 0)] (.int 0) := Arv.set Ar_z49 q_z49 S_z49 N_z49 H_z49 G_z49 rfl W51 2 rfl (Nat.le_of_ble_eq_true rfl)
    have N51 := Fr.snoc X51 N41 ge_oA
    have f52 := (f46.other W51 ne_cA_oA)
    obtain ⟨fs, hr, hrun, hended, hW, hsame⟩ := X51.leave (v := none) (fun _ => rfl)
    refine ⟨_, _, k23 _ ?_, hrun, hended, _, _, rfl, ?_, ⟨_, rfl⟩, hW, hsame.mono (by decide) (by decide)⟩
    · refine XS.ifYes X10.here hx rfl (pc0 := 61) (pc' := 84) rfl (hb hby d7_61) rfl ((if0 _ _).trans (tlt hc61_22).2.2.1) (by decide) (by decide) ?_
      refine XS.aloadN X10.here hx rfl (hb hby d7_84) rfl rfl ?_
      refine st25 _ ?_
      refine XS.iload X25.here hx rfl (hb hby d7_88) rfl ?_
      refine XS.aloadN X25.here hx rfl (hb hby d7_90) rfl rfl ?_
      refine st26 _ ?_
      refine XS.iload X26.here hx rfl (hb hby d7_94) rfl ?_
      refine XS.iinc X26.here hx rfl (hb hby d7_96) rfl (l' := #[rv r0, iv 0, iv 2, iv 3, iv 0, iv ((2 : Int32) + (1 : Int32)), iv 0]) rfl ?_
      refine X26.iaload hx (j := (2 : Int32)) (v := (.int 2)) (by rw [e26]; exact Ar_z6.1) (State.isArrayOf_alike hZ.alike Ar_z6.2.1) Ar_z6.2.2 hin27 (Has.at H_z6 hin27 rfl) (g := (mkF m 99 #[rv r0, iv 0, iv 2, iv 3, iv 0, iv ((2 : Int32) + (1 : Int32)), iv 0] [(.int 2), (.ref cA), (.int 0), (.ref oA)])) rfl rfl (hb hby d7_99) _ ?_
      refine st31 _ ?_
      refine XS.iinc X31.here hx rfl (hb hby d7_101) rfl (l' := #[rv r0, iv 0, iv 2, iv 3, iv 0, iv ((2 : Int32) + (1 : Int32)), iv ((0 : Int32) + (1 : Int32))]) rfl ?_
      refine XS.goto X31.here hx rfl (pc0 := 104) (pc' := 25) rfl (hb hby d7_104) (by decide) (by decide) ?_
      refine XS.iload X31.here hx rfl (hb hby d7_25) rfl ?_
      refine XS.iloadN X31.here hx rfl (hb hby d7_27) rfl ?_
      refine XS.icmpNo X31.here hx rfl (hb hby d7_28) rfl (tlt (by decide : (1 : Int32) < (3 : Int32))).2.1 ?_
      refine XS.iload X31.here hx rfl (hb hby d7_31) rfl ?_
      refine XS.iloadN X31.here hx rfl (hb hby d7_33) rfl ?_
      refine XS.icmpYes X31.here hx rfl (pc0 := 34) (pc' := 64) rfl (hb hby d7_34) rfl (teq (by decide : (3 : Int32) = (3 : Int32))).1 (by decide) (by decide) ?_
      refine XS.aloadN X31.here hx rfl (hb hby d7_64) rfl rfl ?_
      refine st33 _ ?_
      refine XS.iload X33.here hx rfl (hb hby d7_68) rfl ?_
      refine XS.aloadN X33.here hx rfl (hb hby d7_70) rfl rfl ?_
      refine st35 _ ?_
      refine XS.iload X35.here hx rfl (hb hby d7_74) rfl ?_
      refine XS.iinc X35.here hx rfl (hb hby d7_76) rfl (l' := #[rv r0, iv 0, iv 2, iv 3, iv ((0 : Int32) + (1 : Int32)), iv ((2 : Int32) + (1 : Int32)), iv ((0 : Int32) + (1 : Int32))]) rfl ?_
      refine X35.iaload hx (j := (0 : Int32)) (v := (.int 1)) (by rw [e35]; exact Ar_z37.1) (State.isArrayOf_alike hZ.alike Ar_z37.2.1) Ar_z37.2.2 hin38 (Has.at H_z37 hin38 rfl) (g := (mkF m 79 #[rv r0, iv 0, iv 2, iv 3, iv ((0 : Int32) + (1 : Int32)), iv ((2 : Int32) + (1 : Int32)), iv ((0 : Int32) + (1 : Int32))] [(.int 0), (.ref cA), (.int 1), (.ref oA)])) rfl rfl (hb hby d7_79) _ ?_
      refine st41 _ ?_
      refine XS.goto X41.here hx rfl (pc0 := 81) (pc' := 101) rfl (hb hby d7_81) (by decide) (by decide) ?_
      refine XS.iinc X41.here hx rfl (hb hby d7_101) rfl (l' := #[rv r0, iv 0, iv 2, iv 3, iv ((0 : Int32) + (1 : Int32)), iv ((2 : Int32) + (1 : Int32)), iv (((0 : Int32) + (1 : Int32)) + (1 : Int32))]) rfl ?_
      refine XS.goto X41.here hx rfl (pc0 := 104) (pc' := 25) rfl (hb hby d7_104) (by decide) (by decide) ?_
      refine XS.iload X41.here hx rfl (hb hby d7_25) rfl ?_
      refine XS.iloadN X41.here hx rfl (hb hby d7_27) rfl ?_
      refine XS.icmpNo X41.here hx rfl (hb hby d7_28) rfl (tlt (by decide : (2 : Int32) < (3 : Int32))).2.1 ?_
      refine XS.iload X41.here hx rfl (hb hby d7_31) rfl ?_
      refine XS.iloadN X41.here hx rfl (hb hby d7_33) rfl ?_
      refine XS.icmpYes X41.here hx rfl (pc0 := 34) (pc' := 64) rfl (hb hby d7_34) rfl (teq (by decide : (3 : Int32) = (3 : Int32))).1 (by decide) (by decide) ?_
      refine XS.aloadN X41.here hx rfl (hb hby d7_64) rfl rfl ?_
      refine st43 _ ?_
      refine XS.iload X43.here hx rfl (hb hby d7_68) rfl ?_
      refine XS.aloadN X43.here hx rfl (hb hby d7_70) rfl rfl ?_
      show OwnS p e below T43 (mkF m 71 #[rv r0, iv 0, iv 2, iv 3, iv ((0 : Int32) + (1 : Int32)), iv ((2 : Int32) + (1 : Int32)), iv (((0 : Int32) + (1 : Int32)) + (1 : Int32))] [(.ref r0), (.int 2), (.ref oA)]) _
      refine st45 _ ?_
      refine XS.iload X45.here hx rfl (hb hby d7_74) rfl ?_
      refine XS.iinc X45.here hx rfl (hb hby d7_76) rfl (l' := #[rv r0, iv 0, iv 2, iv 3, iv (((0 : Int32) + (1 : Int32)) + (1 : Int32)), iv ((2 : Int32) + (1 : Int32)), iv (((0 : Int32) + (1 : Int32)) + (1 : Int32))]) rfl ?_
      refine X45.iaload hx (j := (1 : Int32)) (v := (.int 0)) (by rw [e45]; exact Ar_z47.1) (State.isArrayOf_alike hZ.alike Ar_z47.2.1) Ar_z47.2.2 hin48 (Has.at H_z47 hin48 rfl) (g := (mkF m 79 #[rv r0, iv 0, iv 2, iv 3, iv (((0 : Int32) + (1 : Int32)) + (1 : Int32)), iv ((2 : Int32) + (1 : Int32)), iv (((0 : Int32) + (1 : Int32)) + (1 : Int32))] [(.int 1), (.ref cA), (.int 2), (.ref oA)])) rfl rfl (hb hby d7_79) _ ?_
      refine st51 _ ?_
      refine XS.goto X51.here hx rfl (pc0 := 81) (pc' := 101) rfl (hb hby d7_81) (by decide) (by decide) ?_
      refine XS.iinc X51.here hx rfl (hb hby d7_101) rfl (l' := #[rv r0, iv 0, iv 2, iv 3, iv (((0 : Int32) + (1 : Int32)) + (1 : Int32)), iv ((2 : Int32) + (1 : Int32)), iv ((((0 : Int32) + (1 : Int32)) + (1 : Int32)) + (1 : Int32))]) rfl ?_
      refine XS.goto X51.here hx rfl (pc0 := 104) (pc' := 25) rfl (hb hby d7_104) (by decide) (by decide) ?_
      refine XS.iload X51.here hx rfl (hb hby d7_25) rfl ?_
      refine XS.iloadN X51.here hx rfl (hb hby d7_27) rfl ?_
      refine XS.icmpYes X51.here hx rfl (pc0 := 28) (pc' := 107) rfl (hb hby d7_28) rfl (flt (by decide : ¬ ((3 : Int32) < (3 : Int32)))).2.1 (by decide) (by decide) ?_
      exact X51.returnOut hx Bd.returns (hb hby d7_107) hr
    · show Q_7_c Z r0 bA kB sA kS oA kO cA kC x0 x1 x2 h0 n0 _ T51.heap _
      rw [e51]
      exact Or.inl (⟨rfl, N51, (((((Keep.refl h0 [oA, cA]).trans K3 (allS (Or.inl (List.mem_of_getElem? (i := 1) rfl)) all0)).wr W31 (Or.inl (List.mem_of_getElem? (i := 0) rfl))).wr W41 (Or.inl (List.mem_of_getElem? (i := 0) rfl))).wr W51 (Or.inl (List.mem_of_getElem? (i := 0) rfl))), V51, f52⟩)
  · have f53 := (F_order_r0.keep K3 (ninS ne_r0_cA nin0))
    obtain ⟨T54, X54, e54, st54⟩ := getF X10 hx hZ hown (host := "") (Or.inl (own_at hw 15 rfl)) Via.refl e10 f53 (g := (mkF m 65 #[rv r0, iv 0, iv 2, iv 3, iv 0, iv 2, iv 0] [(.ref r0)])) rfl rfl (hb hby d7_65)
    obtain ⟨T55, X55, e55, st55⟩ := getF X54 hx hZ hown (host := "") (Or.inl (own_at hw 17 rfl)) Via.refl e54 f4 (g := (mkF m 71 #[rv r0, iv 0, iv 2, iv 3, iv 0, iv 2, iv 0] [(.ref r0), (.int 0), (.ref oA)])) rfl rfl (hb hby d7_71)
    have hin56 : ¬ ((0 : Int32) < 0 ∨ cl_z6.slots.size ≤ ((0 : Int32)).toNatClampNeg) := inb_of S_z6 ⟨by decide, by decide⟩
    have f57 := (V_oA.keep K3 (ninS ne_oA_cA nin0))
    obtain ⟨cl_z58, Ar_z58, q_z58, S_z58, N_z58, H_z58, G_z58⟩ := id f57
    have hin59 : ¬ ((0 : Int32) < 0 ∨ cl_z58.slots.size ≤ ((0 : Int32)).toNatClampNeg) := inb_of S_z58 ⟨by decide, by decide⟩
    obtain ⟨T60, h60, X60, e60, W60, st60⟩ := stI X55 hx hZ e55 Ar_z58 (j := (0 : Int32)) hin59 (g := (mkF m 80 #[rv r0, iv 0, iv 2, iv 3, iv ((0 : Int32) + (1 : Int32)), iv 2, iv 0] [(.int 1), (.int 0), (.ref oA)])) rfl rfl (hb hby d7_80)
    have V60 : Arv Z h60 oA kO .int (256 : Int32) [(.int 1), (.int 0), (.int 2)] (.int 0) := Arv.set Ar_z58 q_z58 S_z58 N_z58 H_z58 G_z58 rfl W60 0 rfl (Nat.le_of_ble_eq_true rfl)
    have N60 := Fr.snoc X60 N10 ge_oA
    have f61 := (f4.other W60 (Or.inl ne_r0_oA))
    obtain ⟨T62, X62, e62, st62⟩ := getF X60 hx hZ hown (host := "") (Or.inl (own_at hw 17 rfl)) Via.refl e60 f61 (g := (mkF m 45 #[rv r0, iv 0, iv 2, iv 3, iv ((0 : Int32) + (1 : Int32)), iv 2, iv ((0 : Int32) + (1 : Int32))] [(.ref r0), (.ref r0)])) rfl rfl (hb hby d7_45)
    have f63 := (V3.other W60 ne_cA_oA)
    obtain ⟨cl_z64, Ar_z64, q_z64, S_z64, N_z64, H_z64, G_z64⟩ := id f63
    have hin65 : ¬ ((1 : Int32) < 0 ∨ cl_z64.slots.size ≤ ((1 : Int32)).toNatClampNeg) := inb_of S_z64 ⟨by decide, by decide⟩
    obtain ⟨T66, X66, e66, st66⟩ := getF X62 hx hZ hown (host := "") (Or.inl (own_at hw 17 rfl)) Via.refl e62 f61 (g := (mkF m 52 #[rv r0, iv 0, iv 2, iv 3, iv ((0 : Int32) + (1 : Int32)), iv 2, iv ((0 : Int32) + (1 : Int32))] [(.ref r0), (.int 0), (.ref r0)])) rfl rfl (hb hby d7_52)
    have hin67 : ¬ ((2 : Int32) < 0 ∨ cl_z64.slots.size ≤ ((2 : Int32)).toNatClampNeg) := inb_of S_z64 ⟨by decide, by decide⟩
    have f69 := (f11.wr W60)
    have f70 := (f12.other W60 (Or.inl ne_r0_oA))
    have f71 := (f13.other W60 (Or.inl ne_r0_oA))
    have f72 := (f14.other W60 (Or.inl ne_r0_oA))
    have f73 := (f15.other W60 (Or.inl ne_r0_oA))
    have f74 := (f16.other W60 (Or.inl ne_r0_oA))
    have f75 := (f17.other W60 ne_bA_oA)
    have f76 := (f18.wr W60)
    have f77 := (f19.other W60 (Or.inl ne_r0_oA))
    have f78 := (f20.other W60 ne_sA_oA)
    have f79 := (f21.wr W60)
    obtain ⟨cq68, q68, q68'⟩ := f69.cell
    obtain ⟨_, _, ⟨T68, L68, j68, i68⟩, -, X68, ⟨Lc68, hQ68, l68, y68, z68⟩, st68⟩ := X66.privateBack hx (y := (⟨cS0, "compare", "(II)I"⟩ : MethodName)) hown (mvT hZ (own_at hw 55 rfl)) (mvT hZ (own_at hw 56 rfl)) (own_selpriv (by decide) (mvT hZ (own_at hw 1 rfl)) (mvP hZ (own_at hw 57 rfl)) (mvT hZ (own_at hw 56 rfl))) (Cond.privateMethod_at (mvP hZ (own_at hw 57 rfl) (args := #[]))) (mvT hZ (own_at hw 58 rfl)) (by decide) (backOf (W := 0) (rm8_02 l Z a0 hw [] r0 bA kB sA kS x0 x1 x2 h60 n0 (Nat.le_trans (Nat.le_trans Z0 K3.1) (Keep.of_wr W60).1) f69 f70 f71 f72 f73 f74 f75 f76 f77 f78 f79) hZ (own_at hw 58 rfl) (own_at hw 2 rfl) (by decide) (by decide)) (g := (mkF m 58 #[rv r0, iv 0, iv 2, iv 3, iv ((0 : Int32) + (1 : Int32)), iv 2, iv ((0 : Int32) + (1 : Int32))] [(.int 2), (.int 0), (.ref r0)])) rfl (by rw [hml]; rfl) (Steps.refl _) (a := r0) (by rw [e66]; exact q68) q68' (argsL := [(.int 0), (.int 2)]) (rest := []) (lenOf pd_2 rfl) rfl (Nat.le_refl _) (hb hby d7_58) (fun _ _ => ⟨rfl, e66, (by decide : 0 + 0 ≤ _), (by decide : 0 + 0 ≤ _)⟩)
    dsimp only [Pt.U, Pt.locs, Pt.cells, Pt.slots] at X68 l68 y68 z68 st68 hQ68
    subst l68 y68 z68
    obtain ⟨rr_68, rfl, N68q, e68, -⟩ := hQ68
    have N68 := Fr.app N60 N68q
    have k81 : ∀ t, OwnS p e below T68 (mkF m 61 #[rv r0, iv 0, iv 2, iv 3, iv ((0 : Int32) + (1 : Int32)), iv 2, iv ((0 : Int32) + (1 : Int32))] [(.int rr_68)]) t → OwnS p e below s₁ (entryFrame m #[(.ref r0), (.int 0), (.int 2), (.int 3)] 7) t := fun t q => by
      refine k23 t ?_
      refine XS.ifNo X10.here hx rfl (hb hby d7_61) rfl ((if0 _ _).trans (flt hc61_22).2.2.1) ?_
      refine XS.aloadN X10.here hx rfl (hb hby d7_64) rfl rfl ?_
      refine st54 _ ?_
      refine XS.iload X54.here hx rfl (hb hby d7_68) rfl ?_
      refine XS.aloadN X54.here hx rfl (hb hby d7_70) rfl rfl ?_
      refine st55 _ ?_
      refine XS.iload X55.here hx rfl (hb hby d7_74) rfl ?_
      refine XS.iinc X55.here hx rfl (hb hby d7_76) rfl (l' := #[rv r0, iv 0, iv 2, iv 3, iv ((0 : Int32) + (1 : Int32)), iv 2, iv 0]) rfl ?_
      refine X55.iaload hx (j := (0 : Int32)) (v := (.int 1)) (by rw [e55]; exact Ar_z6.1) (State.isArrayOf_alike hZ.alike Ar_z6.2.1) Ar_z6.2.2 hin56 (Has.at H_z6 hin56 rfl) (g := (mkF m 79 #[rv r0, iv 0, iv 2, iv 3, iv ((0 : Int32) + (1 : Int32)), iv 2, iv 0] [(.int 0), (.ref cA), (.int 0), (.ref oA)])) rfl rfl (hb hby d7_79) _ ?_
      refine st60 _ ?_
      refine XS.goto X60.here hx rfl (pc0 := 81) (pc' := 101) rfl (hb hby d7_81) (by decide) (by decide) ?_
      refine XS.iinc X60.here hx rfl (hb hby d7_101) rfl (l' := #[rv r0, iv 0, iv 2, iv 3, iv ((0 : Int32) + (1 : Int32)), iv 2, iv ((0 : Int32) + (1 : Int32))]) rfl ?_
      refine XS.goto X60.here hx rfl (pc0 := 104) (pc' := 25) rfl (hb hby d7_104) (by decide) (by decide) ?_
      refine XS.iload X60.here hx rfl (hb hby d7_25) rfl ?_
      refine XS.iloadN X60.here hx rfl (hb hby d7_27) rfl ?_
      refine XS.icmpNo X60.here hx rfl (hb hby d7_28) rfl (tlt (by decide : (1 : Int32) < (3 : Int32))).2.1 ?_
      refine XS.iload X60.here hx rfl (hb hby d7_31) rfl ?_
      refine XS.iloadN X60.here hx rfl (hb hby d7_33) rfl ?_
      refine XS.icmpNo X60.here hx rfl (hb hby d7_34) rfl (feq (by decide : ¬ ((2 : Int32) = (3 : Int32)))).1 ?_
      refine XS.iload X60.here hx rfl (hb hby d7_37) rfl ?_
      refine XS.iloadN X60.here hx rfl (hb hby d7_39) rfl ?_
      refine XS.icmpNo X60.here hx rfl (hb hby d7_40) rfl (tlt (by decide : (1 : Int32) < (2 : Int32))).2.1 ?_
      refine XS.aloadN X60.here hx rfl (hb hby d7_43) rfl rfl ?_
      refine XS.aloadN X60.here hx rfl (hb hby d7_44) rfl rfl ?_
      refine st62 _ ?_
      refine XS.iload X62.here hx rfl (hb hby d7_48) rfl ?_
      refine X62.iaload hx (j := (1 : Int32)) (v := (.int 0)) (by rw [e62]; exact Ar_z64.1) (State.isArrayOf_alike hZ.alike Ar_z64.2.1) Ar_z64.2.2 hin65 (Has.at H_z64 hin65 rfl) (g := (mkF m 50 #[rv r0, iv 0, iv 2, iv 3, iv ((0 : Int32) + (1 : Int32)), iv 2, iv ((0 : Int32) + (1 : Int32))] [(.int 1), (.ref cA), (.ref r0)])) rfl rfl (hb hby d7_50) _ ?_
      refine XS.aloadN X62.here hx rfl (hb hby d7_51) rfl rfl ?_
      refine st66 _ ?_
      refine XS.iload X66.here hx rfl (hb hby d7_55) rfl ?_
      refine X66.iaload hx (j := (2 : Int32)) (v := (.int 2)) (by rw [e66]; exact Ar_z64.1) (State.isArrayOf_alike hZ.alike Ar_z64.2.1) Ar_z64.2.2 hin67 (Has.at H_z64 hin67 rfl) (g := (mkF m 57 #[rv r0, iv 0, iv 2, iv 3, iv ((0 : Int32) + (1 : Int32)), iv 2, iv ((0 : Int32) + (1 : Int32))] [(.int 2), (.ref cA), (.int 0), (.ref r0)])) rfl rfl (hb hby d7_57) _ ?_
      refine st68.trans ?_
      exact q
    by_cases hc61_80 : (0 : Int32) < rr_68
    · have f82 := (f53.other W60 (Or.inl ne_r0_oA))
      obtain ⟨T83, X83, e83, st83⟩ := getF X68 hx hZ hown (host := "") (Or.inl (own_at hw 15 rfl)) Via.refl e68 f82 (g := (mkF m 85 #[rv r0, iv 0, iv 2, iv 3, iv ((0 : Int32) + (1 : Int32)), iv 2, iv ((0 : Int32) + (1 : Int32))] [(.ref r0)])) rfl rfl (hb hby d7_85)
      obtain ⟨T84, X84, e84, st84⟩ := getF X83 hx hZ hown (host := "") (Or.inl (own_at hw 17 rfl)) Via.refl e83 f61 (g := (mkF m 91 #[rv r0, iv 0, iv 2, iv 3, iv ((0 : Int32) + (1 : Int32)), iv 2, iv ((0 : Int32) + (1 : Int32))] [(.ref r0), (.int 1), (.ref oA)])) rfl rfl (hb hby d7_91)
      have hin85 : ¬ ((2 : Int32) < 0 ∨ cl_z64.slots.size ≤ ((2 : Int32)).toNatClampNeg) := inb_of S_z64 ⟨by decide, by decide⟩
      obtain ⟨cl_z86, Ar_z86, q_z86, S_z86, N_z86, H_z86, G_z86⟩ := id V60
      have hin87 : ¬ ((1 : Int32) < 0 ∨ cl_z86.slots.size ≤ ((1 : Int32)).toNatClampNeg) := inb_of S_z86 ⟨by decide, by decide⟩
      obtain ⟨T88, h88, X88, e88, W88, st88⟩ := stI X84 hx hZ e84 Ar_z86 (j := (1 : Int32)) hin87 (g := (mkF m 100 #[rv r0, iv 0, iv 2, iv 3, iv ((0 : Int32) + (1 : Int32)), iv ((2 : Int32) + (1 : Int32)), iv ((0 : Int32) + (1 : Int32))] [(.int 2), (.int 1), (.ref oA)])) rfl rfl (hb hby d7_100)
      have V88 : Arv Z h88 oA kO .int (256 : Int32) [(.int 1), (.int 2), (.int 2)] (.int 0) := Arv.set Ar_z86 q_z86 S_z86 N_z86 H_z86 G_z86 rfl W88 1 rfl (Nat.le_of_ble_eq_true rfl)
      have N88 := Fr.snoc X88 N68 ge_oA
      have f89 := (f82.other W88 (Or.inl ne_r0_oA))
      obtain ⟨T90, X90, e90, st90⟩ := getF X88 hx hZ hown (host := "") (Or.inl (own_at hw 15 rfl)) Via.refl e88 f89 (g := (mkF m 65 #[rv r0, iv 0, iv 2, iv 3, iv ((0 : Int32) + (1 : Int32)), iv ((2 : Int32) + (1 : Int32)), iv (((0 : Int32) + (1 : Int32)) + (1 : Int32))] [(.ref r0)])) rfl rfl (hb hby d7_65)
      have f91 := (f61.other W88 (Or.inl ne_r0_oA))
      obtain ⟨T92, X92, e92, st92⟩ := getF X90 hx hZ hown (host := "") (Or.inl (own_at hw 17 rfl)) Via.refl e90 f91 (g := (mkF m 71 #[rv r0, iv 0, iv 2, iv 3, iv ((0 : Int32) + (1 : Int32)), iv ((2 : Int32) + (1 : Int32)), iv (((0 : Int32) + (1 : Int32)) + (1 : Int32))] [(.ref r0), (.int 2), (.ref oA)])) rfl rfl (hb hby d7_71)
      have f93 := (f63.other W88 ne_cA_oA)
      obtain ⟨cl_z94, Ar_z94, q_z94, S_z94, N_z94, H_z94, G_z94⟩ := id f93
      have hin95 : ¬ ((1 : Int32) < 0 ∨ cl_z94.slots.size ≤ ((1 : Int32)).toNatClampNeg) := inb_of S_z94 ⟨by decide, by decide⟩
      obtain ⟨cl_z96, Ar_z96, q_z96, S_z96, N_z96, H_z96, G_z96⟩ := id V88
      have hin97 : ¬ ((2 : Int32) < 0 ∨ cl_z96.slots.size ≤ ((2 : Int32)).toNatClampNeg) := inb_of S_z96 ⟨by decide, by decide⟩
      obtain ⟨T98, h98, X98, e98, W98, st98⟩ := stI X92 hx hZ e92 Ar_z96 (j := (2 : Int32)) hin97 (g := (mkF m 80 #[rv r0, iv 0, iv 2, iv 3, iv (((0 : Int32) + (1 : Int32)) + (1 : Int32)), iv ((2 : Int32) + (1 : Int32)), iv (((0 : Int32) + (1 : Int32)) + (1 : Int32))] [(.int 0), (.int 2), (.ref oA)])) rfl rfl (hb hby d7_80)
      have V98 : Arv Z h98 oA kO .int (256 : Int32) [(.int 1), (.int 2), (.int 0)] (.int 0) := Arv.set Ar_z96 q_z96 S_z96 N_z96 H_z96 G_z96 rfl W98 2 rfl (Nat.le_of_ble_eq_true rfl)
      have N98 := Fr.snoc X98 N88 ge_oA
      have f99 := (f93.other W98 ne_cA_oA)
      obtain ⟨fs, hr, hrun, hended, hW, hsame⟩ := X98.leave (v := none) (fun _ => rfl)
      refine ⟨_, _, k81 _ ?_, hrun, hended, _, _, rfl, ?_, ⟨_, rfl⟩, hW, hsame.mono (by decide) (by decide)⟩
      · refine XS.ifYes X68.here hx rfl (pc0 := 61) (pc' := 84) rfl (hb hby d7_61) rfl ((if0 _ _).trans (tlt hc61_80).2.2.1) (by decide) (by decide) ?_
        refine XS.aloadN X68.here hx rfl (hb hby d7_84) rfl rfl ?_
        refine st83 _ ?_
        refine XS.iload X83.here hx rfl (hb hby d7_88) rfl ?_
        refine XS.aloadN X83.here hx rfl (hb hby d7_90) rfl rfl ?_
        refine st84 _ ?_
        refine XS.iload X84.here hx rfl (hb hby d7_94) rfl ?_
        refine XS.iinc X84.here hx rfl (hb hby d7_96) rfl (l' := #[rv r0, iv 0, iv 2, iv 3, iv ((0 : Int32) + (1 : Int32)), iv ((2 : Int32) + (1 : Int32)), iv ((0 : Int32) + (1 : Int32))]) rfl ?_
        refine X84.iaload hx (j := (2 : Int32)) (v := (.int 2)) (by rw [e84]; exact Ar_z64.1) (State.isArrayOf_alike hZ.alike Ar_z64.2.1) Ar_z64.2.2 hin85 (Has.at H_z64 hin85 rfl) (g := (mkF m 99 #[rv r0, iv 0, iv 2, iv 3, iv ((0 : Int32) + (1 : Int32)), iv ((2 : Int32) + (1 : Int32)), iv ((0 : Int32) + (1 : Int32))] [(.int 2), (.ref cA), (.int 1), (.ref oA)])) rfl rfl (hb hby d7_99) _ ?_
        refine st88 _ ?_
        refine XS.iinc X88.here hx rfl (hb hby d7_101) rfl (l' := #[rv r0, iv 0, iv 2, iv 3, iv ((0 : Int32) + (1 : Int32)), iv ((2 : Int32) + (1 : Int32)), iv (((0 : Int32) + (1 : Int32)) + (1 : Int32))]) rfl ?_
        refine XS.goto X88.here hx rfl (pc0 := 104) (pc' := 25) rfl (hb hby d7_104) (by decide) (by decide) ?_
        refine XS.iload X88.here hx rfl (hb hby d7_25) rfl ?_
        refine XS.iloadN X88.here hx rfl (hb hby d7_27) rfl ?_
        refine XS.icmpNo X88.here hx rfl (hb hby d7_28) rfl (tlt (by decide : (2 : Int32) < (3 : Int32))).2.1 ?_
        refine XS.iload X88.here hx rfl (hb hby d7_31) rfl ?_
        refine XS.iloadN X88.here hx rfl (hb hby d7_33) rfl ?_
        refine XS.icmpYes X88.here hx rfl (pc0 := 34) (pc' := 64) rfl (hb hby d7_34) rfl (teq (by decide : (3 : Int32) = (3 : Int32))).1 (by decide) (by decide) ?_
        refine XS.aloadN X88.here hx rfl (hb hby d7_64) rfl rfl ?_
        refine st90 _ ?_
        refine XS.iload X90.here hx rfl (hb hby d7_68) rfl ?_
        refine XS.aloadN X90.here hx rfl (hb hby d7_70) rfl rfl ?_
        refine st92 _ ?_
        refine XS.iload X92.here hx rfl (hb hby d7_74) rfl ?_
        refine XS.iinc X92.here hx rfl (hb hby d7_76) rfl (l' := #[rv r0, iv 0, iv 2, iv 3, iv (((0 : Int32) + (1 : Int32)) + (1 : Int32)), iv ((2 : Int32) + (1 : Int32)), iv (((0 : Int32) + (1 : Int32)) + (1 : Int32))]) rfl ?_
        refine X92.iaload hx (j := (1 : Int32)) (v := (.int 0)) (by rw [e92]; exact Ar_z94.1) (State.isArrayOf_alike hZ.alike Ar_z94.2.1) Ar_z94.2.2 hin95 (Has.at H_z94 hin95 rfl) (g := (mkF m 79 #[rv r0, iv 0, iv 2, iv 3, iv (((0 : Int32) + (1 : Int32)) + (1 : Int32)), iv ((2 : Int32) + (1 : Int32)), iv (((0 : Int32) + (1 : Int32)) + (1 : Int32))] [(.int 1), (.ref cA), (.int 2), (.ref oA)])) rfl rfl (hb hby d7_79) _ ?_
        refine st98 _ ?_
        refine XS.goto X98.here hx rfl (pc0 := 81) (pc' := 101) rfl (hb hby d7_81) (by decide) (by decide) ?_
        refine XS.iinc X98.here hx rfl (hb hby d7_101) rfl (l' := #[rv r0, iv 0, iv 2, iv 3, iv (((0 : Int32) + (1 : Int32)) + (1 : Int32)), iv ((2 : Int32) + (1 : Int32)), iv ((((0 : Int32) + (1 : Int32)) + (1 : Int32)) + (1 : Int32))]) rfl ?_
        refine XS.goto X98.here hx rfl (pc0 := 104) (pc' := 25) rfl (hb hby d7_104) (by decide) (by decide) ?_
        refine XS.iload X98.here hx rfl (hb hby d7_25) rfl ?_
        refine XS.iloadN X98.here hx rfl (hb hby d7_27) rfl ?_
        refine XS.icmpYes X98.here hx rfl (pc0 := 28) (pc' := 107) rfl (hb hby d7_28) rfl (flt (by decide : ¬ ((3 : Int32) < (3 : Int32)))).2.1 (by decide) (by decide) ?_
        exact X98.returnOut hx Bd.returns (hb hby d7_107) hr
      · show Q_7_c Z r0 bA kB sA kS oA kO cA kC x0 x1 x2 h0 n0 _ T98.heap _
        rw [e98]
        exact Or.inr (Or.inl (⟨rfl, N98, (((((Keep.refl h0 [oA, cA]).trans K3 (allS (Or.inl (List.mem_of_getElem? (i := 1) rfl)) all0)).wr W60 (Or.inl (List.mem_of_getElem? (i := 0) rfl))).wr W88 (Or.inl (List.mem_of_getElem? (i := 0) rfl))).wr W98 (Or.inl (List.mem_of_getElem? (i := 0) rfl))), V98, f99⟩))
    · have f100 := (f53.other W60 (Or.inl ne_r0_oA))
      obtain ⟨T101, X101, e101, st101⟩ := getF X68 hx hZ hown (host := "") (Or.inl (own_at hw 15 rfl)) Via.refl e68 f100 (g := (mkF m 65 #[rv r0, iv 0, iv 2, iv 3, iv ((0 : Int32) + (1 : Int32)), iv 2, iv ((0 : Int32) + (1 : Int32))] [(.ref r0)])) rfl rfl (hb hby d7_65)
      obtain ⟨T102, X102, e102, st102⟩ := getF X101 hx hZ hown (host := "") (Or.inl (own_at hw 17 rfl)) Via.refl e101 f61 (g := (mkF m 71 #[rv r0, iv 0, iv 2, iv 3, iv ((0 : Int32) + (1 : Int32)), iv 2, iv ((0 : Int32) + (1 : Int32))] [(.ref r0), (.int 1), (.ref oA)])) rfl rfl (hb hby d7_71)
      have hin103 : ¬ ((1 : Int32) < 0 ∨ cl_z64.slots.size ≤ ((1 : Int32)).toNatClampNeg) := inb_of S_z64 ⟨by decide, by decide⟩
      obtain ⟨cl_z104, Ar_z104, q_z104, S_z104, N_z104, H_z104, G_z104⟩ := id V60
      have hin105 : ¬ ((1 : Int32) < 0 ∨ cl_z104.slots.size ≤ ((1 : Int32)).toNatClampNeg) := inb_of S_z104 ⟨by decide, by decide⟩
      obtain ⟨T106, h106, X106, e106, W106, st106⟩ := stI X102 hx hZ e102 Ar_z104 (j := (1 : Int32)) hin105 (g := (mkF m 80 #[rv r0, iv 0, iv 2, iv 3, iv (((0 : Int32) + (1 : Int32)) + (1 : Int32)), iv 2, iv ((0 : Int32) + (1 : Int32))] [(.int 0), (.int 1), (.ref oA)])) rfl rfl (hb hby d7_80)
      have V106 : Arv Z h106 oA kO .int (256 : Int32) [(.int 1), (.int 0), (.int 2)] (.int 0) := Arv.set Ar_z104 q_z104 S_z104 N_z104 H_z104 G_z104 rfl W106 1 rfl (Nat.le_of_ble_eq_true rfl)
      have N106 := Fr.snoc X106 N68 ge_oA
      have f107 := (f100.other W106 (Or.inl ne_r0_oA))
      obtain ⟨T108, X108, e108, st108⟩ := getF X106 hx hZ hown (host := "") (Or.inl (own_at hw 15 rfl)) Via.refl e106 f107 (g := (mkF m 85 #[rv r0, iv 0, iv 2, iv 3, iv (((0 : Int32) + (1 : Int32)) + (1 : Int32)), iv 2, iv (((0 : Int32) + (1 : Int32)) + (1 : Int32))] [(.ref r0)])) rfl rfl (hb hby d7_85)
      have f109 := (f61.other W106 (Or.inl ne_r0_oA))
      obtain ⟨T110, X110, e110, st110⟩ := getF X108 hx hZ hown (host := "") (Or.inl (own_at hw 17 rfl)) Via.refl e108 f109 (g := (mkF m 91 #[rv r0, iv 0, iv 2, iv 3, iv (((0 : Int32) + (1 : Int32)) + (1 : Int32)), iv 2, iv (((0 : Int32) + (1 : Int32)) + (1 : Int32))] [(.ref r0), (.int 2), (.ref oA)])) rfl rfl (hb hby d7_91)
      have f111 := (f63.other W106 ne_cA_oA)
      obtain ⟨cl_z112, Ar_z112, q_z112, S_z112, N_z112, H_z112, G_z112⟩ := id f111
      have hin113 : ¬ ((2 : Int32) < 0 ∨ cl_z112.slots.size ≤ ((2 : Int32)).toNatClampNeg) := inb_of S_z112 ⟨by decide, by decide⟩
      obtain ⟨cl_z114, Ar_z114, q_z114, S_z114, N_z114, H_z114, G_z114⟩ := id V106
      have hin115 : ¬ ((2 : Int32) < 0 ∨ cl_z114.slots.size ≤ ((2 : Int32)).toNatClampNeg) := inb_of S_z114 ⟨by decide, by decide⟩
      obtain ⟨T116, h116, X116, e116, W116, st116⟩ := stI X110 hx hZ e110 Ar_z114 (j := (2 : Int32)) hin115 (g := (mkF m 100 #[rv r0, iv 0, iv 2, iv 3, iv (((0 : Int32) + (1 : Int32)) + (1 : Int32)), iv ((2 : Int32) + (1 : Int32)), iv (((0 : Int32) + (1 : Int32)) + (1 : Int32))] [(.int 2), (.int 2), (.ref oA)])) rfl rfl (hb hby d7_100)
      have V116 : Arv Z h116 oA kO .int (256 : Int32) [(.int 1), (.int 0), (.int 2)] (.int 0) := Arv.set Ar_z114 q_z114 S_z114 N_z114 H_z114 G_z114 rfl W116 2 rfl (Nat.le_of_ble_eq_true rfl)
      have N116 := Fr.snoc X116 N106 ge_oA
      have f117 := (f111.other W116 ne_cA_oA)
      obtain ⟨fs, hr, hrun, hended, hW, hsame⟩ := X116.leave (v := none) (fun _ => rfl)
      refine ⟨_, _, k81 _ ?_, hrun, hended, _, _, rfl, ?_, ⟨_, rfl⟩, hW, hsame.mono (by decide) (by decide)⟩
      · refine XS.ifNo X68.here hx rfl (hb hby d7_61) rfl ((if0 _ _).trans (flt hc61_80).2.2.1) ?_
        refine XS.aloadN X68.here hx rfl (hb hby d7_64) rfl rfl ?_
        refine st101 _ ?_
        refine XS.iload X101.here hx rfl (hb hby d7_68) rfl ?_
        refine XS.aloadN X101.here hx rfl (hb hby d7_70) rfl rfl ?_
        refine st102 _ ?_
        refine XS.iload X102.here hx rfl (hb hby d7_74) rfl ?_
        refine XS.iinc X102.here hx rfl (hb hby d7_76) rfl (l' := #[rv r0, iv 0, iv 2, iv 3, iv (((0 : Int32) + (1 : Int32)) + (1 : Int32)), iv 2, iv ((0 : Int32) + (1 : Int32))]) rfl ?_
        refine X102.iaload hx (j := (1 : Int32)) (v := (.int 0)) (by rw [e102]; exact Ar_z64.1) (State.isArrayOf_alike hZ.alike Ar_z64.2.1) Ar_z64.2.2 hin103 (Has.at H_z64 hin103 rfl) (g := (mkF m 79 #[rv r0, iv 0, iv 2, iv 3, iv (((0 : Int32) + (1 : Int32)) + (1 : Int32)), iv 2, iv ((0 : Int32) + (1 : Int32))] [(.int 1), (.ref cA), (.int 1), (.ref oA)])) rfl rfl (hb hby d7_79) _ ?_
        refine st106 _ ?_
        refine XS.goto X106.here hx rfl (pc0 := 81) (pc' := 101) rfl (hb hby d7_81) (by decide) (by decide) ?_
        refine XS.iinc X106.here hx rfl (hb hby d7_101) rfl (l' := #[rv r0, iv 0, iv 2, iv 3, iv (((0 : Int32) + (1 : Int32)) + (1 : Int32)), iv 2, iv (((0 : Int32) + (1 : Int32)) + (1 : Int32))]) rfl ?_
        refine XS.goto X106.here hx rfl (pc0 := 104) (pc' := 25) rfl (hb hby d7_104) (by decide) (by decide) ?_
        refine XS.iload X106.here hx rfl (hb hby d7_25) rfl ?_
        refine XS.iloadN X106.here hx rfl (hb hby d7_27) rfl ?_
        refine XS.icmpNo X106.here hx rfl (hb hby d7_28) rfl (tlt (by decide : (2 : Int32) < (3 : Int32))).2.1 ?_
        refine XS.iload X106.here hx rfl (hb hby d7_31) rfl ?_
        refine XS.iloadN X106.here hx rfl (hb hby d7_33) rfl ?_
        refine XS.icmpNo X106.here hx rfl (hb hby d7_34) rfl (feq (by decide : ¬ ((2 : Int32) = (3 : Int32)))).1 ?_
        refine XS.iload X106.here hx rfl (hb hby d7_37) rfl ?_
        refine XS.iloadN X106.here hx rfl (hb hby d7_39) rfl ?_
        refine XS.icmpYes X106.here hx rfl (pc0 := 40) (pc' := 84) rfl (hb hby d7_40) rfl (flt (by decide : ¬ ((2 : Int32) < (2 : Int32)))).2.1 (by decide) (by decide) ?_
        refine XS.aloadN X106.here hx rfl (hb hby d7_84) rfl rfl ?_
        refine st108 _ ?_
        refine XS.iload X108.here hx rfl (hb hby d7_88) rfl ?_
        refine XS.aloadN X108.here hx rfl (hb hby d7_90) rfl rfl ?_
        refine st110 _ ?_
        refine XS.iload X110.here hx rfl (hb hby d7_94) rfl ?_
        refine XS.iinc X110.here hx rfl (hb hby d7_96) rfl (l' := #[rv r0, iv 0, iv 2, iv 3, iv (((0 : Int32) + (1 : Int32)) + (1 : Int32)), iv ((2 : Int32) + (1 : Int32)), iv (((0 : Int32) + (1 : Int32)) + (1 : Int32))]) rfl ?_
        refine X110.iaload hx (j := (2 : Int32)) (v := (.int 2)) (by rw [e110]; exact Ar_z112.1) (State.isArrayOf_alike hZ.alike Ar_z112.2.1) Ar_z112.2.2 hin113 (Has.at H_z112 hin113 rfl) (g := (mkF m 99 #[rv r0, iv 0, iv 2, iv 3, iv (((0 : Int32) + (1 : Int32)) + (1 : Int32)), iv ((2 : Int32) + (1 : Int32)), iv (((0 : Int32) + (1 : Int32)) + (1 : Int32))] [(.int 2), (.ref cA), (.int 2), (.ref oA)])) rfl rfl (hb hby d7_99) _ ?_
        refine st116 _ ?_
        refine XS.iinc X116.here hx rfl (hb hby d7_101) rfl (l' := #[rv r0, iv 0, iv 2, iv 3, iv (((0 : Int32) + (1 : Int32)) + (1 : Int32)), iv ((2 : Int32) + (1 : Int32)), iv ((((0 : Int32) + (1 : Int32)) + (1 : Int32)) + (1 : Int32))]) rfl ?_
        refine XS.goto X116.here hx rfl (pc0 := 104) (pc' := 25) rfl (hb hby d7_104) (by decide) (by decide) ?_
        refine XS.iload X116.here hx rfl (hb hby d7_25) rfl ?_
        refine XS.iloadN X116.here hx rfl (hb hby d7_27) rfl ?_
        refine XS.icmpYes X116.here hx rfl (pc0 := 28) (pc' := 107) rfl (hb hby d7_28) rfl (flt (by decide : ¬ ((3 : Int32) < (3 : Int32)))).2.1 (by decide) (by decide) ?_
        exact X116.returnOut hx Bd.returns (hb hby d7_107) hr
      · show Q_7_c Z r0 bA kB sA kS oA kO cA kC x0 x1 x2 h0 n0 _ T116.heap _
        rw [e116]
        exact Or.inr (Or.inr ((⟨rfl, N116, (((((Keep.refl h0 [oA, cA]).trans K3 (allS (Or.inl (List.mem_of_getElem? (i := 1) rfl)) all0)).wr W60 (Or.inl (List.mem_of_getElem? (i := 0) rfl))).wr W106 (Or.inl (List.mem_of_getElem? (i := 0) rfl))).wr W116 (Or.inl (List.mem_of_getElem? (i := 0) rfl))), V116, f117⟩)))
theorem d5_0 : decode prog_6_method_6_code 0 = .ok (.aload_n 0, 1) := by decide +kernel
theorem d5_1 : decode prog_6_method_6_code 1 = .ok (.getfield 17, 3) := by decide +kernel
theorem d5_4 : decode prog_6_method_6_code 4 = .ok (.arraylength, 1) := by decide +kernel
theorem d5_5 : decode prog_6_method_6_code 5 = .ok (.aload_n 0, 1) := by decide +kernel
theorem d5_6 : decode prog_6_method_6_code 6 = .ok (.getfield 30, 3) := by decide +kernel
theorem d5_9 : decode prog_6_method_6_code 9 = .ok (.if_icmp .ge 25, 3) := by decide +kernel
theorem d5_12 : decode prog_6_method_6_code 12 = .ok (.aload_n 0, 1) := by decide +kernel
theorem d5_13 : decode prog_6_method_6_code 13 = .ok (.aload_n 0, 1) := by decide +kernel
theorem d5_14 : decode prog_6_method_6_code 14 = .ok (.getfield 13, 3) := by decide +kernel
theorem d5_17 : decode prog_6_method_6_code 17 = .ok (.arraylength, 1) := by decide +kernel
theorem d5_18 : decode prog_6_method_6_code 18 = .ok (.newarray .int, 2) := by decide +kernel
theorem d5_20 : decode prog_6_method_6_code 20 = .ok (.putfield 17, 3) := by decide +kernel
theorem d5_23 : decode prog_6_method_6_code 23 = .ok (.aload_n 0, 1) := by decide +kernel
theorem d5_24 : decode prog_6_method_6_code 24 = .ok (.aload_n 0, 1) := by decide +kernel
theorem d5_25 : decode prog_6_method_6_code 25 = .ok (.getfield 13, 3) := by decide +kernel
theorem d5_28 : decode prog_6_method_6_code 28 = .ok (.arraylength, 1) := by decide +kernel
theorem d5_29 : decode prog_6_method_6_code 29 = .ok (.newarray .int, 2) := by decide +kernel
theorem d5_31 : decode prog_6_method_6_code 31 = .ok (.putfield 20, 3) := by decide +kernel
theorem d5_34 : decode prog_6_method_6_code 34 = .ok (.iconst 0, 1) := by decide +kernel
theorem d5_35 : decode prog_6_method_6_code 35 = .ok (.istore_n 1, 1) := by decide +kernel
theorem d5_36 : decode prog_6_method_6_code 36 = .ok (.iload_n 1, 1) := by decide +kernel
theorem d5_37 : decode prog_6_method_6_code 37 = .ok (.aload_n 0, 1) := by decide +kernel
theorem d5_38 : decode prog_6_method_6_code 38 = .ok (.getfield 30, 3) := by decide +kernel
theorem d5_41 : decode prog_6_method_6_code 41 = .ok (.if_icmp .ge 16, 3) := by decide +kernel
theorem d5_44 : decode prog_6_method_6_code 44 = .ok (.aload_n 0, 1) := by decide +kernel
theorem d5_45 : decode prog_6_method_6_code 45 = .ok (.getfield 17, 3) := by decide +kernel
theorem d5_48 : decode prog_6_method_6_code 48 = .ok (.iload_n 1, 1) := by decide +kernel
theorem d5_49 : decode prog_6_method_6_code 49 = .ok (.iload_n 1, 1) := by decide +kernel
theorem d5_50 : decode prog_6_method_6_code 50 = .ok (.iastore, 1) := by decide +kernel
theorem d5_51 : decode prog_6_method_6_code 51 = .ok (.iinc 1 1, 3) := by decide +kernel
theorem d5_54 : decode prog_6_method_6_code 54 = .ok (.goto (-18), 3) := by decide +kernel
theorem d5_57 : decode prog_6_method_6_code 57 = .ok (.iconst 1, 1) := by decide +kernel
theorem d5_58 : decode prog_6_method_6_code 58 = .ok (.istore_n 1, 1) := by decide +kernel
theorem d5_59 : decode prog_6_method_6_code 59 = .ok (.iload_n 1, 1) := by decide +kernel
theorem d5_60 : decode prog_6_method_6_code 60 = .ok (.aload_n 0, 1) := by decide +kernel
theorem d5_61 : decode prog_6_method_6_code 61 = .ok (.getfield 30, 3) := by decide +kernel
theorem d5_64 : decode prog_6_method_6_code 64 = .ok (.if_icmp .ge 51, 3) := by decide +kernel
theorem d5_67 : decode prog_6_method_6_code 67 = .ok (.iconst 0, 1) := by decide +kernel
theorem d5_68 : decode prog_6_method_6_code 68 = .ok (.istore_n 2, 1) := by decide +kernel
theorem d5_69 : decode prog_6_method_6_code 69 = .ok (.iload_n 2, 1) := by decide +kernel
theorem d5_70 : decode prog_6_method_6_code 70 = .ok (.aload_n 0, 1) := by decide +kernel
theorem d5_71 : decode prog_6_method_6_code 71 = .ok (.getfield 30, 3) := by decide +kernel
theorem d5_74 : decode prog_6_method_6_code 74 = .ok (.iload_n 1, 1) := by decide +kernel
theorem d5_75 : decode prog_6_method_6_code 75 = .ok (.isub, 1) := by decide +kernel
theorem d5_76 : decode prog_6_method_6_code 76 = .ok (.if_icmp .ge 32, 3) := by decide +kernel
theorem d5_79 : decode prog_6_method_6_code 79 = .ok (.aload_n 0, 1) := by decide +kernel
theorem d5_80 : decode prog_6_method_6_code 80 = .ok (.iload_n 2, 1) := by decide +kernel
theorem d5_81 : decode prog_6_method_6_code 81 = .ok (.iload_n 2, 1) := by decide +kernel
theorem d5_82 : decode prog_6_method_6_code 82 = .ok (.iload_n 1, 1) := by decide +kernel
theorem d5_83 : decode prog_6_method_6_code 83 = .ok (.iadd, 1) := by decide +kernel
theorem d5_84 : decode prog_6_method_6_code 84 = .ok (.iload_n 2, 1) := by decide +kernel
theorem d5_85 : decode prog_6_method_6_code 85 = .ok (.iconst 2, 1) := by decide +kernel
theorem d5_86 : decode prog_6_method_6_code 86 = .ok (.iload_n 1, 1) := by decide +kernel
theorem d5_87 : decode prog_6_method_6_code 87 = .ok (.imul, 1) := by decide +kernel
theorem d5_88 : decode prog_6_method_6_code 88 = .ok (.iadd, 1) := by decide +kernel
theorem d5_89 : decode prog_6_method_6_code 89 = .ok (.aload_n 0, 1) := by decide +kernel
theorem d5_90 : decode prog_6_method_6_code 90 = .ok (.getfield 30, 3) := by decide +kernel
theorem d5_93 : decode prog_6_method_6_code 93 = .ok (.invokestatic 48, 3) := by decide +kernel
theorem d5_96 : decode prog_6_method_6_code 96 = .ok (.invokevirtual 70, 3) := by decide +kernel
theorem d5_99 : decode prog_6_method_6_code 99 = .ok (.iload_n 2, 1) := by decide +kernel
theorem d5_100 : decode prog_6_method_6_code 100 = .ok (.iconst 2, 1) := by decide +kernel
theorem d5_101 : decode prog_6_method_6_code 101 = .ok (.iload_n 1, 1) := by decide +kernel
theorem d5_102 : decode prog_6_method_6_code 102 = .ok (.imul, 1) := by decide +kernel
theorem d5_103 : decode prog_6_method_6_code 103 = .ok (.iadd, 1) := by decide +kernel
theorem d5_104 : decode prog_6_method_6_code 104 = .ok (.istore_n 2, 1) := by decide +kernel
theorem d5_105 : decode prog_6_method_6_code 105 = .ok (.goto (-36), 3) := by decide +kernel
theorem d5_108 : decode prog_6_method_6_code 108 = .ok (.iload_n 1, 1) := by decide +kernel
theorem d5_109 : decode prog_6_method_6_code 109 = .ok (.iconst 2, 1) := by decide +kernel
theorem d5_110 : decode prog_6_method_6_code 110 = .ok (.imul, 1) := by decide +kernel
theorem d5_111 : decode prog_6_method_6_code 111 = .ok (.istore_n 1, 1) := by decide +kernel
theorem d5_112 : decode prog_6_method_6_code 112 = .ok (.goto (-53), 3) := by decide +kernel
theorem d5_115 : decode prog_6_method_6_code 115 = .ok (.return_, 1) := by decide +kernel
theorem ef_5 (m : MethodId) (x0 : Addr) : entryFrame m #[(.ref x0)] 3 = mkF m 0 #[.val (.ref x0), .unset, .unset] [] := by first | (simp [entryFrame, mkF, argsToLocals, Value.category]; done) | rfl
def Q_5 (Z : State) (r0 : Addr) (bA : Addr) (kB : ClassId) (sA : Addr) (kS : ClassId) (oZ : Addr) (kZ : ClassId) (cZ : Addr) (x0 : Int32) (x1 : Int32) (x2 : Int32) (h0 : Heap) (n0 : Nat) (v : Option Value) (h : Heap) (L : List Loc) : Prop := (∃ oA : Addr, ∃ kO : ClassId, ∃ cA : Addr, ∃ kC : ClassId, v = none ∧ Fr n0 L ∧ Keep h0 h [r0] ∧ h0.size ≤ oA ∧ h0.size ≤ cA ∧ oA ≠ cA ∧ Fld Z h r0 cS0 "count" "I" (.int 3) ∧ Fld Z h r0 cS0 "used" "I" (.int 3) ∧ Fld Z h r0 cS0 "maxNames" "I" (.int 3) ∧ Fld Z h r0 cS0 "maxBytes" "I" (.int 3) ∧ Fld Z h r0 cS0 "limit" "[B" .null ∧ Fld Z h r0 cS0 "bytes" "[B" (.ref bA) ∧ Fld Z h r0 cS0 "starts" "[I" (.ref sA) ∧ Fld Z h r0 cS0 "order" "[I" (.ref oA) ∧ Arv Z h oA kO .int (256 : Int32) [(.int 2), (.int 1), (.int 0)] (.int 0) ∧ Exa Z h oA "[I" ∧ Fld Z h r0 cS0 "scratch" "[I" (.ref cA) ∧ Arv Z h cA kC .int (256 : Int32) [(.int 1), (.int 0), (.int 2)] (.int 0) ∧ Exa Z h cA "[I") ∨ (∃ oA : Addr, ∃ kO : ClassId, ∃ cA : Addr, ∃ kC : ClassId, v = none ∧ Fr n0 L ∧ Keep h0 h [r0] ∧ h0.size ≤ oA ∧ h0.size ≤ cA ∧ oA ≠ cA ∧ Fld Z h r0 cS0 "count" "I" (.int 3) ∧ Fld Z h r0 cS0 "used" "I" (.int 3) ∧ Fld Z h r0 cS0 "maxNames" "I" (.int 3) ∧ Fld Z h r0 cS0 "maxBytes" "I" (.int 3) ∧ Fld Z h r0 cS0 "limit" "[B" .null ∧ Fld Z h r0 cS0 "bytes" "[B" (.ref bA) ∧ Fld Z h r0 cS0 "starts" "[I" (.ref sA) ∧ Fld Z h r0 cS0 "order" "[I" (.ref oA) ∧ Arv Z h oA kO .int (256 : Int32) [(.int 1), (.int 2), (.int 0)] (.int 0) ∧ Exa Z h oA "[I" ∧ Fld Z h r0 cS0 "scratch" "[I" (.ref cA) ∧ Arv Z h cA kC .int (256 : Int32) [(.int 1), (.int 0), (.int 2)] (.int 0) ∧ Exa Z h cA "[I") ∨ (∃ oA : Addr, ∃ kO : ClassId, ∃ cA : Addr, ∃ kC : ClassId, v = none ∧ Fr n0 L ∧ Keep h0 h [r0] ∧ h0.size ≤ oA ∧ h0.size ≤ cA ∧ oA ≠ cA ∧ Fld Z h r0 cS0 "count" "I" (.int 3) ∧ Fld Z h r0 cS0 "used" "I" (.int 3) ∧ Fld Z h r0 cS0 "maxNames" "I" (.int 3) ∧ Fld Z h r0 cS0 "maxBytes" "I" (.int 3) ∧ Fld Z h r0 cS0 "limit" "[B" .null ∧ Fld Z h r0 cS0 "bytes" "[B" (.ref bA) ∧ Fld Z h r0 cS0 "starts" "[I" (.ref sA) ∧ Fld Z h r0 cS0 "order" "[I" (.ref oA) ∧ Arv Z h oA kO .int (256 : Int32) [(.int 1), (.int 0), (.int 2)] (.int 0) ∧ Exa Z h oA "[I" ∧ Fld Z h r0 cS0 "scratch" "[I" (.ref cA) ∧ Arv Z h cA kC .int (256 : Int32) [(.int 1), (.int 0), (.int 2)] (.int 0) ∧ Exa Z h cA "[I") ∨ (∃ oA : Addr, ∃ kO : ClassId, ∃ cA : Addr, ∃ kC : ClassId, v = none ∧ Fr n0 L ∧ Keep h0 h [r0] ∧ h0.size ≤ oA ∧ h0.size ≤ cA ∧ oA ≠ cA ∧ Fld Z h r0 cS0 "count" "I" (.int 3) ∧ Fld Z h r0 cS0 "used" "I" (.int 3) ∧ Fld Z h r0 cS0 "maxNames" "I" (.int 3) ∧ Fld Z h r0 cS0 "maxBytes" "I" (.int 3) ∧ Fld Z h r0 cS0 "limit" "[B" .null ∧ Fld Z h r0 cS0 "bytes" "[B" (.ref bA) ∧ Fld Z h r0 cS0 "starts" "[I" (.ref sA) ∧ Fld Z h r0 cS0 "order" "[I" (.ref oA) ∧ Arv Z h oA kO .int (256 : Int32) [(.int 2), (.int 0), (.int 1)] (.int 0) ∧ Exa Z h oA "[I" ∧ Fld Z h r0 cS0 "scratch" "[I" (.ref cA) ∧ Arv Z h cA kC .int (256 : Int32) [(.int 0), (.int 1), (.int 2)] (.int 0) ∧ Exa Z h cA "[I") ∨ (∃ oA : Addr, ∃ kO : ClassId, ∃ cA : Addr, ∃ kC : ClassId, v = none ∧ Fr n0 L ∧ Keep h0 h [r0] ∧ h0.size ≤ oA ∧ h0.size ≤ cA ∧ oA ≠ cA ∧ Fld Z h r0 cS0 "count" "I" (.int 3) ∧ Fld Z h r0 cS0 "used" "I" (.int 3) ∧ Fld Z h r0 cS0 "maxNames" "I" (.int 3) ∧ Fld Z h r0 cS0 "maxBytes" "I" (.int 3) ∧ Fld Z h r0 cS0 "limit" "[B" .null ∧ Fld Z h r0 cS0 "bytes" "[B" (.ref bA) ∧ Fld Z h r0 cS0 "starts" "[I" (.ref sA) ∧ Fld Z h r0 cS0 "order" "[I" (.ref oA) ∧ Arv Z h oA kO .int (256 : Int32) [(.int 0), (.int 2), (.int 1)] (.int 0) ∧ Exa Z h oA "[I" ∧ Fld Z h r0 cS0 "scratch" "[I" (.ref cA) ∧ Arv Z h cA kC .int (256 : Int32) [(.int 0), (.int 1), (.int 2)] (.int 0) ∧ Exa Z h cA "[I") ∨ (∃ oA : Addr, ∃ kO : ClassId, ∃ cA : Addr, ∃ kC : ClassId, v = none ∧ Fr n0 L ∧ Keep h0 h [r0] ∧ h0.size ≤ oA ∧ h0.size ≤ cA ∧ oA ≠ cA ∧ Fld Z h r0 cS0 "count" "I" (.int 3) ∧ Fld Z h r0 cS0 "used" "I" (.int 3) ∧ Fld Z h r0 cS0 "maxNames" "I" (.int 3) ∧ Fld Z h r0 cS0 "maxBytes" "I" (.int 3) ∧ Fld Z h r0 cS0 "limit" "[B" .null ∧ Fld Z h r0 cS0 "bytes" "[B" (.ref bA) ∧ Fld Z h r0 cS0 "starts" "[I" (.ref sA) ∧ Fld Z h r0 cS0 "order" "[I" (.ref oA) ∧ Arv Z h oA kO .int (256 : Int32) [(.int 0), (.int 1), (.int 2)] (.int 0) ∧ Exa Z h oA "[I" ∧ Fld Z h r0 cS0 "scratch" "[I" (.ref cA) ∧ Arv Z h cA kC .int (256 : Int32) [(.int 0), (.int 1), (.int 2)] (.int 0) ∧ Exa Z h cA "[I")
set_option maxRecDepth 65536 in
set_option maxHeartbeats 40000000 in
theorem rm5 (l : Launch) (Z : State) (a0 : Array Value) (hw : ∀ d ∈ tables_1, d.before a0 Z = true) (ws : List Jvm.Cond) (r0 : Addr) (bA : Addr) (kB : ClassId) (sA : Addr) (kS : ClassId) (oZ : Addr) (kZ : ClassId) (cZ : Addr) (x0 : Int32) (x1 : Int32) (x2 : Int32) (h0 : Heap) (n0 : Nat) (Z0 : n0 ≤ h0.size) (E_r0 : Exa Z h0 r0 cS0) (F_maxNames_r0 : Fld Z h0 r0 cS0 "maxNames" "I" (.int 3)) (F_maxBytes_r0 : Fld Z h0 r0 cS0 "maxBytes" "I" (.int 3)) (F_count_r0 : Fld Z h0 r0 cS0 "count" "I" (.int 3)) (F_used_r0 : Fld Z h0 r0 cS0 "used" "I" (.int 3)) (F_bytes_r0 : Fld Z h0 r0 cS0 "bytes" "[B" (.ref bA)) (V_bA : Arv Z h0 bA kB .byte (4096 : Int32) [(.int x0), (.int x1), (.int x2)] (.int 0)) (E_bA : Exa Z h0 bA "[B") (F_starts_r0 : Fld Z h0 r0 cS0 "starts" "[I" (.ref sA)) (V_sA : Arv Z h0 sA kS .int (256 : Int32) [(.int 0), (.int 1), (.int 2)] (.int 0)) (E_sA : Exa Z h0 sA "[I") (F_limit_r0 : Fld Z h0 r0 cS0 "limit" "[B" .null) (F_order_r0 : Fld Z h0 r0 cS0 "order" "[I" (.ref oZ)) (V_oZ : Arv Z h0 oZ kZ .int (0 : Int32) [] (.int 0)) (F_scratch_r0 : Fld Z h0 r0 cS0 "scratch" "[I" (.ref cZ)) (ge_r0 : n0 ≤ r0) (ne_sA_r0 : sA ≠ r0) (ne_bA_r0 : bA ≠ r0) (ne_oZ_r0 : oZ ≠ r0) :
    MetFree l (⟨cS0, "sort", "()V"⟩ : MethodName) (head1 (Jvm.Cond.code (⟨cS0, "sort", "()V"⟩ : MethodName) prog_6_method_6_code 3 none :: ws) ({ frames := 5, cells := 2, slots := 512, locals := 78 } : Room)) (fun a U => a = #[(.ref r0)] ∧ Z.Warmed39 U.vm ∧ U.heap = h0) (fun _ _ _ _ _ => True) (fun _ U o U' => ∃ v L, o = .returned v ∧ Q_5 Z r0 bA kB sA kS oZ kZ cZ x0 x1 x2 h0 n0 v U'.heap L ∧ FrameEnd U o U' L ({ frames := 5, cells := 2, slots := 512, locals := 78 } : Room).cells ({ frames := 5, cells := 2, slots := 512, locals := 78 } : Room).slots) := by
  refine MetFree.of_bodySF (plainFor_of_name pn_com_example_measurewright_measurewright_cli_NameBatch) hisR ?_
  intro p e s m args below meth c s₁ Bd hml0 hP hK
  obtain ⟨rfl, hZ, hh⟩ := hP
  have hx := Bd.exec
  have hby := Bd.bytes
  have hml : c.maxLocals = 3 := hml0
  have hown : s.vm.findClass cS0 = some m.cls := findClass_of_methodNamed Bd.named
  have hnm := (name_of_methodNamed Bd.named Bd.method).1
  have X0 : Stand p l e ({ frames := 5, cells := 2, slots := 512, locals := 78 } : Room) s m #[(.ref r0)] below meth c s₁ [] 0 0 := Stand.of_body Bd
  have e0 : s₁.heap = h0 := by rw [← hh, Bd.state]; rfl
  have N0 := Fr.nil n0
  have k0 : ∀ t, OwnS p e below s₁ (mkF m 0 #[rv r0, .unset, .unset] []) t → OwnS p e below s₁ (entryFrame m #[(.ref r0)] 3) t := fun t k => castTop (ef_5 m r0) k
  obtain ⟨T1, X1, e1, st1⟩ := getF X0 hx hZ hown (host := "") (Or.inl (own_at hw 15 rfl)) Via.refl e0 F_order_r0 (g := (mkF m 1 #[rv r0, .unset, .unset] [(.ref r0)])) rfl rfl (hb hby d5_1)
  obtain ⟨cl_z2, Ar_z2, q_z2, S_z2, N_z2, H_z2, G_z2⟩ := id V_oZ
  obtain ⟨T3, X3, e3, st3⟩ := getF X1 hx hZ hown (host := "") (Or.inl (own_at hw 30 rfl)) Via.refl e1 F_count_r0 (g := (mkF m 6 #[rv r0, .unset, .unset] [(.ref r0), (.int 0)])) rfl rfl (hb hby d5_6)
  obtain ⟨T4, X4, e4, st4⟩ := getF X3 hx hZ hown (host := "") (Or.inl (own_at hw 13 rfl)) Via.refl e3 F_starts_r0 (g := (mkF m 14 #[rv r0, .unset, .unset] [(.ref r0), (.ref r0)])) rfl rfl (hb hby d5_14)
  obtain ⟨cl_z5, Ar_z5, q_z5, S_z5, N_z5, H_z5, G_z5⟩ := id V_sA
  obtain ⟨T6, h6, k6, X6, e6, E6, A6, EA6, st6⟩ := newPE X4 hx hZ (own_at hw 12 rfl) e4 (g := (mkF m 18 #[rv r0, .unset, .unset] [(.int 256), (.ref r0)])) rfl (hb hby d5_18) rfl (by decide) (cap := 256) (by decide) (by decide) (by decide) (by decide) (ad := "[I") (by decide)
  obtain ⟨b6, g6⟩ : ∃ z, z = h0.size := ⟨_, rfl⟩
  rw [← g6] at A6 EA6 st6
  have g_b6 : n0 ≤ b6 := Nat.le_trans Z0 (Nat.le_of_eq g6.symm)
  have sz_b6 : h0.size ≤ b6 := Nat.le_trans (Keep.refl h0 []).1 (Nat.le_of_eq g6.symm)
  have V_b6 : Arv Z h6 b6 k6 .int (256 : Int32) [(.int 0), (.int 0), (.int 0)] (.int 0) := (Arv.new A6 (by decide)).pad (pad_rep [] (.int 0) 3)
  have f7 := (E_r0.ext E6)
  have f8 := (F_order_r0.ext E6)
  obtain ⟨T9, h9, X9, e9, W9, st9⟩ := putF X6 hx hZ hown (host := "") (Or.inl (own_at hw 15 rfl)) Via.refl e6 f8 f7 (Or.inl (own_at hw 16 rfl)) (own_at hw 1 rfl) (ty := (.array .int)) (by decide) rfl rfl (g := (mkF m 20 #[rv r0, .unset, .unset] [(.ref b6), (.ref r0)])) rfl rfl (hb hby d5_20)
  have Fw9 : Fld Z h9 r0 cS0 "order" "[I" (.ref b6) := f8.same W9
  have N9 := Fr.snoc X9 N0 ge_r0
  have f10 := ((F_starts_r0.ext E6).other W9 (Or.inr (slot_ne (Or.inl (own_at hw 14 rfl)) (Or.inl (own_at hw 16 rfl)) (by decide) (t := (.array .int)) (t' := (.array .int)) (by decide) (by decide))))
  obtain ⟨T11, X11, e11, st11⟩ := getF X9 hx hZ hown (host := "") (Or.inl (own_at hw 13 rfl)) Via.refl e9 f10 (g := (mkF m 25 #[rv r0, .unset, .unset] [(.ref r0), (.ref r0)])) rfl rfl (hb hby d5_25)
  have f12 := ((V_sA.ext E6).other W9 ne_sA_r0)
  obtain ⟨cl_z13, Ar_z13, q_z13, S_z13, N_z13, H_z13, G_z13⟩ := id f12
  have f14 := (f7.wr W9)
  have f15 := ((V_bA.ext E6).other W9 ne_bA_r0)
  have f16 := ((V_oZ.ext E6).other W9 ne_oZ_r0)
  have f17 := (EA6.wr W9)
  obtain ⟨T18, h18, k18, X18, e18, E18, A18, EA18, st18⟩ := newPE X11 hx hZ (own_at hw 12 rfl) e11 (g := (mkF m 29 #[rv r0, .unset, .unset] [(.int 256), (.ref r0)])) rfl (hb hby d5_29) rfl (by decide) (cap := 256) (by decide) (by decide) (by decide) (by decide) (ad := "[I") (by decide)
  obtain ⟨b18, g18⟩ : ∃ z, z = h9.size := ⟨_, rfl⟩
  rw [← g18] at A18 EA18 st18
  have g_b18 : n0 ≤ b18 := Nat.le_trans (Nat.le_trans (Nat.le_trans Z0 E6.1) (Keep.of_wr W9).1) (Nat.le_of_eq g18.symm)
  have sz_b18 : h0.size ≤ b18 := Nat.le_trans (((Keep.refl h0 [r0]).ext E6).wr W9 (Or.inl (List.mem_of_getElem? (i := 0) rfl))).1 (Nat.le_of_eq g18.symm)
  have V_b18 : Arv Z h18 b18 k18 .int (256 : Int32) [(.int 0), (.int 0), (.int 0)] (.int 0) := (Arv.new A18 (by decide)).pad (pad_rep [] (.int 0) 3)
  have f19 := (f14.ext E18)
  have f20 := (((F_scratch_r0.ext E6).other W9 (Or.inr (slot_ne (Or.inl (own_at hw 18 rfl)) (Or.inl (own_at hw 16 rfl)) (by decide) (t := (.array .int)) (t' := (.array .int)) (by decide) (by decide)))).ext E18)
  obtain ⟨T21, h21, X21, e21, W21, st21⟩ := putF X18 hx hZ hown (host := "") (Or.inl (own_at hw 17 rfl)) Via.refl e18 f20 f19 (Or.inl (own_at hw 18 rfl)) (own_at hw 1 rfl) (ty := (.array .int)) (by decide) rfl rfl (g := (mkF m 31 #[rv r0, .unset, .unset] [(.ref b18), (.ref r0)])) rfl rfl (hb hby d5_31)
  have Fw21 : Fld Z h21 r0 cS0 "scratch" "[I" (.ref b18) := f20.same W21
  have N21 := Fr.snoc X21 N9 ge_r0
  have f22 := ((((F_count_r0.ext E6).other W9 (Or.inr (slot_ne (Or.inl (own_at hw 31 rfl)) (Or.inl (own_at hw 16 rfl)) (by decide) (t := .int) (t' := (.array .int)) (by decide) (by decide)))).ext E18).other W21 (Or.inr (slot_ne (Or.inl (own_at hw 31 rfl)) (Or.inl (own_at hw 18 rfl)) (by decide) (t := .int) (t' := (.array .int)) (by decide) (by decide))))
  obtain ⟨T23, X23, e23, st23⟩ := getF X21 hx hZ hown (host := "") (Or.inl (own_at hw 30 rfl)) Via.refl e21 f22 (g := (mkF m 38 #[rv r0, iv 0, .unset] [(.ref r0), (.int 0)])) rfl rfl (hb hby d5_38)
  have f24 := ((Fw9.ext E18).other W21 (Or.inr (slot_ne (Or.inl (own_at hw 16 rfl)) (Or.inl (own_at hw 18 rfl)) (by decide) (t := (.array .int)) (t' := (.array .int)) (by decide) (by decide))))
  obtain ⟨T25, X25, e25, st25⟩ := getF X23 hx hZ hown (host := "") (Or.inl (own_at hw 15 rfl)) Via.refl e23 f24 (g := (mkF m 45 #[rv r0, iv 0, .unset] [(.ref r0)])) rfl rfl (hb hby d5_45)
  have f26 := (((V_b6.other W9 (Ne.symm (Nat.ne_of_lt (Nat.lt_of_lt_of_le E_r0.lt (Nat.le_of_eq g6.symm))))).ext E18).other W21 (Ne.symm (Nat.ne_of_lt (Nat.lt_of_lt_of_le E_r0.lt (Nat.le_of_eq g6.symm)))))
  obtain ⟨cl_z27, Ar_z27, q_z27, S_z27, N_z27, H_z27, G_z27⟩ := id f26
  have hin28 : ¬ ((0 : Int32) < 0 ∨ cl_z27.slots.size ≤ ((0 : Int32)).toNatClampNeg) := inb_of S_z27 ⟨by decide, by decide⟩
  obtain ⟨T29, h29, X29, e29, W29, st29⟩ := stI X25 hx hZ e25 Ar_z27 (j := (0 : Int32)) hin28 (g := (mkF m 50 #[rv r0, iv 0, .unset] [(.int 0), (.int 0), (.ref b6)])) rfl rfl (hb hby d5_50)
  have V29 : Arv Z h29 b6 k6 .int (256 : Int32) [(.int 0), (.int 0), (.int 0)] (.int 0) := Arv.set Ar_z27 q_z27 S_z27 N_z27 H_z27 G_z27 rfl W29 0 rfl (Nat.le_of_ble_eq_true rfl)
  have N29 := Fr.snoc X29 N21 g_b6
  have f30 := (f22.other W29 (Or.inl (Nat.ne_of_lt (Nat.lt_of_lt_of_le E_r0.lt (Nat.le_of_eq g6.symm)))))
  obtain ⟨T31, X31, e31, st31⟩ := getF X29 hx hZ hown (host := "") (Or.inl (own_at hw 30 rfl)) Via.refl e29 f30 (g := (mkF m 38 #[rv r0, iv ((0 : Int32) + (1 : Int32)), .unset] [(.ref r0), (.int 1)])) rfl rfl (hb hby d5_38)
  have f32 := (f24.other W29 (Or.inl (Nat.ne_of_lt (Nat.lt_of_lt_of_le E_r0.lt (Nat.le_of_eq g6.symm)))))
  obtain ⟨T33, X33, e33, st33⟩ := getF X31 hx hZ hown (host := "") (Or.inl (own_at hw 15 rfl)) Via.refl e31 f32 (g := (mkF m 45 #[rv r0, iv ((0 : Int32) + (1 : Int32)), .unset] [(.ref r0)])) rfl rfl (hb hby d5_45)
  obtain ⟨cl_z34, Ar_z34, q_z34, S_z34, N_z34, H_z34, G_z34⟩ := id V29
  have hin35 : ¬ ((1 : Int32) < 0 ∨ cl_z34.slots.size ≤ ((1 : Int32)).toNatClampNeg) := inb_of S_z34 ⟨by decide, by decide⟩
  obtain ⟨T36, h36, X36, e36, W36, st36⟩ := stI X33 hx hZ e33 Ar_z34 (j := (1 : Int32)) hin35 (g := (mkF m 50 #[rv r0, iv ((0 : Int32) + (1 : Int32)), .unset] [(.int 1), (.int 1), (.ref b6)])) rfl rfl (hb hby d5_50)
  have V36 : Arv Z h36 b6 k6 .int (256 : Int32) [(.int 0), (.int 1), (.int 0)] (.int 0) := Arv.set Ar_z34 q_z34 S_z34 N_z34 H_z34 G_z34 rfl W36 1 rfl (Nat.le_of_ble_eq_true rfl)
  have N36 := Fr.snoc X36 N29 g_b6
  have f37 := (f30.other W36 (Or.inl (Nat.ne_of_lt (Nat.lt_of_lt_of_le E_r0.lt (Nat.le_of_eq g6.symm)))))
  obtain ⟨T38, X38, e38, st38⟩ := getF X36 hx hZ hown (host := "") (Or.inl (own_at hw 30 rfl)) Via.refl e36 f37 (g := (mkF m 38 #[rv r0, iv (((0 : Int32) + (1 : Int32)) + (1 : Int32)), .unset] [(.ref r0), (.int 2)])) rfl rfl (hb hby d5_38)
  have f39 := (f32.other W36 (Or.inl (Nat.ne_of_lt (Nat.lt_of_lt_of_le E_r0.lt (Nat.le_of_eq g6.symm)))))
  obtain ⟨T40, X40, e40, st40⟩ := getF X38 hx hZ hown (host := "") (Or.inl (own_at hw 15 rfl)) Via.refl e38 f39 (g := (mkF m 45 #[rv r0, iv (((0 : Int32) + (1 : Int32)) + (1 : Int32)), .unset] [(.ref r0)])) rfl rfl (hb hby d5_45)
  obtain ⟨cl_z41, Ar_z41, q_z41, S_z41, N_z41, H_z41, G_z41⟩ := id V36
  have hin42 : ¬ ((2 : Int32) < 0 ∨ cl_z41.slots.size ≤ ((2 : Int32)).toNatClampNeg) := inb_of S_z41 ⟨by decide, by decide⟩
  obtain ⟨T43, h43, X43, e43, W43, st43⟩ := stI X40 hx hZ e40 Ar_z41 (j := (2 : Int32)) hin42 (g := (mkF m 50 #[rv r0, iv (((0 : Int32) + (1 : Int32)) + (1 : Int32)), .unset] [(.int 2), (.int 2), (.ref b6)])) rfl rfl (hb hby d5_50)
  have V43 : Arv Z h43 b6 k6 .int (256 : Int32) [(.int 0), (.int 1), (.int 2)] (.int 0) := Arv.set Ar_z41 q_z41 S_z41 N_z41 H_z41 G_z41 rfl W43 2 rfl (Nat.le_of_ble_eq_true rfl)
  have N43 := Fr.snoc X43 N36 g_b6
  have f44 := (f37.other W43 (Or.inl (Nat.ne_of_lt (Nat.lt_of_lt_of_le E_r0.lt (Nat.le_of_eq g6.symm)))))
  obtain ⟨T45, X45, e45, st45⟩ := getF X43 hx hZ hown (host := "") (Or.inl (own_at hw 30 rfl)) Via.refl e43 f44 (g := (mkF m 38 #[rv r0, iv ((((0 : Int32) + (1 : Int32)) + (1 : Int32)) + (1 : Int32)), .unset] [(.ref r0), (.int 3)])) rfl rfl (hb hby d5_38)
  obtain ⟨T46, X46, e46, st46⟩ := getF X45 hx hZ hown (host := "") (Or.inl (own_at hw 30 rfl)) Via.refl e45 f44 (g := (mkF m 61 #[rv r0, iv 1, .unset] [(.ref r0), (.int 1)])) rfl rfl (hb hby d5_61)
  obtain ⟨T47, X47, e47, st47⟩ := getF X46 hx hZ hown (host := "") (Or.inl (own_at hw 30 rfl)) Via.refl e46 f44 (g := (mkF m 71 #[rv r0, iv 1, iv 0] [(.ref r0), (.int 0)])) rfl rfl (hb hby d5_71)
  obtain ⟨T48, X48, e48, st48⟩ := getF X47 hx hZ hown (host := "") (Or.inl (own_at hw 30 rfl)) Via.refl e47 f44 (g := (mkF m 90 #[rv r0, iv 1, iv 0] [(.ref r0), (.int 2), (.int 1), (.int 0), (.ref r0)])) rfl rfl (hb hby d5_90)
  obtain ⟨_, _, ⟨T49, L49, j49, i49⟩, -, X49, ⟨Lc49, hQ49, l49, y49, z49⟩, st49⟩ := Jvm.LawKit.callS X48 hx (y := (⟨"java/lang/Math", "min", "(II)I"⟩ : MethodName)) hown (mvT hZ (own_at hw 47 rfl)) (mvT hZ (own_at hw 48 rfl)) (mvT hZ (own_at hw 49 rfl)) (mvT hZ (own_at hw 50 rfl)) (by decide) (backOf (W := 3) (rm6_f l Z a0 hw [] (2 : Int32) (3 : Int32) h43 n0 (Nat.le_trans (Nat.le_trans (Nat.le_trans (Nat.le_trans (Nat.le_trans (Nat.le_trans (Nat.le_trans Z0 E6.1) (Keep.of_wr W9).1) E18.1) (Keep.of_wr W21).1) (Keep.of_wr W29).1) (Keep.of_wr W36).1) (Keep.of_wr W43).1) (by decide : ¬ ((3 : Int32) < (2 : Int32)))) hZ (own_at hw 50 rfl) (own_at hw 49 rfl) (by decide) (by decide)) (g := (mkF m 93 #[rv r0, iv 1, iv 0] [(.int 3), (.int 2), (.int 1), (.int 0), (.ref r0)])) rfl (by rw [hml]; rfl) (argsL := [(.int 2), (.int 3)]) (rest := [(.int 1), (.int 0), (.ref r0)]) (lenOf pd_2 rfl) rfl (Nat.le_refl _) (hb hby d5_93) (fun _ _ => ⟨rfl, e48, (by decide : 2 + 0 ≤ _), (by decide : 512 + 0 ≤ _)⟩)
  dsimp only [Pt.U, Pt.locs, Pt.cells, Pt.slots] at X49 l49 y49 z49 st49 hQ49
  subst l49 y49 z49
  obtain ⟨rfl, N49q, e49⟩ := hQ49
  have N49 := Fr.app N43 N49q
  have f51 := ((((f19.wr W21).wr W29).wr W36).wr W43)
  have f52 := (((((((F_maxNames_r0.ext E6).other W9 (Or.inr (slot_ne (Or.inr (own_at hw 20 rfl)) (Or.inl (own_at hw 16 rfl)) (by decide) (t := .int) (t' := (.array .int)) (by decide) (by decide)))).ext E18).other W21 (Or.inr (slot_ne (Or.inr (own_at hw 20 rfl)) (Or.inl (own_at hw 18 rfl)) (by decide) (t := .int) (t' := (.array .int)) (by decide) (by decide)))).other W29 (Or.inl (Nat.ne_of_lt (Nat.lt_of_lt_of_le E_r0.lt (Nat.le_of_eq g6.symm))))).other W36 (Or.inl (Nat.ne_of_lt (Nat.lt_of_lt_of_le E_r0.lt (Nat.le_of_eq g6.symm))))).other W43 (Or.inl (Nat.ne_of_lt (Nat.lt_of_lt_of_le E_r0.lt (Nat.le_of_eq g6.symm)))))
  have f53 := (((((((F_maxBytes_r0.ext E6).other W9 (Or.inr (slot_ne (Or.inr (own_at hw 22 rfl)) (Or.inl (own_at hw 16 rfl)) (by decide) (t := .int) (t' := (.array .int)) (by decide) (by decide)))).ext E18).other W21 (Or.inr (slot_ne (Or.inr (own_at hw 22 rfl)) (Or.inl (own_at hw 18 rfl)) (by decide) (t := .int) (t' := (.array .int)) (by decide) (by decide)))).other W29 (Or.inl (Nat.ne_of_lt (Nat.lt_of_lt_of_le E_r0.lt (Nat.le_of_eq g6.symm))))).other W36 (Or.inl (Nat.ne_of_lt (Nat.lt_of_lt_of_le E_r0.lt (Nat.le_of_eq g6.symm))))).other W43 (Or.inl (Nat.ne_of_lt (Nat.lt_of_lt_of_le E_r0.lt (Nat.le_of_eq g6.symm)))))
  have f54 := (((((((F_used_r0.ext E6).other W9 (Or.inr (slot_ne (Or.inl (own_at hw 33 rfl)) (Or.inl (own_at hw 16 rfl)) (by decide) (t := .int) (t' := (.array .int)) (by decide) (by decide)))).ext E18).other W21 (Or.inr (slot_ne (Or.inl (own_at hw 33 rfl)) (Or.inl (own_at hw 18 rfl)) (by decide) (t := .int) (t' := (.array .int)) (by decide) (by decide)))).other W29 (Or.inl (Nat.ne_of_lt (Nat.lt_of_lt_of_le E_r0.lt (Nat.le_of_eq g6.symm))))).other W36 (Or.inl (Nat.ne_of_lt (Nat.lt_of_lt_of_le E_r0.lt (Nat.le_of_eq g6.symm))))).other W43 (Or.inl (Nat.ne_of_lt (Nat.lt_of_lt_of_le E_r0.lt (Nat.le_of_eq g6.symm)))))
  have f55 := (((((((F_bytes_r0.ext E6).other W9 (Or.inr (slot_ne (Or.inl (own_at hw 11 rfl)) (Or.inl (own_at hw 16 rfl)) (by decide) (t := (.array .byte)) (t' := (.array .int)) (by decide) (by decide)))).ext E18).other W21 (Or.inr (slot_ne (Or.inl (own_at hw 11 rfl)) (Or.inl (own_at hw 18 rfl)) (by decide) (t := (.array .byte)) (t' := (.array .int)) (by decide) (by decide)))).other W29 (Or.inl (Nat.ne_of_lt (Nat.lt_of_lt_of_le E_r0.lt (Nat.le_of_eq g6.symm))))).other W36 (Or.inl (Nat.ne_of_lt (Nat.lt_of_lt_of_le E_r0.lt (Nat.le_of_eq g6.symm))))).other W43 (Or.inl (Nat.ne_of_lt (Nat.lt_of_lt_of_le E_r0.lt (Nat.le_of_eq g6.symm)))))
  have f56 := (((((f15.ext E18).other W21 ne_bA_r0).other W29 (Nat.ne_of_lt (Nat.lt_of_lt_of_le V_bA.lt (Nat.le_of_eq g6.symm)))).other W36 (Nat.ne_of_lt (Nat.lt_of_lt_of_le V_bA.lt (Nat.le_of_eq g6.symm)))).other W43 (Nat.ne_of_lt (Nat.lt_of_lt_of_le V_bA.lt (Nat.le_of_eq g6.symm))))
  have f57 := (((((((E_bA.ext E6).wr W9).ext E18).wr W21).wr W29).wr W36).wr W43)
  have f58 := (((((f10.ext E18).other W21 (Or.inr (slot_ne (Or.inl (own_at hw 14 rfl)) (Or.inl (own_at hw 18 rfl)) (by decide) (t := (.array .int)) (t' := (.array .int)) (by decide) (by decide)))).other W29 (Or.inl (Nat.ne_of_lt (Nat.lt_of_lt_of_le E_r0.lt (Nat.le_of_eq g6.symm))))).other W36 (Or.inl (Nat.ne_of_lt (Nat.lt_of_lt_of_le E_r0.lt (Nat.le_of_eq g6.symm))))).other W43 (Or.inl (Nat.ne_of_lt (Nat.lt_of_lt_of_le E_r0.lt (Nat.le_of_eq g6.symm)))))
  have f59 := (((((f12.ext E18).other W21 ne_sA_r0).other W29 (Nat.ne_of_lt (Nat.lt_of_lt_of_le V_sA.lt (Nat.le_of_eq g6.symm)))).other W36 (Nat.ne_of_lt (Nat.lt_of_lt_of_le V_sA.lt (Nat.le_of_eq g6.symm)))).other W43 (Nat.ne_of_lt (Nat.lt_of_lt_of_le V_sA.lt (Nat.le_of_eq g6.symm))))
  have f60 := (((((((E_sA.ext E6).wr W9).ext E18).wr W21).wr W29).wr W36).wr W43)
  have f61 := (f39.other W43 (Or.inl (Nat.ne_of_lt (Nat.lt_of_lt_of_le E_r0.lt (Nat.le_of_eq g6.symm)))))
  have f62 := (((((f17.ext E18).wr W21).wr W29).wr W36).wr W43)
  have f63 := (((Fw21.other W29 (Or.inl (Nat.ne_of_lt (Nat.lt_of_lt_of_le E_r0.lt (Nat.le_of_eq g6.symm))))).other W36 (Or.inl (Nat.ne_of_lt (Nat.lt_of_lt_of_le E_r0.lt (Nat.le_of_eq g6.symm))))).other W43 (Or.inl (Nat.ne_of_lt (Nat.lt_of_lt_of_le E_r0.lt (Nat.le_of_eq g6.symm)))))
  have f64 := ((((V_b18.other W21 (Ne.symm (Nat.ne_of_lt (Nat.lt_of_lt_of_le f14.lt (Nat.le_of_eq g18.symm))))).other W29 (Ne.symm (Nat.ne_of_lt (Nat.lt_of_lt_of_le f17.lt (Nat.le_of_eq g18.symm))))).other W36 (Ne.symm (Nat.ne_of_lt (Nat.lt_of_lt_of_le f17.lt (Nat.le_of_eq g18.symm))))).other W43 (Ne.symm (Nat.ne_of_lt (Nat.lt_of_lt_of_le f17.lt (Nat.le_of_eq g18.symm)))))
  have f65 := ((((EA18.wr W21).wr W29).wr W36).wr W43)
  obtain ⟨cq50, q50, q50'⟩ := f51.cell
  obtain ⟨_, _, ⟨T50, L50, j50, i50⟩, -, X50, ⟨Lc50, hQ50, l50, y50, z50⟩, st50⟩ := X49.privateBack hx (y := (⟨cS0, "merge", "(III)V"⟩ : MethodName)) hown (mvT hZ (own_at hw 51 rfl)) (mvT hZ (own_at hw 52 rfl)) (own_selpriv (by decide) (mvT hZ (own_at hw 1 rfl)) (mvP hZ (own_at hw 53 rfl)) (mvT hZ (own_at hw 52 rfl))) (Cond.privateMethod_at (mvP hZ (own_at hw 53 rfl) (args := #[]))) (mvT hZ (own_at hw 54 rfl)) (by decide) (backOf (W := 0) (rm7_a l Z a0 hw [] r0 bA kB sA kS b6 k6 b18 k18 x0 x1 x2 h43 n0 (Nat.le_trans (Nat.le_trans (Nat.le_trans (Nat.le_trans (Nat.le_trans (Nat.le_trans (Nat.le_trans Z0 E6.1) (Keep.of_wr W9).1) E18.1) (Keep.of_wr W21).1) (Keep.of_wr W29).1) (Keep.of_wr W36).1) (Keep.of_wr W43).1) f51 f52 f53 f44 f54 f55 f56 f57 f58 f59 f60 f61 V43 f62 f63 f64 f65 g_b18 (Nat.ne_of_lt (Nat.lt_of_lt_of_le f14.lt (Nat.le_of_eq g18.symm))) (Nat.ne_of_lt (Nat.lt_of_lt_of_le f15.lt (Nat.le_of_eq g18.symm))) (Nat.ne_of_lt (Nat.lt_of_lt_of_le f12.lt (Nat.le_of_eq g18.symm))) (Nat.ne_of_lt (Nat.lt_of_lt_of_le f17.lt (Nat.le_of_eq g18.symm))) g_b6 (Nat.ne_of_lt (Nat.lt_of_lt_of_le E_r0.lt (Nat.le_of_eq g6.symm))) (Ne.symm (Nat.ne_of_lt (Nat.lt_of_lt_of_le f17.lt (Nat.le_of_eq g18.symm))))) hZ (own_at hw 54 rfl) (own_at hw 2 rfl) (by decide) (by decide)) (g := (mkF m 96 #[rv r0, iv 1, iv 0] [(.int 2), (.int 1), (.int 0), (.ref r0)])) rfl (by rw [hml]; rfl) (Steps.refl _) (a := r0) (by rw [e49]; exact q50) q50' (argsL := [(.int 0), (.int 1), (.int 2)]) (rest := []) (lenOf pd_1 rfl) rfl (Nat.le_refl _) (hb hby d5_96) (fun _ _ => ⟨rfl, e49, (by decide : 2 + 0 ≤ _), (by decide : 512 + 0 ≤ _)⟩)
  dsimp only [Pt.U, Pt.locs, Pt.cells, Pt.slots] at X50 l50 y50 z50 st50 hQ50
  subst l50 y50 z50
  have f66 := (((((f16.ext E18).other W21 ne_oZ_r0).other W29 (Nat.ne_of_lt (Nat.lt_of_lt_of_le V_oZ.lt (Nat.le_of_eq g6.symm)))).other W36 (Nat.ne_of_lt (Nat.lt_of_lt_of_le V_oZ.lt (Nat.le_of_eq g6.symm)))).other W43 (Nat.ne_of_lt (Nat.lt_of_lt_of_le V_oZ.lt (Nat.le_of_eq g6.symm))))
  have k67 : ∀ t, OwnS p e below T49 (mkF m 96 #[rv r0, iv 1, iv 0] [(.int 2), (.int 1), (.int 0), (.ref r0)]) t → OwnS p e below s₁ (entryFrame m #[(.ref r0)] 3) t := fun t q => by
    refine k0 t ?_
    show OwnS p e below s₁ (mkF m 0 #[rv r0, .unset, .unset] []) _
    refine XS.aloadN X0.here hx rfl (hb hby d5_0) rfl rfl ?_
    refine st1 _ ?_
    refine X1.arraylength hx (by rw [e1]; exact Ar_z2.1) (State.isArrayOf_alike hZ.alike Ar_z2.2.1) (g := (mkF m 4 #[rv r0, .unset, .unset] [(.ref oZ)])) rfl rfl (hb hby d5_4) _ ?_
    rw [len_of S_z2 N_z2]
    refine XS.aloadN X1.here hx rfl (hb hby d5_5) rfl rfl ?_
    refine st3 _ ?_
    refine XS.icmpNo X3.here hx rfl (hb hby d5_9) rfl (tlt (by decide : (0 : Int32) < (3 : Int32))).2.1 ?_
    refine XS.aloadN X3.here hx rfl (hb hby d5_12) rfl rfl ?_
    refine XS.aloadN X3.here hx rfl (hb hby d5_13) rfl rfl ?_
    refine st4 _ ?_
    refine X4.arraylength hx (by rw [e4]; exact Ar_z5.1) (State.isArrayOf_alike hZ.alike Ar_z5.2.1) (g := (mkF m 17 #[rv r0, .unset, .unset] [(.ref sA), (.ref r0)])) rfl rfl (hb hby d5_17) _ ?_
    rw [len_of S_z5 N_z5]
    refine st6 _ ?_
    refine st9 _ ?_
    refine XS.aloadN X9.here hx rfl (hb hby d5_23) rfl rfl ?_
    refine XS.aloadN X9.here hx rfl (hb hby d5_24) rfl rfl ?_
    refine st11 _ ?_
    refine X11.arraylength hx (by rw [e11]; exact Ar_z13.1) (State.isArrayOf_alike hZ.alike Ar_z13.2.1) (g := (mkF m 28 #[rv r0, .unset, .unset] [(.ref sA), (.ref r0)])) rfl rfl (hb hby d5_28) _ ?_
    rw [len_of S_z13 N_z13]
    refine st18 _ ?_
    refine st21 _ ?_
    refine XS.iconst X21.here hx rfl (hb hby d5_34) ?_
    refine XS.istoreN X21.here hx rfl (hb hby d5_35) rfl (l' := #[rv r0, iv 0, .unset]) rfl ?_
    refine XS.iloadN X21.here hx rfl (hb hby d5_36) rfl ?_
    refine XS.aloadN X21.here hx rfl (hb hby d5_37) rfl rfl ?_
    refine st23 _ ?_
    refine XS.icmpNo X23.here hx rfl (hb hby d5_41) rfl (tlt (by decide : (0 : Int32) < (3 : Int32))).2.1 ?_
    refine XS.aloadN X23.here hx rfl (hb hby d5_44) rfl rfl ?_
    refine st25 _ ?_
    refine XS.iloadN X25.here hx rfl (hb hby d5_48) rfl ?_
    refine XS.iloadN X25.here hx rfl (hb hby d5_49) rfl ?_
    refine st29 _ ?_
    refine XS.iinc X29.here hx rfl (hb hby d5_51) rfl (l' := #[rv r0, iv ((0 : Int32) + (1 : Int32)), .unset]) rfl ?_
    refine XS.goto X29.here hx rfl (pc0 := 54) (pc' := 36) rfl (hb hby d5_54) (by decide) (by decide) ?_
    refine XS.iloadN X29.here hx rfl (hb hby d5_36) rfl ?_
    refine XS.aloadN X29.here hx rfl (hb hby d5_37) rfl rfl ?_
    refine st31 _ ?_
    refine XS.icmpNo X31.here hx rfl (hb hby d5_41) rfl (tlt (by decide : (1 : Int32) < (3 : Int32))).2.1 ?_
    refine XS.aloadN X31.here hx rfl (hb hby d5_44) rfl rfl ?_
    refine st33 _ ?_
    show OwnS p e below T33 (mkF m 48 #[rv r0, iv ((0 : Int32) + (1 : Int32)), .unset] [(.ref b6)]) _
    refine XS.iloadN X33.here hx rfl (hb hby d5_48) rfl ?_
    refine XS.iloadN X33.here hx rfl (hb hby d5_49) rfl ?_
    refine st36 _ ?_
    refine XS.iinc X36.here hx rfl (hb hby d5_51) rfl (l' := #[rv r0, iv (((0 : Int32) + (1 : Int32)) + (1 : Int32)), .unset]) rfl ?_
    refine XS.goto X36.here hx rfl (pc0 := 54) (pc' := 36) rfl (hb hby d5_54) (by decide) (by decide) ?_
    refine XS.iloadN X36.here hx rfl (hb hby d5_36) rfl ?_
    refine XS.aloadN X36.here hx rfl (hb hby d5_37) rfl rfl ?_
    refine st38 _ ?_
    refine XS.icmpNo X38.here hx rfl (hb hby d5_41) rfl (tlt (by decide : (2 : Int32) < (3 : Int32))).2.1 ?_
    refine XS.aloadN X38.here hx rfl (hb hby d5_44) rfl rfl ?_
    refine st40 _ ?_
    refine XS.iloadN X40.here hx rfl (hb hby d5_48) rfl ?_
    refine XS.iloadN X40.here hx rfl (hb hby d5_49) rfl ?_
    refine st43 _ ?_
    refine XS.iinc X43.here hx rfl (hb hby d5_51) rfl (l' := #[rv r0, iv ((((0 : Int32) + (1 : Int32)) + (1 : Int32)) + (1 : Int32)), .unset]) rfl ?_
    refine XS.goto X43.here hx rfl (pc0 := 54) (pc' := 36) rfl (hb hby d5_54) (by decide) (by decide) ?_
    refine XS.iloadN X43.here hx rfl (hb hby d5_36) rfl ?_
    refine XS.aloadN X43.here hx rfl (hb hby d5_37) rfl rfl ?_
    refine st45 _ ?_
    refine XS.icmpYes X45.here hx rfl (pc0 := 41) (pc' := 57) rfl (hb hby d5_41) rfl (flt (by decide : ¬ ((3 : Int32) < (3 : Int32)))).2.1 (by decide) (by decide) ?_
    refine XS.iconst X45.here hx rfl (hb hby d5_57) ?_
    refine XS.istoreN X45.here hx rfl (hb hby d5_58) rfl (l' := #[rv r0, iv 1, .unset]) rfl ?_
    refine XS.iloadN X45.here hx rfl (hb hby d5_59) rfl ?_
    refine XS.aloadN X45.here hx rfl (hb hby d5_60) rfl rfl ?_
    refine st46 _ ?_
    refine XS.icmpNo X46.here hx rfl (hb hby d5_64) rfl (tlt (by decide : (1 : Int32) < (3 : Int32))).2.1 ?_
    refine XS.iconst X46.here hx rfl (hb hby d5_67) ?_
    refine XS.istoreN X46.here hx rfl (hb hby d5_68) rfl (l' := #[rv r0, iv 1, iv 0]) rfl ?_
    refine XS.iloadN X46.here hx rfl (hb hby d5_69) rfl ?_
    refine XS.aloadN X46.here hx rfl (hb hby d5_70) rfl rfl ?_
    refine st47 _ ?_
    refine XS.iloadN X47.here hx rfl (hb hby d5_74) rfl ?_
    refine XS.isub X47.here hx rfl (hb hby d5_75) rfl ?_
    refine XS.icmpNo X47.here hx rfl (hb hby d5_76) rfl (tlt (by decide : (0 : Int32) < (2 : Int32))).2.1 ?_
    refine XS.aloadN X47.here hx rfl (hb hby d5_79) rfl rfl ?_
    refine XS.iloadN X47.here hx rfl (hb hby d5_80) rfl ?_
    refine XS.iloadN X47.here hx rfl (hb hby d5_81) rfl ?_
    refine XS.iloadN X47.here hx rfl (hb hby d5_82) rfl ?_
    refine XS.iadd X47.here hx rfl (hb hby d5_83) rfl ?_
    refine XS.iloadN X47.here hx rfl (hb hby d5_84) rfl ?_
    show OwnS p e below T47 (mkF m 85 #[rv r0, iv 1, iv 0] [(.int 0), (.int 1), (.int 0), (.ref r0)]) _
    refine XS.iconst X47.here hx rfl (hb hby d5_85) ?_
    refine XS.iloadN X47.here hx rfl (hb hby d5_86) rfl ?_
    refine XS.imul X47.here hx rfl (hb hby d5_87) rfl ?_
    refine XS.iadd X47.here hx rfl (hb hby d5_88) rfl ?_
    refine XS.aloadN X47.here hx rfl (hb hby d5_89) rfl rfl ?_
    refine st48 _ ?_
    refine st49 _ ?_
    exact q
  rcases hQ50 with ⟨rfl, N50q, K50, p50_0, p50_1⟩ | ⟨rfl, N50q, K50, p50_0, p50_1⟩
  · have pl50 := (allS (P := fun x => ∃ cell : Cell, h43[x]? = some cell ∧ cell.vm.isStatics = false) (own_ns f62) (allS (P := fun x => ∃ cell : Cell, h43[x]? = some cell ∧ cell.vm.isStatics = false) (own_ns f65) all0))
    have N50 := Fr.app N49 N50q
    have f68 := (f44.keep K50 (ninS (Nat.ne_of_lt (Nat.lt_of_lt_of_le E_r0.lt (Nat.le_of_eq g6.symm))) (ninS (Nat.ne_of_lt (Nat.lt_of_lt_of_le f14.lt (Nat.le_of_eq g18.symm))) nin0)))
    obtain ⟨T69, X69, e69, st69⟩ := getF X50 hx hZ hown (host := "") (Or.inl (own_at hw 30 rfl)) Via.refl rfl f68 (g := (mkF m 71 #[rv r0, iv 1, iv 2] [(.ref r0), (.int 2)])) rfl rfl (hb hby d5_71)
    obtain ⟨T70, X70, e70, st70⟩ := getF X69 hx hZ hown (host := "") (Or.inl (own_at hw 30 rfl)) Via.refl e69 f68 (g := (mkF m 61 #[rv r0, iv 2, iv 2] [(.ref r0), (.int 2)])) rfl rfl (hb hby d5_61)
    obtain ⟨T71, X71, e71, st71⟩ := getF X70 hx hZ hown (host := "") (Or.inl (own_at hw 30 rfl)) Via.refl e70 f68 (g := (mkF m 71 #[rv r0, iv 2, iv 0] [(.ref r0), (.int 0)])) rfl rfl (hb hby d5_71)
    obtain ⟨T72, X72, e72, st72⟩ := getF X71 hx hZ hown (host := "") (Or.inl (own_at hw 30 rfl)) Via.refl e71 f68 (g := (mkF m 90 #[rv r0, iv 2, iv 0] [(.ref r0), (.int 4), (.int 2), (.int 0), (.ref r0)])) rfl rfl (hb hby d5_90)
    obtain ⟨_, _, ⟨T73, L73, j73, i73⟩, -, X73, ⟨Lc73, hQ73, l73, y73, z73⟩, st73⟩ := Jvm.LawKit.callS X72 hx (y := (⟨"java/lang/Math", "min", "(II)I"⟩ : MethodName)) hown (mvT hZ (own_at hw 47 rfl)) (mvT hZ (own_at hw 48 rfl)) (mvT hZ (own_at hw 49 rfl)) (mvT hZ (own_at hw 50 rfl)) (by decide) (backOf (W := 3) (rm6_t l Z a0 hw [] (4 : Int32) (3 : Int32) T50.heap n0 (Nat.le_trans (Nat.le_trans (Nat.le_trans (Nat.le_trans (Nat.le_trans (Nat.le_trans (Nat.le_trans (Nat.le_trans Z0 E6.1) (Keep.of_wr W9).1) E18.1) (Keep.of_wr W21).1) (Keep.of_wr W29).1) (Keep.of_wr W36).1) (Keep.of_wr W43).1) K50.1) (by decide : (3 : Int32) < (4 : Int32))) hZ (own_at hw 50 rfl) (own_at hw 49 rfl) (by decide) (by decide)) (g := (mkF m 93 #[rv r0, iv 2, iv 0] [(.int 3), (.int 4), (.int 2), (.int 0), (.ref r0)])) rfl (by rw [hml]; rfl) (argsL := [(.int 4), (.int 3)]) (rest := [(.int 2), (.int 0), (.ref r0)]) (lenOf pd_2 rfl) rfl (Nat.le_refl _) (hb hby d5_93) (fun _ _ => ⟨rfl, e72, (by decide : 2 + 0 ≤ _), (by decide : 512 + 0 ≤ _)⟩)
    dsimp only [Pt.U, Pt.locs, Pt.cells, Pt.slots] at X73 l73 y73 z73 st73 hQ73
    subst l73 y73 z73
    obtain ⟨rfl, N73q, e73⟩ := hQ73
    have N73 := Fr.app N50 N73q
    have f75 := (f51.keep K50)
    have f76 := (f52.keep K50 (ninS (Nat.ne_of_lt (Nat.lt_of_lt_of_le E_r0.lt (Nat.le_of_eq g6.symm))) (ninS (Nat.ne_of_lt (Nat.lt_of_lt_of_le f14.lt (Nat.le_of_eq g18.symm))) nin0)))
    have f77 := (f53.keep K50 (ninS (Nat.ne_of_lt (Nat.lt_of_lt_of_le E_r0.lt (Nat.le_of_eq g6.symm))) (ninS (Nat.ne_of_lt (Nat.lt_of_lt_of_le f14.lt (Nat.le_of_eq g18.symm))) nin0)))
    have f78 := (f54.keep K50 (ninS (Nat.ne_of_lt (Nat.lt_of_lt_of_le E_r0.lt (Nat.le_of_eq g6.symm))) (ninS (Nat.ne_of_lt (Nat.lt_of_lt_of_le f14.lt (Nat.le_of_eq g18.symm))) nin0)))
    have f79 := (f55.keep K50 (ninS (Nat.ne_of_lt (Nat.lt_of_lt_of_le E_r0.lt (Nat.le_of_eq g6.symm))) (ninS (Nat.ne_of_lt (Nat.lt_of_lt_of_le f14.lt (Nat.le_of_eq g18.symm))) nin0)))
    have f80 := (f56.keep K50 (ninS (Nat.ne_of_lt (Nat.lt_of_lt_of_le V_bA.lt (Nat.le_of_eq g6.symm))) (ninS (Nat.ne_of_lt (Nat.lt_of_lt_of_le f15.lt (Nat.le_of_eq g18.symm))) nin0)))
    have f81 := (f57.keep K50)
    have f82 := (f58.keep K50 (ninS (Nat.ne_of_lt (Nat.lt_of_lt_of_le E_r0.lt (Nat.le_of_eq g6.symm))) (ninS (Nat.ne_of_lt (Nat.lt_of_lt_of_le f14.lt (Nat.le_of_eq g18.symm))) nin0)))
    have f83 := (f59.keep K50 (ninS (Nat.ne_of_lt (Nat.lt_of_lt_of_le V_sA.lt (Nat.le_of_eq g6.symm))) (ninS (Nat.ne_of_lt (Nat.lt_of_lt_of_le f12.lt (Nat.le_of_eq g18.symm))) nin0)))
    have f84 := (f60.keep K50)
    have f85 := (f61.keep K50 (ninS (Nat.ne_of_lt (Nat.lt_of_lt_of_le E_r0.lt (Nat.le_of_eq g6.symm))) (ninS (Nat.ne_of_lt (Nat.lt_of_lt_of_le f14.lt (Nat.le_of_eq g18.symm))) nin0)))
    have f86 := (f62.keep K50)
    have f87 := (f63.keep K50 (ninS (Nat.ne_of_lt (Nat.lt_of_lt_of_le E_r0.lt (Nat.le_of_eq g6.symm))) (ninS (Nat.ne_of_lt (Nat.lt_of_lt_of_le f14.lt (Nat.le_of_eq g18.symm))) nin0)))
    have f88 := (f65.keep K50)
    obtain ⟨cq74, q74, q74'⟩ := f75.cell
    obtain ⟨_, _, ⟨T74, L74, j74, i74⟩, -, X74, ⟨Lc74, hQ74, l74, y74, z74⟩, st74⟩ := X73.privateBack hx (y := (⟨cS0, "merge", "(III)V"⟩ : MethodName)) hown (mvT hZ (own_at hw 51 rfl)) (mvT hZ (own_at hw 52 rfl)) (own_selpriv (by decide) (mvT hZ (own_at hw 1 rfl)) (mvP hZ (own_at hw 53 rfl)) (mvT hZ (own_at hw 52 rfl))) (Cond.privateMethod_at (mvP hZ (own_at hw 53 rfl) (args := #[]))) (mvT hZ (own_at hw 54 rfl)) (by decide) (backOf (W := 0) (rm7_c l Z a0 hw [] r0 bA kB sA kS b6 k6 b18 k18 x0 x1 x2 T50.heap n0 (Nat.le_trans (Nat.le_trans (Nat.le_trans (Nat.le_trans (Nat.le_trans (Nat.le_trans (Nat.le_trans (Nat.le_trans Z0 E6.1) (Keep.of_wr W9).1) E18.1) (Keep.of_wr W21).1) (Keep.of_wr W29).1) (Keep.of_wr W36).1) (Keep.of_wr W43).1) K50.1) f75 f76 f77 f68 f78 f79 f80 f81 f82 f83 f84 f85 p50_0 f86 f87 p50_1 f88 g_b18 (Nat.ne_of_lt (Nat.lt_of_lt_of_le f14.lt (Nat.le_of_eq g18.symm))) (Nat.ne_of_lt (Nat.lt_of_lt_of_le f15.lt (Nat.le_of_eq g18.symm))) (Nat.ne_of_lt (Nat.lt_of_lt_of_le f12.lt (Nat.le_of_eq g18.symm))) (Nat.ne_of_lt (Nat.lt_of_lt_of_le f17.lt (Nat.le_of_eq g18.symm))) g_b6 (Nat.ne_of_lt (Nat.lt_of_lt_of_le E_r0.lt (Nat.le_of_eq g6.symm))) (Ne.symm (Nat.ne_of_lt (Nat.lt_of_lt_of_le f17.lt (Nat.le_of_eq g18.symm)))) (Nat.ne_of_lt (Nat.lt_of_lt_of_le V_bA.lt (Nat.le_of_eq g6.symm))) (Nat.ne_of_lt (Nat.lt_of_lt_of_le V_sA.lt (Nat.le_of_eq g6.symm)))) hZ (own_at hw 54 rfl) (own_at hw 2 rfl) (by decide) (by decide)) (g := (mkF m 96 #[rv r0, iv 2, iv 0] [(.int 3), (.int 2), (.int 0), (.ref r0)])) rfl (by rw [hml]; rfl) (Steps.refl _) (a := r0) (by rw [e73]; exact q74) q74' (argsL := [(.int 0), (.int 2), (.int 3)]) (rest := []) (lenOf pd_1 rfl) rfl (Nat.le_refl _) (hb hby d5_96) (fun _ _ => ⟨rfl, e73, (by decide : 2 + 0 ≤ _), (by decide : 512 + 0 ≤ _)⟩)
    dsimp only [Pt.U, Pt.locs, Pt.cells, Pt.slots] at X74 l74 y74 z74 st74 hQ74
    subst l74 y74 z74
    have f89 := (f66.keep K50 (ninS (Nat.ne_of_lt (Nat.lt_of_lt_of_le V_oZ.lt (Nat.le_of_eq g6.symm))) (ninS (Nat.ne_of_lt (Nat.lt_of_lt_of_le f16.lt (Nat.le_of_eq g18.symm))) nin0)))
    have k90 : ∀ t, OwnS p e below T73 (mkF m 96 #[rv r0, iv 2, iv 0] [(.int 3), (.int 2), (.int 0), (.ref r0)]) t → OwnS p e below s₁ (entryFrame m #[(.ref r0)] 3) t := fun t q => by
      refine k67 t ?_
      refine st50.trans ?_
      refine XS.iloadN X50.here hx rfl (hb hby d5_99) rfl ?_
      refine XS.iconst X50.here hx rfl (hb hby d5_100) ?_
      refine XS.iloadN X50.here hx rfl (hb hby d5_101) rfl ?_
      refine XS.imul X50.here hx rfl (hb hby d5_102) rfl ?_
      refine XS.iadd X50.here hx rfl (hb hby d5_103) rfl ?_
      refine XS.istoreN X50.here hx rfl (hb hby d5_104) rfl (l' := #[rv r0, iv 1, iv 2]) rfl ?_
      refine XS.goto X50.here hx rfl (pc0 := 105) (pc' := 69) rfl (hb hby d5_105) (by decide) (by decide) ?_
      refine XS.iloadN X50.here hx rfl (hb hby d5_69) rfl ?_
      refine XS.aloadN X50.here hx rfl (hb hby d5_70) rfl rfl ?_
      refine st69 _ ?_
      refine XS.iloadN X69.here hx rfl (hb hby d5_74) rfl ?_
      refine XS.isub X69.here hx rfl (hb hby d5_75) rfl ?_
      refine XS.icmpYes X69.here hx rfl (pc0 := 76) (pc' := 108) rfl (hb hby d5_76) rfl (flt (by decide : ¬ ((2 : Int32) < (2 : Int32)))).2.1 (by decide) (by decide) ?_
      refine XS.iloadN X69.here hx rfl (hb hby d5_108) rfl ?_
      refine XS.iconst X69.here hx rfl (hb hby d5_109) ?_
      refine XS.imul X69.here hx rfl (hb hby d5_110) rfl ?_
      refine XS.istoreN X69.here hx rfl (hb hby d5_111) rfl (l' := #[rv r0, iv 2, iv 2]) rfl ?_
      refine XS.goto X69.here hx rfl (pc0 := 112) (pc' := 59) rfl (hb hby d5_112) (by decide) (by decide) ?_
      refine XS.iloadN X69.here hx rfl (hb hby d5_59) rfl ?_
      refine XS.aloadN X69.here hx rfl (hb hby d5_60) rfl rfl ?_
      refine st70 _ ?_
      refine XS.icmpNo X70.here hx rfl (hb hby d5_64) rfl (tlt (by decide : (2 : Int32) < (3 : Int32))).2.1 ?_
      refine XS.iconst X70.here hx rfl (hb hby d5_67) ?_
      refine XS.istoreN X70.here hx rfl (hb hby d5_68) rfl (l' := #[rv r0, iv 2, iv 0]) rfl ?_
      refine XS.iloadN X70.here hx rfl (hb hby d5_69) rfl ?_
      refine XS.aloadN X70.here hx rfl (hb hby d5_70) rfl rfl ?_
      refine st71 _ ?_
      refine XS.iloadN X71.here hx rfl (hb hby d5_74) rfl ?_
      refine XS.isub X71.here hx rfl (hb hby d5_75) rfl ?_
      refine XS.icmpNo X71.here hx rfl (hb hby d5_76) rfl (tlt (by decide : (0 : Int32) < (1 : Int32))).2.1 ?_
      refine XS.aloadN X71.here hx rfl (hb hby d5_79) rfl rfl ?_
      refine XS.iloadN X71.here hx rfl (hb hby d5_80) rfl ?_
      refine XS.iloadN X71.here hx rfl (hb hby d5_81) rfl ?_
      refine XS.iloadN X71.here hx rfl (hb hby d5_82) rfl ?_
      refine XS.iadd X71.here hx rfl (hb hby d5_83) rfl ?_
      refine XS.iloadN X71.here hx rfl (hb hby d5_84) rfl ?_
      refine XS.iconst X71.here hx rfl (hb hby d5_85) ?_
      refine XS.iloadN X71.here hx rfl (hb hby d5_86) rfl ?_
      refine XS.imul X71.here hx rfl (hb hby d5_87) rfl ?_
      show OwnS p e below T71 (mkF m 88 #[rv r0, iv 2, iv 0] [(.int 4), (.int 0), (.int 2), (.int 0), (.ref r0)]) _
      refine XS.iadd X71.here hx rfl (hb hby d5_88) rfl ?_
      refine XS.aloadN X71.here hx rfl (hb hby d5_89) rfl rfl ?_
      refine st72 _ ?_
      refine st73 _ ?_
      exact q
    rcases hQ74 with ⟨rfl, N74q, K74, p74_0, p74_1⟩ | ⟨rfl, N74q, K74, p74_0, p74_1⟩ | ⟨rfl, N74q, K74, p74_0, p74_1⟩
    · have pl74 := (allS (P := fun x => ∃ cell : Cell, T50.heap[x]? = some cell ∧ cell.vm.isStatics = false) (own_ns f86) (allS (P := fun x => ∃ cell : Cell, T50.heap[x]? = some cell ∧ cell.vm.isStatics = false) (own_ns f88) all0))
      have N74 := Fr.app N73 N74q
      have f91 := (f68.keep K74 (ninS (Nat.ne_of_lt (Nat.lt_of_lt_of_le E_r0.lt (Nat.le_of_eq g6.symm))) (ninS (Nat.ne_of_lt (Nat.lt_of_lt_of_le f14.lt (Nat.le_of_eq g18.symm))) nin0)))
      obtain ⟨T92, X92, e92, st92⟩ := getF X74 hx hZ hown (host := "") (Or.inl (own_at hw 30 rfl)) Via.refl rfl f91 (g := (mkF m 71 #[rv r0, iv 2, iv 4] [(.ref r0), (.int 4)])) rfl rfl (hb hby d5_71)
      obtain ⟨T93, X93, e93, st93⟩ := getF X92 hx hZ hown (host := "") (Or.inl (own_at hw 30 rfl)) Via.refl e92 f91 (g := (mkF m 61 #[rv r0, iv 4, iv 4] [(.ref r0), (.int 4)])) rfl rfl (hb hby d5_61)
      have f94 := (f78.keep K74 (ninS (Nat.ne_of_lt (Nat.lt_of_lt_of_le E_r0.lt (Nat.le_of_eq g6.symm))) (ninS (Nat.ne_of_lt (Nat.lt_of_lt_of_le f14.lt (Nat.le_of_eq g18.symm))) nin0)))
      have f95 := (f76.keep K74 (ninS (Nat.ne_of_lt (Nat.lt_of_lt_of_le E_r0.lt (Nat.le_of_eq g6.symm))) (ninS (Nat.ne_of_lt (Nat.lt_of_lt_of_le f14.lt (Nat.le_of_eq g18.symm))) nin0)))
      have f96 := (f77.keep K74 (ninS (Nat.ne_of_lt (Nat.lt_of_lt_of_le E_r0.lt (Nat.le_of_eq g6.symm))) (ninS (Nat.ne_of_lt (Nat.lt_of_lt_of_le f14.lt (Nat.le_of_eq g18.symm))) nin0)))
      have f97 := (((((((((F_limit_r0.ext E6).other W9 (Or.inr (slot_ne (Or.inl (own_at hw 29 rfl)) (Or.inl (own_at hw 16 rfl)) (by decide) (t := (.array .byte)) (t' := (.array .int)) (by decide) (by decide)))).ext E18).other W21 (Or.inr (slot_ne (Or.inl (own_at hw 29 rfl)) (Or.inl (own_at hw 18 rfl)) (by decide) (t := (.array .byte)) (t' := (.array .int)) (by decide) (by decide)))).other W29 (Or.inl (Nat.ne_of_lt (Nat.lt_of_lt_of_le E_r0.lt (Nat.le_of_eq g6.symm))))).other W36 (Or.inl (Nat.ne_of_lt (Nat.lt_of_lt_of_le E_r0.lt (Nat.le_of_eq g6.symm))))).other W43 (Or.inl (Nat.ne_of_lt (Nat.lt_of_lt_of_le E_r0.lt (Nat.le_of_eq g6.symm))))).keep K50 (ninS (Nat.ne_of_lt (Nat.lt_of_lt_of_le E_r0.lt (Nat.le_of_eq g6.symm))) (ninS (Nat.ne_of_lt (Nat.lt_of_lt_of_le f14.lt (Nat.le_of_eq g18.symm))) nin0))).keep K74 (ninS (Nat.ne_of_lt (Nat.lt_of_lt_of_le E_r0.lt (Nat.le_of_eq g6.symm))) (ninS (Nat.ne_of_lt (Nat.lt_of_lt_of_le f14.lt (Nat.le_of_eq g18.symm))) nin0)))
      have f98 := (f79.keep K74 (ninS (Nat.ne_of_lt (Nat.lt_of_lt_of_le E_r0.lt (Nat.le_of_eq g6.symm))) (ninS (Nat.ne_of_lt (Nat.lt_of_lt_of_le f14.lt (Nat.le_of_eq g18.symm))) nin0)))
      have f99 := (f82.keep K74 (ninS (Nat.ne_of_lt (Nat.lt_of_lt_of_le E_r0.lt (Nat.le_of_eq g6.symm))) (ninS (Nat.ne_of_lt (Nat.lt_of_lt_of_le f14.lt (Nat.le_of_eq g18.symm))) nin0)))
      have f100 := (f85.keep K74 (ninS (Nat.ne_of_lt (Nat.lt_of_lt_of_le E_r0.lt (Nat.le_of_eq g6.symm))) (ninS (Nat.ne_of_lt (Nat.lt_of_lt_of_le f14.lt (Nat.le_of_eq g18.symm))) nin0)))
      have f101 := (f86.keep K74)
      have f102 := (f87.keep K74 (ninS (Nat.ne_of_lt (Nat.lt_of_lt_of_le E_r0.lt (Nat.le_of_eq g6.symm))) (ninS (Nat.ne_of_lt (Nat.lt_of_lt_of_le f14.lt (Nat.le_of_eq g18.symm))) nin0)))
      have f103 := (f88.keep K74)
      obtain ⟨fs, hr, hrun, hended, hW, hsame⟩ := X93.leave (v := none) (fun _ => rfl)
      refine ⟨_, _, k90 _ ?_, hrun, hended, _, _, rfl, ?_, ⟨_, rfl⟩, hW, hsame.mono (by decide) (by decide)⟩
      · refine st74.trans ?_
        refine XS.iloadN X74.here hx rfl (hb hby d5_99) rfl ?_
        refine XS.iconst X74.here hx rfl (hb hby d5_100) ?_
        refine XS.iloadN X74.here hx rfl (hb hby d5_101) rfl ?_
        refine XS.imul X74.here hx rfl (hb hby d5_102) rfl ?_
        refine XS.iadd X74.here hx rfl (hb hby d5_103) rfl ?_
        refine XS.istoreN X74.here hx rfl (hb hby d5_104) rfl (l' := #[rv r0, iv 2, iv 4]) rfl ?_
        refine XS.goto X74.here hx rfl (pc0 := 105) (pc' := 69) rfl (hb hby d5_105) (by decide) (by decide) ?_
        refine XS.iloadN X74.here hx rfl (hb hby d5_69) rfl ?_
        refine XS.aloadN X74.here hx rfl (hb hby d5_70) rfl rfl ?_
        refine st92 _ ?_
        refine XS.iloadN X92.here hx rfl (hb hby d5_74) rfl ?_
        refine XS.isub X92.here hx rfl (hb hby d5_75) rfl ?_
        refine XS.icmpYes X92.here hx rfl (pc0 := 76) (pc' := 108) rfl (hb hby d5_76) rfl (flt (by decide : ¬ ((4 : Int32) < (1 : Int32)))).2.1 (by decide) (by decide) ?_
        refine XS.iloadN X92.here hx rfl (hb hby d5_108) rfl ?_
        refine XS.iconst X92.here hx rfl (hb hby d5_109) ?_
        refine XS.imul X92.here hx rfl (hb hby d5_110) rfl ?_
        refine XS.istoreN X92.here hx rfl (hb hby d5_111) rfl (l' := #[rv r0, iv 4, iv 4]) rfl ?_
        refine XS.goto X92.here hx rfl (pc0 := 112) (pc' := 59) rfl (hb hby d5_112) (by decide) (by decide) ?_
        refine XS.iloadN X92.here hx rfl (hb hby d5_59) rfl ?_
        refine XS.aloadN X92.here hx rfl (hb hby d5_60) rfl rfl ?_
        refine st93 _ ?_
        refine XS.icmpYes X93.here hx rfl (pc0 := 64) (pc' := 115) rfl (hb hby d5_64) rfl (flt (by decide : ¬ ((4 : Int32) < (3 : Int32)))).2.1 (by decide) (by decide) ?_
        exact X93.returnOut hx Bd.returns (hb hby d5_115) hr
      · show Q_5 Z r0 bA kB sA kS oZ kZ cZ x0 x1 x2 h0 n0 _ T93.heap _
        rw [e93]
        exact Or.inl (⟨b6, k6, b18, k18, rfl, N74, ((((((((((Keep.refl h0 [r0]).ext E6).wr W9 (Or.inl (List.mem_of_getElem? (i := 0) rfl))).ext E18).wr W21 (Or.inl (List.mem_of_getElem? (i := 0) rfl))).wr W29 (Or.inr sz_b6)).wr W36 (Or.inr sz_b6)).wr W43 (Or.inr sz_b6)).trans K50 (allS (Or.inr sz_b6) (allS (Or.inr sz_b18) all0))).trans K74 (allS (Or.inr sz_b6) (allS (Or.inr sz_b18) all0))), sz_b6, sz_b18, (Nat.ne_of_lt (Nat.lt_of_lt_of_le f17.lt (Nat.le_of_eq g18.symm))), f91, f94, f95, f96, f97, f98, f99, f100, p74_0, f101, f102, p74_1, f103⟩)
    · have pl74 := (allS (P := fun x => ∃ cell : Cell, T50.heap[x]? = some cell ∧ cell.vm.isStatics = false) (own_ns f86) (allS (P := fun x => ∃ cell : Cell, T50.heap[x]? = some cell ∧ cell.vm.isStatics = false) (own_ns f88) all0))
      have N74 := Fr.app N73 N74q
      have f104 := (f68.keep K74 (ninS (Nat.ne_of_lt (Nat.lt_of_lt_of_le E_r0.lt (Nat.le_of_eq g6.symm))) (ninS (Nat.ne_of_lt (Nat.lt_of_lt_of_le f14.lt (Nat.le_of_eq g18.symm))) nin0)))
      obtain ⟨T105, X105, e105, st105⟩ := getF X74 hx hZ hown (host := "") (Or.inl (own_at hw 30 rfl)) Via.refl rfl f104 (g := (mkF m 71 #[rv r0, iv 2, iv 4] [(.ref r0), (.int 4)])) rfl rfl (hb hby d5_71)
      obtain ⟨T106, X106, e106, st106⟩ := getF X105 hx hZ hown (host := "") (Or.inl (own_at hw 30 rfl)) Via.refl e105 f104 (g := (mkF m 61 #[rv r0, iv 4, iv 4] [(.ref r0), (.int 4)])) rfl rfl (hb hby d5_61)
      have f107 := (f78.keep K74 (ninS (Nat.ne_of_lt (Nat.lt_of_lt_of_le E_r0.lt (Nat.le_of_eq g6.symm))) (ninS (Nat.ne_of_lt (Nat.lt_of_lt_of_le f14.lt (Nat.le_of_eq g18.symm))) nin0)))
      have f108 := (f76.keep K74 (ninS (Nat.ne_of_lt (Nat.lt_of_lt_of_le E_r0.lt (Nat.le_of_eq g6.symm))) (ninS (Nat.ne_of_lt (Nat.lt_of_lt_of_le f14.lt (Nat.le_of_eq g18.symm))) nin0)))
      have f109 := (f77.keep K74 (ninS (Nat.ne_of_lt (Nat.lt_of_lt_of_le E_r0.lt (Nat.le_of_eq g6.symm))) (ninS (Nat.ne_of_lt (Nat.lt_of_lt_of_le f14.lt (Nat.le_of_eq g18.symm))) nin0)))
      have f110 := (((((((((F_limit_r0.ext E6).other W9 (Or.inr (slot_ne (Or.inl (own_at hw 29 rfl)) (Or.inl (own_at hw 16 rfl)) (by decide) (t := (.array .byte)) (t' := (.array .int)) (by decide) (by decide)))).ext E18).other W21 (Or.inr (slot_ne (Or.inl (own_at hw 29 rfl)) (Or.inl (own_at hw 18 rfl)) (by decide) (t := (.array .byte)) (t' := (.array .int)) (by decide) (by decide)))).other W29 (Or.inl (Nat.ne_of_lt (Nat.lt_of_lt_of_le E_r0.lt (Nat.le_of_eq g6.symm))))).other W36 (Or.inl (Nat.ne_of_lt (Nat.lt_of_lt_of_le E_r0.lt (Nat.le_of_eq g6.symm))))).other W43 (Or.inl (Nat.ne_of_lt (Nat.lt_of_lt_of_le E_r0.lt (Nat.le_of_eq g6.symm))))).keep K50 (ninS (Nat.ne_of_lt (Nat.lt_of_lt_of_le E_r0.lt (Nat.le_of_eq g6.symm))) (ninS (Nat.ne_of_lt (Nat.lt_of_lt_of_le f14.lt (Nat.le_of_eq g18.symm))) nin0))).keep K74 (ninS (Nat.ne_of_lt (Nat.lt_of_lt_of_le E_r0.lt (Nat.le_of_eq g6.symm))) (ninS (Nat.ne_of_lt (Nat.lt_of_lt_of_le f14.lt (Nat.le_of_eq g18.symm))) nin0)))
      have f111 := (f79.keep K74 (ninS (Nat.ne_of_lt (Nat.lt_of_lt_of_le E_r0.lt (Nat.le_of_eq g6.symm))) (ninS (Nat.ne_of_lt (Nat.lt_of_lt_of_le f14.lt (Nat.le_of_eq g18.symm))) nin0)))
      have f112 := (f82.keep K74 (ninS (Nat.ne_of_lt (Nat.lt_of_lt_of_le E_r0.lt (Nat.le_of_eq g6.symm))) (ninS (Nat.ne_of_lt (Nat.lt_of_lt_of_le f14.lt (Nat.le_of_eq g18.symm))) nin0)))
      have f113 := (f85.keep K74 (ninS (Nat.ne_of_lt (Nat.lt_of_lt_of_le E_r0.lt (Nat.le_of_eq g6.symm))) (ninS (Nat.ne_of_lt (Nat.lt_of_lt_of_le f14.lt (Nat.le_of_eq g18.symm))) nin0)))
      have f114 := (f86.keep K74)
      have f115 := (f87.keep K74 (ninS (Nat.ne_of_lt (Nat.lt_of_lt_of_le E_r0.lt (Nat.le_of_eq g6.symm))) (ninS (Nat.ne_of_lt (Nat.lt_of_lt_of_le f14.lt (Nat.le_of_eq g18.symm))) nin0)))
      have f116 := (f88.keep K74)
      obtain ⟨fs, hr, hrun, hended, hW, hsame⟩ := X106.leave (v := none) (fun _ => rfl)
      refine ⟨_, _, k90 _ ?_, hrun, hended, _, _, rfl, ?_, ⟨_, rfl⟩, hW, hsame.mono (by decide) (by decide)⟩
      · refine st74.trans ?_
        refine XS.iloadN X74.here hx rfl (hb hby d5_99) rfl ?_
        refine XS.iconst X74.here hx rfl (hb hby d5_100) ?_
        refine XS.iloadN X74.here hx rfl (hb hby d5_101) rfl ?_
        refine XS.imul X74.here hx rfl (hb hby d5_102) rfl ?_
        refine XS.iadd X74.here hx rfl (hb hby d5_103) rfl ?_
        refine XS.istoreN X74.here hx rfl (hb hby d5_104) rfl (l' := #[rv r0, iv 2, iv 4]) rfl ?_
        refine XS.goto X74.here hx rfl (pc0 := 105) (pc' := 69) rfl (hb hby d5_105) (by decide) (by decide) ?_
        refine XS.iloadN X74.here hx rfl (hb hby d5_69) rfl ?_
        refine XS.aloadN X74.here hx rfl (hb hby d5_70) rfl rfl ?_
        refine st105 _ ?_
        refine XS.iloadN X105.here hx rfl (hb hby d5_74) rfl ?_
        refine XS.isub X105.here hx rfl (hb hby d5_75) rfl ?_
        refine XS.icmpYes X105.here hx rfl (pc0 := 76) (pc' := 108) rfl (hb hby d5_76) rfl (flt (by decide : ¬ ((4 : Int32) < (1 : Int32)))).2.1 (by decide) (by decide) ?_
        refine XS.iloadN X105.here hx rfl (hb hby d5_108) rfl ?_
        refine XS.iconst X105.here hx rfl (hb hby d5_109) ?_
        refine XS.imul X105.here hx rfl (hb hby d5_110) rfl ?_
        refine XS.istoreN X105.here hx rfl (hb hby d5_111) rfl (l' := #[rv r0, iv 4, iv 4]) rfl ?_
        refine XS.goto X105.here hx rfl (pc0 := 112) (pc' := 59) rfl (hb hby d5_112) (by decide) (by decide) ?_
        refine XS.iloadN X105.here hx rfl (hb hby d5_59) rfl ?_
        refine XS.aloadN X105.here hx rfl (hb hby d5_60) rfl rfl ?_
        refine st106 _ ?_
        refine XS.icmpYes X106.here hx rfl (pc0 := 64) (pc' := 115) rfl (hb hby d5_64) rfl (flt (by decide : ¬ ((4 : Int32) < (3 : Int32)))).2.1 (by decide) (by decide) ?_
        exact X106.returnOut hx Bd.returns (hb hby d5_115) hr
      · show Q_5 Z r0 bA kB sA kS oZ kZ cZ x0 x1 x2 h0 n0 _ T106.heap _
        rw [e106]
        exact Or.inr (Or.inl (⟨b6, k6, b18, k18, rfl, N74, ((((((((((Keep.refl h0 [r0]).ext E6).wr W9 (Or.inl (List.mem_of_getElem? (i := 0) rfl))).ext E18).wr W21 (Or.inl (List.mem_of_getElem? (i := 0) rfl))).wr W29 (Or.inr sz_b6)).wr W36 (Or.inr sz_b6)).wr W43 (Or.inr sz_b6)).trans K50 (allS (Or.inr sz_b6) (allS (Or.inr sz_b18) all0))).trans K74 (allS (Or.inr sz_b6) (allS (Or.inr sz_b18) all0))), sz_b6, sz_b18, (Nat.ne_of_lt (Nat.lt_of_lt_of_le f17.lt (Nat.le_of_eq g18.symm))), f104, f107, f108, f109, f110, f111, f112, f113, p74_0, f114, f115, p74_1, f116⟩))
    · have pl74 := (allS (P := fun x => ∃ cell : Cell, T50.heap[x]? = some cell ∧ cell.vm.isStatics = false) (own_ns f86) (allS (P := fun x => ∃ cell : Cell, T50.heap[x]? = some cell ∧ cell.vm.isStatics = false) (own_ns f88) all0))
      have N74 := Fr.app N73 N74q
      have f117 := (f68.keep K74 (ninS (Nat.ne_of_lt (Nat.lt_of_lt_of_le E_r0.lt (Nat.le_of_eq g6.symm))) (ninS (Nat.ne_of_lt (Nat.lt_of_lt_of_le f14.lt (Nat.le_of_eq g18.symm))) nin0)))
      obtain ⟨T118, X118, e118, st118⟩ := getF X74 hx hZ hown (host := "") (Or.inl (own_at hw 30 rfl)) Via.refl rfl f117 (g := (mkF m 71 #[rv r0, iv 2, iv 4] [(.ref r0), (.int 4)])) rfl rfl (hb hby d5_71)
      obtain ⟨T119, X119, e119, st119⟩ := getF X118 hx hZ hown (host := "") (Or.inl (own_at hw 30 rfl)) Via.refl e118 f117 (g := (mkF m 61 #[rv r0, iv 4, iv 4] [(.ref r0), (.int 4)])) rfl rfl (hb hby d5_61)
      have f120 := (f78.keep K74 (ninS (Nat.ne_of_lt (Nat.lt_of_lt_of_le E_r0.lt (Nat.le_of_eq g6.symm))) (ninS (Nat.ne_of_lt (Nat.lt_of_lt_of_le f14.lt (Nat.le_of_eq g18.symm))) nin0)))
      have f121 := (f76.keep K74 (ninS (Nat.ne_of_lt (Nat.lt_of_lt_of_le E_r0.lt (Nat.le_of_eq g6.symm))) (ninS (Nat.ne_of_lt (Nat.lt_of_lt_of_le f14.lt (Nat.le_of_eq g18.symm))) nin0)))
      have f122 := (f77.keep K74 (ninS (Nat.ne_of_lt (Nat.lt_of_lt_of_le E_r0.lt (Nat.le_of_eq g6.symm))) (ninS (Nat.ne_of_lt (Nat.lt_of_lt_of_le f14.lt (Nat.le_of_eq g18.symm))) nin0)))
      have f123 := (((((((((F_limit_r0.ext E6).other W9 (Or.inr (slot_ne (Or.inl (own_at hw 29 rfl)) (Or.inl (own_at hw 16 rfl)) (by decide) (t := (.array .byte)) (t' := (.array .int)) (by decide) (by decide)))).ext E18).other W21 (Or.inr (slot_ne (Or.inl (own_at hw 29 rfl)) (Or.inl (own_at hw 18 rfl)) (by decide) (t := (.array .byte)) (t' := (.array .int)) (by decide) (by decide)))).other W29 (Or.inl (Nat.ne_of_lt (Nat.lt_of_lt_of_le E_r0.lt (Nat.le_of_eq g6.symm))))).other W36 (Or.inl (Nat.ne_of_lt (Nat.lt_of_lt_of_le E_r0.lt (Nat.le_of_eq g6.symm))))).other W43 (Or.inl (Nat.ne_of_lt (Nat.lt_of_lt_of_le E_r0.lt (Nat.le_of_eq g6.symm))))).keep K50 (ninS (Nat.ne_of_lt (Nat.lt_of_lt_of_le E_r0.lt (Nat.le_of_eq g6.symm))) (ninS (Nat.ne_of_lt (Nat.lt_of_lt_of_le f14.lt (Nat.le_of_eq g18.symm))) nin0))).keep K74 (ninS (Nat.ne_of_lt (Nat.lt_of_lt_of_le E_r0.lt (Nat.le_of_eq g6.symm))) (ninS (Nat.ne_of_lt (Nat.lt_of_lt_of_le f14.lt (Nat.le_of_eq g18.symm))) nin0)))
      have f124 := (f79.keep K74 (ninS (Nat.ne_of_lt (Nat.lt_of_lt_of_le E_r0.lt (Nat.le_of_eq g6.symm))) (ninS (Nat.ne_of_lt (Nat.lt_of_lt_of_le f14.lt (Nat.le_of_eq g18.symm))) nin0)))
      have f125 := (f82.keep K74 (ninS (Nat.ne_of_lt (Nat.lt_of_lt_of_le E_r0.lt (Nat.le_of_eq g6.symm))) (ninS (Nat.ne_of_lt (Nat.lt_of_lt_of_le f14.lt (Nat.le_of_eq g18.symm))) nin0)))
      have f126 := (f85.keep K74 (ninS (Nat.ne_of_lt (Nat.lt_of_lt_of_le E_r0.lt (Nat.le_of_eq g6.symm))) (ninS (Nat.ne_of_lt (Nat.lt_of_lt_of_le f14.lt (Nat.le_of_eq g18.symm))) nin0)))
      have f127 := (f86.keep K74)
      have f128 := (f87.keep K74 (ninS (Nat.ne_of_lt (Nat.lt_of_lt_of_le E_r0.lt (Nat.le_of_eq g6.symm))) (ninS (Nat.ne_of_lt (Nat.lt_of_lt_of_le f14.lt (Nat.le_of_eq g18.symm))) nin0)))
      have f129 := (f88.keep K74)
      obtain ⟨fs, hr, hrun, hended, hW, hsame⟩ := X119.leave (v := none) (fun _ => rfl)
      refine ⟨_, _, k90 _ ?_, hrun, hended, _, _, rfl, ?_, ⟨_, rfl⟩, hW, hsame.mono (by decide) (by decide)⟩
      · refine st74.trans ?_
        refine XS.iloadN X74.here hx rfl (hb hby d5_99) rfl ?_
        refine XS.iconst X74.here hx rfl (hb hby d5_100) ?_
        refine XS.iloadN X74.here hx rfl (hb hby d5_101) rfl ?_
        refine XS.imul X74.here hx rfl (hb hby d5_102) rfl ?_
        refine XS.iadd X74.here hx rfl (hb hby d5_103) rfl ?_
        refine XS.istoreN X74.here hx rfl (hb hby d5_104) rfl (l' := #[rv r0, iv 2, iv 4]) rfl ?_
        refine XS.goto X74.here hx rfl (pc0 := 105) (pc' := 69) rfl (hb hby d5_105) (by decide) (by decide) ?_
        refine XS.iloadN X74.here hx rfl (hb hby d5_69) rfl ?_
        refine XS.aloadN X74.here hx rfl (hb hby d5_70) rfl rfl ?_
        refine st118 _ ?_
        refine XS.iloadN X118.here hx rfl (hb hby d5_74) rfl ?_
        refine XS.isub X118.here hx rfl (hb hby d5_75) rfl ?_
        refine XS.icmpYes X118.here hx rfl (pc0 := 76) (pc' := 108) rfl (hb hby d5_76) rfl (flt (by decide : ¬ ((4 : Int32) < (1 : Int32)))).2.1 (by decide) (by decide) ?_
        refine XS.iloadN X118.here hx rfl (hb hby d5_108) rfl ?_
        refine XS.iconst X118.here hx rfl (hb hby d5_109) ?_
        refine XS.imul X118.here hx rfl (hb hby d5_110) rfl ?_
        refine XS.istoreN X118.here hx rfl (hb hby d5_111) rfl (l' := #[rv r0, iv 4, iv 4]) rfl ?_
        refine XS.goto X118.here hx rfl (pc0 := 112) (pc' := 59) rfl (hb hby d5_112) (by decide) (by decide) ?_
        refine XS.iloadN X118.here hx rfl (hb hby d5_59) rfl ?_
        refine XS.aloadN X118.here hx rfl (hb hby d5_60) rfl rfl ?_
        refine st119 _ ?_
        refine XS.icmpYes X119.here hx rfl (pc0 := 64) (pc' := 115) rfl (hb hby d5_64) rfl (flt (by decide : ¬ ((4 : Int32) < (3 : Int32)))).2.1 (by decide) (by decide) ?_
        exact X119.returnOut hx Bd.returns (hb hby d5_115) hr
      · show Q_5 Z r0 bA kB sA kS oZ kZ cZ x0 x1 x2 h0 n0 _ T119.heap _
        rw [e119]
        exact Or.inr (Or.inr (Or.inl (⟨b6, k6, b18, k18, rfl, N74, ((((((((((Keep.refl h0 [r0]).ext E6).wr W9 (Or.inl (List.mem_of_getElem? (i := 0) rfl))).ext E18).wr W21 (Or.inl (List.mem_of_getElem? (i := 0) rfl))).wr W29 (Or.inr sz_b6)).wr W36 (Or.inr sz_b6)).wr W43 (Or.inr sz_b6)).trans K50 (allS (Or.inr sz_b6) (allS (Or.inr sz_b18) all0))).trans K74 (allS (Or.inr sz_b6) (allS (Or.inr sz_b18) all0))), sz_b6, sz_b18, (Nat.ne_of_lt (Nat.lt_of_lt_of_le f17.lt (Nat.le_of_eq g18.symm))), f117, f120, f121, f122, f123, f124, f125, f126, p74_0, f127, f128, p74_1, f129⟩)))
  · have pl50 := (allS (P := fun x => ∃ cell : Cell, h43[x]? = some cell ∧ cell.vm.isStatics = false) (own_ns f62) (allS (P := fun x => ∃ cell : Cell, h43[x]? = some cell ∧ cell.vm.isStatics = false) (own_ns f65) all0))
    have N50 := Fr.app N49 N50q
    have f130 := (f44.keep K50 (ninS (Nat.ne_of_lt (Nat.lt_of_lt_of_le E_r0.lt (Nat.le_of_eq g6.symm))) (ninS (Nat.ne_of_lt (Nat.lt_of_lt_of_le f14.lt (Nat.le_of_eq g18.symm))) nin0)))
    obtain ⟨T131, X131, e131, st131⟩ := getF X50 hx hZ hown (host := "") (Or.inl (own_at hw 30 rfl)) Via.refl rfl f130 (g := (mkF m 71 #[rv r0, iv 1, iv 2] [(.ref r0), (.int 2)])) rfl rfl (hb hby d5_71)
    obtain ⟨T132, X132, e132, st132⟩ := getF X131 hx hZ hown (host := "") (Or.inl (own_at hw 30 rfl)) Via.refl e131 f130 (g := (mkF m 61 #[rv r0, iv 2, iv 2] [(.ref r0), (.int 2)])) rfl rfl (hb hby d5_61)
    obtain ⟨T133, X133, e133, st133⟩ := getF X132 hx hZ hown (host := "") (Or.inl (own_at hw 30 rfl)) Via.refl e132 f130 (g := (mkF m 71 #[rv r0, iv 2, iv 0] [(.ref r0), (.int 0)])) rfl rfl (hb hby d5_71)
    obtain ⟨T134, X134, e134, st134⟩ := getF X133 hx hZ hown (host := "") (Or.inl (own_at hw 30 rfl)) Via.refl e133 f130 (g := (mkF m 90 #[rv r0, iv 2, iv 0] [(.ref r0), (.int 4), (.int 2), (.int 0), (.ref r0)])) rfl rfl (hb hby d5_90)
    obtain ⟨_, _, ⟨T135, L135, j135, i135⟩, -, X135, ⟨Lc135, hQ135, l135, y135, z135⟩, st135⟩ := Jvm.LawKit.callS X134 hx (y := (⟨"java/lang/Math", "min", "(II)I"⟩ : MethodName)) hown (mvT hZ (own_at hw 47 rfl)) (mvT hZ (own_at hw 48 rfl)) (mvT hZ (own_at hw 49 rfl)) (mvT hZ (own_at hw 50 rfl)) (by decide) (backOf (W := 3) (rm6_t l Z a0 hw [] (4 : Int32) (3 : Int32) T50.heap n0 (Nat.le_trans (Nat.le_trans (Nat.le_trans (Nat.le_trans (Nat.le_trans (Nat.le_trans (Nat.le_trans (Nat.le_trans Z0 E6.1) (Keep.of_wr W9).1) E18.1) (Keep.of_wr W21).1) (Keep.of_wr W29).1) (Keep.of_wr W36).1) (Keep.of_wr W43).1) K50.1) (by decide : (3 : Int32) < (4 : Int32))) hZ (own_at hw 50 rfl) (own_at hw 49 rfl) (by decide) (by decide)) (g := (mkF m 93 #[rv r0, iv 2, iv 0] [(.int 3), (.int 4), (.int 2), (.int 0), (.ref r0)])) rfl (by rw [hml]; rfl) (argsL := [(.int 4), (.int 3)]) (rest := [(.int 2), (.int 0), (.ref r0)]) (lenOf pd_2 rfl) rfl (Nat.le_refl _) (hb hby d5_93) (fun _ _ => ⟨rfl, e134, (by decide : 2 + 0 ≤ _), (by decide : 512 + 0 ≤ _)⟩)
    dsimp only [Pt.U, Pt.locs, Pt.cells, Pt.slots] at X135 l135 y135 z135 st135 hQ135
    subst l135 y135 z135
    obtain ⟨rfl, N135q, e135⟩ := hQ135
    have N135 := Fr.app N50 N135q
    have f137 := (f51.keep K50)
    have f138 := (f52.keep K50 (ninS (Nat.ne_of_lt (Nat.lt_of_lt_of_le E_r0.lt (Nat.le_of_eq g6.symm))) (ninS (Nat.ne_of_lt (Nat.lt_of_lt_of_le f14.lt (Nat.le_of_eq g18.symm))) nin0)))
    have f139 := (f53.keep K50 (ninS (Nat.ne_of_lt (Nat.lt_of_lt_of_le E_r0.lt (Nat.le_of_eq g6.symm))) (ninS (Nat.ne_of_lt (Nat.lt_of_lt_of_le f14.lt (Nat.le_of_eq g18.symm))) nin0)))
    have f140 := (f54.keep K50 (ninS (Nat.ne_of_lt (Nat.lt_of_lt_of_le E_r0.lt (Nat.le_of_eq g6.symm))) (ninS (Nat.ne_of_lt (Nat.lt_of_lt_of_le f14.lt (Nat.le_of_eq g18.symm))) nin0)))
    have f141 := (f55.keep K50 (ninS (Nat.ne_of_lt (Nat.lt_of_lt_of_le E_r0.lt (Nat.le_of_eq g6.symm))) (ninS (Nat.ne_of_lt (Nat.lt_of_lt_of_le f14.lt (Nat.le_of_eq g18.symm))) nin0)))
    have f142 := (f56.keep K50 (ninS (Nat.ne_of_lt (Nat.lt_of_lt_of_le V_bA.lt (Nat.le_of_eq g6.symm))) (ninS (Nat.ne_of_lt (Nat.lt_of_lt_of_le f15.lt (Nat.le_of_eq g18.symm))) nin0)))
    have f143 := (f57.keep K50)
    have f144 := (f58.keep K50 (ninS (Nat.ne_of_lt (Nat.lt_of_lt_of_le E_r0.lt (Nat.le_of_eq g6.symm))) (ninS (Nat.ne_of_lt (Nat.lt_of_lt_of_le f14.lt (Nat.le_of_eq g18.symm))) nin0)))
    have f145 := (f59.keep K50 (ninS (Nat.ne_of_lt (Nat.lt_of_lt_of_le V_sA.lt (Nat.le_of_eq g6.symm))) (ninS (Nat.ne_of_lt (Nat.lt_of_lt_of_le f12.lt (Nat.le_of_eq g18.symm))) nin0)))
    have f146 := (f60.keep K50)
    have f147 := (f61.keep K50 (ninS (Nat.ne_of_lt (Nat.lt_of_lt_of_le E_r0.lt (Nat.le_of_eq g6.symm))) (ninS (Nat.ne_of_lt (Nat.lt_of_lt_of_le f14.lt (Nat.le_of_eq g18.symm))) nin0)))
    have f148 := (f62.keep K50)
    have f149 := (f63.keep K50 (ninS (Nat.ne_of_lt (Nat.lt_of_lt_of_le E_r0.lt (Nat.le_of_eq g6.symm))) (ninS (Nat.ne_of_lt (Nat.lt_of_lt_of_le f14.lt (Nat.le_of_eq g18.symm))) nin0)))
    have f150 := (f65.keep K50)
    obtain ⟨cq136, q136, q136'⟩ := f137.cell
    obtain ⟨_, _, ⟨T136, L136, j136, i136⟩, -, X136, ⟨Lc136, hQ136, l136, y136, z136⟩, st136⟩ := X135.privateBack hx (y := (⟨cS0, "merge", "(III)V"⟩ : MethodName)) hown (mvT hZ (own_at hw 51 rfl)) (mvT hZ (own_at hw 52 rfl)) (own_selpriv (by decide) (mvT hZ (own_at hw 1 rfl)) (mvP hZ (own_at hw 53 rfl)) (mvT hZ (own_at hw 52 rfl))) (Cond.privateMethod_at (mvP hZ (own_at hw 53 rfl) (args := #[]))) (mvT hZ (own_at hw 54 rfl)) (by decide) (backOf (W := 0) (rm7_b l Z a0 hw [] r0 bA kB sA kS b6 k6 b18 k18 x0 x1 x2 T50.heap n0 (Nat.le_trans (Nat.le_trans (Nat.le_trans (Nat.le_trans (Nat.le_trans (Nat.le_trans (Nat.le_trans (Nat.le_trans Z0 E6.1) (Keep.of_wr W9).1) E18.1) (Keep.of_wr W21).1) (Keep.of_wr W29).1) (Keep.of_wr W36).1) (Keep.of_wr W43).1) K50.1) f137 f138 f139 f130 f140 f141 f142 f143 f144 f145 f146 f147 p50_0 f148 f149 p50_1 f150 g_b18 (Nat.ne_of_lt (Nat.lt_of_lt_of_le f14.lt (Nat.le_of_eq g18.symm))) (Nat.ne_of_lt (Nat.lt_of_lt_of_le f15.lt (Nat.le_of_eq g18.symm))) (Nat.ne_of_lt (Nat.lt_of_lt_of_le f12.lt (Nat.le_of_eq g18.symm))) (Nat.ne_of_lt (Nat.lt_of_lt_of_le f17.lt (Nat.le_of_eq g18.symm))) g_b6 (Nat.ne_of_lt (Nat.lt_of_lt_of_le E_r0.lt (Nat.le_of_eq g6.symm))) (Ne.symm (Nat.ne_of_lt (Nat.lt_of_lt_of_le f17.lt (Nat.le_of_eq g18.symm)))) (Nat.ne_of_lt (Nat.lt_of_lt_of_le V_bA.lt (Nat.le_of_eq g6.symm))) (Nat.ne_of_lt (Nat.lt_of_lt_of_le V_sA.lt (Nat.le_of_eq g6.symm)))) hZ (own_at hw 54 rfl) (own_at hw 2 rfl) (by decide) (by decide)) (g := (mkF m 96 #[rv r0, iv 2, iv 0] [(.int 3), (.int 2), (.int 0), (.ref r0)])) rfl (by rw [hml]; rfl) (Steps.refl _) (a := r0) (by rw [e135]; exact q136) q136' (argsL := [(.int 0), (.int 2), (.int 3)]) (rest := []) (lenOf pd_1 rfl) rfl (Nat.le_refl _) (hb hby d5_96) (fun _ _ => ⟨rfl, e135, (by decide : 2 + 0 ≤ _), (by decide : 512 + 0 ≤ _)⟩)
    dsimp only [Pt.U, Pt.locs, Pt.cells, Pt.slots] at X136 l136 y136 z136 st136 hQ136
    subst l136 y136 z136
    have f151 := (f66.keep K50 (ninS (Nat.ne_of_lt (Nat.lt_of_lt_of_le V_oZ.lt (Nat.le_of_eq g6.symm))) (ninS (Nat.ne_of_lt (Nat.lt_of_lt_of_le f16.lt (Nat.le_of_eq g18.symm))) nin0)))
    have k152 : ∀ t, OwnS p e below T135 (mkF m 96 #[rv r0, iv 2, iv 0] [(.int 3), (.int 2), (.int 0), (.ref r0)]) t → OwnS p e below s₁ (entryFrame m #[(.ref r0)] 3) t := fun t q => by
      refine k67 t ?_
      refine st50.trans ?_
      refine XS.iloadN X50.here hx rfl (hb hby d5_99) rfl ?_
      refine XS.iconst X50.here hx rfl (hb hby d5_100) ?_
      refine XS.iloadN X50.here hx rfl (hb hby d5_101) rfl ?_
      refine XS.imul X50.here hx rfl (hb hby d5_102) rfl ?_
      refine XS.iadd X50.here hx rfl (hb hby d5_103) rfl ?_
      refine XS.istoreN X50.here hx rfl (hb hby d5_104) rfl (l' := #[rv r0, iv 1, iv 2]) rfl ?_
      refine XS.goto X50.here hx rfl (pc0 := 105) (pc' := 69) rfl (hb hby d5_105) (by decide) (by decide) ?_
      refine XS.iloadN X50.here hx rfl (hb hby d5_69) rfl ?_
      refine XS.aloadN X50.here hx rfl (hb hby d5_70) rfl rfl ?_
      refine st131 _ ?_
      refine XS.iloadN X131.here hx rfl (hb hby d5_74) rfl ?_
      refine XS.isub X131.here hx rfl (hb hby d5_75) rfl ?_
      refine XS.icmpYes X131.here hx rfl (pc0 := 76) (pc' := 108) rfl (hb hby d5_76) rfl (flt (by decide : ¬ ((2 : Int32) < (2 : Int32)))).2.1 (by decide) (by decide) ?_
      refine XS.iloadN X131.here hx rfl (hb hby d5_108) rfl ?_
      refine XS.iconst X131.here hx rfl (hb hby d5_109) ?_
      refine XS.imul X131.here hx rfl (hb hby d5_110) rfl ?_
      refine XS.istoreN X131.here hx rfl (hb hby d5_111) rfl (l' := #[rv r0, iv 2, iv 2]) rfl ?_
      refine XS.goto X131.here hx rfl (pc0 := 112) (pc' := 59) rfl (hb hby d5_112) (by decide) (by decide) ?_
      refine XS.iloadN X131.here hx rfl (hb hby d5_59) rfl ?_
      refine XS.aloadN X131.here hx rfl (hb hby d5_60) rfl rfl ?_
      refine st132 _ ?_
      refine XS.icmpNo X132.here hx rfl (hb hby d5_64) rfl (tlt (by decide : (2 : Int32) < (3 : Int32))).2.1 ?_
      refine XS.iconst X132.here hx rfl (hb hby d5_67) ?_
      refine XS.istoreN X132.here hx rfl (hb hby d5_68) rfl (l' := #[rv r0, iv 2, iv 0]) rfl ?_
      refine XS.iloadN X132.here hx rfl (hb hby d5_69) rfl ?_
      refine XS.aloadN X132.here hx rfl (hb hby d5_70) rfl rfl ?_
      refine st133 _ ?_
      refine XS.iloadN X133.here hx rfl (hb hby d5_74) rfl ?_
      refine XS.isub X133.here hx rfl (hb hby d5_75) rfl ?_
      refine XS.icmpNo X133.here hx rfl (hb hby d5_76) rfl (tlt (by decide : (0 : Int32) < (1 : Int32))).2.1 ?_
      refine XS.aloadN X133.here hx rfl (hb hby d5_79) rfl rfl ?_
      refine XS.iloadN X133.here hx rfl (hb hby d5_80) rfl ?_
      refine XS.iloadN X133.here hx rfl (hb hby d5_81) rfl ?_
      refine XS.iloadN X133.here hx rfl (hb hby d5_82) rfl ?_
      refine XS.iadd X133.here hx rfl (hb hby d5_83) rfl ?_
      refine XS.iloadN X133.here hx rfl (hb hby d5_84) rfl ?_
      refine XS.iconst X133.here hx rfl (hb hby d5_85) ?_
      refine XS.iloadN X133.here hx rfl (hb hby d5_86) rfl ?_
      refine XS.imul X133.here hx rfl (hb hby d5_87) rfl ?_
      show OwnS p e below T133 (mkF m 88 #[rv r0, iv 2, iv 0] [(.int 4), (.int 0), (.int 2), (.int 0), (.ref r0)]) _
      refine XS.iadd X133.here hx rfl (hb hby d5_88) rfl ?_
      refine XS.aloadN X133.here hx rfl (hb hby d5_89) rfl rfl ?_
      refine st134 _ ?_
      refine st135 _ ?_
      exact q
    rcases hQ136 with ⟨rfl, N136q, K136, p136_0, p136_1⟩ | ⟨rfl, N136q, K136, p136_0, p136_1⟩ | ⟨rfl, N136q, K136, p136_0, p136_1⟩
    · have pl136 := (allS (P := fun x => ∃ cell : Cell, T50.heap[x]? = some cell ∧ cell.vm.isStatics = false) (own_ns f148) (allS (P := fun x => ∃ cell : Cell, T50.heap[x]? = some cell ∧ cell.vm.isStatics = false) (own_ns f150) all0))
      have N136 := Fr.app N135 N136q
      have f153 := (f130.keep K136 (ninS (Nat.ne_of_lt (Nat.lt_of_lt_of_le E_r0.lt (Nat.le_of_eq g6.symm))) (ninS (Nat.ne_of_lt (Nat.lt_of_lt_of_le f14.lt (Nat.le_of_eq g18.symm))) nin0)))
      obtain ⟨T154, X154, e154, st154⟩ := getF X136 hx hZ hown (host := "") (Or.inl (own_at hw 30 rfl)) Via.refl rfl f153 (g := (mkF m 71 #[rv r0, iv 2, iv 4] [(.ref r0), (.int 4)])) rfl rfl (hb hby d5_71)
      obtain ⟨T155, X155, e155, st155⟩ := getF X154 hx hZ hown (host := "") (Or.inl (own_at hw 30 rfl)) Via.refl e154 f153 (g := (mkF m 61 #[rv r0, iv 4, iv 4] [(.ref r0), (.int 4)])) rfl rfl (hb hby d5_61)
      have f156 := (f140.keep K136 (ninS (Nat.ne_of_lt (Nat.lt_of_lt_of_le E_r0.lt (Nat.le_of_eq g6.symm))) (ninS (Nat.ne_of_lt (Nat.lt_of_lt_of_le f14.lt (Nat.le_of_eq g18.symm))) nin0)))
      have f157 := (f138.keep K136 (ninS (Nat.ne_of_lt (Nat.lt_of_lt_of_le E_r0.lt (Nat.le_of_eq g6.symm))) (ninS (Nat.ne_of_lt (Nat.lt_of_lt_of_le f14.lt (Nat.le_of_eq g18.symm))) nin0)))
      have f158 := (f139.keep K136 (ninS (Nat.ne_of_lt (Nat.lt_of_lt_of_le E_r0.lt (Nat.le_of_eq g6.symm))) (ninS (Nat.ne_of_lt (Nat.lt_of_lt_of_le f14.lt (Nat.le_of_eq g18.symm))) nin0)))
      have f159 := (((((((((F_limit_r0.ext E6).other W9 (Or.inr (slot_ne (Or.inl (own_at hw 29 rfl)) (Or.inl (own_at hw 16 rfl)) (by decide) (t := (.array .byte)) (t' := (.array .int)) (by decide) (by decide)))).ext E18).other W21 (Or.inr (slot_ne (Or.inl (own_at hw 29 rfl)) (Or.inl (own_at hw 18 rfl)) (by decide) (t := (.array .byte)) (t' := (.array .int)) (by decide) (by decide)))).other W29 (Or.inl (Nat.ne_of_lt (Nat.lt_of_lt_of_le E_r0.lt (Nat.le_of_eq g6.symm))))).other W36 (Or.inl (Nat.ne_of_lt (Nat.lt_of_lt_of_le E_r0.lt (Nat.le_of_eq g6.symm))))).other W43 (Or.inl (Nat.ne_of_lt (Nat.lt_of_lt_of_le E_r0.lt (Nat.le_of_eq g6.symm))))).keep K50 (ninS (Nat.ne_of_lt (Nat.lt_of_lt_of_le E_r0.lt (Nat.le_of_eq g6.symm))) (ninS (Nat.ne_of_lt (Nat.lt_of_lt_of_le f14.lt (Nat.le_of_eq g18.symm))) nin0))).keep K136 (ninS (Nat.ne_of_lt (Nat.lt_of_lt_of_le E_r0.lt (Nat.le_of_eq g6.symm))) (ninS (Nat.ne_of_lt (Nat.lt_of_lt_of_le f14.lt (Nat.le_of_eq g18.symm))) nin0)))
      have f160 := (f141.keep K136 (ninS (Nat.ne_of_lt (Nat.lt_of_lt_of_le E_r0.lt (Nat.le_of_eq g6.symm))) (ninS (Nat.ne_of_lt (Nat.lt_of_lt_of_le f14.lt (Nat.le_of_eq g18.symm))) nin0)))
      have f161 := (f144.keep K136 (ninS (Nat.ne_of_lt (Nat.lt_of_lt_of_le E_r0.lt (Nat.le_of_eq g6.symm))) (ninS (Nat.ne_of_lt (Nat.lt_of_lt_of_le f14.lt (Nat.le_of_eq g18.symm))) nin0)))
      have f162 := (f147.keep K136 (ninS (Nat.ne_of_lt (Nat.lt_of_lt_of_le E_r0.lt (Nat.le_of_eq g6.symm))) (ninS (Nat.ne_of_lt (Nat.lt_of_lt_of_le f14.lt (Nat.le_of_eq g18.symm))) nin0)))
      have f163 := (f148.keep K136)
      have f164 := (f149.keep K136 (ninS (Nat.ne_of_lt (Nat.lt_of_lt_of_le E_r0.lt (Nat.le_of_eq g6.symm))) (ninS (Nat.ne_of_lt (Nat.lt_of_lt_of_le f14.lt (Nat.le_of_eq g18.symm))) nin0)))
      have f165 := (f150.keep K136)
      obtain ⟨fs, hr, hrun, hended, hW, hsame⟩ := X155.leave (v := none) (fun _ => rfl)
      refine ⟨_, _, k152 _ ?_, hrun, hended, _, _, rfl, ?_, ⟨_, rfl⟩, hW, hsame.mono (by decide) (by decide)⟩
      · refine st136.trans ?_
        refine XS.iloadN X136.here hx rfl (hb hby d5_99) rfl ?_
        refine XS.iconst X136.here hx rfl (hb hby d5_100) ?_
        refine XS.iloadN X136.here hx rfl (hb hby d5_101) rfl ?_
        refine XS.imul X136.here hx rfl (hb hby d5_102) rfl ?_
        refine XS.iadd X136.here hx rfl (hb hby d5_103) rfl ?_
        refine XS.istoreN X136.here hx rfl (hb hby d5_104) rfl (l' := #[rv r0, iv 2, iv 4]) rfl ?_
        refine XS.goto X136.here hx rfl (pc0 := 105) (pc' := 69) rfl (hb hby d5_105) (by decide) (by decide) ?_
        refine XS.iloadN X136.here hx rfl (hb hby d5_69) rfl ?_
        refine XS.aloadN X136.here hx rfl (hb hby d5_70) rfl rfl ?_
        refine st154 _ ?_
        refine XS.iloadN X154.here hx rfl (hb hby d5_74) rfl ?_
        refine XS.isub X154.here hx rfl (hb hby d5_75) rfl ?_
        refine XS.icmpYes X154.here hx rfl (pc0 := 76) (pc' := 108) rfl (hb hby d5_76) rfl (flt (by decide : ¬ ((4 : Int32) < (1 : Int32)))).2.1 (by decide) (by decide) ?_
        refine XS.iloadN X154.here hx rfl (hb hby d5_108) rfl ?_
        refine XS.iconst X154.here hx rfl (hb hby d5_109) ?_
        refine XS.imul X154.here hx rfl (hb hby d5_110) rfl ?_
        refine XS.istoreN X154.here hx rfl (hb hby d5_111) rfl (l' := #[rv r0, iv 4, iv 4]) rfl ?_
        refine XS.goto X154.here hx rfl (pc0 := 112) (pc' := 59) rfl (hb hby d5_112) (by decide) (by decide) ?_
        refine XS.iloadN X154.here hx rfl (hb hby d5_59) rfl ?_
        refine XS.aloadN X154.here hx rfl (hb hby d5_60) rfl rfl ?_
        refine st155 _ ?_
        refine XS.icmpYes X155.here hx rfl (pc0 := 64) (pc' := 115) rfl (hb hby d5_64) rfl (flt (by decide : ¬ ((4 : Int32) < (3 : Int32)))).2.1 (by decide) (by decide) ?_
        exact X155.returnOut hx Bd.returns (hb hby d5_115) hr
      · show Q_5 Z r0 bA kB sA kS oZ kZ cZ x0 x1 x2 h0 n0 _ T155.heap _
        rw [e155]
        exact Or.inr (Or.inr (Or.inr (Or.inl (⟨b6, k6, b18, k18, rfl, N136, ((((((((((Keep.refl h0 [r0]).ext E6).wr W9 (Or.inl (List.mem_of_getElem? (i := 0) rfl))).ext E18).wr W21 (Or.inl (List.mem_of_getElem? (i := 0) rfl))).wr W29 (Or.inr sz_b6)).wr W36 (Or.inr sz_b6)).wr W43 (Or.inr sz_b6)).trans K50 (allS (Or.inr sz_b6) (allS (Or.inr sz_b18) all0))).trans K136 (allS (Or.inr sz_b6) (allS (Or.inr sz_b18) all0))), sz_b6, sz_b18, (Nat.ne_of_lt (Nat.lt_of_lt_of_le f17.lt (Nat.le_of_eq g18.symm))), f153, f156, f157, f158, f159, f160, f161, f162, p136_0, f163, f164, p136_1, f165⟩))))
    · have pl136 := (allS (P := fun x => ∃ cell : Cell, T50.heap[x]? = some cell ∧ cell.vm.isStatics = false) (own_ns f148) (allS (P := fun x => ∃ cell : Cell, T50.heap[x]? = some cell ∧ cell.vm.isStatics = false) (own_ns f150) all0))
      have N136 := Fr.app N135 N136q
      have f166 := (f130.keep K136 (ninS (Nat.ne_of_lt (Nat.lt_of_lt_of_le E_r0.lt (Nat.le_of_eq g6.symm))) (ninS (Nat.ne_of_lt (Nat.lt_of_lt_of_le f14.lt (Nat.le_of_eq g18.symm))) nin0)))
      obtain ⟨T167, X167, e167, st167⟩ := getF X136 hx hZ hown (host := "") (Or.inl (own_at hw 30 rfl)) Via.refl rfl f166 (g := (mkF m 71 #[rv r0, iv 2, iv 4] [(.ref r0), (.int 4)])) rfl rfl (hb hby d5_71)
      obtain ⟨T168, X168, e168, st168⟩ := getF X167 hx hZ hown (host := "") (Or.inl (own_at hw 30 rfl)) Via.refl e167 f166 (g := (mkF m 61 #[rv r0, iv 4, iv 4] [(.ref r0), (.int 4)])) rfl rfl (hb hby d5_61)
      have f169 := (f140.keep K136 (ninS (Nat.ne_of_lt (Nat.lt_of_lt_of_le E_r0.lt (Nat.le_of_eq g6.symm))) (ninS (Nat.ne_of_lt (Nat.lt_of_lt_of_le f14.lt (Nat.le_of_eq g18.symm))) nin0)))
      have f170 := (f138.keep K136 (ninS (Nat.ne_of_lt (Nat.lt_of_lt_of_le E_r0.lt (Nat.le_of_eq g6.symm))) (ninS (Nat.ne_of_lt (Nat.lt_of_lt_of_le f14.lt (Nat.le_of_eq g18.symm))) nin0)))
      have f171 := (f139.keep K136 (ninS (Nat.ne_of_lt (Nat.lt_of_lt_of_le E_r0.lt (Nat.le_of_eq g6.symm))) (ninS (Nat.ne_of_lt (Nat.lt_of_lt_of_le f14.lt (Nat.le_of_eq g18.symm))) nin0)))
      have f172 := (((((((((F_limit_r0.ext E6).other W9 (Or.inr (slot_ne (Or.inl (own_at hw 29 rfl)) (Or.inl (own_at hw 16 rfl)) (by decide) (t := (.array .byte)) (t' := (.array .int)) (by decide) (by decide)))).ext E18).other W21 (Or.inr (slot_ne (Or.inl (own_at hw 29 rfl)) (Or.inl (own_at hw 18 rfl)) (by decide) (t := (.array .byte)) (t' := (.array .int)) (by decide) (by decide)))).other W29 (Or.inl (Nat.ne_of_lt (Nat.lt_of_lt_of_le E_r0.lt (Nat.le_of_eq g6.symm))))).other W36 (Or.inl (Nat.ne_of_lt (Nat.lt_of_lt_of_le E_r0.lt (Nat.le_of_eq g6.symm))))).other W43 (Or.inl (Nat.ne_of_lt (Nat.lt_of_lt_of_le E_r0.lt (Nat.le_of_eq g6.symm))))).keep K50 (ninS (Nat.ne_of_lt (Nat.lt_of_lt_of_le E_r0.lt (Nat.le_of_eq g6.symm))) (ninS (Nat.ne_of_lt (Nat.lt_of_lt_of_le f14.lt (Nat.le_of_eq g18.symm))) nin0))).keep K136 (ninS (Nat.ne_of_lt (Nat.lt_of_lt_of_le E_r0.lt (Nat.le_of_eq g6.symm))) (ninS (Nat.ne_of_lt (Nat.lt_of_lt_of_le f14.lt (Nat.le_of_eq g18.symm))) nin0)))
      have f173 := (f141.keep K136 (ninS (Nat.ne_of_lt (Nat.lt_of_lt_of_le E_r0.lt (Nat.le_of_eq g6.symm))) (ninS (Nat.ne_of_lt (Nat.lt_of_lt_of_le f14.lt (Nat.le_of_eq g18.symm))) nin0)))
      have f174 := (f144.keep K136 (ninS (Nat.ne_of_lt (Nat.lt_of_lt_of_le E_r0.lt (Nat.le_of_eq g6.symm))) (ninS (Nat.ne_of_lt (Nat.lt_of_lt_of_le f14.lt (Nat.le_of_eq g18.symm))) nin0)))
      have f175 := (f147.keep K136 (ninS (Nat.ne_of_lt (Nat.lt_of_lt_of_le E_r0.lt (Nat.le_of_eq g6.symm))) (ninS (Nat.ne_of_lt (Nat.lt_of_lt_of_le f14.lt (Nat.le_of_eq g18.symm))) nin0)))
      have f176 := (f148.keep K136)
      have f177 := (f149.keep K136 (ninS (Nat.ne_of_lt (Nat.lt_of_lt_of_le E_r0.lt (Nat.le_of_eq g6.symm))) (ninS (Nat.ne_of_lt (Nat.lt_of_lt_of_le f14.lt (Nat.le_of_eq g18.symm))) nin0)))
      have f178 := (f150.keep K136)
      obtain ⟨fs, hr, hrun, hended, hW, hsame⟩ := X168.leave (v := none) (fun _ => rfl)
      refine ⟨_, _, k152 _ ?_, hrun, hended, _, _, rfl, ?_, ⟨_, rfl⟩, hW, hsame.mono (by decide) (by decide)⟩
      · refine st136.trans ?_
        refine XS.iloadN X136.here hx rfl (hb hby d5_99) rfl ?_
        refine XS.iconst X136.here hx rfl (hb hby d5_100) ?_
        refine XS.iloadN X136.here hx rfl (hb hby d5_101) rfl ?_
        refine XS.imul X136.here hx rfl (hb hby d5_102) rfl ?_
        refine XS.iadd X136.here hx rfl (hb hby d5_103) rfl ?_
        refine XS.istoreN X136.here hx rfl (hb hby d5_104) rfl (l' := #[rv r0, iv 2, iv 4]) rfl ?_
        refine XS.goto X136.here hx rfl (pc0 := 105) (pc' := 69) rfl (hb hby d5_105) (by decide) (by decide) ?_
        refine XS.iloadN X136.here hx rfl (hb hby d5_69) rfl ?_
        refine XS.aloadN X136.here hx rfl (hb hby d5_70) rfl rfl ?_
        refine st167 _ ?_
        refine XS.iloadN X167.here hx rfl (hb hby d5_74) rfl ?_
        refine XS.isub X167.here hx rfl (hb hby d5_75) rfl ?_
        refine XS.icmpYes X167.here hx rfl (pc0 := 76) (pc' := 108) rfl (hb hby d5_76) rfl (flt (by decide : ¬ ((4 : Int32) < (1 : Int32)))).2.1 (by decide) (by decide) ?_
        refine XS.iloadN X167.here hx rfl (hb hby d5_108) rfl ?_
        refine XS.iconst X167.here hx rfl (hb hby d5_109) ?_
        refine XS.imul X167.here hx rfl (hb hby d5_110) rfl ?_
        refine XS.istoreN X167.here hx rfl (hb hby d5_111) rfl (l' := #[rv r0, iv 4, iv 4]) rfl ?_
        refine XS.goto X167.here hx rfl (pc0 := 112) (pc' := 59) rfl (hb hby d5_112) (by decide) (by decide) ?_
        refine XS.iloadN X167.here hx rfl (hb hby d5_59) rfl ?_
        refine XS.aloadN X167.here hx rfl (hb hby d5_60) rfl rfl ?_
        refine st168 _ ?_
        refine XS.icmpYes X168.here hx rfl (pc0 := 64) (pc' := 115) rfl (hb hby d5_64) rfl (flt (by decide : ¬ ((4 : Int32) < (3 : Int32)))).2.1 (by decide) (by decide) ?_
        exact X168.returnOut hx Bd.returns (hb hby d5_115) hr
      · show Q_5 Z r0 bA kB sA kS oZ kZ cZ x0 x1 x2 h0 n0 _ T168.heap _
        rw [e168]
        exact Or.inr (Or.inr (Or.inr (Or.inr (Or.inl (⟨b6, k6, b18, k18, rfl, N136, ((((((((((Keep.refl h0 [r0]).ext E6).wr W9 (Or.inl (List.mem_of_getElem? (i := 0) rfl))).ext E18).wr W21 (Or.inl (List.mem_of_getElem? (i := 0) rfl))).wr W29 (Or.inr sz_b6)).wr W36 (Or.inr sz_b6)).wr W43 (Or.inr sz_b6)).trans K50 (allS (Or.inr sz_b6) (allS (Or.inr sz_b18) all0))).trans K136 (allS (Or.inr sz_b6) (allS (Or.inr sz_b18) all0))), sz_b6, sz_b18, (Nat.ne_of_lt (Nat.lt_of_lt_of_le f17.lt (Nat.le_of_eq g18.symm))), f166, f169, f170, f171, f172, f173, f174, f175, p136_0, f176, f177, p136_1, f178⟩)))))
    · have pl136 := (allS (P := fun x => ∃ cell : Cell, T50.heap[x]? = some cell ∧ cell.vm.isStatics = false) (own_ns f148) (allS (P := fun x => ∃ cell : Cell, T50.heap[x]? = some cell ∧ cell.vm.isStatics = false) (own_ns f150) all0))
      have N136 := Fr.app N135 N136q
      have f179 := (f130.keep K136 (ninS (Nat.ne_of_lt (Nat.lt_of_lt_of_le E_r0.lt (Nat.le_of_eq g6.symm))) (ninS (Nat.ne_of_lt (Nat.lt_of_lt_of_le f14.lt (Nat.le_of_eq g18.symm))) nin0)))
      obtain ⟨T180, X180, e180, st180⟩ := getF X136 hx hZ hown (host := "") (Or.inl (own_at hw 30 rfl)) Via.refl rfl f179 (g := (mkF m 71 #[rv r0, iv 2, iv 4] [(.ref r0), (.int 4)])) rfl rfl (hb hby d5_71)
      obtain ⟨T181, X181, e181, st181⟩ := getF X180 hx hZ hown (host := "") (Or.inl (own_at hw 30 rfl)) Via.refl e180 f179 (g := (mkF m 61 #[rv r0, iv 4, iv 4] [(.ref r0), (.int 4)])) rfl rfl (hb hby d5_61)
      have f182 := (f140.keep K136 (ninS (Nat.ne_of_lt (Nat.lt_of_lt_of_le E_r0.lt (Nat.le_of_eq g6.symm))) (ninS (Nat.ne_of_lt (Nat.lt_of_lt_of_le f14.lt (Nat.le_of_eq g18.symm))) nin0)))
      have f183 := (f138.keep K136 (ninS (Nat.ne_of_lt (Nat.lt_of_lt_of_le E_r0.lt (Nat.le_of_eq g6.symm))) (ninS (Nat.ne_of_lt (Nat.lt_of_lt_of_le f14.lt (Nat.le_of_eq g18.symm))) nin0)))
      have f184 := (f139.keep K136 (ninS (Nat.ne_of_lt (Nat.lt_of_lt_of_le E_r0.lt (Nat.le_of_eq g6.symm))) (ninS (Nat.ne_of_lt (Nat.lt_of_lt_of_le f14.lt (Nat.le_of_eq g18.symm))) nin0)))
      have f185 := (((((((((F_limit_r0.ext E6).other W9 (Or.inr (slot_ne (Or.inl (own_at hw 29 rfl)) (Or.inl (own_at hw 16 rfl)) (by decide) (t := (.array .byte)) (t' := (.array .int)) (by decide) (by decide)))).ext E18).other W21 (Or.inr (slot_ne (Or.inl (own_at hw 29 rfl)) (Or.inl (own_at hw 18 rfl)) (by decide) (t := (.array .byte)) (t' := (.array .int)) (by decide) (by decide)))).other W29 (Or.inl (Nat.ne_of_lt (Nat.lt_of_lt_of_le E_r0.lt (Nat.le_of_eq g6.symm))))).other W36 (Or.inl (Nat.ne_of_lt (Nat.lt_of_lt_of_le E_r0.lt (Nat.le_of_eq g6.symm))))).other W43 (Or.inl (Nat.ne_of_lt (Nat.lt_of_lt_of_le E_r0.lt (Nat.le_of_eq g6.symm))))).keep K50 (ninS (Nat.ne_of_lt (Nat.lt_of_lt_of_le E_r0.lt (Nat.le_of_eq g6.symm))) (ninS (Nat.ne_of_lt (Nat.lt_of_lt_of_le f14.lt (Nat.le_of_eq g18.symm))) nin0))).keep K136 (ninS (Nat.ne_of_lt (Nat.lt_of_lt_of_le E_r0.lt (Nat.le_of_eq g6.symm))) (ninS (Nat.ne_of_lt (Nat.lt_of_lt_of_le f14.lt (Nat.le_of_eq g18.symm))) nin0)))
      have f186 := (f141.keep K136 (ninS (Nat.ne_of_lt (Nat.lt_of_lt_of_le E_r0.lt (Nat.le_of_eq g6.symm))) (ninS (Nat.ne_of_lt (Nat.lt_of_lt_of_le f14.lt (Nat.le_of_eq g18.symm))) nin0)))
      have f187 := (f144.keep K136 (ninS (Nat.ne_of_lt (Nat.lt_of_lt_of_le E_r0.lt (Nat.le_of_eq g6.symm))) (ninS (Nat.ne_of_lt (Nat.lt_of_lt_of_le f14.lt (Nat.le_of_eq g18.symm))) nin0)))
      have f188 := (f147.keep K136 (ninS (Nat.ne_of_lt (Nat.lt_of_lt_of_le E_r0.lt (Nat.le_of_eq g6.symm))) (ninS (Nat.ne_of_lt (Nat.lt_of_lt_of_le f14.lt (Nat.le_of_eq g18.symm))) nin0)))
      have f189 := (f148.keep K136)
      have f190 := (f149.keep K136 (ninS (Nat.ne_of_lt (Nat.lt_of_lt_of_le E_r0.lt (Nat.le_of_eq g6.symm))) (ninS (Nat.ne_of_lt (Nat.lt_of_lt_of_le f14.lt (Nat.le_of_eq g18.symm))) nin0)))
      have f191 := (f150.keep K136)
      obtain ⟨fs, hr, hrun, hended, hW, hsame⟩ := X181.leave (v := none) (fun _ => rfl)
      refine ⟨_, _, k152 _ ?_, hrun, hended, _, _, rfl, ?_, ⟨_, rfl⟩, hW, hsame.mono (by decide) (by decide)⟩
      · refine st136.trans ?_
        refine XS.iloadN X136.here hx rfl (hb hby d5_99) rfl ?_
        refine XS.iconst X136.here hx rfl (hb hby d5_100) ?_
        refine XS.iloadN X136.here hx rfl (hb hby d5_101) rfl ?_
        refine XS.imul X136.here hx rfl (hb hby d5_102) rfl ?_
        refine XS.iadd X136.here hx rfl (hb hby d5_103) rfl ?_
        refine XS.istoreN X136.here hx rfl (hb hby d5_104) rfl (l' := #[rv r0, iv 2, iv 4]) rfl ?_
        refine XS.goto X136.here hx rfl (pc0 := 105) (pc' := 69) rfl (hb hby d5_105) (by decide) (by decide) ?_
        refine XS.iloadN X136.here hx rfl (hb hby d5_69) rfl ?_
        refine XS.aloadN X136.here hx rfl (hb hby d5_70) rfl rfl ?_
        refine st180 _ ?_
        refine XS.iloadN X180.here hx rfl (hb hby d5_74) rfl ?_
        refine XS.isub X180.here hx rfl (hb hby d5_75) rfl ?_
        refine XS.icmpYes X180.here hx rfl (pc0 := 76) (pc' := 108) rfl (hb hby d5_76) rfl (flt (by decide : ¬ ((4 : Int32) < (1 : Int32)))).2.1 (by decide) (by decide) ?_
        refine XS.iloadN X180.here hx rfl (hb hby d5_108) rfl ?_
        refine XS.iconst X180.here hx rfl (hb hby d5_109) ?_
        refine XS.imul X180.here hx rfl (hb hby d5_110) rfl ?_
        refine XS.istoreN X180.here hx rfl (hb hby d5_111) rfl (l' := #[rv r0, iv 4, iv 4]) rfl ?_
        refine XS.goto X180.here hx rfl (pc0 := 112) (pc' := 59) rfl (hb hby d5_112) (by decide) (by decide) ?_
        refine XS.iloadN X180.here hx rfl (hb hby d5_59) rfl ?_
        refine XS.aloadN X180.here hx rfl (hb hby d5_60) rfl rfl ?_
        refine st181 _ ?_
        refine XS.icmpYes X181.here hx rfl (pc0 := 64) (pc' := 115) rfl (hb hby d5_64) rfl (flt (by decide : ¬ ((4 : Int32) < (3 : Int32)))).2.1 (by decide) (by decide) ?_
        exact X181.returnOut hx Bd.returns (hb hby d5_115) hr
      · show Q_5 Z r0 bA kB sA kS oZ kZ cZ x0 x1 x2 h0 n0 _ T181.heap _
        rw [e181]
        exact Or.inr (Or.inr (Or.inr (Or.inr (Or.inr ((⟨b6, k6, b18, k18, rfl, N136, ((((((((((Keep.refl h0 [r0]).ext E6).wr W9 (Or.inl (List.mem_of_getElem? (i := 0) rfl))).ext E18).wr W21 (Or.inl (List.mem_of_getElem? (i := 0) rfl))).wr W29 (Or.inr sz_b6)).wr W36 (Or.inr sz_b6)).wr W43 (Or.inr sz_b6)).trans K50 (allS (Or.inr sz_b6) (allS (Or.inr sz_b18) all0))).trans K136 (allS (Or.inr sz_b6) (allS (Or.inr sz_b18) all0))), sz_b6, sz_b18, (Nat.ne_of_lt (Nat.lt_of_lt_of_le f17.lt (Nat.le_of_eq g18.symm))), f179, f182, f183, f184, f185, f186, f187, f188, p136_0, f189, f190, p136_1, f191⟩))))))
theorem pd_7 : parseMethodDescriptor "(II)V" = some ⟨[.int, .int], none⟩ := by decide +kernel
theorem d14_0 : decode jdk_65_method_133_code 0 = .ok (.iload_n 1, 1) := by decide +kernel
theorem d14_1 : decode jdk_65_method_133_code 1 = .ok (.iload_n 2, 1) := by decide +kernel
theorem d14_2 : decode jdk_65_method_133_code 2 = .ok (.invokestatic 343, 3) := by decide +kernel
theorem d14_5 : decode jdk_65_method_133_code 5 = .ok (.iload_n 2, 1) := by decide +kernel
theorem d14_6 : decode jdk_65_method_133_code 6 = .ok (.iload_n 1, 1) := by decide +kernel
theorem d14_7 : decode jdk_65_method_133_code 7 = .ok (.isub, 1) := by decide +kernel
theorem d14_8 : decode jdk_65_method_133_code 8 = .ok (.istore_n 3, 1) := by decide +kernel
theorem d14_9 : decode jdk_65_method_133_code 9 = .ok (.iload_n 3, 1) := by decide +kernel
theorem d14_10 : decode jdk_65_method_133_code 10 = .ok (.newarray .byte, 2) := by decide +kernel
theorem d14_12 : decode jdk_65_method_133_code 12 = .ok (.astore 4, 2) := by decide +kernel
theorem d14_14 : decode jdk_65_method_133_code 14 = .ok (.aload_n 0, 1) := by decide +kernel
theorem d14_15 : decode jdk_65_method_133_code 15 = .ok (.iload_n 1, 1) := by decide +kernel
theorem d14_16 : decode jdk_65_method_133_code 16 = .ok (.aload 4, 2) := by decide +kernel
theorem d14_18 : decode jdk_65_method_133_code 18 = .ok (.iconst 0, 1) := by decide +kernel
theorem d14_19 : decode jdk_65_method_133_code 19 = .ok (.aload_n 0, 1) := by decide +kernel
theorem d14_20 : decode jdk_65_method_133_code 20 = .ok (.arraylength, 1) := by decide +kernel
theorem d14_21 : decode jdk_65_method_133_code 21 = .ok (.iload_n 1, 1) := by decide +kernel
theorem d14_22 : decode jdk_65_method_133_code 22 = .ok (.isub, 1) := by decide +kernel
theorem d14_23 : decode jdk_65_method_133_code 23 = .ok (.iload_n 3, 1) := by decide +kernel
theorem d14_24 : decode jdk_65_method_133_code 24 = .ok (.invokestatic 304, 3) := by decide +kernel
theorem d14_27 : decode jdk_65_method_133_code 27 = .ok (.invokestatic 150, 3) := by decide +kernel
theorem d14_30 : decode jdk_65_method_133_code 30 = .ok (.aload 4, 2) := by decide +kernel
theorem d14_32 : decode jdk_65_method_133_code 32 = .ok (.areturn, 1) := by decide +kernel
theorem ef_14 (m : MethodId) (x0 : Addr) (x1 : Int32) (x2 : Int32) : entryFrame m #[(.ref x0), (.int x1), (.int x2)] 5 = mkF m 0 #[.val (.ref x0), .val (.int x1), .val (.int x2), .unset, .unset] [] := by first | (simp [entryFrame, mkF, argsToLocals, Value.category]; done) | rfl
def Q_14_0 (Z : State) (r0 : Addr) (kA : ClassId) (x0 : Int32) (x1 : Int32) (x2 : Int32) (h0 : Heap) (n0 : Nat) (v : Option Value) (h : Heap) (L : List Loc) : Prop := ∃ ar : Addr, ∃ kk : ClassId, v = some (.ref ar) ∧ Fr n0 L ∧ Keep h0 h [] ∧ h0.size ≤ ar ∧ Arv Z h ar kk .byte (1 : Int32) [(.int x0)] (.int 0) ∧ Exa Z h ar "[B"
set_option maxRecDepth 65536 in
set_option maxHeartbeats 40000000 in
theorem rm14_0 (l : Launch) (Z : State) (a0 : Array Value) (hw : ∀ d ∈ tables_1, d.before a0 Z = true) (ws : List Jvm.Cond) (r0 : Addr) (kA : ClassId) (x0 : Int32) (x1 : Int32) (x2 : Int32) (h0 : Heap) (n0 : Nat) (Z0 : n0 ≤ h0.size) (V_r0 : Arv Z h0 r0 kA .byte (4096 : Int32) [(.int x0), (.int x1), (.int x2)] (.int 0)) :
    MetFree l (⟨cS1, "copyOfRangeByte", "([BII)[B"⟩ : MethodName) (head1 (Jvm.Cond.code (⟨cS1, "copyOfRangeByte", "([BII)[B"⟩ : MethodName) jdk_65_method_133_code 5 (some (.array .byte)) :: ws) ({ frames := 1, cells := 1, slots := 1, locals := 18 } : Room)) (fun a U => a = #[(.ref r0), (.int 0), (.int 1)] ∧ Z.Warmed39 U.vm ∧ U.heap = h0) (fun _ _ _ _ _ => True) (fun _ U o U' => ∃ v L, o = .returned v ∧ Q_14_0 Z r0 kA x0 x1 x2 h0 n0 v U'.heap L ∧ FrameEnd U o U' L ({ frames := 1, cells := 1, slots := 1, locals := 18 } : Room).cells ({ frames := 1, cells := 1, slots := 1, locals := 18 } : Room).slots) := by
  refine MetFree.of_bodySF (plainFor_of_name pn_java_util_Arrays) hisR ?_
  intro p e s m args below meth c s₁ Bd hml0 hP hK
  obtain ⟨rfl, hZ, hh⟩ := hP
  have hx := Bd.exec
  have hby := Bd.bytes
  have hml : c.maxLocals = 5 := hml0
  have hown : s.vm.findClass cS1 = some m.cls := findClass_of_methodNamed Bd.named
  have hnm := (name_of_methodNamed Bd.named Bd.method).1
  have X0 : Stand p l e ({ frames := 1, cells := 1, slots := 1, locals := 18 } : Room) s m #[(.ref r0), (.int 0), (.int 1)] below meth c s₁ [] 0 0 := Stand.of_body Bd
  have e0 : s₁.heap = h0 := by rw [← hh, Bd.state]; rfl
  have N0 := Fr.nil n0
  have k0 : ∀ t, OwnS p e below s₁ (mkF m 0 #[rv r0, iv 0, iv 1, .unset, .unset] []) t → OwnS p e below s₁ (entryFrame m #[(.ref r0), (.int 0), (.int 1)] 5) t := fun t k => castTop (ef_14 m r0 (0 : Int32) (1 : Int32)) k
  obtain ⟨_, _, ⟨T1, L1, j1, i1⟩, -, X1, ⟨Lc1, hQ1, l1, y1, z1⟩, st1⟩ := Jvm.LawKit.callS X0 hx (y := (⟨cS1, "checkLength", "(II)V"⟩ : MethodName)) hown (mvT hZ (own_at hw 81 rfl)) (mvT hZ (own_at hw 82 rfl)) (mvT hZ (own_at hw 65 rfl)) (mvT hZ (own_at hw 83 rfl)) (by decide) (backOf (W := 0) (rm15 l Z a0 hw [] (0 : Int32) (1 : Int32) h0 n0 Z0 (by decide : ¬ ((1 : Int32) < (0 : Int32)))) hZ (own_at hw 83 rfl) (own_at hw 65 rfl) (by decide) (by decide)) (g := (mkF m 2 #[rv r0, iv 0, iv 1, .unset, .unset] [(.int 1), (.int 0)])) rfl (by rw [hml]; rfl) (argsL := [(.int 0), (.int 1)]) (rest := []) (lenOf pd_7 rfl) rfl (Nat.le_refl _) (hb hby d14_2) (fun _ _ => ⟨rfl, e0, (by decide : 0 + 0 ≤ _), (by decide : 0 + 0 ≤ _)⟩)
  dsimp only [Pt.U, Pt.locs, Pt.cells, Pt.slots] at X1 l1 y1 z1 st1 hQ1
  subst l1 y1 z1
  obtain ⟨rfl, N1q, e1⟩ := hQ1
  have N1 := Fr.app N0 N1q
  obtain ⟨T2, h2, k2, X2, e2, E2, A2, EA2, st2⟩ := newPE X1 hx hZ (own_at hw 9 rfl) e1 (g := (mkF m 10 #[rv r0, iv 0, iv 1, iv 1, .unset] [(.int 1)])) rfl (hb hby d14_10) rfl (by decide) (cap := 1) (by decide) (by decide) (by decide) (by decide) (ad := "[B") (by decide)
  obtain ⟨b2, g2⟩ : ∃ z, z = h0.size := ⟨_, rfl⟩
  rw [← g2] at A2 EA2 st2
  have g_b2 : n0 ≤ b2 := Nat.le_trans Z0 (Nat.le_of_eq g2.symm)
  have sz_b2 : h0.size ≤ b2 := Nat.le_trans (Keep.refl h0 []).1 (Nat.le_of_eq g2.symm)
  have V_b2 : Arv Z h2 b2 k2 .byte (1 : Int32) [(.int 0)] (.int 0) := (Arv.new A2 (by decide)).pad (pad_rep [] (.int 0) 1)
  have f3 := (V_r0.ext E2)
  obtain ⟨cl_z4, Ar_z4, q_z4, S_z4, N_z4, H_z4, G_z4⟩ := id f3
  obtain ⟨_, _, ⟨T5, L5, j5, i5⟩, -, X5, ⟨Lc5, hQ5, l5, y5, z5⟩, st5⟩ := Jvm.LawKit.callS X2 hx (y := (⟨"java/lang/Math", "min", "(II)I"⟩ : MethodName)) hown (mvT hZ (own_at hw 70 rfl)) (mvT hZ (own_at hw 48 rfl)) (mvT hZ (own_at hw 49 rfl)) (mvT hZ (own_at hw 50 rfl)) (by decide) (backOf (W := 4) (rm6_t l Z a0 hw [] (4096 : Int32) (1 : Int32) h2 n0 (Nat.le_trans Z0 E2.1) (by decide : (1 : Int32) < (4096 : Int32))) hZ (own_at hw 50 rfl) (own_at hw 49 rfl) (by decide) (by decide)) (g := (mkF m 24 #[rv r0, iv 0, iv 1, iv 1, rv b2] [(.int 1), (.int 4096), (.int 0), (.ref b2), (.int 0), (.ref r0)])) rfl (by rw [hml]; rfl) (argsL := [(.int 4096), (.int 1)]) (rest := [(.int 0), (.ref b2), (.int 0), (.ref r0)]) (lenOf pd_2 rfl) rfl (Nat.le_refl _) (hb hby d14_24) (fun _ _ => ⟨rfl, e2, (by decide : 1 + 0 ≤ _), (by decide : 1 + 0 ≤ _)⟩)
  dsimp only [Pt.U, Pt.locs, Pt.cells, Pt.slots] at X5 l5 y5 z5 st5 hQ5
  subst l5 y5 z5
  obtain ⟨rfl, N5q, e5⟩ := hQ5
  have N5 := Fr.app N1 N5q
  obtain ⟨T6, h6, L6, X6, e6, N6, K6, Vr6, st6⟩ := cpA X5 hx hZ hown (own_at hw 84 rfl) (own_at hw 37 rfl) (own_at hw 35 rfl) (own_at hw 36 rfl) e5 f3 V_b2 (us := [(.int x0)]) (Or.inl ⟨rfl, rfl⟩) (by decide) (by decide) (by decide) (by decide) (by decide) rfl (Nat.le_of_ble_eq_true rfl) N5 g_b2 (g := (mkF m 27 #[rv r0, iv 0, iv 1, iv 1, rv b2] [(.int 1), (.int 0), (.ref b2), (.int 0), (.ref r0)])) rfl (by rw [hml]; rfl) rfl (hb hby d14_27) (by decide) (W := 0) (Nat.le_refl _) (by decide)
  have pl6 := (allS (P := fun x => ∃ cell : Cell, h2[x]? = some cell ∧ cell.vm.isStatics = false) (own_ns EA2) all0)
  have V6 : Arv Z h6 b2 k2 .byte (1 : Int32) [(.int x0)] (.int 0) := Vr6
  have f7 := (EA2.keep K6)
  obtain ⟨fs, hr, hrun, hended, hW, hsame⟩ := X6.leave (v := some (.ref b2)) (fun h => by rw [Bd.returns] at h; cases h)
  refine ⟨_, _, k0 _ ?_, hrun, hended, _, _, rfl, ?_, ⟨_, rfl⟩, hW, hsame.mono (by decide) (by decide)⟩
  · show OwnS p e below s₁ (mkF m 0 #[rv r0, iv 0, iv 1, .unset, .unset] []) _
    refine XS.iloadN X0.here hx rfl (hb hby d14_0) rfl ?_
    refine XS.iloadN X0.here hx rfl (hb hby d14_1) rfl ?_
    refine st1 _ ?_
    refine XS.iloadN X1.here hx rfl (hb hby d14_5) rfl ?_
    refine XS.iloadN X1.here hx rfl (hb hby d14_6) rfl ?_
    refine XS.isub X1.here hx rfl (hb hby d14_7) rfl ?_
    refine XS.istoreN X1.here hx rfl (hb hby d14_8) rfl (l' := #[rv r0, iv 0, iv 1, iv 1, .unset]) rfl ?_
    refine XS.iloadN X1.here hx rfl (hb hby d14_9) rfl ?_
    refine st2 _ ?_
    refine XS.astore X2.here hx rfl (hb hby d14_12) rfl rfl (l' := #[rv r0, iv 0, iv 1, iv 1, rv b2]) rfl ?_
    refine XS.aloadN X2.here hx rfl (hb hby d14_14) rfl rfl ?_
    refine XS.iloadN X2.here hx rfl (hb hby d14_15) rfl ?_
    refine XS.aload X2.here hx rfl (hb hby d14_16) rfl rfl ?_
    refine XS.iconst X2.here hx rfl (hb hby d14_18) ?_
    refine XS.aloadN X2.here hx rfl (hb hby d14_19) rfl rfl ?_
    refine X2.arraylength hx (by rw [e2]; exact Ar_z4.1) (State.isArrayOf_alike hZ.alike Ar_z4.2.1) (g := (mkF m 20 #[rv r0, iv 0, iv 1, iv 1, rv b2] [(.ref r0), (.int 0), (.ref b2), (.int 0), (.ref r0)])) rfl rfl (hb hby d14_20) _ ?_
    rw [len_of S_z4 N_z4]
    refine XS.iloadN X2.here hx rfl (hb hby d14_21) rfl ?_
    refine XS.isub X2.here hx rfl (hb hby d14_22) rfl ?_
    refine XS.iloadN X2.here hx rfl (hb hby d14_23) rfl ?_
    refine st5 _ ?_
    refine st6 _ ?_
    refine XS.aload X6.here hx rfl (hb hby d14_30) rfl rfl ?_
    jvm_step X6.here [X6.here.top, hx, (hb hby d14_32), X6.method', Bd.returns, Value.isRef, FieldType.isReference]
    first | (intro acts; rw [hr _ acts rfl rfl rfl]) | rw [hr _ _ rfl rfl rfl]
    exact Steps.refl _
  · show Q_14_0 Z r0 kA x0 x1 x2 h0 n0 _ T6.heap _
    rw [e6]
    exact ⟨b2, k2, rfl, N6, (((Keep.refl h0 []).ext E2).trans K6 (allS (Or.inr sz_b2) all0)), sz_b2, V6, f7⟩
def Q_14_1 (Z : State) (r0 : Addr) (kA : ClassId) (x0 : Int32) (x1 : Int32) (x2 : Int32) (h0 : Heap) (n0 : Nat) (v : Option Value) (h : Heap) (L : List Loc) : Prop := ∃ ar : Addr, ∃ kk : ClassId, v = some (.ref ar) ∧ Fr n0 L ∧ Keep h0 h [] ∧ h0.size ≤ ar ∧ Arv Z h ar kk .byte (1 : Int32) [(.int x1)] (.int 0) ∧ Exa Z h ar "[B"
set_option maxRecDepth 65536 in
set_option maxHeartbeats 40000000 in
theorem rm14_1 (l : Launch) (Z : State) (a0 : Array Value) (hw : ∀ d ∈ tables_1, d.before a0 Z = true) (ws : List Jvm.Cond) (r0 : Addr) (kA : ClassId) (x0 : Int32) (x1 : Int32) (x2 : Int32) (h0 : Heap) (n0 : Nat) (Z0 : n0 ≤ h0.size) (V_r0 : Arv Z h0 r0 kA .byte (4096 : Int32) [(.int x0), (.int x1), (.int x2)] (.int 0)) :
    MetFree l (⟨cS1, "copyOfRangeByte", "([BII)[B"⟩ : MethodName) (head1 (Jvm.Cond.code (⟨cS1, "copyOfRangeByte", "([BII)[B"⟩ : MethodName) jdk_65_method_133_code 5 (some (.array .byte)) :: ws) ({ frames := 1, cells := 1, slots := 1, locals := 18 } : Room)) (fun a U => a = #[(.ref r0), (.int 1), (.int 2)] ∧ Z.Warmed39 U.vm ∧ U.heap = h0) (fun _ _ _ _ _ => True) (fun _ U o U' => ∃ v L, o = .returned v ∧ Q_14_1 Z r0 kA x0 x1 x2 h0 n0 v U'.heap L ∧ FrameEnd U o U' L ({ frames := 1, cells := 1, slots := 1, locals := 18 } : Room).cells ({ frames := 1, cells := 1, slots := 1, locals := 18 } : Room).slots) := by
  refine MetFree.of_bodySF (plainFor_of_name pn_java_util_Arrays) hisR ?_
  intro p e s m args below meth c s₁ Bd hml0 hP hK
  obtain ⟨rfl, hZ, hh⟩ := hP
  have hx := Bd.exec
  have hby := Bd.bytes
  have hml : c.maxLocals = 5 := hml0
  have hown : s.vm.findClass cS1 = some m.cls := findClass_of_methodNamed Bd.named
  have hnm := (name_of_methodNamed Bd.named Bd.method).1
  have X0 : Stand p l e ({ frames := 1, cells := 1, slots := 1, locals := 18 } : Room) s m #[(.ref r0), (.int 1), (.int 2)] below meth c s₁ [] 0 0 := Stand.of_body Bd
  have e0 : s₁.heap = h0 := by rw [← hh, Bd.state]; rfl
  have N0 := Fr.nil n0
  have k0 : ∀ t, OwnS p e below s₁ (mkF m 0 #[rv r0, iv 1, iv 2, .unset, .unset] []) t → OwnS p e below s₁ (entryFrame m #[(.ref r0), (.int 1), (.int 2)] 5) t := fun t k => castTop (ef_14 m r0 (1 : Int32) (2 : Int32)) k
  obtain ⟨_, _, ⟨T1, L1, j1, i1⟩, -, X1, ⟨Lc1, hQ1, l1, y1, z1⟩, st1⟩ := Jvm.LawKit.callS X0 hx (y := (⟨cS1, "checkLength", "(II)V"⟩ : MethodName)) hown (mvT hZ (own_at hw 81 rfl)) (mvT hZ (own_at hw 82 rfl)) (mvT hZ (own_at hw 65 rfl)) (mvT hZ (own_at hw 83 rfl)) (by decide) (backOf (W := 0) (rm15 l Z a0 hw [] (1 : Int32) (2 : Int32) h0 n0 Z0 (by decide : ¬ ((2 : Int32) < (1 : Int32)))) hZ (own_at hw 83 rfl) (own_at hw 65 rfl) (by decide) (by decide)) (g := (mkF m 2 #[rv r0, iv 1, iv 2, .unset, .unset] [(.int 2), (.int 1)])) rfl (by rw [hml]; rfl) (argsL := [(.int 1), (.int 2)]) (rest := []) (lenOf pd_7 rfl) rfl (Nat.le_refl _) (hb hby d14_2) (fun _ _ => ⟨rfl, e0, (by decide : 0 + 0 ≤ _), (by decide : 0 + 0 ≤ _)⟩)
  dsimp only [Pt.U, Pt.locs, Pt.cells, Pt.slots] at X1 l1 y1 z1 st1 hQ1
  subst l1 y1 z1
  obtain ⟨rfl, N1q, e1⟩ := hQ1
  have N1 := Fr.app N0 N1q
  obtain ⟨T2, h2, k2, X2, e2, E2, A2, EA2, st2⟩ := newPE X1 hx hZ (own_at hw 9 rfl) e1 (g := (mkF m 10 #[rv r0, iv 1, iv 2, iv 1, .unset] [(.int 1)])) rfl (hb hby d14_10) rfl (by decide) (cap := 1) (by decide) (by decide) (by decide) (by decide) (ad := "[B") (by decide)
  obtain ⟨b2, g2⟩ : ∃ z, z = h0.size := ⟨_, rfl⟩
  rw [← g2] at A2 EA2 st2
  have g_b2 : n0 ≤ b2 := Nat.le_trans Z0 (Nat.le_of_eq g2.symm)
  have sz_b2 : h0.size ≤ b2 := Nat.le_trans (Keep.refl h0 []).1 (Nat.le_of_eq g2.symm)
  have V_b2 : Arv Z h2 b2 k2 .byte (1 : Int32) [(.int 0)] (.int 0) := (Arv.new A2 (by decide)).pad (pad_rep [] (.int 0) 1)
  have f3 := (V_r0.ext E2)
  obtain ⟨cl_z4, Ar_z4, q_z4, S_z4, N_z4, H_z4, G_z4⟩ := id f3
  obtain ⟨_, _, ⟨T5, L5, j5, i5⟩, -, X5, ⟨Lc5, hQ5, l5, y5, z5⟩, st5⟩ := Jvm.LawKit.callS X2 hx (y := (⟨"java/lang/Math", "min", "(II)I"⟩ : MethodName)) hown (mvT hZ (own_at hw 70 rfl)) (mvT hZ (own_at hw 48 rfl)) (mvT hZ (own_at hw 49 rfl)) (mvT hZ (own_at hw 50 rfl)) (by decide) (backOf (W := 4) (rm6_t l Z a0 hw [] (4095 : Int32) (1 : Int32) h2 n0 (Nat.le_trans Z0 E2.1) (by decide : (1 : Int32) < (4095 : Int32))) hZ (own_at hw 50 rfl) (own_at hw 49 rfl) (by decide) (by decide)) (g := (mkF m 24 #[rv r0, iv 1, iv 2, iv 1, rv b2] [(.int 1), (.int 4095), (.int 0), (.ref b2), (.int 1), (.ref r0)])) rfl (by rw [hml]; rfl) (argsL := [(.int 4095), (.int 1)]) (rest := [(.int 0), (.ref b2), (.int 1), (.ref r0)]) (lenOf pd_2 rfl) rfl (Nat.le_refl _) (hb hby d14_24) (fun _ _ => ⟨rfl, e2, (by decide : 1 + 0 ≤ _), (by decide : 1 + 0 ≤ _)⟩)
  dsimp only [Pt.U, Pt.locs, Pt.cells, Pt.slots] at X5 l5 y5 z5 st5 hQ5
  subst l5 y5 z5
  obtain ⟨rfl, N5q, e5⟩ := hQ5
  have N5 := Fr.app N1 N5q
  obtain ⟨T6, h6, L6, X6, e6, N6, K6, Vr6, st6⟩ := cpA X5 hx hZ hown (own_at hw 84 rfl) (own_at hw 37 rfl) (own_at hw 35 rfl) (own_at hw 36 rfl) e5 f3 V_b2 (us := [(.int x1)]) (Or.inl ⟨rfl, rfl⟩) (by decide) (by decide) (by decide) (by decide) (by decide) rfl (Nat.le_of_ble_eq_true rfl) N5 g_b2 (g := (mkF m 27 #[rv r0, iv 1, iv 2, iv 1, rv b2] [(.int 1), (.int 0), (.ref b2), (.int 1), (.ref r0)])) rfl (by rw [hml]; rfl) rfl (hb hby d14_27) (by decide) (W := 0) (Nat.le_refl _) (by decide)
  have pl6 := (allS (P := fun x => ∃ cell : Cell, h2[x]? = some cell ∧ cell.vm.isStatics = false) (own_ns EA2) all0)
  have V6 : Arv Z h6 b2 k2 .byte (1 : Int32) [(.int x1)] (.int 0) := Vr6
  have f7 := (EA2.keep K6)
  obtain ⟨fs, hr, hrun, hended, hW, hsame⟩ := X6.leave (v := some (.ref b2)) (fun h => by rw [Bd.returns] at h; cases h)
  refine ⟨_, _, k0 _ ?_, hrun, hended, _, _, rfl, ?_, ⟨_, rfl⟩, hW, hsame.mono (by decide) (by decide)⟩
  · show OwnS p e below s₁ (mkF m 0 #[rv r0, iv 1, iv 2, .unset, .unset] []) _
    refine XS.iloadN X0.here hx rfl (hb hby d14_0) rfl ?_
    refine XS.iloadN X0.here hx rfl (hb hby d14_1) rfl ?_
    refine st1 _ ?_
    refine XS.iloadN X1.here hx rfl (hb hby d14_5) rfl ?_
    refine XS.iloadN X1.here hx rfl (hb hby d14_6) rfl ?_
    refine XS.isub X1.here hx rfl (hb hby d14_7) rfl ?_
    refine XS.istoreN X1.here hx rfl (hb hby d14_8) rfl (l' := #[rv r0, iv 1, iv 2, iv 1, .unset]) rfl ?_
    refine XS.iloadN X1.here hx rfl (hb hby d14_9) rfl ?_
    refine st2 _ ?_
    refine XS.astore X2.here hx rfl (hb hby d14_12) rfl rfl (l' := #[rv r0, iv 1, iv 2, iv 1, rv b2]) rfl ?_
    refine XS.aloadN X2.here hx rfl (hb hby d14_14) rfl rfl ?_
    refine XS.iloadN X2.here hx rfl (hb hby d14_15) rfl ?_
    refine XS.aload X2.here hx rfl (hb hby d14_16) rfl rfl ?_
    refine XS.iconst X2.here hx rfl (hb hby d14_18) ?_
    refine XS.aloadN X2.here hx rfl (hb hby d14_19) rfl rfl ?_
    refine X2.arraylength hx (by rw [e2]; exact Ar_z4.1) (State.isArrayOf_alike hZ.alike Ar_z4.2.1) (g := (mkF m 20 #[rv r0, iv 1, iv 2, iv 1, rv b2] [(.ref r0), (.int 0), (.ref b2), (.int 1), (.ref r0)])) rfl rfl (hb hby d14_20) _ ?_
    rw [len_of S_z4 N_z4]
    refine XS.iloadN X2.here hx rfl (hb hby d14_21) rfl ?_
    refine XS.isub X2.here hx rfl (hb hby d14_22) rfl ?_
    refine XS.iloadN X2.here hx rfl (hb hby d14_23) rfl ?_
    refine st5 _ ?_
    refine st6 _ ?_
    refine XS.aload X6.here hx rfl (hb hby d14_30) rfl rfl ?_
    jvm_step X6.here [X6.here.top, hx, (hb hby d14_32), X6.method', Bd.returns, Value.isRef, FieldType.isReference]
    first | (intro acts; rw [hr _ acts rfl rfl rfl]) | rw [hr _ _ rfl rfl rfl]
    exact Steps.refl _
  · show Q_14_1 Z r0 kA x0 x1 x2 h0 n0 _ T6.heap _
    rw [e6]
    exact ⟨b2, k2, rfl, N6, (((Keep.refl h0 []).ext E2).trans K6 (allS (Or.inr sz_b2) all0)), sz_b2, V6, f7⟩
def Q_14_2 (Z : State) (r0 : Addr) (kA : ClassId) (x0 : Int32) (x1 : Int32) (x2 : Int32) (h0 : Heap) (n0 : Nat) (v : Option Value) (h : Heap) (L : List Loc) : Prop := ∃ ar : Addr, ∃ kk : ClassId, v = some (.ref ar) ∧ Fr n0 L ∧ Keep h0 h [] ∧ h0.size ≤ ar ∧ Arv Z h ar kk .byte (1 : Int32) [(.int x2)] (.int 0) ∧ Exa Z h ar "[B"
set_option maxRecDepth 65536 in
set_option maxHeartbeats 40000000 in
theorem rm14_2 (l : Launch) (Z : State) (a0 : Array Value) (hw : ∀ d ∈ tables_1, d.before a0 Z = true) (ws : List Jvm.Cond) (r0 : Addr) (kA : ClassId) (x0 : Int32) (x1 : Int32) (x2 : Int32) (h0 : Heap) (n0 : Nat) (Z0 : n0 ≤ h0.size) (V_r0 : Arv Z h0 r0 kA .byte (4096 : Int32) [(.int x0), (.int x1), (.int x2)] (.int 0)) :
    MetFree l (⟨cS1, "copyOfRangeByte", "([BII)[B"⟩ : MethodName) (head1 (Jvm.Cond.code (⟨cS1, "copyOfRangeByte", "([BII)[B"⟩ : MethodName) jdk_65_method_133_code 5 (some (.array .byte)) :: ws) ({ frames := 1, cells := 1, slots := 1, locals := 18 } : Room)) (fun a U => a = #[(.ref r0), (.int 2), (.int 3)] ∧ Z.Warmed39 U.vm ∧ U.heap = h0) (fun _ _ _ _ _ => True) (fun _ U o U' => ∃ v L, o = .returned v ∧ Q_14_2 Z r0 kA x0 x1 x2 h0 n0 v U'.heap L ∧ FrameEnd U o U' L ({ frames := 1, cells := 1, slots := 1, locals := 18 } : Room).cells ({ frames := 1, cells := 1, slots := 1, locals := 18 } : Room).slots) := by
  refine MetFree.of_bodySF (plainFor_of_name pn_java_util_Arrays) hisR ?_
  intro p e s m args below meth c s₁ Bd hml0 hP hK
  obtain ⟨rfl, hZ, hh⟩ := hP
  have hx := Bd.exec
  have hby := Bd.bytes
  have hml : c.maxLocals = 5 := hml0
  have hown : s.vm.findClass cS1 = some m.cls := findClass_of_methodNamed Bd.named
  have hnm := (name_of_methodNamed Bd.named Bd.method).1
  have X0 : Stand p l e ({ frames := 1, cells := 1, slots := 1, locals := 18 } : Room) s m #[(.ref r0), (.int 2), (.int 3)] below meth c s₁ [] 0 0 := Stand.of_body Bd
  have e0 : s₁.heap = h0 := by rw [← hh, Bd.state]; rfl
  have N0 := Fr.nil n0
  have k0 : ∀ t, OwnS p e below s₁ (mkF m 0 #[rv r0, iv 2, iv 3, .unset, .unset] []) t → OwnS p e below s₁ (entryFrame m #[(.ref r0), (.int 2), (.int 3)] 5) t := fun t k => castTop (ef_14 m r0 (2 : Int32) (3 : Int32)) k
  obtain ⟨_, _, ⟨T1, L1, j1, i1⟩, -, X1, ⟨Lc1, hQ1, l1, y1, z1⟩, st1⟩ := Jvm.LawKit.callS X0 hx (y := (⟨cS1, "checkLength", "(II)V"⟩ : MethodName)) hown (mvT hZ (own_at hw 81 rfl)) (mvT hZ (own_at hw 82 rfl)) (mvT hZ (own_at hw 65 rfl)) (mvT hZ (own_at hw 83 rfl)) (by decide) (backOf (W := 0) (rm15 l Z a0 hw [] (2 : Int32) (3 : Int32) h0 n0 Z0 (by decide : ¬ ((3 : Int32) < (2 : Int32)))) hZ (own_at hw 83 rfl) (own_at hw 65 rfl) (by decide) (by decide)) (g := (mkF m 2 #[rv r0, iv 2, iv 3, .unset, .unset] [(.int 3), (.int 2)])) rfl (by rw [hml]; rfl) (argsL := [(.int 2), (.int 3)]) (rest := []) (lenOf pd_7 rfl) rfl (Nat.le_refl _) (hb hby d14_2) (fun _ _ => ⟨rfl, e0, (by decide : 0 + 0 ≤ _), (by decide : 0 + 0 ≤ _)⟩)
  dsimp only [Pt.U, Pt.locs, Pt.cells, Pt.slots] at X1 l1 y1 z1 st1 hQ1
  subst l1 y1 z1
  obtain ⟨rfl, N1q, e1⟩ := hQ1
  have N1 := Fr.app N0 N1q
  obtain ⟨T2, h2, k2, X2, e2, E2, A2, EA2, st2⟩ := newPE X1 hx hZ (own_at hw 9 rfl) e1 (g := (mkF m 10 #[rv r0, iv 2, iv 3, iv 1, .unset] [(.int 1)])) rfl (hb hby d14_10) rfl (by decide) (cap := 1) (by decide) (by decide) (by decide) (by decide) (ad := "[B") (by decide)
  obtain ⟨b2, g2⟩ : ∃ z, z = h0.size := ⟨_, rfl⟩
  rw [← g2] at A2 EA2 st2
  have g_b2 : n0 ≤ b2 := Nat.le_trans Z0 (Nat.le_of_eq g2.symm)
  have sz_b2 : h0.size ≤ b2 := Nat.le_trans (Keep.refl h0 []).1 (Nat.le_of_eq g2.symm)
  have V_b2 : Arv Z h2 b2 k2 .byte (1 : Int32) [(.int 0)] (.int 0) := (Arv.new A2 (by decide)).pad (pad_rep [] (.int 0) 1)
  have f3 := (V_r0.ext E2)
  obtain ⟨cl_z4, Ar_z4, q_z4, S_z4, N_z4, H_z4, G_z4⟩ := id f3
  obtain ⟨_, _, ⟨T5, L5, j5, i5⟩, -, X5, ⟨Lc5, hQ5, l5, y5, z5⟩, st5⟩ := Jvm.LawKit.callS X2 hx (y := (⟨"java/lang/Math", "min", "(II)I"⟩ : MethodName)) hown (mvT hZ (own_at hw 70 rfl)) (mvT hZ (own_at hw 48 rfl)) (mvT hZ (own_at hw 49 rfl)) (mvT hZ (own_at hw 50 rfl)) (by decide) (backOf (W := 4) (rm6_t l Z a0 hw [] (4094 : Int32) (1 : Int32) h2 n0 (Nat.le_trans Z0 E2.1) (by decide : (1 : Int32) < (4094 : Int32))) hZ (own_at hw 50 rfl) (own_at hw 49 rfl) (by decide) (by decide)) (g := (mkF m 24 #[rv r0, iv 2, iv 3, iv 1, rv b2] [(.int 1), (.int 4094), (.int 0), (.ref b2), (.int 2), (.ref r0)])) rfl (by rw [hml]; rfl) (argsL := [(.int 4094), (.int 1)]) (rest := [(.int 0), (.ref b2), (.int 2), (.ref r0)]) (lenOf pd_2 rfl) rfl (Nat.le_refl _) (hb hby d14_24) (fun _ _ => ⟨rfl, e2, (by decide : 1 + 0 ≤ _), (by decide : 1 + 0 ≤ _)⟩)
  dsimp only [Pt.U, Pt.locs, Pt.cells, Pt.slots] at X5 l5 y5 z5 st5 hQ5
  subst l5 y5 z5
  obtain ⟨rfl, N5q, e5⟩ := hQ5
  have N5 := Fr.app N1 N5q
  obtain ⟨T6, h6, L6, X6, e6, N6, K6, Vr6, st6⟩ := cpA X5 hx hZ hown (own_at hw 84 rfl) (own_at hw 37 rfl) (own_at hw 35 rfl) (own_at hw 36 rfl) e5 f3 V_b2 (us := [(.int x2)]) (Or.inl ⟨rfl, rfl⟩) (by decide) (by decide) (by decide) (by decide) (by decide) rfl (Nat.le_of_ble_eq_true rfl) N5 g_b2 (g := (mkF m 27 #[rv r0, iv 2, iv 3, iv 1, rv b2] [(.int 1), (.int 0), (.ref b2), (.int 2), (.ref r0)])) rfl (by rw [hml]; rfl) rfl (hb hby d14_27) (by decide) (W := 0) (Nat.le_refl _) (by decide)
  have pl6 := (allS (P := fun x => ∃ cell : Cell, h2[x]? = some cell ∧ cell.vm.isStatics = false) (own_ns EA2) all0)
  have V6 : Arv Z h6 b2 k2 .byte (1 : Int32) [(.int x2)] (.int 0) := Vr6
  have f7 := (EA2.keep K6)
  obtain ⟨fs, hr, hrun, hended, hW, hsame⟩ := X6.leave (v := some (.ref b2)) (fun h => by rw [Bd.returns] at h; cases h)
  refine ⟨_, _, k0 _ ?_, hrun, hended, _, _, rfl, ?_, ⟨_, rfl⟩, hW, hsame.mono (by decide) (by decide)⟩
  · show OwnS p e below s₁ (mkF m 0 #[rv r0, iv 2, iv 3, .unset, .unset] []) _
    refine XS.iloadN X0.here hx rfl (hb hby d14_0) rfl ?_
    refine XS.iloadN X0.here hx rfl (hb hby d14_1) rfl ?_
    refine st1 _ ?_
    refine XS.iloadN X1.here hx rfl (hb hby d14_5) rfl ?_
    refine XS.iloadN X1.here hx rfl (hb hby d14_6) rfl ?_
    refine XS.isub X1.here hx rfl (hb hby d14_7) rfl ?_
    refine XS.istoreN X1.here hx rfl (hb hby d14_8) rfl (l' := #[rv r0, iv 2, iv 3, iv 1, .unset]) rfl ?_
    refine XS.iloadN X1.here hx rfl (hb hby d14_9) rfl ?_
    refine st2 _ ?_
    refine XS.astore X2.here hx rfl (hb hby d14_12) rfl rfl (l' := #[rv r0, iv 2, iv 3, iv 1, rv b2]) rfl ?_
    refine XS.aloadN X2.here hx rfl (hb hby d14_14) rfl rfl ?_
    refine XS.iloadN X2.here hx rfl (hb hby d14_15) rfl ?_
    refine XS.aload X2.here hx rfl (hb hby d14_16) rfl rfl ?_
    refine XS.iconst X2.here hx rfl (hb hby d14_18) ?_
    refine XS.aloadN X2.here hx rfl (hb hby d14_19) rfl rfl ?_
    refine X2.arraylength hx (by rw [e2]; exact Ar_z4.1) (State.isArrayOf_alike hZ.alike Ar_z4.2.1) (g := (mkF m 20 #[rv r0, iv 2, iv 3, iv 1, rv b2] [(.ref r0), (.int 0), (.ref b2), (.int 2), (.ref r0)])) rfl rfl (hb hby d14_20) _ ?_
    rw [len_of S_z4 N_z4]
    refine XS.iloadN X2.here hx rfl (hb hby d14_21) rfl ?_
    refine XS.isub X2.here hx rfl (hb hby d14_22) rfl ?_
    refine XS.iloadN X2.here hx rfl (hb hby d14_23) rfl ?_
    refine st5 _ ?_
    refine st6 _ ?_
    refine XS.aload X6.here hx rfl (hb hby d14_30) rfl rfl ?_
    jvm_step X6.here [X6.here.top, hx, (hb hby d14_32), X6.method', Bd.returns, Value.isRef, FieldType.isReference]
    first | (intro acts; rw [hr _ acts rfl rfl rfl]) | rw [hr _ _ rfl rfl rfl]
    exact Steps.refl _
  · show Q_14_2 Z r0 kA x0 x1 x2 h0 n0 _ T6.heap _
    rw [e6]
    exact ⟨b2, k2, rfl, N6, (((Keep.refl h0 []).ext E2).trans K6 (allS (Or.inr sz_b2) all0)), sz_b2, V6, f7⟩
theorem pd_8 : parseMethodDescriptor "([BII)[B" = some ⟨[(.array .byte), .int, .int], some (.array .byte)⟩ := by decide +kernel
theorem d13_0 : decode jdk_65_method_132_code 0 = .ok (.iload_n 1, 1) := by decide +kernel
theorem d13_1 : decode jdk_65_method_132_code 1 = .ok (.ifCond .ne 9, 3) := by decide +kernel
theorem d13_4 : decode jdk_65_method_132_code 4 = .ok (.iload_n 2, 1) := by decide +kernel
theorem d13_5 : decode jdk_65_method_132_code 5 = .ok (.aload_n 0, 1) := by decide +kernel
theorem d13_6 : decode jdk_65_method_132_code 6 = .ok (.arraylength, 1) := by decide +kernel
theorem d13_7 : decode jdk_65_method_132_code 7 = .ok (.if_icmp .eq 10, 3) := by decide +kernel
theorem d13_10 : decode jdk_65_method_132_code 10 = .ok (.aload_n 0, 1) := by decide +kernel
theorem d13_11 : decode jdk_65_method_132_code 11 = .ok (.iload_n 1, 1) := by decide +kernel
theorem d13_12 : decode jdk_65_method_132_code 12 = .ok (.iload_n 2, 1) := by decide +kernel
theorem d13_13 : decode jdk_65_method_132_code 13 = .ok (.invokestatic 339, 3) := by decide +kernel
theorem d13_16 : decode jdk_65_method_132_code 16 = .ok (.areturn, 1) := by decide +kernel
theorem ef_13 (m : MethodId) (x0 : Addr) (x1 : Int32) (x2 : Int32) : entryFrame m #[(.ref x0), (.int x1), (.int x2)] 3 = mkF m 0 #[.val (.ref x0), .val (.int x1), .val (.int x2)] [] := by first | (simp [entryFrame, mkF, argsToLocals, Value.category]; done) | rfl
def Q_13_0 (Z : State) (r0 : Addr) (kA : ClassId) (x0 : Int32) (x1 : Int32) (x2 : Int32) (h0 : Heap) (n0 : Nat) (v : Option Value) (h : Heap) (L : List Loc) : Prop := ∃ ar : Addr, ∃ kk : ClassId, v = some (.ref ar) ∧ Fr n0 L ∧ Keep h0 h [] ∧ h0.size ≤ ar ∧ Arv Z h ar kk .byte (1 : Int32) [(.int x0)] (.int 0) ∧ Exa Z h ar "[B"
set_option maxRecDepth 65536 in
set_option maxHeartbeats 40000000 in
theorem rm13_0 (l : Launch) (Z : State) (a0 : Array Value) (hw : ∀ d ∈ tables_1, d.before a0 Z = true) (ws : List Jvm.Cond) (r0 : Addr) (kA : ClassId) (x0 : Int32) (x1 : Int32) (x2 : Int32) (h0 : Heap) (n0 : Nat) (Z0 : n0 ≤ h0.size) (V_r0 : Arv Z h0 r0 kA .byte (4096 : Int32) [(.int x0), (.int x1), (.int x2)] (.int 0)) :
    MetFree l (⟨cS1, "copyOfRange", "([BII)[B"⟩ : MethodName) (head1 (Jvm.Cond.code (⟨cS1, "copyOfRange", "([BII)[B"⟩ : MethodName) jdk_65_method_132_code 3 (some (.array .byte)) :: ws) ({ frames := 2, cells := 1, slots := 1, locals := 34 } : Room)) (fun a U => a = #[(.ref r0), (.int 0), (.int 1)] ∧ Z.Warmed39 U.vm ∧ U.heap = h0) (fun _ _ _ _ _ => True) (fun _ U o U' => ∃ v L, o = .returned v ∧ Q_13_0 Z r0 kA x0 x1 x2 h0 n0 v U'.heap L ∧ FrameEnd U o U' L ({ frames := 2, cells := 1, slots := 1, locals := 34 } : Room).cells ({ frames := 2, cells := 1, slots := 1, locals := 34 } : Room).slots) := by
  refine MetFree.of_bodySF (plainFor_of_name pn_java_util_Arrays) hisR ?_
  intro p e s m args below meth c s₁ Bd hml0 hP hK
  obtain ⟨rfl, hZ, hh⟩ := hP
  have hx := Bd.exec
  have hby := Bd.bytes
  have hml : c.maxLocals = 3 := hml0
  have hown : s.vm.findClass cS1 = some m.cls := findClass_of_methodNamed Bd.named
  have hnm := (name_of_methodNamed Bd.named Bd.method).1
  have X0 : Stand p l e ({ frames := 2, cells := 1, slots := 1, locals := 34 } : Room) s m #[(.ref r0), (.int 0), (.int 1)] below meth c s₁ [] 0 0 := Stand.of_body Bd
  have e0 : s₁.heap = h0 := by rw [← hh, Bd.state]; rfl
  have N0 := Fr.nil n0
  have k0 : ∀ t, OwnS p e below s₁ (mkF m 0 #[rv r0, iv 0, iv 1] []) t → OwnS p e below s₁ (entryFrame m #[(.ref r0), (.int 0), (.int 1)] 3) t := fun t k => castTop (ef_13 m r0 (0 : Int32) (1 : Int32)) k
  obtain ⟨cl_z1, Ar_z1, q_z1, S_z1, N_z1, H_z1, G_z1⟩ := id V_r0
  obtain ⟨_, _, ⟨T2, L2, j2, i2⟩, -, X2, ⟨Lc2, hQ2, l2, y2, z2⟩, st2⟩ := Jvm.LawKit.callS X0 hx (y := (⟨cS1, "copyOfRangeByte", "([BII)[B"⟩ : MethodName)) hown (mvT hZ (own_at hw 78 rfl)) (mvT hZ (own_at hw 79 rfl)) (mvT hZ (own_at hw 65 rfl)) (mvT hZ (own_at hw 80 rfl)) (by decide) (backOf (W := 0) (rm14_0 l Z a0 hw [] r0 kA x0 x1 x2 h0 n0 Z0 V_r0) hZ (own_at hw 80 rfl) (own_at hw 65 rfl) (by decide) (by decide)) (g := (mkF m 13 #[rv r0, iv 0, iv 1] [(.int 1), (.int 0), (.ref r0)])) rfl (by rw [hml]; rfl) (argsL := [(.ref r0), (.int 0), (.int 1)]) (rest := []) (lenOf pd_8 rfl) rfl (Nat.le_refl _) (hb hby d13_13) (fun _ _ => ⟨rfl, e0, (by decide : 0 + 1 ≤ _), (by decide : 0 + 1 ≤ _)⟩)
  dsimp only [Pt.U, Pt.locs, Pt.cells, Pt.slots] at X2 l2 y2 z2 st2 hQ2
  subst l2 y2 z2
  obtain ⟨ar_2, kk_2, rfl, N2q, K2, p2_0, p2_1, p2_2⟩ := hQ2
  have g_ar_2 : n0 ≤ ar_2 := Nat.le_trans Z0 p2_0
  have sz_ar_2 : h0.size ≤ ar_2 := Nat.le_trans (Keep.refl h0 []).1 p2_0
  have N2 := Fr.app N0 N2q
  obtain ⟨fs, hr, hrun, hended, hW, hsame⟩ := X2.leave (v := some (.ref ar_2)) (fun h => by rw [Bd.returns] at h; cases h)
  refine ⟨_, _, k0 _ ?_, hrun, hended, _, _, rfl, ?_, ⟨_, rfl⟩, hW, hsame.mono (by decide) (by decide)⟩
  · show OwnS p e below s₁ (mkF m 0 #[rv r0, iv 0, iv 1] []) _
    refine XS.iloadN X0.here hx rfl (hb hby d13_0) rfl ?_
    refine XS.ifNo X0.here hx rfl (hb hby d13_1) rfl ((if0 _ _).trans (teq (by decide : (0 : Int32) = (0 : Int32))).2) ?_
    refine XS.iloadN X0.here hx rfl (hb hby d13_4) rfl ?_
    refine XS.aloadN X0.here hx rfl (hb hby d13_5) rfl rfl ?_
    refine X0.arraylength hx (by rw [e0]; exact Ar_z1.1) (State.isArrayOf_alike hZ.alike Ar_z1.2.1) (g := (mkF m 6 #[rv r0, iv 0, iv 1] [(.ref r0), (.int 1)])) rfl rfl (hb hby d13_6) _ ?_
    rw [len_of S_z1 N_z1]
    refine XS.icmpNo X0.here hx rfl (hb hby d13_7) rfl (feq (by decide : ¬ ((1 : Int32) = (4096 : Int32)))).1 ?_
    refine XS.aloadN X0.here hx rfl (hb hby d13_10) rfl rfl ?_
    refine XS.iloadN X0.here hx rfl (hb hby d13_11) rfl ?_
    refine XS.iloadN X0.here hx rfl (hb hby d13_12) rfl ?_
    refine st2 _ ?_
    jvm_step X2.here [X2.here.top, hx, (hb hby d13_16), X2.method', Bd.returns, Value.isRef, FieldType.isReference]
    first | (intro acts; rw [hr _ acts rfl rfl rfl]) | rw [hr _ _ rfl rfl rfl]
    exact Steps.refl _
  · show Q_13_0 Z r0 kA x0 x1 x2 h0 n0 _ T2.heap _
    exact ⟨ar_2, kk_2, rfl, N2, ((Keep.refl h0 []).trans K2 all0), sz_ar_2, p2_1, p2_2⟩
def Q_13_1 (Z : State) (r0 : Addr) (kA : ClassId) (x0 : Int32) (x1 : Int32) (x2 : Int32) (h0 : Heap) (n0 : Nat) (v : Option Value) (h : Heap) (L : List Loc) : Prop := ∃ ar : Addr, ∃ kk : ClassId, v = some (.ref ar) ∧ Fr n0 L ∧ Keep h0 h [] ∧ h0.size ≤ ar ∧ Arv Z h ar kk .byte (1 : Int32) [(.int x1)] (.int 0) ∧ Exa Z h ar "[B"
set_option maxRecDepth 65536 in
set_option maxHeartbeats 40000000 in
theorem rm13_1 (l : Launch) (Z : State) (a0 : Array Value) (hw : ∀ d ∈ tables_1, d.before a0 Z = true) (ws : List Jvm.Cond) (r0 : Addr) (kA : ClassId) (x0 : Int32) (x1 : Int32) (x2 : Int32) (h0 : Heap) (n0 : Nat) (Z0 : n0 ≤ h0.size) (V_r0 : Arv Z h0 r0 kA .byte (4096 : Int32) [(.int x0), (.int x1), (.int x2)] (.int 0)) :
    MetFree l (⟨cS1, "copyOfRange", "([BII)[B"⟩ : MethodName) (head1 (Jvm.Cond.code (⟨cS1, "copyOfRange", "([BII)[B"⟩ : MethodName) jdk_65_method_132_code 3 (some (.array .byte)) :: ws) ({ frames := 2, cells := 1, slots := 1, locals := 34 } : Room)) (fun a U => a = #[(.ref r0), (.int 1), (.int 2)] ∧ Z.Warmed39 U.vm ∧ U.heap = h0) (fun _ _ _ _ _ => True) (fun _ U o U' => ∃ v L, o = .returned v ∧ Q_13_1 Z r0 kA x0 x1 x2 h0 n0 v U'.heap L ∧ FrameEnd U o U' L ({ frames := 2, cells := 1, slots := 1, locals := 34 } : Room).cells ({ frames := 2, cells := 1, slots := 1, locals := 34 } : Room).slots) := by
  refine MetFree.of_bodySF (plainFor_of_name pn_java_util_Arrays) hisR ?_
  intro p e s m args below meth c s₁ Bd hml0 hP hK
  obtain ⟨rfl, hZ, hh⟩ := hP
  have hx := Bd.exec
  have hby := Bd.bytes
  have hml : c.maxLocals = 3 := hml0
  have hown : s.vm.findClass cS1 = some m.cls := findClass_of_methodNamed Bd.named
  have hnm := (name_of_methodNamed Bd.named Bd.method).1
  have X0 : Stand p l e ({ frames := 2, cells := 1, slots := 1, locals := 34 } : Room) s m #[(.ref r0), (.int 1), (.int 2)] below meth c s₁ [] 0 0 := Stand.of_body Bd
  have e0 : s₁.heap = h0 := by rw [← hh, Bd.state]; rfl
  have N0 := Fr.nil n0
  have k0 : ∀ t, OwnS p e below s₁ (mkF m 0 #[rv r0, iv 1, iv 2] []) t → OwnS p e below s₁ (entryFrame m #[(.ref r0), (.int 1), (.int 2)] 3) t := fun t k => castTop (ef_13 m r0 (1 : Int32) (2 : Int32)) k
  obtain ⟨_, _, ⟨T1, L1, j1, i1⟩, -, X1, ⟨Lc1, hQ1, l1, y1, z1⟩, st1⟩ := Jvm.LawKit.callS X0 hx (y := (⟨cS1, "copyOfRangeByte", "([BII)[B"⟩ : MethodName)) hown (mvT hZ (own_at hw 78 rfl)) (mvT hZ (own_at hw 79 rfl)) (mvT hZ (own_at hw 65 rfl)) (mvT hZ (own_at hw 80 rfl)) (by decide) (backOf (W := 0) (rm14_1 l Z a0 hw [] r0 kA x0 x1 x2 h0 n0 Z0 V_r0) hZ (own_at hw 80 rfl) (own_at hw 65 rfl) (by decide) (by decide)) (g := (mkF m 13 #[rv r0, iv 1, iv 2] [(.int 2), (.int 1), (.ref r0)])) rfl (by rw [hml]; rfl) (argsL := [(.ref r0), (.int 1), (.int 2)]) (rest := []) (lenOf pd_8 rfl) rfl (Nat.le_refl _) (hb hby d13_13) (fun _ _ => ⟨rfl, e0, (by decide : 0 + 1 ≤ _), (by decide : 0 + 1 ≤ _)⟩)
  dsimp only [Pt.U, Pt.locs, Pt.cells, Pt.slots] at X1 l1 y1 z1 st1 hQ1
  subst l1 y1 z1
  obtain ⟨ar_1, kk_1, rfl, N1q, K1, p1_0, p1_1, p1_2⟩ := hQ1
  have g_ar_1 : n0 ≤ ar_1 := Nat.le_trans Z0 p1_0
  have sz_ar_1 : h0.size ≤ ar_1 := Nat.le_trans (Keep.refl h0 []).1 p1_0
  have N1 := Fr.app N0 N1q
  obtain ⟨fs, hr, hrun, hended, hW, hsame⟩ := X1.leave (v := some (.ref ar_1)) (fun h => by rw [Bd.returns] at h; cases h)
  refine ⟨_, _, k0 _ ?_, hrun, hended, _, _, rfl, ?_, ⟨_, rfl⟩, hW, hsame.mono (by decide) (by decide)⟩
  · show OwnS p e below s₁ (mkF m 0 #[rv r0, iv 1, iv 2] []) _
    refine XS.iloadN X0.here hx rfl (hb hby d13_0) rfl ?_
    refine XS.ifYes X0.here hx rfl (pc0 := 1) (pc' := 10) rfl (hb hby d13_1) rfl ((if0 _ _).trans (feq (by decide : ¬ ((1 : Int32) = (0 : Int32)))).2) (by decide) (by decide) ?_
    refine XS.aloadN X0.here hx rfl (hb hby d13_10) rfl rfl ?_
    refine XS.iloadN X0.here hx rfl (hb hby d13_11) rfl ?_
    refine XS.iloadN X0.here hx rfl (hb hby d13_12) rfl ?_
    refine st1 _ ?_
    jvm_step X1.here [X1.here.top, hx, (hb hby d13_16), X1.method', Bd.returns, Value.isRef, FieldType.isReference]
    first | (intro acts; rw [hr _ acts rfl rfl rfl]) | rw [hr _ _ rfl rfl rfl]
    exact Steps.refl _
  · show Q_13_1 Z r0 kA x0 x1 x2 h0 n0 _ T1.heap _
    exact ⟨ar_1, kk_1, rfl, N1, ((Keep.refl h0 []).trans K1 all0), sz_ar_1, p1_1, p1_2⟩
def Q_13_2 (Z : State) (r0 : Addr) (kA : ClassId) (x0 : Int32) (x1 : Int32) (x2 : Int32) (h0 : Heap) (n0 : Nat) (v : Option Value) (h : Heap) (L : List Loc) : Prop := ∃ ar : Addr, ∃ kk : ClassId, v = some (.ref ar) ∧ Fr n0 L ∧ Keep h0 h [] ∧ h0.size ≤ ar ∧ Arv Z h ar kk .byte (1 : Int32) [(.int x2)] (.int 0) ∧ Exa Z h ar "[B"
set_option maxRecDepth 65536 in
set_option maxHeartbeats 40000000 in
theorem rm13_2 (l : Launch) (Z : State) (a0 : Array Value) (hw : ∀ d ∈ tables_1, d.before a0 Z = true) (ws : List Jvm.Cond) (r0 : Addr) (kA : ClassId) (x0 : Int32) (x1 : Int32) (x2 : Int32) (h0 : Heap) (n0 : Nat) (Z0 : n0 ≤ h0.size) (V_r0 : Arv Z h0 r0 kA .byte (4096 : Int32) [(.int x0), (.int x1), (.int x2)] (.int 0)) :
    MetFree l (⟨cS1, "copyOfRange", "([BII)[B"⟩ : MethodName) (head1 (Jvm.Cond.code (⟨cS1, "copyOfRange", "([BII)[B"⟩ : MethodName) jdk_65_method_132_code 3 (some (.array .byte)) :: ws) ({ frames := 2, cells := 1, slots := 1, locals := 34 } : Room)) (fun a U => a = #[(.ref r0), (.int 2), (.int 3)] ∧ Z.Warmed39 U.vm ∧ U.heap = h0) (fun _ _ _ _ _ => True) (fun _ U o U' => ∃ v L, o = .returned v ∧ Q_13_2 Z r0 kA x0 x1 x2 h0 n0 v U'.heap L ∧ FrameEnd U o U' L ({ frames := 2, cells := 1, slots := 1, locals := 34 } : Room).cells ({ frames := 2, cells := 1, slots := 1, locals := 34 } : Room).slots) := by
  refine MetFree.of_bodySF (plainFor_of_name pn_java_util_Arrays) hisR ?_
  intro p e s m args below meth c s₁ Bd hml0 hP hK
  obtain ⟨rfl, hZ, hh⟩ := hP
  have hx := Bd.exec
  have hby := Bd.bytes
  have hml : c.maxLocals = 3 := hml0
  have hown : s.vm.findClass cS1 = some m.cls := findClass_of_methodNamed Bd.named
  have hnm := (name_of_methodNamed Bd.named Bd.method).1
  have X0 : Stand p l e ({ frames := 2, cells := 1, slots := 1, locals := 34 } : Room) s m #[(.ref r0), (.int 2), (.int 3)] below meth c s₁ [] 0 0 := Stand.of_body Bd
  have e0 : s₁.heap = h0 := by rw [← hh, Bd.state]; rfl
  have N0 := Fr.nil n0
  have k0 : ∀ t, OwnS p e below s₁ (mkF m 0 #[rv r0, iv 2, iv 3] []) t → OwnS p e below s₁ (entryFrame m #[(.ref r0), (.int 2), (.int 3)] 3) t := fun t k => castTop (ef_13 m r0 (2 : Int32) (3 : Int32)) k
  obtain ⟨_, _, ⟨T1, L1, j1, i1⟩, -, X1, ⟨Lc1, hQ1, l1, y1, z1⟩, st1⟩ := Jvm.LawKit.callS X0 hx (y := (⟨cS1, "copyOfRangeByte", "([BII)[B"⟩ : MethodName)) hown (mvT hZ (own_at hw 78 rfl)) (mvT hZ (own_at hw 79 rfl)) (mvT hZ (own_at hw 65 rfl)) (mvT hZ (own_at hw 80 rfl)) (by decide) (backOf (W := 0) (rm14_2 l Z a0 hw [] r0 kA x0 x1 x2 h0 n0 Z0 V_r0) hZ (own_at hw 80 rfl) (own_at hw 65 rfl) (by decide) (by decide)) (g := (mkF m 13 #[rv r0, iv 2, iv 3] [(.int 3), (.int 2), (.ref r0)])) rfl (by rw [hml]; rfl) (argsL := [(.ref r0), (.int 2), (.int 3)]) (rest := []) (lenOf pd_8 rfl) rfl (Nat.le_refl _) (hb hby d13_13) (fun _ _ => ⟨rfl, e0, (by decide : 0 + 1 ≤ _), (by decide : 0 + 1 ≤ _)⟩)
  dsimp only [Pt.U, Pt.locs, Pt.cells, Pt.slots] at X1 l1 y1 z1 st1 hQ1
  subst l1 y1 z1
  obtain ⟨ar_1, kk_1, rfl, N1q, K1, p1_0, p1_1, p1_2⟩ := hQ1
  have g_ar_1 : n0 ≤ ar_1 := Nat.le_trans Z0 p1_0
  have sz_ar_1 : h0.size ≤ ar_1 := Nat.le_trans (Keep.refl h0 []).1 p1_0
  have N1 := Fr.app N0 N1q
  obtain ⟨fs, hr, hrun, hended, hW, hsame⟩ := X1.leave (v := some (.ref ar_1)) (fun h => by rw [Bd.returns] at h; cases h)
  refine ⟨_, _, k0 _ ?_, hrun, hended, _, _, rfl, ?_, ⟨_, rfl⟩, hW, hsame.mono (by decide) (by decide)⟩
  · show OwnS p e below s₁ (mkF m 0 #[rv r0, iv 2, iv 3] []) _
    refine XS.iloadN X0.here hx rfl (hb hby d13_0) rfl ?_
    refine XS.ifYes X0.here hx rfl (pc0 := 1) (pc' := 10) rfl (hb hby d13_1) rfl ((if0 _ _).trans (feq (by decide : ¬ ((2 : Int32) = (0 : Int32)))).2) (by decide) (by decide) ?_
    refine XS.aloadN X0.here hx rfl (hb hby d13_10) rfl rfl ?_
    refine XS.iloadN X0.here hx rfl (hb hby d13_11) rfl ?_
    refine XS.iloadN X0.here hx rfl (hb hby d13_12) rfl ?_
    refine st1 _ ?_
    jvm_step X1.here [X1.here.top, hx, (hb hby d13_16), X1.method', Bd.returns, Value.isRef, FieldType.isReference]
    first | (intro acts; rw [hr _ acts rfl rfl rfl]) | rw [hr _ _ rfl rfl rfl]
    exact Steps.refl _
  · show Q_13_2 Z r0 kA x0 x1 x2 h0 n0 _ T1.heap _
    exact ⟨ar_1, kk_1, rfl, N1, ((Keep.refl h0 []).trans K1 all0), sz_ar_1, p1_1, p1_2⟩
theorem pd_9 : parseMethodDescriptor "()V" = some ⟨[], none⟩ := by decide +kernel
theorem d4_0 : decode prog_6_method_8_code 0 = .ok (.aload_n 0, 1) := by decide +kernel
theorem d4_1 : decode prog_6_method_8_code 1 = .ok (.invokevirtual 82, 3) := by decide +kernel
theorem d4_4 : decode prog_6_method_8_code 4 = .ok (.aload_n 0, 1) := by decide +kernel
theorem d4_5 : decode prog_6_method_8_code 5 = .ok (.getfield 30, 3) := by decide +kernel
theorem d4_8 : decode prog_6_method_8_code 8 = .ok (.iconst 2, 1) := by decide +kernel
theorem d4_9 : decode prog_6_method_8_code 9 = .ok (.idiv, 1) := by decide +kernel
theorem d4_10 : decode prog_6_method_8_code 10 = .ok (.istore_n 1, 1) := by decide +kernel
theorem d4_11 : decode prog_6_method_8_code 11 = .ok (.aload_n 0, 1) := by decide +kernel
theorem d4_12 : decode prog_6_method_8_code 12 = .ok (.aload_n 0, 1) := by decide +kernel
theorem d4_13 : decode prog_6_method_8_code 13 = .ok (.getfield 7, 3) := by decide +kernel
theorem d4_16 : decode prog_6_method_8_code 16 = .ok (.aload_n 0, 1) := by decide +kernel
theorem d4_17 : decode prog_6_method_8_code 17 = .ok (.getfield 13, 3) := by decide +kernel
theorem d4_20 : decode prog_6_method_8_code 20 = .ok (.aload_n 0, 1) := by decide +kernel
theorem d4_21 : decode prog_6_method_8_code 21 = .ok (.getfield 17, 3) := by decide +kernel
theorem d4_24 : decode prog_6_method_8_code 24 = .ok (.iload_n 1, 1) := by decide +kernel
theorem d4_25 : decode prog_6_method_8_code 25 = .ok (.iaload, 1) := by decide +kernel
theorem d4_26 : decode prog_6_method_8_code 26 = .ok (.iaload, 1) := by decide +kernel
theorem d4_27 : decode prog_6_method_8_code 27 = .ok (.aload_n 0, 1) := by decide +kernel
theorem d4_28 : decode prog_6_method_8_code 28 = .ok (.aload_n 0, 1) := by decide +kernel
theorem d4_29 : decode prog_6_method_8_code 29 = .ok (.getfield 17, 3) := by decide +kernel
theorem d4_32 : decode prog_6_method_8_code 32 = .ok (.iload_n 1, 1) := by decide +kernel
theorem d4_33 : decode prog_6_method_8_code 33 = .ok (.iaload, 1) := by decide +kernel
theorem d4_34 : decode prog_6_method_8_code 34 = .ok (.invokevirtual 74, 3) := by decide +kernel
theorem d4_37 : decode prog_6_method_8_code 37 = .ok (.invokestatic 78, 3) := by decide +kernel
theorem d4_40 : decode prog_6_method_8_code 40 = .ok (.putfield 36, 3) := by decide +kernel
theorem d4_43 : decode prog_6_method_8_code 43 = .ok (.iconst 0, 1) := by decide +kernel
theorem d4_44 : decode prog_6_method_8_code 44 = .ok (.istore_n 2, 1) := by decide +kernel
theorem d4_45 : decode prog_6_method_8_code 45 = .ok (.iload_n 2, 1) := by decide +kernel
theorem d4_46 : decode prog_6_method_8_code 46 = .ok (.aload_n 0, 1) := by decide +kernel
theorem d4_47 : decode prog_6_method_8_code 47 = .ok (.getfield 30, 3) := by decide +kernel
theorem d4_50 : decode prog_6_method_8_code 50 = .ok (.if_icmp .ge 21, 3) := by decide +kernel
theorem d4_53 : decode prog_6_method_8_code 53 = .ok (.aload_n 0, 1) := by decide +kernel
theorem d4_54 : decode prog_6_method_8_code 54 = .ok (.getfield 20, 3) := by decide +kernel
theorem d4_57 : decode prog_6_method_8_code 57 = .ok (.aload_n 0, 1) := by decide +kernel
theorem d4_58 : decode prog_6_method_8_code 58 = .ok (.getfield 17, 3) := by decide +kernel
theorem d4_61 : decode prog_6_method_8_code 61 = .ok (.iload_n 2, 1) := by decide +kernel
theorem d4_62 : decode prog_6_method_8_code 62 = .ok (.iaload, 1) := by decide +kernel
theorem d4_63 : decode prog_6_method_8_code 63 = .ok (.iload_n 2, 1) := by decide +kernel
theorem d4_64 : decode prog_6_method_8_code 64 = .ok (.iastore, 1) := by decide +kernel
theorem d4_65 : decode prog_6_method_8_code 65 = .ok (.iinc 2 1, 3) := by decide +kernel
theorem d4_68 : decode prog_6_method_8_code 68 = .ok (.goto (-23), 3) := by decide +kernel
theorem d4_71 : decode prog_6_method_8_code 71 = .ok (.iconst 0, 1) := by decide +kernel
theorem d4_72 : decode prog_6_method_8_code 72 = .ok (.istore_n 2, 1) := by decide +kernel
theorem d4_73 : decode prog_6_method_8_code 73 = .ok (.iconst 0, 1) := by decide +kernel
theorem d4_74 : decode prog_6_method_8_code 74 = .ok (.istore_n 3, 1) := by decide +kernel
theorem d4_75 : decode prog_6_method_8_code 75 = .ok (.iconst 0, 1) := by decide +kernel
theorem d4_76 : decode prog_6_method_8_code 76 = .ok (.istore 4, 2) := by decide +kernel
theorem d4_78 : decode prog_6_method_8_code 78 = .ok (.iload 4, 2) := by decide +kernel
theorem d4_80 : decode prog_6_method_8_code 80 = .ok (.aload_n 0, 1) := by decide +kernel
theorem d4_81 : decode prog_6_method_8_code 81 = .ok (.getfield 30, 3) := by decide +kernel
theorem d4_84 : decode prog_6_method_8_code 84 = .ok (.if_icmp .ge 71, 3) := by decide +kernel
theorem d4_87 : decode prog_6_method_8_code 87 = .ok (.aload_n 0, 1) := by decide +kernel
theorem d4_88 : decode prog_6_method_8_code 88 = .ok (.getfield 20, 3) := by decide +kernel
theorem d4_91 : decode prog_6_method_8_code 91 = .ok (.iload 4, 2) := by decide +kernel
theorem d4_93 : decode prog_6_method_8_code 93 = .ok (.iaload, 1) := by decide +kernel
theorem d4_94 : decode prog_6_method_8_code 94 = .ok (.iload_n 1, 1) := by decide +kernel
theorem d4_95 : decode prog_6_method_8_code 95 = .ok (.if_icmp .ge 54, 3) := by decide +kernel
theorem d4_98 : decode prog_6_method_8_code 98 = .ok (.aload_n 0, 1) := by decide +kernel
theorem d4_99 : decode prog_6_method_8_code 99 = .ok (.getfield 13, 3) := by decide +kernel
theorem d4_102 : decode prog_6_method_8_code 102 = .ok (.iload 4, 2) := by decide +kernel
theorem d4_104 : decode prog_6_method_8_code 104 = .ok (.iaload, 1) := by decide +kernel
theorem d4_105 : decode prog_6_method_8_code 105 = .ok (.istore 5, 2) := by decide +kernel
theorem d4_107 : decode prog_6_method_8_code 107 = .ok (.aload_n 0, 1) := by decide +kernel
theorem d4_108 : decode prog_6_method_8_code 108 = .ok (.iload 4, 2) := by decide +kernel
theorem d4_110 : decode prog_6_method_8_code 110 = .ok (.invokevirtual 74, 3) := by decide +kernel
theorem d4_113 : decode prog_6_method_8_code 113 = .ok (.iload 5, 2) := by decide +kernel
theorem d4_115 : decode prog_6_method_8_code 115 = .ok (.isub, 1) := by decide +kernel
theorem d4_116 : decode prog_6_method_8_code 116 = .ok (.istore 6, 2) := by decide +kernel
theorem d4_118 : decode prog_6_method_8_code 118 = .ok (.aload_n 0, 1) := by decide +kernel
theorem d4_119 : decode prog_6_method_8_code 119 = .ok (.getfield 7, 3) := by decide +kernel
theorem d4_122 : decode prog_6_method_8_code 122 = .ok (.iload 5, 2) := by decide +kernel
theorem d4_124 : decode prog_6_method_8_code 124 = .ok (.aload_n 0, 1) := by decide +kernel
theorem d4_125 : decode prog_6_method_8_code 125 = .ok (.getfield 7, 3) := by decide +kernel
theorem d4_128 : decode prog_6_method_8_code 128 = .ok (.iload_n 3, 1) := by decide +kernel
theorem d4_129 : decode prog_6_method_8_code 129 = .ok (.iload 6, 2) := by decide +kernel
theorem d4_131 : decode prog_6_method_8_code 131 = .ok (.invokestatic 64, 3) := by decide +kernel
theorem d4_134 : decode prog_6_method_8_code 134 = .ok (.aload_n 0, 1) := by decide +kernel
theorem d4_135 : decode prog_6_method_8_code 135 = .ok (.getfield 13, 3) := by decide +kernel
theorem d4_138 : decode prog_6_method_8_code 138 = .ok (.iload_n 2, 1) := by decide +kernel
theorem d4_139 : decode prog_6_method_8_code 139 = .ok (.iinc 2 1, 3) := by decide +kernel
theorem d4_142 : decode prog_6_method_8_code 142 = .ok (.iload_n 3, 1) := by decide +kernel
theorem d4_143 : decode prog_6_method_8_code 143 = .ok (.iastore, 1) := by decide +kernel
theorem d4_144 : decode prog_6_method_8_code 144 = .ok (.iload_n 3, 1) := by decide +kernel
theorem d4_145 : decode prog_6_method_8_code 145 = .ok (.iload 6, 2) := by decide +kernel
theorem d4_147 : decode prog_6_method_8_code 147 = .ok (.iadd, 1) := by decide +kernel
theorem d4_148 : decode prog_6_method_8_code 148 = .ok (.istore_n 3, 1) := by decide +kernel
theorem d4_149 : decode prog_6_method_8_code 149 = .ok (.iinc 4 1, 3) := by decide +kernel
theorem d4_152 : decode prog_6_method_8_code 152 = .ok (.goto (-74), 3) := by decide +kernel
theorem d4_155 : decode prog_6_method_8_code 155 = .ok (.aload_n 0, 1) := by decide +kernel
theorem d4_156 : decode prog_6_method_8_code 156 = .ok (.iload_n 2, 1) := by decide +kernel
theorem d4_157 : decode prog_6_method_8_code 157 = .ok (.putfield 30, 3) := by decide +kernel
theorem d4_160 : decode prog_6_method_8_code 160 = .ok (.aload_n 0, 1) := by decide +kernel
theorem d4_161 : decode prog_6_method_8_code 161 = .ok (.iload_n 3, 1) := by decide +kernel
theorem d4_162 : decode prog_6_method_8_code 162 = .ok (.putfield 33, 3) := by decide +kernel
theorem d4_165 : decode prog_6_method_8_code 165 = .ok (.return_, 1) := by decide +kernel
theorem ef_4 (m : MethodId) (x0 : Addr) : entryFrame m #[(.ref x0)] 7 = mkF m 0 #[.val (.ref x0), .unset, .unset, .unset, .unset, .unset, .unset] [] := by first | (simp [entryFrame, mkF, argsToLocals, Value.category]; done) | rfl
def Q_4 (Z : State) (r0 : Addr) (bA : Addr) (kB : ClassId) (sA : Addr) (kS : ClassId) (oZ : Addr) (kZ : ClassId) (cZ : Addr) (x0 : Int32) (x1 : Int32) (x2 : Int32) (h0 : Heap) (n0 : Nat) (v : Option Value) (h : Heap) (L : List Loc) : Prop := ∃ lim : Addr, ∃ oN : Addr, ∃ cN : Addr, ∃ kL : ClassId, ∃ lb : Int32, ∃ e0 : Int32, v = none ∧ Fr n0 L ∧ Keep h0 h [r0, bA, sA] ∧ h0.size ≤ lim ∧ Exa Z h r0 cS0 ∧ Fld Z h r0 cS0 "maxNames" "I" (.int 3) ∧ Fld Z h r0 cS0 "maxBytes" "I" (.int 3) ∧ Fld Z h r0 cS0 "count" "I" (.int 1) ∧ Fld Z h r0 cS0 "used" "I" (.int 1) ∧ Fld Z h r0 cS0 "limit" "[B" (.ref lim) ∧ Fld Z h r0 cS0 "bytes" "[B" (.ref bA) ∧ Arv Z h bA kB .byte (4096 : Int32) [(.int e0), (.int x1), (.int x2)] (.int 0) ∧ Exa Z h bA "[B" ∧ Fld Z h r0 cS0 "starts" "[I" (.ref sA) ∧ Arv Z h sA kS .int (256 : Int32) [(.int 0), (.int 1), (.int 2)] (.int 0) ∧ Exa Z h sA "[I" ∧ Fld Z h r0 cS0 "order" "[I" (.ref oN) ∧ Fld Z h r0 cS0 "scratch" "[I" (.ref cN) ∧ Arv Z h lim kL .byte (1 : Int32) [(.int lb)] (.int 0) ∧ Exa Z h lim "[B"
set_option maxRecDepth 65536 in
set_option maxHeartbeats 40000000 in
theorem rm4 (l : Launch) (Z : State) (a0 : Array Value) (hw : ∀ d ∈ tables_1, d.before a0 Z = true) (ws : List Jvm.Cond) (r0 : Addr) (bA : Addr) (kB : ClassId) (sA : Addr) (kS : ClassId) (oZ : Addr) (kZ : ClassId) (cZ : Addr) (x0 : Int32) (x1 : Int32) (x2 : Int32) (h0 : Heap) (n0 : Nat) (Z0 : n0 ≤ h0.size) (E_r0 : Exa Z h0 r0 cS0) (F_maxNames_r0 : Fld Z h0 r0 cS0 "maxNames" "I" (.int 3)) (F_maxBytes_r0 : Fld Z h0 r0 cS0 "maxBytes" "I" (.int 3)) (F_count_r0 : Fld Z h0 r0 cS0 "count" "I" (.int 3)) (F_used_r0 : Fld Z h0 r0 cS0 "used" "I" (.int 3)) (F_bytes_r0 : Fld Z h0 r0 cS0 "bytes" "[B" (.ref bA)) (V_bA : Arv Z h0 bA kB .byte (4096 : Int32) [(.int x0), (.int x1), (.int x2)] (.int 0)) (E_bA : Exa Z h0 bA "[B") (F_starts_r0 : Fld Z h0 r0 cS0 "starts" "[I" (.ref sA)) (V_sA : Arv Z h0 sA kS .int (256 : Int32) [(.int 0), (.int 1), (.int 2)] (.int 0)) (E_sA : Exa Z h0 sA "[I") (F_limit_r0 : Fld Z h0 r0 cS0 "limit" "[B" .null) (F_order_r0 : Fld Z h0 r0 cS0 "order" "[I" (.ref oZ)) (V_oZ : Arv Z h0 oZ kZ .int (0 : Int32) [] (.int 0)) (F_scratch_r0 : Fld Z h0 r0 cS0 "scratch" "[I" (.ref cZ)) (ge_r0 : n0 ≤ r0) (ne_sA_r0 : sA ≠ r0) (ne_bA_r0 : bA ≠ r0) (ne_oZ_r0 : oZ ≠ r0) (ge_bA : n0 ≤ bA) (ne_r0_bA : r0 ≠ bA) (ne_sA_bA : sA ≠ bA) (ge_sA : n0 ≤ sA) (ne_r0_sA : r0 ≠ sA) (ne_bA_sA : bA ≠ sA) :
    MetFree l (⟨cS0, "halve", "()V"⟩ : MethodName) (head1 (Jvm.Cond.code (⟨cS0, "halve", "()V"⟩ : MethodName) prog_6_method_8_code 7 none :: ws) ({ frames := 6, cells := 3, slots := 513, locals := 92 } : Room)) (fun a U => a = #[(.ref r0)] ∧ Z.Warmed39 U.vm ∧ U.heap = h0) (fun _ _ _ _ _ => True) (fun _ U o U' => ∃ v L, o = .returned v ∧ Q_4 Z r0 bA kB sA kS oZ kZ cZ x0 x1 x2 h0 n0 v U'.heap L ∧ FrameEnd U o U' L ({ frames := 6, cells := 3, slots := 513, locals := 92 } : Room).cells ({ frames := 6, cells := 3, slots := 513, locals := 92 } : Room).slots) := by
  refine MetFree.of_bodySF (plainFor_of_name pn_com_example_measurewright_measurewright_cli_NameBatch) hisR ?_
  intro p e s m args below meth c s₁ Bd hml0 hP hK
  obtain ⟨rfl, hZ, hh⟩ := hP
  have hx := Bd.exec
  have hby := Bd.bytes
  have hml : c.maxLocals = 7 := hml0
  have hown : s.vm.findClass cS0 = some m.cls := findClass_of_methodNamed Bd.named
  have hnm := (name_of_methodNamed Bd.named Bd.method).1
  have X0 : Stand p l e ({ frames := 6, cells := 3, slots := 513, locals := 92 } : Room) s m #[(.ref r0)] below meth c s₁ [] 0 0 := Stand.of_body Bd
  have e0 : s₁.heap = h0 := by rw [← hh, Bd.state]; rfl
  have N0 := Fr.nil n0
  have k0 : ∀ t, OwnS p e below s₁ (mkF m 0 #[rv r0, .unset, .unset, .unset, .unset, .unset, .unset] []) t → OwnS p e below s₁ (entryFrame m #[(.ref r0)] 7) t := fun t k => castTop (ef_4 m r0) k
  obtain ⟨cq1, kq1, q1a, q1b, q1c⟩ := isOf hZ e0 E_r0
  obtain ⟨_, _, ⟨T1, L1, j1, i1⟩, -, X1, ⟨Lc1, hQ1, l1, y1, z1⟩, st1⟩ := X0.virtualBack hx (y := (⟨cS0, "sort", "()V"⟩ : MethodName)) (z := (⟨cS0, "sort", "()V"⟩ : MethodName)) hown (mvT hZ (own_at hw 42 rfl)) (mvT hZ (own_at hw 43 rfl)) (notFace_of_selects (args := #[]) (mvT hZ (own_at hw 45 rfl))) (mvT hZ (own_at hw 45 rfl)) (mvT hZ (own_at hw 44 rfl)) (by decide) (backOf (W := 0) (rm5 l Z a0 hw [] r0 bA kB sA kS oZ kZ cZ x0 x1 x2 h0 n0 Z0 E_r0 F_maxNames_r0 F_maxBytes_r0 F_count_r0 F_used_r0 F_bytes_r0 V_bA E_bA F_starts_r0 V_sA E_sA F_limit_r0 F_order_r0 V_oZ F_scratch_r0 ge_r0 ne_sA_r0 ne_bA_r0 ne_oZ_r0) hZ (own_at hw 46 rfl) (own_at hw 2 rfl) (by decide) (by decide)) q1a q1c (g := (mkF m 1 #[rv r0, .unset, .unset, .unset, .unset, .unset, .unset] [(.ref r0)])) rfl (by rw [hml]; rfl) (Steps.refl _) (argsL := []) (rest := []) (lenOf pd_9 rfl) rfl (Nat.le_refl _) (hb hby d4_1) (fun _ _ => ⟨rfl, e0, (by decide : 0 + 2 ≤ _), (by decide : 0 + 512 ≤ _)⟩)
  dsimp only [Pt.U, Pt.locs, Pt.cells, Pt.slots] at X1 l1 y1 z1 st1 hQ1
  subst l1 y1 z1
  have k2 : ∀ t, OwnS p e below s₁ (mkF m 1 #[rv r0, .unset, .unset, .unset, .unset, .unset, .unset] [(.ref r0)]) t → OwnS p e below s₁ (entryFrame m #[(.ref r0)] 7) t := fun t q => by
    refine k0 t ?_
    show OwnS p e below s₁ (mkF m 0 #[rv r0, .unset, .unset, .unset, .unset, .unset, .unset] []) _
    refine XS.aloadN X0.here hx rfl (hb hby d4_0) rfl rfl ?_
    exact q
  rcases hQ1 with ⟨oA_1, kO_1, cA_1, kC_1, rfl, N1q, K1, p1_0, p1_1, p1_2, p1_3, p1_4, p1_5, p1_6, p1_7, p1_8, p1_9, p1_10, p1_11, p1_12, p1_13, p1_14, p1_15⟩ | ⟨oA_1, kO_1, cA_1, kC_1, rfl, N1q, K1, p1_0, p1_1, p1_2, p1_3, p1_4, p1_5, p1_6, p1_7, p1_8, p1_9, p1_10, p1_11, p1_12, p1_13, p1_14, p1_15⟩ | ⟨oA_1, kO_1, cA_1, kC_1, rfl, N1q, K1, p1_0, p1_1, p1_2, p1_3, p1_4, p1_5, p1_6, p1_7, p1_8, p1_9, p1_10, p1_11, p1_12, p1_13, p1_14, p1_15⟩ | ⟨oA_1, kO_1, cA_1, kC_1, rfl, N1q, K1, p1_0, p1_1, p1_2, p1_3, p1_4, p1_5, p1_6, p1_7, p1_8, p1_9, p1_10, p1_11, p1_12, p1_13, p1_14, p1_15⟩ | ⟨oA_1, kO_1, cA_1, kC_1, rfl, N1q, K1, p1_0, p1_1, p1_2, p1_3, p1_4, p1_5, p1_6, p1_7, p1_8, p1_9, p1_10, p1_11, p1_12, p1_13, p1_14, p1_15⟩ | ⟨oA_1, kO_1, cA_1, kC_1, rfl, N1q, K1, p1_0, p1_1, p1_2, p1_3, p1_4, p1_5, p1_6, p1_7, p1_8, p1_9, p1_10, p1_11, p1_12, p1_13, p1_14, p1_15⟩
  · have pl1 := (allS (P := fun x => ∃ cell : Cell, h0[x]? = some cell ∧ cell.vm.isStatics = false) (own_ns E_r0) all0)
    have g_oA_1 : n0 ≤ oA_1 := Nat.le_trans Z0 p1_0
    have sz_oA_1 : h0.size ≤ oA_1 := Nat.le_trans (Keep.refl h0 []).1 p1_0
    have g_cA_1 : n0 ≤ cA_1 := Nat.le_trans Z0 p1_1
    have sz_cA_1 : h0.size ≤ cA_1 := Nat.le_trans (Keep.refl h0 []).1 p1_1
    have N1 := Fr.app N0 N1q
    obtain ⟨T3, X3, e3, st3⟩ := getF X1 hx hZ hown (host := "") (Or.inl (own_at hw 30 rfl)) Via.refl rfl p1_3 (g := (mkF m 5 #[rv r0, .unset, .unset, .unset, .unset, .unset, .unset] [(.ref r0)])) rfl rfl (hb hby d4_5)
    obtain ⟨T4, X4, e4, st4⟩ := getF X3 hx hZ hown (host := "") (Or.inl (own_at hw 10 rfl)) Via.refl e3 p1_8 (g := (mkF m 13 #[rv r0, iv 1, .unset, .unset, .unset, .unset, .unset] [(.ref r0), (.ref r0)])) rfl rfl (hb hby d4_13)
    obtain ⟨T5, X5, e5, st5⟩ := getF X4 hx hZ hown (host := "") (Or.inl (own_at hw 13 rfl)) Via.refl e4 p1_9 (g := (mkF m 17 #[rv r0, iv 1, .unset, .unset, .unset, .unset, .unset] [(.ref r0), (.ref bA), (.ref r0)])) rfl rfl (hb hby d4_17)
    obtain ⟨T6, X6, e6, st6⟩ := getF X5 hx hZ hown (host := "") (Or.inl (own_at hw 15 rfl)) Via.refl e5 p1_10 (g := (mkF m 21 #[rv r0, iv 1, .unset, .unset, .unset, .unset, .unset] [(.ref r0), (.ref sA), (.ref bA), (.ref r0)])) rfl rfl (hb hby d4_21)
    obtain ⟨cl_z7, Ar_z7, q_z7, S_z7, N_z7, H_z7, G_z7⟩ := id p1_11
    have hin8 : ¬ ((1 : Int32) < 0 ∨ cl_z7.slots.size ≤ ((1 : Int32)).toNatClampNeg) := inb_of S_z7 ⟨by decide, by decide⟩
    have f9 := (V_sA.keep K1 (ninS ne_sA_r0 nin0))
    obtain ⟨cl_z10, Ar_z10, q_z10, S_z10, N_z10, H_z10, G_z10⟩ := id f9
    have hin11 : ¬ ((1 : Int32) < 0 ∨ cl_z10.slots.size ≤ ((1 : Int32)).toNatClampNeg) := inb_of S_z10 ⟨by decide, by decide⟩
    obtain ⟨T12, X12, e12, st12⟩ := getF X6 hx hZ hown (host := "") (Or.inl (own_at hw 15 rfl)) Via.refl e6 p1_10 (g := (mkF m 29 #[rv r0, iv 1, .unset, .unset, .unset, .unset, .unset] [(.ref r0), (.ref r0), (.int 1), (.ref bA), (.ref r0)])) rfl rfl (hb hby d4_29)
    have hin13 : ¬ ((1 : Int32) < 0 ∨ cl_z7.slots.size ≤ ((1 : Int32)).toNatClampNeg) := inb_of S_z7 ⟨by decide, by decide⟩
    have f15 := (E_r0.keep K1)
    obtain ⟨cq14, q14, q14'⟩ := f15.cell
    obtain ⟨_, _, ⟨T14, L14, j14, i14⟩, -, X14, ⟨Lc14, hQ14, l14, y14, z14⟩, st14⟩ := X12.privateBack hx (y := (⟨cS0, "end", "(I)I"⟩ : MethodName)) hown (mvT hZ (own_at hw 59 rfl)) (mvT hZ (own_at hw 60 rfl)) (own_selpriv (by decide) (mvT hZ (own_at hw 1 rfl)) (mvP hZ (own_at hw 61 rfl)) (mvT hZ (own_at hw 60 rfl))) (Cond.privateMethod_at (mvP hZ (own_at hw 61 rfl) (args := #[]))) (mvT hZ (own_at hw 62 rfl)) (by decide) (backOf (W := 3) (rm9_1 l Z a0 hw [] r0 sA kS T1.heap n0 (Nat.le_trans Z0 K1.1) f15 p1_3 p1_4 p1_9 f9) hZ (own_at hw 62 rfl) (own_at hw 2 rfl) (by decide) (by decide)) (g := (mkF m 34 #[rv r0, iv 1, .unset, .unset, .unset, .unset, .unset] [(.int 1), (.ref r0), (.int 1), (.ref bA), (.ref r0)])) rfl (by rw [hml]; rfl) (Steps.refl _) (a := r0) (by rw [e12]; exact q14) q14' (argsL := [(.int 1)]) (rest := [(.int 1), (.ref bA), (.ref r0)]) (lenOf pd_5 rfl) rfl (Nat.le_refl _) (hb hby d4_34) (fun _ _ => ⟨rfl, e12, (by decide : 2 + 0 ≤ _), (by decide : 512 + 0 ≤ _)⟩)
    dsimp only [Pt.U, Pt.locs, Pt.cells, Pt.slots] at X14 l14 y14 z14 st14 hQ14
    subst l14 y14 z14
    obtain ⟨rfl, N14q, e14⟩ := hQ14
    have N14 := Fr.app N1 N14q
    have f17 := (V_bA.keep K1 (ninS ne_bA_r0 nin0))
    obtain ⟨_, _, ⟨T16, L16, j16, i16⟩, -, X16, ⟨Lc16, hQ16, l16, y16, z16⟩, st16⟩ := Jvm.LawKit.callS X14 hx (y := (⟨cS1, "copyOfRange", "([BII)[B"⟩ : MethodName)) hown (mvT hZ (own_at hw 75 rfl)) (mvT hZ (own_at hw 76 rfl)) (mvT hZ (own_at hw 65 rfl)) (mvT hZ (own_at hw 77 rfl)) (by decide) (backOf (W := 1) (rm13_1 l Z a0 hw [] bA kB x0 x1 x2 T1.heap n0 (Nat.le_trans Z0 K1.1) f17) hZ (own_at hw 77 rfl) (own_at hw 65 rfl) (by decide) (by decide)) (g := (mkF m 37 #[rv r0, iv 1, .unset, .unset, .unset, .unset, .unset] [(.int 2), (.int 1), (.ref bA), (.ref r0)])) rfl (by rw [hml]; rfl) (argsL := [(.ref bA), (.int 1), (.int 2)]) (rest := [(.ref r0)]) (lenOf pd_8 rfl) rfl (Nat.le_refl _) (hb hby d4_37) (fun _ _ => ⟨rfl, e14, (by decide : 2 + 1 ≤ _), (by decide : 512 + 1 ≤ _)⟩)
    dsimp only [Pt.U, Pt.locs, Pt.cells, Pt.slots] at X16 l16 y16 z16 st16 hQ16
    subst l16 y16 z16
    have f18 := (V_oZ.keep K1 (ninS ne_oZ_r0 nin0))
    obtain ⟨ar_16, kk_16, rfl, N16q, K16, p16_0, p16_1, p16_2⟩ := hQ16
    have g_ar_16 : n0 ≤ ar_16 := Nat.le_trans (Nat.le_trans Z0 K1.1) p16_0
    have sz_ar_16 : h0.size ≤ ar_16 := Nat.le_trans ((Keep.refl h0 [r0]).trans K1 (allS (Or.inl (List.mem_of_getElem? (i := 0) rfl)) all0)).1 p16_0
    have N16 := Fr.app N14 N16q
    have f19 := (f15.keep K16)
    have f20 := (p1_7.keep K16 nin0)
    obtain ⟨T21, h21, X21, e21, W21, st21⟩ := putF X16 hx hZ hown (host := "") (Or.inl (own_at hw 28 rfl)) Via.refl rfl f20 f19 (Or.inl (own_at hw 29 rfl)) (own_at hw 1 rfl) (ty := (.array .byte)) (by decide) rfl rfl (g := (mkF m 40 #[rv r0, iv 1, .unset, .unset, .unset, .unset, .unset] [(.ref ar_16), (.ref r0)])) rfl rfl (hb hby d4_40)
    have Fw21 : Fld Z h21 r0 cS0 "limit" "[B" (.ref ar_16) := f20.same W21
    have N21 := Fr.snoc X21 N16 ge_r0
    have f22 := ((p1_3.keep K16 nin0).other W21 (Or.inr (slot_ne (Or.inl (own_at hw 31 rfl)) (Or.inl (own_at hw 29 rfl)) (by decide) (t := .int) (t' := (.array .byte)) (by decide) (by decide))))
    obtain ⟨T23, X23, e23, st23⟩ := getF X21 hx hZ hown (host := "") (Or.inl (own_at hw 30 rfl)) Via.refl e21 f22 (g := (mkF m 47 #[rv r0, iv 1, iv 0, .unset, .unset, .unset, .unset] [(.ref r0), (.int 0)])) rfl rfl (hb hby d4_47)
    have f24 := ((p1_13.keep K16 nin0).other W21 (Or.inr (slot_ne (Or.inl (own_at hw 18 rfl)) (Or.inl (own_at hw 29 rfl)) (by decide) (t := (.array .int)) (t' := (.array .byte)) (by decide) (by decide))))
    obtain ⟨T25, X25, e25, st25⟩ := getF X23 hx hZ hown (host := "") (Or.inl (own_at hw 17 rfl)) Via.refl e23 f24 (g := (mkF m 54 #[rv r0, iv 1, iv 0, .unset, .unset, .unset, .unset] [(.ref r0)])) rfl rfl (hb hby d4_54)
    have f26 := ((p1_10.keep K16 nin0).other W21 (Or.inr (slot_ne (Or.inl (own_at hw 16 rfl)) (Or.inl (own_at hw 29 rfl)) (by decide) (t := (.array .int)) (t' := (.array .byte)) (by decide) (by decide))))
    obtain ⟨T27, X27, e27, st27⟩ := getF X25 hx hZ hown (host := "") (Or.inl (own_at hw 15 rfl)) Via.refl e25 f26 (g := (mkF m 58 #[rv r0, iv 1, iv 0, .unset, .unset, .unset, .unset] [(.ref r0), (.ref cA_1)])) rfl rfl (hb hby d4_58)
    have f28 := ((p1_11.keep K16 nin0).other W21 (Ne.symm (Nat.ne_of_lt (Nat.lt_of_lt_of_le E_r0.lt p1_0))))
    obtain ⟨cl_z29, Ar_z29, q_z29, S_z29, N_z29, H_z29, G_z29⟩ := id f28
    have hin30 : ¬ ((0 : Int32) < 0 ∨ cl_z29.slots.size ≤ ((0 : Int32)).toNatClampNeg) := inb_of S_z29 ⟨by decide, by decide⟩
    have f31 := ((p1_14.keep K16 nin0).other W21 (Ne.symm (Nat.ne_of_lt (Nat.lt_of_lt_of_le E_r0.lt p1_1))))
    obtain ⟨cl_z32, Ar_z32, q_z32, S_z32, N_z32, H_z32, G_z32⟩ := id f31
    have hin33 : ¬ ((2 : Int32) < 0 ∨ cl_z32.slots.size ≤ ((2 : Int32)).toNatClampNeg) := inb_of S_z32 ⟨by decide, by decide⟩
    obtain ⟨T34, h34, X34, e34, W34, st34⟩ := stI X27 hx hZ e27 Ar_z32 (j := (2 : Int32)) hin33 (g := (mkF m 64 #[rv r0, iv 1, iv 0, .unset, .unset, .unset, .unset] [(.int 0), (.int 2), (.ref cA_1)])) rfl rfl (hb hby d4_64)
    have V34 : Arv Z h34 cA_1 kC_1 .int (256 : Int32) [(.int 1), (.int 0), (.int 0)] (.int 0) := Arv.set Ar_z32 q_z32 S_z32 N_z32 H_z32 G_z32 rfl W34 2 rfl (Nat.le_of_ble_eq_true rfl)
    have N34 := Fr.snoc X34 N21 g_cA_1
    have f35 := (f22.other W34 (Or.inl (Nat.ne_of_lt (Nat.lt_of_lt_of_le E_r0.lt p1_1))))
    obtain ⟨T36, X36, e36, st36⟩ := getF X34 hx hZ hown (host := "") (Or.inl (own_at hw 30 rfl)) Via.refl e34 f35 (g := (mkF m 47 #[rv r0, iv 1, iv ((0 : Int32) + (1 : Int32)), .unset, .unset, .unset, .unset] [(.ref r0), (.int 1)])) rfl rfl (hb hby d4_47)
    have f37 := (f24.other W34 (Or.inl (Nat.ne_of_lt (Nat.lt_of_lt_of_le E_r0.lt p1_1))))
    obtain ⟨T38, X38, e38, st38⟩ := getF X36 hx hZ hown (host := "") (Or.inl (own_at hw 17 rfl)) Via.refl e36 f37 (g := (mkF m 54 #[rv r0, iv 1, iv ((0 : Int32) + (1 : Int32)), .unset, .unset, .unset, .unset] [(.ref r0)])) rfl rfl (hb hby d4_54)
    have f39 := (f26.other W34 (Or.inl (Nat.ne_of_lt (Nat.lt_of_lt_of_le E_r0.lt p1_1))))
    obtain ⟨T40, X40, e40, st40⟩ := getF X38 hx hZ hown (host := "") (Or.inl (own_at hw 15 rfl)) Via.refl e38 f39 (g := (mkF m 58 #[rv r0, iv 1, iv ((0 : Int32) + (1 : Int32)), .unset, .unset, .unset, .unset] [(.ref r0), (.ref cA_1)])) rfl rfl (hb hby d4_58)
    have f41 := (f28.other W34 p1_2)
    obtain ⟨cl_z42, Ar_z42, q_z42, S_z42, N_z42, H_z42, G_z42⟩ := id f41
    have hin43 : ¬ ((1 : Int32) < 0 ∨ cl_z42.slots.size ≤ ((1 : Int32)).toNatClampNeg) := inb_of S_z42 ⟨by decide, by decide⟩
    obtain ⟨cl_z44, Ar_z44, q_z44, S_z44, N_z44, H_z44, G_z44⟩ := id V34
    have hin45 : ¬ ((1 : Int32) < 0 ∨ cl_z44.slots.size ≤ ((1 : Int32)).toNatClampNeg) := inb_of S_z44 ⟨by decide, by decide⟩
    obtain ⟨T46, h46, X46, e46, W46, st46⟩ := stI X40 hx hZ e40 Ar_z44 (j := (1 : Int32)) hin45 (g := (mkF m 64 #[rv r0, iv 1, iv ((0 : Int32) + (1 : Int32)), .unset, .unset, .unset, .unset] [(.int 1), (.int 1), (.ref cA_1)])) rfl rfl (hb hby d4_64)
    have V46 : Arv Z h46 cA_1 kC_1 .int (256 : Int32) [(.int 1), (.int 1), (.int 0)] (.int 0) := Arv.set Ar_z44 q_z44 S_z44 N_z44 H_z44 G_z44 rfl W46 1 rfl (Nat.le_of_ble_eq_true rfl)
    have N46 := Fr.snoc X46 N34 g_cA_1
    have f47 := (f35.other W46 (Or.inl (Nat.ne_of_lt (Nat.lt_of_lt_of_le E_r0.lt p1_1))))
    obtain ⟨T48, X48, e48, st48⟩ := getF X46 hx hZ hown (host := "") (Or.inl (own_at hw 30 rfl)) Via.refl e46 f47 (g := (mkF m 47 #[rv r0, iv 1, iv (((0 : Int32) + (1 : Int32)) + (1 : Int32)), .unset, .unset, .unset, .unset] [(.ref r0), (.int 2)])) rfl rfl (hb hby d4_47)
    have f49 := (f37.other W46 (Or.inl (Nat.ne_of_lt (Nat.lt_of_lt_of_le E_r0.lt p1_1))))
    obtain ⟨T50, X50, e50, st50⟩ := getF X48 hx hZ hown (host := "") (Or.inl (own_at hw 17 rfl)) Via.refl e48 f49 (g := (mkF m 54 #[rv r0, iv 1, iv (((0 : Int32) + (1 : Int32)) + (1 : Int32)), .unset, .unset, .unset, .unset] [(.ref r0)])) rfl rfl (hb hby d4_54)
    have f51 := (f39.other W46 (Or.inl (Nat.ne_of_lt (Nat.lt_of_lt_of_le E_r0.lt p1_1))))
    obtain ⟨T52, X52, e52, st52⟩ := getF X50 hx hZ hown (host := "") (Or.inl (own_at hw 15 rfl)) Via.refl e50 f51 (g := (mkF m 58 #[rv r0, iv 1, iv (((0 : Int32) + (1 : Int32)) + (1 : Int32)), .unset, .unset, .unset, .unset] [(.ref r0), (.ref cA_1)])) rfl rfl (hb hby d4_58)
    have f53 := (f41.other W46 p1_2)
    obtain ⟨cl_z54, Ar_z54, q_z54, S_z54, N_z54, H_z54, G_z54⟩ := id f53
    have hin55 : ¬ ((2 : Int32) < 0 ∨ cl_z54.slots.size ≤ ((2 : Int32)).toNatClampNeg) := inb_of S_z54 ⟨by decide, by decide⟩
    obtain ⟨cl_z56, Ar_z56, q_z56, S_z56, N_z56, H_z56, G_z56⟩ := id V46
    have hin57 : ¬ ((0 : Int32) < 0 ∨ cl_z56.slots.size ≤ ((0 : Int32)).toNatClampNeg) := inb_of S_z56 ⟨by decide, by decide⟩
    obtain ⟨T58, h58, X58, e58, W58, st58⟩ := stI X52 hx hZ e52 Ar_z56 (j := (0 : Int32)) hin57 (g := (mkF m 64 #[rv r0, iv 1, iv (((0 : Int32) + (1 : Int32)) + (1 : Int32)), .unset, .unset, .unset, .unset] [(.int 2), (.int 0), (.ref cA_1)])) rfl rfl (hb hby d4_64)
    have V58 : Arv Z h58 cA_1 kC_1 .int (256 : Int32) [(.int 2), (.int 1), (.int 0)] (.int 0) := Arv.set Ar_z56 q_z56 S_z56 N_z56 H_z56 G_z56 rfl W58 0 rfl (Nat.le_of_ble_eq_true rfl)
    have N58 := Fr.snoc X58 N46 g_cA_1
    have f59 := (f47.other W58 (Or.inl (Nat.ne_of_lt (Nat.lt_of_lt_of_le E_r0.lt p1_1))))
    obtain ⟨T60, X60, e60, st60⟩ := getF X58 hx hZ hown (host := "") (Or.inl (own_at hw 30 rfl)) Via.refl e58 f59 (g := (mkF m 47 #[rv r0, iv 1, iv ((((0 : Int32) + (1 : Int32)) + (1 : Int32)) + (1 : Int32)), .unset, .unset, .unset, .unset] [(.ref r0), (.int 3)])) rfl rfl (hb hby d4_47)
    obtain ⟨T61, X61, e61, st61⟩ := getF X60 hx hZ hown (host := "") (Or.inl (own_at hw 30 rfl)) Via.refl e60 f59 (g := (mkF m 81 #[rv r0, iv 1, iv 0, iv 0, iv 0, .unset, .unset] [(.ref r0), (.int 0)])) rfl rfl (hb hby d4_81)
    have f62 := (f49.other W58 (Or.inl (Nat.ne_of_lt (Nat.lt_of_lt_of_le E_r0.lt p1_1))))
    obtain ⟨T63, X63, e63, st63⟩ := getF X61 hx hZ hown (host := "") (Or.inl (own_at hw 17 rfl)) Via.refl e61 f62 (g := (mkF m 88 #[rv r0, iv 1, iv 0, iv 0, iv 0, .unset, .unset] [(.ref r0)])) rfl rfl (hb hby d4_88)
    obtain ⟨cl_z64, Ar_z64, q_z64, S_z64, N_z64, H_z64, G_z64⟩ := id V58
    have hin65 : ¬ ((0 : Int32) < 0 ∨ cl_z64.slots.size ≤ ((0 : Int32)).toNatClampNeg) := inb_of S_z64 ⟨by decide, by decide⟩
    obtain ⟨T66, X66, e66, st66⟩ := getF X63 hx hZ hown (host := "") (Or.inl (own_at hw 30 rfl)) Via.refl e63 f59 (g := (mkF m 81 #[rv r0, iv 1, iv 0, iv 0, iv ((0 : Int32) + (1 : Int32)), .unset, .unset] [(.ref r0), (.int 1)])) rfl rfl (hb hby d4_81)
    obtain ⟨T67, X67, e67, st67⟩ := getF X66 hx hZ hown (host := "") (Or.inl (own_at hw 17 rfl)) Via.refl e66 f62 (g := (mkF m 88 #[rv r0, iv 1, iv 0, iv 0, iv ((0 : Int32) + (1 : Int32)), .unset, .unset] [(.ref r0)])) rfl rfl (hb hby d4_88)
    have hin68 : ¬ ((1 : Int32) < 0 ∨ cl_z64.slots.size ≤ ((1 : Int32)).toNatClampNeg) := inb_of S_z64 ⟨by decide, by decide⟩
    obtain ⟨T69, X69, e69, st69⟩ := getF X67 hx hZ hown (host := "") (Or.inl (own_at hw 30 rfl)) Via.refl e67 f59 (g := (mkF m 81 #[rv r0, iv 1, iv 0, iv 0, iv (((0 : Int32) + (1 : Int32)) + (1 : Int32)), .unset, .unset] [(.ref r0), (.int 2)])) rfl rfl (hb hby d4_81)
    obtain ⟨T70, X70, e70, st70⟩ := getF X69 hx hZ hown (host := "") (Or.inl (own_at hw 17 rfl)) Via.refl e69 f62 (g := (mkF m 88 #[rv r0, iv 1, iv 0, iv 0, iv (((0 : Int32) + (1 : Int32)) + (1 : Int32)), .unset, .unset] [(.ref r0)])) rfl rfl (hb hby d4_88)
    have hin71 : ¬ ((2 : Int32) < 0 ∨ cl_z64.slots.size ≤ ((2 : Int32)).toNatClampNeg) := inb_of S_z64 ⟨by decide, by decide⟩
    have f72 := (((((p1_9.keep K16 nin0).other W21 (Or.inr (slot_ne (Or.inl (own_at hw 14 rfl)) (Or.inl (own_at hw 29 rfl)) (by decide) (t := (.array .int)) (t' := (.array .byte)) (by decide) (by decide)))).other W34 (Or.inl (Nat.ne_of_lt (Nat.lt_of_lt_of_le E_r0.lt p1_1)))).other W46 (Or.inl (Nat.ne_of_lt (Nat.lt_of_lt_of_le E_r0.lt p1_1)))).other W58 (Or.inl (Nat.ne_of_lt (Nat.lt_of_lt_of_le E_r0.lt p1_1))))
    obtain ⟨T73, X73, e73, st73⟩ := getF X70 hx hZ hown (host := "") (Or.inl (own_at hw 13 rfl)) Via.refl e70 f72 (g := (mkF m 99 #[rv r0, iv 1, iv 0, iv 0, iv (((0 : Int32) + (1 : Int32)) + (1 : Int32)), .unset, .unset] [(.ref r0)])) rfl rfl (hb hby d4_99)
    have f74 := (((((f9.keep K16 nin0).other W21 ne_sA_r0).other W34 (Nat.ne_of_lt (Nat.lt_of_lt_of_le V_sA.lt p1_1))).other W46 (Nat.ne_of_lt (Nat.lt_of_lt_of_le V_sA.lt p1_1))).other W58 (Nat.ne_of_lt (Nat.lt_of_lt_of_le V_sA.lt p1_1)))
    obtain ⟨cl_z75, Ar_z75, q_z75, S_z75, N_z75, H_z75, G_z75⟩ := id f74
    have hin76 : ¬ ((2 : Int32) < 0 ∨ cl_z75.slots.size ≤ ((2 : Int32)).toNatClampNeg) := inb_of S_z75 ⟨by decide, by decide⟩
    have f78 := ((((f19.wr W21).wr W34).wr W46).wr W58)
    have f79 := (((((p1_4.keep K16 nin0).other W21 (Or.inr (slot_ne (Or.inl (own_at hw 33 rfl)) (Or.inl (own_at hw 29 rfl)) (by decide) (t := .int) (t' := (.array .byte)) (by decide) (by decide)))).other W34 (Or.inl (Nat.ne_of_lt (Nat.lt_of_lt_of_le E_r0.lt p1_1)))).other W46 (Or.inl (Nat.ne_of_lt (Nat.lt_of_lt_of_le E_r0.lt p1_1)))).other W58 (Or.inl (Nat.ne_of_lt (Nat.lt_of_lt_of_le E_r0.lt p1_1))))
    obtain ⟨cq77, q77, q77'⟩ := f78.cell
    obtain ⟨_, _, ⟨T77, L77, j77, i77⟩, -, X77, ⟨Lc77, hQ77, l77, y77, z77⟩, st77⟩ := X73.privateBack hx (y := (⟨cS0, "end", "(I)I"⟩ : MethodName)) hown (mvT hZ (own_at hw 59 rfl)) (mvT hZ (own_at hw 60 rfl)) (own_selpriv (by decide) (mvT hZ (own_at hw 1 rfl)) (mvP hZ (own_at hw 61 rfl)) (mvT hZ (own_at hw 60 rfl))) (Cond.privateMethod_at (mvP hZ (own_at hw 61 rfl) (args := #[]))) (mvT hZ (own_at hw 62 rfl)) (by decide) (backOf (W := 0) (rm9_2 l Z a0 hw [] r0 sA kS h58 n0 (Nat.le_trans (Nat.le_trans (Nat.le_trans (Nat.le_trans (Nat.le_trans (Nat.le_trans Z0 K1.1) K16.1) (Keep.of_wr W21).1) (Keep.of_wr W34).1) (Keep.of_wr W46).1) (Keep.of_wr W58).1) f78 f59 f79 f72 f74) hZ (own_at hw 62 rfl) (own_at hw 2 rfl) (by decide) (by decide)) (g := (mkF m 110 #[rv r0, iv 1, iv 0, iv 0, iv (((0 : Int32) + (1 : Int32)) + (1 : Int32)), iv 2, .unset] [(.int 2), (.ref r0)])) rfl (by rw [hml]; rfl) (Steps.refl _) (a := r0) (by rw [e73]; exact q77) q77' (argsL := [(.int 2)]) (rest := []) (lenOf pd_5 rfl) rfl (Nat.le_refl _) (hb hby d4_110) (fun _ _ => ⟨rfl, e73, (by decide : 3 + 0 ≤ _), (by decide : 513 + 0 ≤ _)⟩)
    dsimp only [Pt.U, Pt.locs, Pt.cells, Pt.slots] at X77 l77 y77 z77 st77 hQ77
    subst l77 y77 z77
    obtain ⟨rfl, N77q, e77⟩ := hQ77
    have N77 := Fr.app N58 N77q
    have f80 := (((((p1_8.keep K16 nin0).other W21 (Or.inr (slot_ne (Or.inl (own_at hw 11 rfl)) (Or.inl (own_at hw 29 rfl)) (by decide) (t := (.array .byte)) (t' := (.array .byte)) (by decide) (by decide)))).other W34 (Or.inl (Nat.ne_of_lt (Nat.lt_of_lt_of_le E_r0.lt p1_1)))).other W46 (Or.inl (Nat.ne_of_lt (Nat.lt_of_lt_of_le E_r0.lt p1_1)))).other W58 (Or.inl (Nat.ne_of_lt (Nat.lt_of_lt_of_le E_r0.lt p1_1))))
    obtain ⟨T81, X81, e81, st81⟩ := getF X77 hx hZ hown (host := "") (Or.inl (own_at hw 10 rfl)) Via.refl e77 f80 (g := (mkF m 119 #[rv r0, iv 1, iv 0, iv 0, iv (((0 : Int32) + (1 : Int32)) + (1 : Int32)), iv 2, iv 1] [(.ref r0)])) rfl rfl (hb hby d4_119)
    obtain ⟨T82, X82, e82, st82⟩ := getF X81 hx hZ hown (host := "") (Or.inl (own_at hw 10 rfl)) Via.refl e81 f80 (g := (mkF m 125 #[rv r0, iv 1, iv 0, iv 0, iv (((0 : Int32) + (1 : Int32)) + (1 : Int32)), iv 2, iv 1] [(.ref r0), (.int 2), (.ref bA)])) rfl rfl (hb hby d4_125)
    have f83 := (((((f17.keep K16 nin0).other W21 ne_bA_r0).other W34 (Nat.ne_of_lt (Nat.lt_of_lt_of_le V_bA.lt p1_1))).other W46 (Nat.ne_of_lt (Nat.lt_of_lt_of_le V_bA.lt p1_1))).other W58 (Nat.ne_of_lt (Nat.lt_of_lt_of_le V_bA.lt p1_1)))
    have f84 := ((((((E_bA.keep K1).keep K16).wr W21).wr W34).wr W46).wr W58)
    obtain ⟨T85, h85, L85, X85, e85, N85, K85, Vr85, st85⟩ := cpA X82 hx hZ hown (own_at hw 34 rfl) (own_at hw 37 rfl) (own_at hw 35 rfl) (own_at hw 36 rfl) e82 f83 f83 (us := [(.int x2)]) (Or.inl ⟨rfl, rfl⟩) (by decide) (by decide) (by decide) (by decide) (by decide) rfl (Nat.le_of_ble_eq_true rfl) N77 ge_bA (g := (mkF m 131 #[rv r0, iv 1, iv 0, iv 0, iv (((0 : Int32) + (1 : Int32)) + (1 : Int32)), iv 2, iv 1] [(.int 1), (.int 0), (.ref bA), (.int 2), (.ref bA)])) rfl (by rw [hml]; rfl) rfl (hb hby d4_131) (by decide) (W := 0) (Nat.le_refl _) (by decide)
    have pl85 := (allS (P := fun x => ∃ cell : Cell, h58[x]? = some cell ∧ cell.vm.isStatics = false) (own_ns f84) all0)
    have V85 : Arv Z h85 bA kB .byte (4096 : Int32) [(.int x2), (.int x1), (.int x2)] (.int 0) := Vr85
    have f86 := (f72.keep K85 (ninS ne_r0_bA nin0))
    obtain ⟨T87, X87, e87, st87⟩ := getF X85 hx hZ hown (host := "") (Or.inl (own_at hw 13 rfl)) Via.refl e85 f86 (g := (mkF m 135 #[rv r0, iv 1, iv 0, iv 0, iv (((0 : Int32) + (1 : Int32)) + (1 : Int32)), iv 2, iv 1] [(.ref r0)])) rfl rfl (hb hby d4_135)
    have f88 := (f74.keep K85 (ninS ne_sA_bA nin0))
    obtain ⟨cl_z89, Ar_z89, q_z89, S_z89, N_z89, H_z89, G_z89⟩ := id f88
    have hin90 : ¬ ((0 : Int32) < 0 ∨ cl_z89.slots.size ≤ ((0 : Int32)).toNatClampNeg) := inb_of S_z89 ⟨by decide, by decide⟩
    obtain ⟨T91, h91, X91, e91, W91, st91⟩ := stI X87 hx hZ e87 Ar_z89 (j := (0 : Int32)) hin90 (g := (mkF m 143 #[rv r0, iv 1, iv ((0 : Int32) + (1 : Int32)), iv 0, iv (((0 : Int32) + (1 : Int32)) + (1 : Int32)), iv 2, iv 1] [(.int 0), (.int 0), (.ref sA)])) rfl rfl (hb hby d4_143)
    have V91 : Arv Z h91 sA kS .int (256 : Int32) [(.int 0), (.int 1), (.int 2)] (.int 0) := Arv.set Ar_z89 q_z89 S_z89 N_z89 H_z89 G_z89 rfl W91 0 rfl (Nat.le_of_ble_eq_true rfl)
    have N91 := Fr.snoc X91 N85 ge_sA
    have f92 := ((f59.keep K85 (ninS ne_r0_bA nin0)).other W91 (Or.inl ne_r0_sA))
    obtain ⟨T93, X93, e93, st93⟩ := getF X91 hx hZ hown (host := "") (Or.inl (own_at hw 30 rfl)) Via.refl e91 f92 (g := (mkF m 81 #[rv r0, iv 1, iv ((0 : Int32) + (1 : Int32)), iv 1, iv ((((0 : Int32) + (1 : Int32)) + (1 : Int32)) + (1 : Int32)), iv 2, iv 1] [(.ref r0), (.int 3)])) rfl rfl (hb hby d4_81)
    have f94 := ((f78.keep K85).wr W91)
    obtain ⟨T95, h95, X95, e95, W95, st95⟩ := putF X93 hx hZ hown (host := "") (Or.inl (own_at hw 30 rfl)) Via.refl e93 f92 f94 (Or.inl (own_at hw 31 rfl)) (own_at hw 1 rfl) (ty := .int) (by decide) rfl rfl (g := (mkF m 157 #[rv r0, iv 1, iv ((0 : Int32) + (1 : Int32)), iv 1, iv ((((0 : Int32) + (1 : Int32)) + (1 : Int32)) + (1 : Int32)), iv 2, iv 1] [(.int 1), (.ref r0)])) rfl rfl (hb hby d4_157)
    have Fw95 : Fld Z h95 r0 cS0 "count" "I" (.int 1) := f92.same W95
    have N95 := Fr.snoc X95 N91 ge_r0
    have f96 := (f94.wr W95)
    have f97 := (((f79.keep K85 (ninS ne_r0_bA nin0)).other W91 (Or.inl ne_r0_sA)).other W95 (Or.inr (slot_ne (Or.inl (own_at hw 33 rfl)) (Or.inl (own_at hw 31 rfl)) (by decide) (t := .int) (t' := .int) (by decide) (by decide))))
    obtain ⟨T98, h98, X98, e98, W98, st98⟩ := putF X95 hx hZ hown (host := "") (Or.inl (own_at hw 32 rfl)) Via.refl e95 f97 f96 (Or.inl (own_at hw 33 rfl)) (own_at hw 1 rfl) (ty := .int) (by decide) rfl rfl (g := (mkF m 162 #[rv r0, iv 1, iv ((0 : Int32) + (1 : Int32)), iv 1, iv ((((0 : Int32) + (1 : Int32)) + (1 : Int32)) + (1 : Int32)), iv 2, iv 1] [(.int 1), (.ref r0)])) rfl rfl (hb hby d4_162)
    have Fw98 : Fld Z h98 r0 cS0 "used" "I" (.int 1) := f97.same W98
    have N98 := Fr.snoc X98 N95 ge_r0
    have f99 := (f96.wr W98)
    have f100 := (((((((((p1_5.keep K16 nin0).other W21 (Or.inr (slot_ne (Or.inr (own_at hw 20 rfl)) (Or.inl (own_at hw 29 rfl)) (by decide) (t := .int) (t' := (.array .byte)) (by decide) (by decide)))).other W34 (Or.inl (Nat.ne_of_lt (Nat.lt_of_lt_of_le E_r0.lt p1_1)))).other W46 (Or.inl (Nat.ne_of_lt (Nat.lt_of_lt_of_le E_r0.lt p1_1)))).other W58 (Or.inl (Nat.ne_of_lt (Nat.lt_of_lt_of_le E_r0.lt p1_1)))).keep K85 (ninS ne_r0_bA nin0)).other W91 (Or.inl ne_r0_sA)).other W95 (Or.inr (slot_ne (Or.inr (own_at hw 20 rfl)) (Or.inl (own_at hw 31 rfl)) (by decide) (t := .int) (t' := .int) (by decide) (by decide)))).other W98 (Or.inr (slot_ne (Or.inr (own_at hw 20 rfl)) (Or.inl (own_at hw 33 rfl)) (by decide) (t := .int) (t' := .int) (by decide) (by decide))))
    have f101 := (((((((((p1_6.keep K16 nin0).other W21 (Or.inr (slot_ne (Or.inr (own_at hw 22 rfl)) (Or.inl (own_at hw 29 rfl)) (by decide) (t := .int) (t' := (.array .byte)) (by decide) (by decide)))).other W34 (Or.inl (Nat.ne_of_lt (Nat.lt_of_lt_of_le E_r0.lt p1_1)))).other W46 (Or.inl (Nat.ne_of_lt (Nat.lt_of_lt_of_le E_r0.lt p1_1)))).other W58 (Or.inl (Nat.ne_of_lt (Nat.lt_of_lt_of_le E_r0.lt p1_1)))).keep K85 (ninS ne_r0_bA nin0)).other W91 (Or.inl ne_r0_sA)).other W95 (Or.inr (slot_ne (Or.inr (own_at hw 22 rfl)) (Or.inl (own_at hw 31 rfl)) (by decide) (t := .int) (t' := .int) (by decide) (by decide)))).other W98 (Or.inr (slot_ne (Or.inr (own_at hw 22 rfl)) (Or.inl (own_at hw 33 rfl)) (by decide) (t := .int) (t' := .int) (by decide) (by decide))))
    have f102 := (Fw95.other W98 (Or.inr (slot_ne (Or.inl (own_at hw 31 rfl)) (Or.inl (own_at hw 33 rfl)) (by decide) (t := .int) (t' := .int) (by decide) (by decide))))
    have f103 := (((((((Fw21.other W34 (Or.inl (Nat.ne_of_lt (Nat.lt_of_lt_of_le E_r0.lt p1_1)))).other W46 (Or.inl (Nat.ne_of_lt (Nat.lt_of_lt_of_le E_r0.lt p1_1)))).other W58 (Or.inl (Nat.ne_of_lt (Nat.lt_of_lt_of_le E_r0.lt p1_1)))).keep K85 (ninS ne_r0_bA nin0)).other W91 (Or.inl ne_r0_sA)).other W95 (Or.inr (slot_ne (Or.inl (own_at hw 29 rfl)) (Or.inl (own_at hw 31 rfl)) (by decide) (t := (.array .byte)) (t' := .int) (by decide) (by decide)))).other W98 (Or.inr (slot_ne (Or.inl (own_at hw 29 rfl)) (Or.inl (own_at hw 33 rfl)) (by decide) (t := (.array .byte)) (t' := .int) (by decide) (by decide))))
    have f104 := ((((f80.keep K85 (ninS ne_r0_bA nin0)).other W91 (Or.inl ne_r0_sA)).other W95 (Or.inr (slot_ne (Or.inl (own_at hw 11 rfl)) (Or.inl (own_at hw 31 rfl)) (by decide) (t := (.array .byte)) (t' := .int) (by decide) (by decide)))).other W98 (Or.inr (slot_ne (Or.inl (own_at hw 11 rfl)) (Or.inl (own_at hw 33 rfl)) (by decide) (t := (.array .byte)) (t' := .int) (by decide) (by decide))))
    have f105 := (((V85.other W91 ne_bA_sA).other W95 ne_bA_r0).other W98 ne_bA_r0)
    have f106 := ((((f84.keep K85).wr W91).wr W95).wr W98)
    have f107 := (((f86.other W91 (Or.inl ne_r0_sA)).other W95 (Or.inr (slot_ne (Or.inl (own_at hw 14 rfl)) (Or.inl (own_at hw 31 rfl)) (by decide) (t := (.array .int)) (t' := .int) (by decide) (by decide)))).other W98 (Or.inr (slot_ne (Or.inl (own_at hw 14 rfl)) (Or.inl (own_at hw 33 rfl)) (by decide) (t := (.array .int)) (t' := .int) (by decide) (by decide))))
    have f108 := ((V91.other W95 ne_sA_r0).other W98 ne_sA_r0)
    have f109 := ((((((((((E_sA.keep K1).keep K16).wr W21).wr W34).wr W46).wr W58).keep K85).wr W91).wr W95).wr W98)
    have f110 := (((((f51.other W58 (Or.inl (Nat.ne_of_lt (Nat.lt_of_lt_of_le E_r0.lt p1_1)))).keep K85 (ninS ne_r0_bA nin0)).other W91 (Or.inl ne_r0_sA)).other W95 (Or.inr (slot_ne (Or.inl (own_at hw 16 rfl)) (Or.inl (own_at hw 31 rfl)) (by decide) (t := (.array .int)) (t' := .int) (by decide) (by decide)))).other W98 (Or.inr (slot_ne (Or.inl (own_at hw 16 rfl)) (Or.inl (own_at hw 33 rfl)) (by decide) (t := (.array .int)) (t' := .int) (by decide) (by decide))))
    have f111 := ((((f62.keep K85 (ninS ne_r0_bA nin0)).other W91 (Or.inl ne_r0_sA)).other W95 (Or.inr (slot_ne (Or.inl (own_at hw 18 rfl)) (Or.inl (own_at hw 31 rfl)) (by decide) (t := (.array .int)) (t' := .int) (by decide) (by decide)))).other W98 (Or.inr (slot_ne (Or.inl (own_at hw 18 rfl)) (Or.inl (own_at hw 33 rfl)) (by decide) (t := (.array .int)) (t' := .int) (by decide) (by decide))))
    have f112 := ((((((((p16_1.other W21 (Ne.symm (Nat.ne_of_lt (Nat.lt_of_lt_of_le f15.lt p16_0)))).other W34 (Ne.symm (Nat.ne_of_lt (Nat.lt_of_lt_of_le p1_14.lt p16_0)))).other W46 (Ne.symm (Nat.ne_of_lt (Nat.lt_of_lt_of_le p1_14.lt p16_0)))).other W58 (Ne.symm (Nat.ne_of_lt (Nat.lt_of_lt_of_le p1_14.lt p16_0)))).keep K85 (ninS (Ne.symm (Nat.ne_of_lt (Nat.lt_of_lt_of_le f17.lt p16_0))) nin0)).other W91 (Ne.symm (Nat.ne_of_lt (Nat.lt_of_lt_of_le f9.lt p16_0)))).other W95 (Ne.symm (Nat.ne_of_lt (Nat.lt_of_lt_of_le f15.lt p16_0)))).other W98 (Ne.symm (Nat.ne_of_lt (Nat.lt_of_lt_of_le f15.lt p16_0))))
    have f113 := ((((((((p16_2.wr W21).wr W34).wr W46).wr W58).keep K85).wr W91).wr W95).wr W98)
    obtain ⟨fs, hr, hrun, hended, hW, hsame⟩ := X98.leave (v := none) (fun _ => rfl)
    refine ⟨_, _, k2 _ ?_, hrun, hended, _, _, rfl, ?_, ⟨_, rfl⟩, hW, hsame.mono (by decide) (by decide)⟩
    · refine st1.trans ?_
      refine XS.aloadN X1.here hx rfl (hb hby d4_4) rfl rfl ?_
      refine st3 _ ?_
      refine XS.iconst X3.here hx rfl (hb hby d4_8) ?_
      refine XS.idiv X3.here hx rfl (hb hby d4_9) rfl (by decide) ?_
      refine XS.istoreN X3.here hx rfl (hb hby d4_10) rfl (l' := #[rv r0, iv 1, .unset, .unset, .unset, .unset, .unset]) rfl ?_
      refine XS.aloadN X3.here hx rfl (hb hby d4_11) rfl rfl ?_
      refine XS.aloadN X3.here hx rfl (hb hby d4_12) rfl rfl ?_
      refine st4 _ ?_
      refine XS.aloadN X4.here hx rfl (hb hby d4_16) rfl rfl ?_
      refine st5 _ ?_
      refine XS.aloadN X5.here hx rfl (hb hby d4_20) rfl rfl ?_
      refine st6 _ ?_
      refine XS.iloadN X6.here hx rfl (hb hby d4_24) rfl ?_
      refine X6.iaload hx (j := (1 : Int32)) (v := (.int 1)) (by rw [e6]; exact Ar_z7.1) (State.isArrayOf_alike hZ.alike Ar_z7.2.1) Ar_z7.2.2 hin8 (Has.at H_z7 hin8 rfl) (g := (mkF m 25 #[rv r0, iv 1, .unset, .unset, .unset, .unset, .unset] [(.int 1), (.ref oA_1), (.ref sA), (.ref bA), (.ref r0)])) rfl rfl (hb hby d4_25) _ ?_
      refine X6.iaload hx (j := (1 : Int32)) (v := (.int 1)) (by rw [e6]; exact Ar_z10.1) (State.isArrayOf_alike hZ.alike Ar_z10.2.1) Ar_z10.2.2 hin11 (Has.at H_z10 hin11 rfl) (g := (mkF m 26 #[rv r0, iv 1, .unset, .unset, .unset, .unset, .unset] [(.int 1), (.ref sA), (.ref bA), (.ref r0)])) rfl rfl (hb hby d4_26) _ ?_
      refine XS.aloadN X6.here hx rfl (hb hby d4_27) rfl rfl ?_
      refine XS.aloadN X6.here hx rfl (hb hby d4_28) rfl rfl ?_
      refine st12 _ ?_
      refine XS.iloadN X12.here hx rfl (hb hby d4_32) rfl ?_
      refine X12.iaload hx (j := (1 : Int32)) (v := (.int 1)) (by rw [e12]; exact Ar_z7.1) (State.isArrayOf_alike hZ.alike Ar_z7.2.1) Ar_z7.2.2 hin13 (Has.at H_z7 hin13 rfl) (g := (mkF m 33 #[rv r0, iv 1, .unset, .unset, .unset, .unset, .unset] [(.int 1), (.ref oA_1), (.ref r0), (.int 1), (.ref bA), (.ref r0)])) rfl rfl (hb hby d4_33) _ ?_
      refine st14.trans ?_
      refine st16 _ ?_
      refine st21 _ ?_
      refine XS.iconst X21.here hx rfl (hb hby d4_43) ?_
      refine XS.istoreN X21.here hx rfl (hb hby d4_44) rfl (l' := #[rv r0, iv 1, iv 0, .unset, .unset, .unset, .unset]) rfl ?_
      refine XS.iloadN X21.here hx rfl (hb hby d4_45) rfl ?_
      refine XS.aloadN X21.here hx rfl (hb hby d4_46) rfl rfl ?_
      refine st23 _ ?_
      refine XS.icmpNo X23.here hx rfl (hb hby d4_50) rfl (tlt (by decide : (0 : Int32) < (3 : Int32))).2.1 ?_
      refine XS.aloadN X23.here hx rfl (hb hby d4_53) rfl rfl ?_
      refine st25 _ ?_
      refine XS.aloadN X25.here hx rfl (hb hby d4_57) rfl rfl ?_
      refine st27 _ ?_
      refine XS.iloadN X27.here hx rfl (hb hby d4_61) rfl ?_
      refine X27.iaload hx (j := (0 : Int32)) (v := (.int 2)) (by rw [e27]; exact Ar_z29.1) (State.isArrayOf_alike hZ.alike Ar_z29.2.1) Ar_z29.2.2 hin30 (Has.at H_z29 hin30 rfl) (g := (mkF m 62 #[rv r0, iv 1, iv 0, .unset, .unset, .unset, .unset] [(.int 0), (.ref oA_1), (.ref cA_1)])) rfl rfl (hb hby d4_62) _ ?_
      refine XS.iloadN X27.here hx rfl (hb hby d4_63) rfl ?_
      refine st34 _ ?_
      refine XS.iinc X34.here hx rfl (hb hby d4_65) rfl (l' := #[rv r0, iv 1, iv ((0 : Int32) + (1 : Int32)), .unset, .unset, .unset, .unset]) rfl ?_
      refine XS.goto X34.here hx rfl (pc0 := 68) (pc' := 45) rfl (hb hby d4_68) (by decide) (by decide) ?_
      show OwnS p e below T34 (mkF m 45 #[rv r0, iv 1, iv ((0 : Int32) + (1 : Int32)), .unset, .unset, .unset, .unset] []) _
      refine XS.iloadN X34.here hx rfl (hb hby d4_45) rfl ?_
      refine XS.aloadN X34.here hx rfl (hb hby d4_46) rfl rfl ?_
      refine st36 _ ?_
      refine XS.icmpNo X36.here hx rfl (hb hby d4_50) rfl (tlt (by decide : (1 : Int32) < (3 : Int32))).2.1 ?_
      refine XS.aloadN X36.here hx rfl (hb hby d4_53) rfl rfl ?_
      refine st38 _ ?_
      refine XS.aloadN X38.here hx rfl (hb hby d4_57) rfl rfl ?_
      refine st40 _ ?_
      refine XS.iloadN X40.here hx rfl (hb hby d4_61) rfl ?_
      refine X40.iaload hx (j := (1 : Int32)) (v := (.int 1)) (by rw [e40]; exact Ar_z42.1) (State.isArrayOf_alike hZ.alike Ar_z42.2.1) Ar_z42.2.2 hin43 (Has.at H_z42 hin43 rfl) (g := (mkF m 62 #[rv r0, iv 1, iv ((0 : Int32) + (1 : Int32)), .unset, .unset, .unset, .unset] [(.int 1), (.ref oA_1), (.ref cA_1)])) rfl rfl (hb hby d4_62) _ ?_
      refine XS.iloadN X40.here hx rfl (hb hby d4_63) rfl ?_
      refine st46 _ ?_
      refine XS.iinc X46.here hx rfl (hb hby d4_65) rfl (l' := #[rv r0, iv 1, iv (((0 : Int32) + (1 : Int32)) + (1 : Int32)), .unset, .unset, .unset, .unset]) rfl ?_
      refine XS.goto X46.here hx rfl (pc0 := 68) (pc' := 45) rfl (hb hby d4_68) (by decide) (by decide) ?_
      refine XS.iloadN X46.here hx rfl (hb hby d4_45) rfl ?_
      refine XS.aloadN X46.here hx rfl (hb hby d4_46) rfl rfl ?_
      refine st48 _ ?_
      refine XS.icmpNo X48.here hx rfl (hb hby d4_50) rfl (tlt (by decide : (2 : Int32) < (3 : Int32))).2.1 ?_
      refine XS.aloadN X48.here hx rfl (hb hby d4_53) rfl rfl ?_
      refine st50 _ ?_
      refine XS.aloadN X50.here hx rfl (hb hby d4_57) rfl rfl ?_
      refine st52 _ ?_
      refine XS.iloadN X52.here hx rfl (hb hby d4_61) rfl ?_
      refine X52.iaload hx (j := (2 : Int32)) (v := (.int 0)) (by rw [e52]; exact Ar_z54.1) (State.isArrayOf_alike hZ.alike Ar_z54.2.1) Ar_z54.2.2 hin55 (Has.at H_z54 hin55 rfl) (g := (mkF m 62 #[rv r0, iv 1, iv (((0 : Int32) + (1 : Int32)) + (1 : Int32)), .unset, .unset, .unset, .unset] [(.int 2), (.ref oA_1), (.ref cA_1)])) rfl rfl (hb hby d4_62) _ ?_
      refine XS.iloadN X52.here hx rfl (hb hby d4_63) rfl ?_
      refine st58 _ ?_
      refine XS.iinc X58.here hx rfl (hb hby d4_65) rfl (l' := #[rv r0, iv 1, iv ((((0 : Int32) + (1 : Int32)) + (1 : Int32)) + (1 : Int32)), .unset, .unset, .unset, .unset]) rfl ?_
      refine XS.goto X58.here hx rfl (pc0 := 68) (pc' := 45) rfl (hb hby d4_68) (by decide) (by decide) ?_
      refine XS.iloadN X58.here hx rfl (hb hby d4_45) rfl ?_
      refine XS.aloadN X58.here hx rfl (hb hby d4_46) rfl rfl ?_
      refine st60 _ ?_
      refine XS.icmpYes X60.here hx rfl (pc0 := 50) (pc' := 71) rfl (hb hby d4_50) rfl (flt (by decide : ¬ ((3 : Int32) < (3 : Int32)))).2.1 (by decide) (by decide) ?_
      refine XS.iconst X60.here hx rfl (hb hby d4_71) ?_
      refine XS.istoreN X60.here hx rfl (hb hby d4_72) rfl (l' := #[rv r0, iv 1, iv 0, .unset, .unset, .unset, .unset]) rfl ?_
      refine XS.iconst X60.here hx rfl (hb hby d4_73) ?_
      refine XS.istoreN X60.here hx rfl (hb hby d4_74) rfl (l' := #[rv r0, iv 1, iv 0, iv 0, .unset, .unset, .unset]) rfl ?_
      refine XS.iconst X60.here hx rfl (hb hby d4_75) ?_
      refine XS.istore X60.here hx rfl (hb hby d4_76) rfl (l' := #[rv r0, iv 1, iv 0, iv 0, iv 0, .unset, .unset]) rfl ?_
      refine XS.iload X60.here hx rfl (hb hby d4_78) rfl ?_
      refine XS.aloadN X60.here hx rfl (hb hby d4_80) rfl rfl ?_
      show OwnS p e below T60 (mkF m 81 #[rv r0, iv 1, iv 0, iv 0, iv 0, .unset, .unset] [(.ref r0), (.int 0)]) _
      refine st61 _ ?_
      refine XS.icmpNo X61.here hx rfl (hb hby d4_84) rfl (tlt (by decide : (0 : Int32) < (3 : Int32))).2.1 ?_
      refine XS.aloadN X61.here hx rfl (hb hby d4_87) rfl rfl ?_
      refine st63 _ ?_
      refine XS.iload X63.here hx rfl (hb hby d4_91) rfl ?_
      refine X63.iaload hx (j := (0 : Int32)) (v := (.int 2)) (by rw [e63]; exact Ar_z64.1) (State.isArrayOf_alike hZ.alike Ar_z64.2.1) Ar_z64.2.2 hin65 (Has.at H_z64 hin65 rfl) (g := (mkF m 93 #[rv r0, iv 1, iv 0, iv 0, iv 0, .unset, .unset] [(.int 0), (.ref cA_1)])) rfl rfl (hb hby d4_93) _ ?_
      refine XS.iloadN X63.here hx rfl (hb hby d4_94) rfl ?_
      refine XS.icmpYes X63.here hx rfl (pc0 := 95) (pc' := 149) rfl (hb hby d4_95) rfl (flt (by decide : ¬ ((2 : Int32) < (1 : Int32)))).2.1 (by decide) (by decide) ?_
      refine XS.iinc X63.here hx rfl (hb hby d4_149) rfl (l' := #[rv r0, iv 1, iv 0, iv 0, iv ((0 : Int32) + (1 : Int32)), .unset, .unset]) rfl ?_
      refine XS.goto X63.here hx rfl (pc0 := 152) (pc' := 78) rfl (hb hby d4_152) (by decide) (by decide) ?_
      refine XS.iload X63.here hx rfl (hb hby d4_78) rfl ?_
      refine XS.aloadN X63.here hx rfl (hb hby d4_80) rfl rfl ?_
      refine st66 _ ?_
      refine XS.icmpNo X66.here hx rfl (hb hby d4_84) rfl (tlt (by decide : (1 : Int32) < (3 : Int32))).2.1 ?_
      refine XS.aloadN X66.here hx rfl (hb hby d4_87) rfl rfl ?_
      refine st67 _ ?_
      refine XS.iload X67.here hx rfl (hb hby d4_91) rfl ?_
      refine X67.iaload hx (j := (1 : Int32)) (v := (.int 1)) (by rw [e67]; exact Ar_z64.1) (State.isArrayOf_alike hZ.alike Ar_z64.2.1) Ar_z64.2.2 hin68 (Has.at H_z64 hin68 rfl) (g := (mkF m 93 #[rv r0, iv 1, iv 0, iv 0, iv ((0 : Int32) + (1 : Int32)), .unset, .unset] [(.int 1), (.ref cA_1)])) rfl rfl (hb hby d4_93) _ ?_
      refine XS.iloadN X67.here hx rfl (hb hby d4_94) rfl ?_
      refine XS.icmpYes X67.here hx rfl (pc0 := 95) (pc' := 149) rfl (hb hby d4_95) rfl (flt (by decide : ¬ ((1 : Int32) < (1 : Int32)))).2.1 (by decide) (by decide) ?_
      refine XS.iinc X67.here hx rfl (hb hby d4_149) rfl (l' := #[rv r0, iv 1, iv 0, iv 0, iv (((0 : Int32) + (1 : Int32)) + (1 : Int32)), .unset, .unset]) rfl ?_
      refine XS.goto X67.here hx rfl (pc0 := 152) (pc' := 78) rfl (hb hby d4_152) (by decide) (by decide) ?_
      refine XS.iload X67.here hx rfl (hb hby d4_78) rfl ?_
      refine XS.aloadN X67.here hx rfl (hb hby d4_80) rfl rfl ?_
      refine st69 _ ?_
      refine XS.icmpNo X69.here hx rfl (hb hby d4_84) rfl (tlt (by decide : (2 : Int32) < (3 : Int32))).2.1 ?_
      refine XS.aloadN X69.here hx rfl (hb hby d4_87) rfl rfl ?_
      refine st70 _ ?_
      refine XS.iload X70.here hx rfl (hb hby d4_91) rfl ?_
      refine X70.iaload hx (j := (2 : Int32)) (v := (.int 0)) (by rw [e70]; exact Ar_z64.1) (State.isArrayOf_alike hZ.alike Ar_z64.2.1) Ar_z64.2.2 hin71 (Has.at H_z64 hin71 rfl) (g := (mkF m 93 #[rv r0, iv 1, iv 0, iv 0, iv (((0 : Int32) + (1 : Int32)) + (1 : Int32)), .unset, .unset] [(.int 2), (.ref cA_1)])) rfl rfl (hb hby d4_93) _ ?_
      refine XS.iloadN X70.here hx rfl (hb hby d4_94) rfl ?_
      refine XS.icmpNo X70.here hx rfl (hb hby d4_95) rfl (tlt (by decide : (0 : Int32) < (1 : Int32))).2.1 ?_
      refine XS.aloadN X70.here hx rfl (hb hby d4_98) rfl rfl ?_
      refine st73 _ ?_
      refine XS.iload X73.here hx rfl (hb hby d4_102) rfl ?_
      refine X73.iaload hx (j := (2 : Int32)) (v := (.int 2)) (by rw [e73]; exact Ar_z75.1) (State.isArrayOf_alike hZ.alike Ar_z75.2.1) Ar_z75.2.2 hin76 (Has.at H_z75 hin76 rfl) (g := (mkF m 104 #[rv r0, iv 1, iv 0, iv 0, iv (((0 : Int32) + (1 : Int32)) + (1 : Int32)), .unset, .unset] [(.int 2), (.ref sA)])) rfl rfl (hb hby d4_104) _ ?_
      refine XS.istore X73.here hx rfl (hb hby d4_105) rfl (l' := #[rv r0, iv 1, iv 0, iv 0, iv (((0 : Int32) + (1 : Int32)) + (1 : Int32)), iv 2, .unset]) rfl ?_
      refine XS.aloadN X73.here hx rfl (hb hby d4_107) rfl rfl ?_
      refine XS.iload X73.here hx rfl (hb hby d4_108) rfl ?_
      refine st77.trans ?_
      show OwnS p e below T77 (mkF m 113 #[rv r0, iv 1, iv 0, iv 0, iv (((0 : Int32) + (1 : Int32)) + (1 : Int32)), iv 2, .unset] [(.int 3)]) _
      refine XS.iload X77.here hx rfl (hb hby d4_113) rfl ?_
      refine XS.isub X77.here hx rfl (hb hby d4_115) rfl ?_
      refine XS.istore X77.here hx rfl (hb hby d4_116) rfl (l' := #[rv r0, iv 1, iv 0, iv 0, iv (((0 : Int32) + (1 : Int32)) + (1 : Int32)), iv 2, iv 1]) rfl ?_
      refine XS.aloadN X77.here hx rfl (hb hby d4_118) rfl rfl ?_
      refine st81 _ ?_
      refine XS.iload X81.here hx rfl (hb hby d4_122) rfl ?_
      refine XS.aloadN X81.here hx rfl (hb hby d4_124) rfl rfl ?_
      refine st82 _ ?_
      refine XS.iloadN X82.here hx rfl (hb hby d4_128) rfl ?_
      refine XS.iload X82.here hx rfl (hb hby d4_129) rfl ?_
      refine st85 _ ?_
      refine XS.aloadN X85.here hx rfl (hb hby d4_134) rfl rfl ?_
      refine st87 _ ?_
      refine XS.iloadN X87.here hx rfl (hb hby d4_138) rfl ?_
      refine XS.iinc X87.here hx rfl (hb hby d4_139) rfl (l' := #[rv r0, iv 1, iv ((0 : Int32) + (1 : Int32)), iv 0, iv (((0 : Int32) + (1 : Int32)) + (1 : Int32)), iv 2, iv 1]) rfl ?_
      refine XS.iloadN X87.here hx rfl (hb hby d4_142) rfl ?_
      refine st91 _ ?_
      refine XS.iloadN X91.here hx rfl (hb hby d4_144) rfl ?_
      refine XS.iload X91.here hx rfl (hb hby d4_145) rfl ?_
      refine XS.iadd X91.here hx rfl (hb hby d4_147) rfl ?_
      refine XS.istoreN X91.here hx rfl (hb hby d4_148) rfl (l' := #[rv r0, iv 1, iv ((0 : Int32) + (1 : Int32)), iv 1, iv (((0 : Int32) + (1 : Int32)) + (1 : Int32)), iv 2, iv 1]) rfl ?_
      refine XS.iinc X91.here hx rfl (hb hby d4_149) rfl (l' := #[rv r0, iv 1, iv ((0 : Int32) + (1 : Int32)), iv 1, iv ((((0 : Int32) + (1 : Int32)) + (1 : Int32)) + (1 : Int32)), iv 2, iv 1]) rfl ?_
      refine XS.goto X91.here hx rfl (pc0 := 152) (pc' := 78) rfl (hb hby d4_152) (by decide) (by decide) ?_
      refine XS.iload X91.here hx rfl (hb hby d4_78) rfl ?_
      refine XS.aloadN X91.here hx rfl (hb hby d4_80) rfl rfl ?_
      refine st93 _ ?_
      refine XS.icmpYes X93.here hx rfl (pc0 := 84) (pc' := 155) rfl (hb hby d4_84) rfl (flt (by decide : ¬ ((3 : Int32) < (3 : Int32)))).2.1 (by decide) (by decide) ?_
      refine XS.aloadN X93.here hx rfl (hb hby d4_155) rfl rfl ?_
      refine XS.iloadN X93.here hx rfl (hb hby d4_156) rfl ?_
      refine st95 _ ?_
      refine XS.aloadN X95.here hx rfl (hb hby d4_160) rfl rfl ?_
      refine XS.iloadN X95.here hx rfl (hb hby d4_161) rfl ?_
      refine st98 _ ?_
      exact X98.returnOut hx Bd.returns (hb hby d4_165) hr
    · show Q_4 Z r0 bA kB sA kS oZ kZ cZ x0 x1 x2 h0 n0 _ T98.heap _
      rw [e98]
      exact ⟨ar_16, oA_1, cA_1, kk_16, x1, x2, rfl, N98, (((((((((((Keep.refl h0 [r0, bA, sA]).trans K1 (allS (Or.inl (List.mem_of_getElem? (i := 0) rfl)) all0)).trans K16 all0).wr W21 (Or.inl (List.mem_of_getElem? (i := 0) rfl))).wr W34 (Or.inr sz_cA_1)).wr W46 (Or.inr sz_cA_1)).wr W58 (Or.inr sz_cA_1)).trans K85 (allS (Or.inl (List.mem_of_getElem? (i := 1) rfl)) all0)).wr W91 (Or.inl (List.mem_of_getElem? (i := 2) rfl))).wr W95 (Or.inl (List.mem_of_getElem? (i := 0) rfl))).wr W98 (Or.inl (List.mem_of_getElem? (i := 0) rfl))), sz_ar_16, f99, f100, f101, f102, Fw98, f103, f104, f105, f106, f107, f108, f109, f110, f111, f112, f113⟩
  · have pl1 := (allS (P := fun x => ∃ cell : Cell, h0[x]? = some cell ∧ cell.vm.isStatics = false) (own_ns E_r0) all0)
    have g_oA_1 : n0 ≤ oA_1 := Nat.le_trans Z0 p1_0
    have sz_oA_1 : h0.size ≤ oA_1 := Nat.le_trans (Keep.refl h0 []).1 p1_0
    have g_cA_1 : n0 ≤ cA_1 := Nat.le_trans Z0 p1_1
    have sz_cA_1 : h0.size ≤ cA_1 := Nat.le_trans (Keep.refl h0 []).1 p1_1
    have N1 := Fr.app N0 N1q
    obtain ⟨T114, X114, e114, st114⟩ := getF X1 hx hZ hown (host := "") (Or.inl (own_at hw 30 rfl)) Via.refl rfl p1_3 (g := (mkF m 5 #[rv r0, .unset, .unset, .unset, .unset, .unset, .unset] [(.ref r0)])) rfl rfl (hb hby d4_5)
    obtain ⟨T115, X115, e115, st115⟩ := getF X114 hx hZ hown (host := "") (Or.inl (own_at hw 10 rfl)) Via.refl e114 p1_8 (g := (mkF m 13 #[rv r0, iv 1, .unset, .unset, .unset, .unset, .unset] [(.ref r0), (.ref r0)])) rfl rfl (hb hby d4_13)
    obtain ⟨T116, X116, e116, st116⟩ := getF X115 hx hZ hown (host := "") (Or.inl (own_at hw 13 rfl)) Via.refl e115 p1_9 (g := (mkF m 17 #[rv r0, iv 1, .unset, .unset, .unset, .unset, .unset] [(.ref r0), (.ref bA), (.ref r0)])) rfl rfl (hb hby d4_17)
    obtain ⟨T117, X117, e117, st117⟩ := getF X116 hx hZ hown (host := "") (Or.inl (own_at hw 15 rfl)) Via.refl e116 p1_10 (g := (mkF m 21 #[rv r0, iv 1, .unset, .unset, .unset, .unset, .unset] [(.ref r0), (.ref sA), (.ref bA), (.ref r0)])) rfl rfl (hb hby d4_21)
    obtain ⟨cl_z118, Ar_z118, q_z118, S_z118, N_z118, H_z118, G_z118⟩ := id p1_11
    have hin119 : ¬ ((1 : Int32) < 0 ∨ cl_z118.slots.size ≤ ((1 : Int32)).toNatClampNeg) := inb_of S_z118 ⟨by decide, by decide⟩
    have f120 := (V_sA.keep K1 (ninS ne_sA_r0 nin0))
    obtain ⟨cl_z121, Ar_z121, q_z121, S_z121, N_z121, H_z121, G_z121⟩ := id f120
    have hin122 : ¬ ((2 : Int32) < 0 ∨ cl_z121.slots.size ≤ ((2 : Int32)).toNatClampNeg) := inb_of S_z121 ⟨by decide, by decide⟩
    obtain ⟨T123, X123, e123, st123⟩ := getF X117 hx hZ hown (host := "") (Or.inl (own_at hw 15 rfl)) Via.refl e117 p1_10 (g := (mkF m 29 #[rv r0, iv 1, .unset, .unset, .unset, .unset, .unset] [(.ref r0), (.ref r0), (.int 2), (.ref bA), (.ref r0)])) rfl rfl (hb hby d4_29)
    have hin124 : ¬ ((1 : Int32) < 0 ∨ cl_z118.slots.size ≤ ((1 : Int32)).toNatClampNeg) := inb_of S_z118 ⟨by decide, by decide⟩
    have f126 := (E_r0.keep K1)
    obtain ⟨cq125, q125, q125'⟩ := f126.cell
    obtain ⟨_, _, ⟨T125, L125, j125, i125⟩, -, X125, ⟨Lc125, hQ125, l125, y125, z125⟩, st125⟩ := X123.privateBack hx (y := (⟨cS0, "end", "(I)I"⟩ : MethodName)) hown (mvT hZ (own_at hw 59 rfl)) (mvT hZ (own_at hw 60 rfl)) (own_selpriv (by decide) (mvT hZ (own_at hw 1 rfl)) (mvP hZ (own_at hw 61 rfl)) (mvT hZ (own_at hw 60 rfl))) (Cond.privateMethod_at (mvP hZ (own_at hw 61 rfl) (args := #[]))) (mvT hZ (own_at hw 62 rfl)) (by decide) (backOf (W := 3) (rm9_2 l Z a0 hw [] r0 sA kS T1.heap n0 (Nat.le_trans Z0 K1.1) f126 p1_3 p1_4 p1_9 f120) hZ (own_at hw 62 rfl) (own_at hw 2 rfl) (by decide) (by decide)) (g := (mkF m 34 #[rv r0, iv 1, .unset, .unset, .unset, .unset, .unset] [(.int 2), (.ref r0), (.int 2), (.ref bA), (.ref r0)])) rfl (by rw [hml]; rfl) (Steps.refl _) (a := r0) (by rw [e123]; exact q125) q125' (argsL := [(.int 2)]) (rest := [(.int 2), (.ref bA), (.ref r0)]) (lenOf pd_5 rfl) rfl (Nat.le_refl _) (hb hby d4_34) (fun _ _ => ⟨rfl, e123, (by decide : 2 + 0 ≤ _), (by decide : 512 + 0 ≤ _)⟩)
    dsimp only [Pt.U, Pt.locs, Pt.cells, Pt.slots] at X125 l125 y125 z125 st125 hQ125
    subst l125 y125 z125
    obtain ⟨rfl, N125q, e125⟩ := hQ125
    have N125 := Fr.app N1 N125q
    have f128 := (V_bA.keep K1 (ninS ne_bA_r0 nin0))
    obtain ⟨_, _, ⟨T127, L127, j127, i127⟩, -, X127, ⟨Lc127, hQ127, l127, y127, z127⟩, st127⟩ := Jvm.LawKit.callS X125 hx (y := (⟨cS1, "copyOfRange", "([BII)[B"⟩ : MethodName)) hown (mvT hZ (own_at hw 75 rfl)) (mvT hZ (own_at hw 76 rfl)) (mvT hZ (own_at hw 65 rfl)) (mvT hZ (own_at hw 77 rfl)) (by decide) (backOf (W := 1) (rm13_2 l Z a0 hw [] bA kB x0 x1 x2 T1.heap n0 (Nat.le_trans Z0 K1.1) f128) hZ (own_at hw 77 rfl) (own_at hw 65 rfl) (by decide) (by decide)) (g := (mkF m 37 #[rv r0, iv 1, .unset, .unset, .unset, .unset, .unset] [(.int 3), (.int 2), (.ref bA), (.ref r0)])) rfl (by rw [hml]; rfl) (argsL := [(.ref bA), (.int 2), (.int 3)]) (rest := [(.ref r0)]) (lenOf pd_8 rfl) rfl (Nat.le_refl _) (hb hby d4_37) (fun _ _ => ⟨rfl, e125, (by decide : 2 + 1 ≤ _), (by decide : 512 + 1 ≤ _)⟩)
    dsimp only [Pt.U, Pt.locs, Pt.cells, Pt.slots] at X127 l127 y127 z127 st127 hQ127
    subst l127 y127 z127
    have f129 := (V_oZ.keep K1 (ninS ne_oZ_r0 nin0))
    obtain ⟨ar_127, kk_127, rfl, N127q, K127, p127_0, p127_1, p127_2⟩ := hQ127
    have g_ar_127 : n0 ≤ ar_127 := Nat.le_trans (Nat.le_trans Z0 K1.1) p127_0
    have sz_ar_127 : h0.size ≤ ar_127 := Nat.le_trans ((Keep.refl h0 [r0]).trans K1 (allS (Or.inl (List.mem_of_getElem? (i := 0) rfl)) all0)).1 p127_0
    have N127 := Fr.app N125 N127q
    have f130 := (f126.keep K127)
    have f131 := (p1_7.keep K127 nin0)
    obtain ⟨T132, h132, X132, e132, W132, st132⟩ := putF X127 hx hZ hown (host := "") (Or.inl (own_at hw 28 rfl)) Via.refl rfl f131 f130 (Or.inl (own_at hw 29 rfl)) (own_at hw 1 rfl) (ty := (.array .byte)) (by decide) rfl rfl (g := (mkF m 40 #[rv r0, iv 1, .unset, .unset, .unset, .unset, .unset] [(.ref ar_127), (.ref r0)])) rfl rfl (hb hby d4_40)
    have Fw132 : Fld Z h132 r0 cS0 "limit" "[B" (.ref ar_127) := f131.same W132
    have N132 := Fr.snoc X132 N127 ge_r0
    have f133 := ((p1_3.keep K127 nin0).other W132 (Or.inr (slot_ne (Or.inl (own_at hw 31 rfl)) (Or.inl (own_at hw 29 rfl)) (by decide) (t := .int) (t' := (.array .byte)) (by decide) (by decide))))
    obtain ⟨T134, X134, e134, st134⟩ := getF X132 hx hZ hown (host := "") (Or.inl (own_at hw 30 rfl)) Via.refl e132 f133 (g := (mkF m 47 #[rv r0, iv 1, iv 0, .unset, .unset, .unset, .unset] [(.ref r0), (.int 0)])) rfl rfl (hb hby d4_47)
    have f135 := ((p1_13.keep K127 nin0).other W132 (Or.inr (slot_ne (Or.inl (own_at hw 18 rfl)) (Or.inl (own_at hw 29 rfl)) (by decide) (t := (.array .int)) (t' := (.array .byte)) (by decide) (by decide))))
    obtain ⟨T136, X136, e136, st136⟩ := getF X134 hx hZ hown (host := "") (Or.inl (own_at hw 17 rfl)) Via.refl e134 f135 (g := (mkF m 54 #[rv r0, iv 1, iv 0, .unset, .unset, .unset, .unset] [(.ref r0)])) rfl rfl (hb hby d4_54)
    have f137 := ((p1_10.keep K127 nin0).other W132 (Or.inr (slot_ne (Or.inl (own_at hw 16 rfl)) (Or.inl (own_at hw 29 rfl)) (by decide) (t := (.array .int)) (t' := (.array .byte)) (by decide) (by decide))))
    obtain ⟨T138, X138, e138, st138⟩ := getF X136 hx hZ hown (host := "") (Or.inl (own_at hw 15 rfl)) Via.refl e136 f137 (g := (mkF m 58 #[rv r0, iv 1, iv 0, .unset, .unset, .unset, .unset] [(.ref r0), (.ref cA_1)])) rfl rfl (hb hby d4_58)
    have f139 := ((p1_11.keep K127 nin0).other W132 (Ne.symm (Nat.ne_of_lt (Nat.lt_of_lt_of_le E_r0.lt p1_0))))
    obtain ⟨cl_z140, Ar_z140, q_z140, S_z140, N_z140, H_z140, G_z140⟩ := id f139
    have hin141 : ¬ ((0 : Int32) < 0 ∨ cl_z140.slots.size ≤ ((0 : Int32)).toNatClampNeg) := inb_of S_z140 ⟨by decide, by decide⟩
    have f142 := ((p1_14.keep K127 nin0).other W132 (Ne.symm (Nat.ne_of_lt (Nat.lt_of_lt_of_le E_r0.lt p1_1))))
    obtain ⟨cl_z143, Ar_z143, q_z143, S_z143, N_z143, H_z143, G_z143⟩ := id f142
    have hin144 : ¬ ((1 : Int32) < 0 ∨ cl_z143.slots.size ≤ ((1 : Int32)).toNatClampNeg) := inb_of S_z143 ⟨by decide, by decide⟩
    obtain ⟨T145, h145, X145, e145, W145, st145⟩ := stI X138 hx hZ e138 Ar_z143 (j := (1 : Int32)) hin144 (g := (mkF m 64 #[rv r0, iv 1, iv 0, .unset, .unset, .unset, .unset] [(.int 0), (.int 1), (.ref cA_1)])) rfl rfl (hb hby d4_64)
    have V145 : Arv Z h145 cA_1 kC_1 .int (256 : Int32) [(.int 1), (.int 0), (.int 2)] (.int 0) := Arv.set Ar_z143 q_z143 S_z143 N_z143 H_z143 G_z143 rfl W145 1 rfl (Nat.le_of_ble_eq_true rfl)
    have N145 := Fr.snoc X145 N132 g_cA_1
    have f146 := (f133.other W145 (Or.inl (Nat.ne_of_lt (Nat.lt_of_lt_of_le E_r0.lt p1_1))))
    obtain ⟨T147, X147, e147, st147⟩ := getF X145 hx hZ hown (host := "") (Or.inl (own_at hw 30 rfl)) Via.refl e145 f146 (g := (mkF m 47 #[rv r0, iv 1, iv ((0 : Int32) + (1 : Int32)), .unset, .unset, .unset, .unset] [(.ref r0), (.int 1)])) rfl rfl (hb hby d4_47)
    have f148 := (f135.other W145 (Or.inl (Nat.ne_of_lt (Nat.lt_of_lt_of_le E_r0.lt p1_1))))
    obtain ⟨T149, X149, e149, st149⟩ := getF X147 hx hZ hown (host := "") (Or.inl (own_at hw 17 rfl)) Via.refl e147 f148 (g := (mkF m 54 #[rv r0, iv 1, iv ((0 : Int32) + (1 : Int32)), .unset, .unset, .unset, .unset] [(.ref r0)])) rfl rfl (hb hby d4_54)
    have f150 := (f137.other W145 (Or.inl (Nat.ne_of_lt (Nat.lt_of_lt_of_le E_r0.lt p1_1))))
    obtain ⟨T151, X151, e151, st151⟩ := getF X149 hx hZ hown (host := "") (Or.inl (own_at hw 15 rfl)) Via.refl e149 f150 (g := (mkF m 58 #[rv r0, iv 1, iv ((0 : Int32) + (1 : Int32)), .unset, .unset, .unset, .unset] [(.ref r0), (.ref cA_1)])) rfl rfl (hb hby d4_58)
    have f152 := (f139.other W145 p1_2)
    obtain ⟨cl_z153, Ar_z153, q_z153, S_z153, N_z153, H_z153, G_z153⟩ := id f152
    have hin154 : ¬ ((1 : Int32) < 0 ∨ cl_z153.slots.size ≤ ((1 : Int32)).toNatClampNeg) := inb_of S_z153 ⟨by decide, by decide⟩
    obtain ⟨cl_z155, Ar_z155, q_z155, S_z155, N_z155, H_z155, G_z155⟩ := id V145
    have hin156 : ¬ ((2 : Int32) < 0 ∨ cl_z155.slots.size ≤ ((2 : Int32)).toNatClampNeg) := inb_of S_z155 ⟨by decide, by decide⟩
    obtain ⟨T157, h157, X157, e157, W157, st157⟩ := stI X151 hx hZ e151 Ar_z155 (j := (2 : Int32)) hin156 (g := (mkF m 64 #[rv r0, iv 1, iv ((0 : Int32) + (1 : Int32)), .unset, .unset, .unset, .unset] [(.int 1), (.int 2), (.ref cA_1)])) rfl rfl (hb hby d4_64)
    have V157 : Arv Z h157 cA_1 kC_1 .int (256 : Int32) [(.int 1), (.int 0), (.int 1)] (.int 0) := Arv.set Ar_z155 q_z155 S_z155 N_z155 H_z155 G_z155 rfl W157 2 rfl (Nat.le_of_ble_eq_true rfl)
    have N157 := Fr.snoc X157 N145 g_cA_1
    have f158 := (f146.other W157 (Or.inl (Nat.ne_of_lt (Nat.lt_of_lt_of_le E_r0.lt p1_1))))
    obtain ⟨T159, X159, e159, st159⟩ := getF X157 hx hZ hown (host := "") (Or.inl (own_at hw 30 rfl)) Via.refl e157 f158 (g := (mkF m 47 #[rv r0, iv 1, iv (((0 : Int32) + (1 : Int32)) + (1 : Int32)), .unset, .unset, .unset, .unset] [(.ref r0), (.int 2)])) rfl rfl (hb hby d4_47)
    have f160 := (f148.other W157 (Or.inl (Nat.ne_of_lt (Nat.lt_of_lt_of_le E_r0.lt p1_1))))
    obtain ⟨T161, X161, e161, st161⟩ := getF X159 hx hZ hown (host := "") (Or.inl (own_at hw 17 rfl)) Via.refl e159 f160 (g := (mkF m 54 #[rv r0, iv 1, iv (((0 : Int32) + (1 : Int32)) + (1 : Int32)), .unset, .unset, .unset, .unset] [(.ref r0)])) rfl rfl (hb hby d4_54)
    have f162 := (f150.other W157 (Or.inl (Nat.ne_of_lt (Nat.lt_of_lt_of_le E_r0.lt p1_1))))
    obtain ⟨T163, X163, e163, st163⟩ := getF X161 hx hZ hown (host := "") (Or.inl (own_at hw 15 rfl)) Via.refl e161 f162 (g := (mkF m 58 #[rv r0, iv 1, iv (((0 : Int32) + (1 : Int32)) + (1 : Int32)), .unset, .unset, .unset, .unset] [(.ref r0), (.ref cA_1)])) rfl rfl (hb hby d4_58)
    have f164 := (f152.other W157 p1_2)
    obtain ⟨cl_z165, Ar_z165, q_z165, S_z165, N_z165, H_z165, G_z165⟩ := id f164
    have hin166 : ¬ ((2 : Int32) < 0 ∨ cl_z165.slots.size ≤ ((2 : Int32)).toNatClampNeg) := inb_of S_z165 ⟨by decide, by decide⟩
    obtain ⟨cl_z167, Ar_z167, q_z167, S_z167, N_z167, H_z167, G_z167⟩ := id V157
    have hin168 : ¬ ((0 : Int32) < 0 ∨ cl_z167.slots.size ≤ ((0 : Int32)).toNatClampNeg) := inb_of S_z167 ⟨by decide, by decide⟩
    obtain ⟨T169, h169, X169, e169, W169, st169⟩ := stI X163 hx hZ e163 Ar_z167 (j := (0 : Int32)) hin168 (g := (mkF m 64 #[rv r0, iv 1, iv (((0 : Int32) + (1 : Int32)) + (1 : Int32)), .unset, .unset, .unset, .unset] [(.int 2), (.int 0), (.ref cA_1)])) rfl rfl (hb hby d4_64)
    have V169 : Arv Z h169 cA_1 kC_1 .int (256 : Int32) [(.int 2), (.int 0), (.int 1)] (.int 0) := Arv.set Ar_z167 q_z167 S_z167 N_z167 H_z167 G_z167 rfl W169 0 rfl (Nat.le_of_ble_eq_true rfl)
    have N169 := Fr.snoc X169 N157 g_cA_1
    have f170 := (f158.other W169 (Or.inl (Nat.ne_of_lt (Nat.lt_of_lt_of_le E_r0.lt p1_1))))
    obtain ⟨T171, X171, e171, st171⟩ := getF X169 hx hZ hown (host := "") (Or.inl (own_at hw 30 rfl)) Via.refl e169 f170 (g := (mkF m 47 #[rv r0, iv 1, iv ((((0 : Int32) + (1 : Int32)) + (1 : Int32)) + (1 : Int32)), .unset, .unset, .unset, .unset] [(.ref r0), (.int 3)])) rfl rfl (hb hby d4_47)
    obtain ⟨T172, X172, e172, st172⟩ := getF X171 hx hZ hown (host := "") (Or.inl (own_at hw 30 rfl)) Via.refl e171 f170 (g := (mkF m 81 #[rv r0, iv 1, iv 0, iv 0, iv 0, .unset, .unset] [(.ref r0), (.int 0)])) rfl rfl (hb hby d4_81)
    have f173 := (f160.other W169 (Or.inl (Nat.ne_of_lt (Nat.lt_of_lt_of_le E_r0.lt p1_1))))
    obtain ⟨T174, X174, e174, st174⟩ := getF X172 hx hZ hown (host := "") (Or.inl (own_at hw 17 rfl)) Via.refl e172 f173 (g := (mkF m 88 #[rv r0, iv 1, iv 0, iv 0, iv 0, .unset, .unset] [(.ref r0)])) rfl rfl (hb hby d4_88)
    obtain ⟨cl_z175, Ar_z175, q_z175, S_z175, N_z175, H_z175, G_z175⟩ := id V169
    have hin176 : ¬ ((0 : Int32) < 0 ∨ cl_z175.slots.size ≤ ((0 : Int32)).toNatClampNeg) := inb_of S_z175 ⟨by decide, by decide⟩
    obtain ⟨T177, X177, e177, st177⟩ := getF X174 hx hZ hown (host := "") (Or.inl (own_at hw 30 rfl)) Via.refl e174 f170 (g := (mkF m 81 #[rv r0, iv 1, iv 0, iv 0, iv ((0 : Int32) + (1 : Int32)), .unset, .unset] [(.ref r0), (.int 1)])) rfl rfl (hb hby d4_81)
    obtain ⟨T178, X178, e178, st178⟩ := getF X177 hx hZ hown (host := "") (Or.inl (own_at hw 17 rfl)) Via.refl e177 f173 (g := (mkF m 88 #[rv r0, iv 1, iv 0, iv 0, iv ((0 : Int32) + (1 : Int32)), .unset, .unset] [(.ref r0)])) rfl rfl (hb hby d4_88)
    have hin179 : ¬ ((1 : Int32) < 0 ∨ cl_z175.slots.size ≤ ((1 : Int32)).toNatClampNeg) := inb_of S_z175 ⟨by decide, by decide⟩
    have f180 := (((((p1_9.keep K127 nin0).other W132 (Or.inr (slot_ne (Or.inl (own_at hw 14 rfl)) (Or.inl (own_at hw 29 rfl)) (by decide) (t := (.array .int)) (t' := (.array .byte)) (by decide) (by decide)))).other W145 (Or.inl (Nat.ne_of_lt (Nat.lt_of_lt_of_le E_r0.lt p1_1)))).other W157 (Or.inl (Nat.ne_of_lt (Nat.lt_of_lt_of_le E_r0.lt p1_1)))).other W169 (Or.inl (Nat.ne_of_lt (Nat.lt_of_lt_of_le E_r0.lt p1_1))))
    obtain ⟨T181, X181, e181, st181⟩ := getF X178 hx hZ hown (host := "") (Or.inl (own_at hw 13 rfl)) Via.refl e178 f180 (g := (mkF m 99 #[rv r0, iv 1, iv 0, iv 0, iv ((0 : Int32) + (1 : Int32)), .unset, .unset] [(.ref r0)])) rfl rfl (hb hby d4_99)
    have f182 := (((((f120.keep K127 nin0).other W132 ne_sA_r0).other W145 (Nat.ne_of_lt (Nat.lt_of_lt_of_le V_sA.lt p1_1))).other W157 (Nat.ne_of_lt (Nat.lt_of_lt_of_le V_sA.lt p1_1))).other W169 (Nat.ne_of_lt (Nat.lt_of_lt_of_le V_sA.lt p1_1)))
    obtain ⟨cl_z183, Ar_z183, q_z183, S_z183, N_z183, H_z183, G_z183⟩ := id f182
    have hin184 : ¬ ((1 : Int32) < 0 ∨ cl_z183.slots.size ≤ ((1 : Int32)).toNatClampNeg) := inb_of S_z183 ⟨by decide, by decide⟩
    have f186 := ((((f130.wr W132).wr W145).wr W157).wr W169)
    have f187 := (((((p1_4.keep K127 nin0).other W132 (Or.inr (slot_ne (Or.inl (own_at hw 33 rfl)) (Or.inl (own_at hw 29 rfl)) (by decide) (t := .int) (t' := (.array .byte)) (by decide) (by decide)))).other W145 (Or.inl (Nat.ne_of_lt (Nat.lt_of_lt_of_le E_r0.lt p1_1)))).other W157 (Or.inl (Nat.ne_of_lt (Nat.lt_of_lt_of_le E_r0.lt p1_1)))).other W169 (Or.inl (Nat.ne_of_lt (Nat.lt_of_lt_of_le E_r0.lt p1_1))))
    obtain ⟨cq185, q185, q185'⟩ := f186.cell
    obtain ⟨_, _, ⟨T185, L185, j185, i185⟩, -, X185, ⟨Lc185, hQ185, l185, y185, z185⟩, st185⟩ := X181.privateBack hx (y := (⟨cS0, "end", "(I)I"⟩ : MethodName)) hown (mvT hZ (own_at hw 59 rfl)) (mvT hZ (own_at hw 60 rfl)) (own_selpriv (by decide) (mvT hZ (own_at hw 1 rfl)) (mvP hZ (own_at hw 61 rfl)) (mvT hZ (own_at hw 60 rfl))) (Cond.privateMethod_at (mvP hZ (own_at hw 61 rfl) (args := #[]))) (mvT hZ (own_at hw 62 rfl)) (by decide) (backOf (W := 0) (rm9_1 l Z a0 hw [] r0 sA kS h169 n0 (Nat.le_trans (Nat.le_trans (Nat.le_trans (Nat.le_trans (Nat.le_trans (Nat.le_trans Z0 K1.1) K127.1) (Keep.of_wr W132).1) (Keep.of_wr W145).1) (Keep.of_wr W157).1) (Keep.of_wr W169).1) f186 f170 f187 f180 f182) hZ (own_at hw 62 rfl) (own_at hw 2 rfl) (by decide) (by decide)) (g := (mkF m 110 #[rv r0, iv 1, iv 0, iv 0, iv ((0 : Int32) + (1 : Int32)), iv 1, .unset] [(.int 1), (.ref r0)])) rfl (by rw [hml]; rfl) (Steps.refl _) (a := r0) (by rw [e181]; exact q185) q185' (argsL := [(.int 1)]) (rest := []) (lenOf pd_5 rfl) rfl (Nat.le_refl _) (hb hby d4_110) (fun _ _ => ⟨rfl, e181, (by decide : 3 + 0 ≤ _), (by decide : 513 + 0 ≤ _)⟩)
    dsimp only [Pt.U, Pt.locs, Pt.cells, Pt.slots] at X185 l185 y185 z185 st185 hQ185
    subst l185 y185 z185
    obtain ⟨rfl, N185q, e185⟩ := hQ185
    have N185 := Fr.app N169 N185q
    have f188 := (((((p1_8.keep K127 nin0).other W132 (Or.inr (slot_ne (Or.inl (own_at hw 11 rfl)) (Or.inl (own_at hw 29 rfl)) (by decide) (t := (.array .byte)) (t' := (.array .byte)) (by decide) (by decide)))).other W145 (Or.inl (Nat.ne_of_lt (Nat.lt_of_lt_of_le E_r0.lt p1_1)))).other W157 (Or.inl (Nat.ne_of_lt (Nat.lt_of_lt_of_le E_r0.lt p1_1)))).other W169 (Or.inl (Nat.ne_of_lt (Nat.lt_of_lt_of_le E_r0.lt p1_1))))
    obtain ⟨T189, X189, e189, st189⟩ := getF X185 hx hZ hown (host := "") (Or.inl (own_at hw 10 rfl)) Via.refl e185 f188 (g := (mkF m 119 #[rv r0, iv 1, iv 0, iv 0, iv ((0 : Int32) + (1 : Int32)), iv 1, iv 1] [(.ref r0)])) rfl rfl (hb hby d4_119)
    obtain ⟨T190, X190, e190, st190⟩ := getF X189 hx hZ hown (host := "") (Or.inl (own_at hw 10 rfl)) Via.refl e189 f188 (g := (mkF m 125 #[rv r0, iv 1, iv 0, iv 0, iv ((0 : Int32) + (1 : Int32)), iv 1, iv 1] [(.ref r0), (.int 1), (.ref bA)])) rfl rfl (hb hby d4_125)
    have f191 := (((((f128.keep K127 nin0).other W132 ne_bA_r0).other W145 (Nat.ne_of_lt (Nat.lt_of_lt_of_le V_bA.lt p1_1))).other W157 (Nat.ne_of_lt (Nat.lt_of_lt_of_le V_bA.lt p1_1))).other W169 (Nat.ne_of_lt (Nat.lt_of_lt_of_le V_bA.lt p1_1)))
    have f192 := ((((((E_bA.keep K1).keep K127).wr W132).wr W145).wr W157).wr W169)
    obtain ⟨T193, h193, L193, X193, e193, N193, K193, Vr193, st193⟩ := cpA X190 hx hZ hown (own_at hw 34 rfl) (own_at hw 37 rfl) (own_at hw 35 rfl) (own_at hw 36 rfl) e190 f191 f191 (us := [(.int x1)]) (Or.inl ⟨rfl, rfl⟩) (by decide) (by decide) (by decide) (by decide) (by decide) rfl (Nat.le_of_ble_eq_true rfl) N185 ge_bA (g := (mkF m 131 #[rv r0, iv 1, iv 0, iv 0, iv ((0 : Int32) + (1 : Int32)), iv 1, iv 1] [(.int 1), (.int 0), (.ref bA), (.int 1), (.ref bA)])) rfl (by rw [hml]; rfl) rfl (hb hby d4_131) (by decide) (W := 0) (Nat.le_refl _) (by decide)
    have pl193 := (allS (P := fun x => ∃ cell : Cell, h169[x]? = some cell ∧ cell.vm.isStatics = false) (own_ns f192) all0)
    have V193 : Arv Z h193 bA kB .byte (4096 : Int32) [(.int x1), (.int x1), (.int x2)] (.int 0) := Vr193
    have f194 := (f180.keep K193 (ninS ne_r0_bA nin0))
    obtain ⟨T195, X195, e195, st195⟩ := getF X193 hx hZ hown (host := "") (Or.inl (own_at hw 13 rfl)) Via.refl e193 f194 (g := (mkF m 135 #[rv r0, iv 1, iv 0, iv 0, iv ((0 : Int32) + (1 : Int32)), iv 1, iv 1] [(.ref r0)])) rfl rfl (hb hby d4_135)
    have f196 := (f182.keep K193 (ninS ne_sA_bA nin0))
    obtain ⟨cl_z197, Ar_z197, q_z197, S_z197, N_z197, H_z197, G_z197⟩ := id f196
    have hin198 : ¬ ((0 : Int32) < 0 ∨ cl_z197.slots.size ≤ ((0 : Int32)).toNatClampNeg) := inb_of S_z197 ⟨by decide, by decide⟩
    obtain ⟨T199, h199, X199, e199, W199, st199⟩ := stI X195 hx hZ e195 Ar_z197 (j := (0 : Int32)) hin198 (g := (mkF m 143 #[rv r0, iv 1, iv ((0 : Int32) + (1 : Int32)), iv 0, iv ((0 : Int32) + (1 : Int32)), iv 1, iv 1] [(.int 0), (.int 0), (.ref sA)])) rfl rfl (hb hby d4_143)
    have V199 : Arv Z h199 sA kS .int (256 : Int32) [(.int 0), (.int 1), (.int 2)] (.int 0) := Arv.set Ar_z197 q_z197 S_z197 N_z197 H_z197 G_z197 rfl W199 0 rfl (Nat.le_of_ble_eq_true rfl)
    have N199 := Fr.snoc X199 N193 ge_sA
    have f200 := ((f170.keep K193 (ninS ne_r0_bA nin0)).other W199 (Or.inl ne_r0_sA))
    obtain ⟨T201, X201, e201, st201⟩ := getF X199 hx hZ hown (host := "") (Or.inl (own_at hw 30 rfl)) Via.refl e199 f200 (g := (mkF m 81 #[rv r0, iv 1, iv ((0 : Int32) + (1 : Int32)), iv 1, iv (((0 : Int32) + (1 : Int32)) + (1 : Int32)), iv 1, iv 1] [(.ref r0), (.int 2)])) rfl rfl (hb hby d4_81)
    have f202 := ((f173.keep K193 (ninS ne_r0_bA nin0)).other W199 (Or.inl ne_r0_sA))
    obtain ⟨T203, X203, e203, st203⟩ := getF X201 hx hZ hown (host := "") (Or.inl (own_at hw 17 rfl)) Via.refl e201 f202 (g := (mkF m 88 #[rv r0, iv 1, iv ((0 : Int32) + (1 : Int32)), iv 1, iv (((0 : Int32) + (1 : Int32)) + (1 : Int32)), iv 1, iv 1] [(.ref r0)])) rfl rfl (hb hby d4_88)
    have f204 := ((V169.keep K193 (ninS (Ne.symm (Nat.ne_of_lt (Nat.lt_of_lt_of_le V_bA.lt p1_1))) nin0)).other W199 (Ne.symm (Nat.ne_of_lt (Nat.lt_of_lt_of_le V_sA.lt p1_1))))
    obtain ⟨cl_z205, Ar_z205, q_z205, S_z205, N_z205, H_z205, G_z205⟩ := id f204
    have hin206 : ¬ ((2 : Int32) < 0 ∨ cl_z205.slots.size ≤ ((2 : Int32)).toNatClampNeg) := inb_of S_z205 ⟨by decide, by decide⟩
    obtain ⟨T207, X207, e207, st207⟩ := getF X203 hx hZ hown (host := "") (Or.inl (own_at hw 30 rfl)) Via.refl e203 f200 (g := (mkF m 81 #[rv r0, iv 1, iv ((0 : Int32) + (1 : Int32)), iv 1, iv ((((0 : Int32) + (1 : Int32)) + (1 : Int32)) + (1 : Int32)), iv 1, iv 1] [(.ref r0), (.int 3)])) rfl rfl (hb hby d4_81)
    have f208 := ((f186.keep K193).wr W199)
    obtain ⟨T209, h209, X209, e209, W209, st209⟩ := putF X207 hx hZ hown (host := "") (Or.inl (own_at hw 30 rfl)) Via.refl e207 f200 f208 (Or.inl (own_at hw 31 rfl)) (own_at hw 1 rfl) (ty := .int) (by decide) rfl rfl (g := (mkF m 157 #[rv r0, iv 1, iv ((0 : Int32) + (1 : Int32)), iv 1, iv ((((0 : Int32) + (1 : Int32)) + (1 : Int32)) + (1 : Int32)), iv 1, iv 1] [(.int 1), (.ref r0)])) rfl rfl (hb hby d4_157)
    have Fw209 : Fld Z h209 r0 cS0 "count" "I" (.int 1) := f200.same W209
    have N209 := Fr.snoc X209 N199 ge_r0
    have f210 := (f208.wr W209)
    have f211 := (((f187.keep K193 (ninS ne_r0_bA nin0)).other W199 (Or.inl ne_r0_sA)).other W209 (Or.inr (slot_ne (Or.inl (own_at hw 33 rfl)) (Or.inl (own_at hw 31 rfl)) (by decide) (t := .int) (t' := .int) (by decide) (by decide))))
    obtain ⟨T212, h212, X212, e212, W212, st212⟩ := putF X209 hx hZ hown (host := "") (Or.inl (own_at hw 32 rfl)) Via.refl e209 f211 f210 (Or.inl (own_at hw 33 rfl)) (own_at hw 1 rfl) (ty := .int) (by decide) rfl rfl (g := (mkF m 162 #[rv r0, iv 1, iv ((0 : Int32) + (1 : Int32)), iv 1, iv ((((0 : Int32) + (1 : Int32)) + (1 : Int32)) + (1 : Int32)), iv 1, iv 1] [(.int 1), (.ref r0)])) rfl rfl (hb hby d4_162)
    have Fw212 : Fld Z h212 r0 cS0 "used" "I" (.int 1) := f211.same W212
    have N212 := Fr.snoc X212 N209 ge_r0
    have f213 := (f210.wr W212)
    have f214 := (((((((((p1_5.keep K127 nin0).other W132 (Or.inr (slot_ne (Or.inr (own_at hw 20 rfl)) (Or.inl (own_at hw 29 rfl)) (by decide) (t := .int) (t' := (.array .byte)) (by decide) (by decide)))).other W145 (Or.inl (Nat.ne_of_lt (Nat.lt_of_lt_of_le E_r0.lt p1_1)))).other W157 (Or.inl (Nat.ne_of_lt (Nat.lt_of_lt_of_le E_r0.lt p1_1)))).other W169 (Or.inl (Nat.ne_of_lt (Nat.lt_of_lt_of_le E_r0.lt p1_1)))).keep K193 (ninS ne_r0_bA nin0)).other W199 (Or.inl ne_r0_sA)).other W209 (Or.inr (slot_ne (Or.inr (own_at hw 20 rfl)) (Or.inl (own_at hw 31 rfl)) (by decide) (t := .int) (t' := .int) (by decide) (by decide)))).other W212 (Or.inr (slot_ne (Or.inr (own_at hw 20 rfl)) (Or.inl (own_at hw 33 rfl)) (by decide) (t := .int) (t' := .int) (by decide) (by decide))))
    have f215 := (((((((((p1_6.keep K127 nin0).other W132 (Or.inr (slot_ne (Or.inr (own_at hw 22 rfl)) (Or.inl (own_at hw 29 rfl)) (by decide) (t := .int) (t' := (.array .byte)) (by decide) (by decide)))).other W145 (Or.inl (Nat.ne_of_lt (Nat.lt_of_lt_of_le E_r0.lt p1_1)))).other W157 (Or.inl (Nat.ne_of_lt (Nat.lt_of_lt_of_le E_r0.lt p1_1)))).other W169 (Or.inl (Nat.ne_of_lt (Nat.lt_of_lt_of_le E_r0.lt p1_1)))).keep K193 (ninS ne_r0_bA nin0)).other W199 (Or.inl ne_r0_sA)).other W209 (Or.inr (slot_ne (Or.inr (own_at hw 22 rfl)) (Or.inl (own_at hw 31 rfl)) (by decide) (t := .int) (t' := .int) (by decide) (by decide)))).other W212 (Or.inr (slot_ne (Or.inr (own_at hw 22 rfl)) (Or.inl (own_at hw 33 rfl)) (by decide) (t := .int) (t' := .int) (by decide) (by decide))))
    have f216 := (Fw209.other W212 (Or.inr (slot_ne (Or.inl (own_at hw 31 rfl)) (Or.inl (own_at hw 33 rfl)) (by decide) (t := .int) (t' := .int) (by decide) (by decide))))
    have f217 := (((((((Fw132.other W145 (Or.inl (Nat.ne_of_lt (Nat.lt_of_lt_of_le E_r0.lt p1_1)))).other W157 (Or.inl (Nat.ne_of_lt (Nat.lt_of_lt_of_le E_r0.lt p1_1)))).other W169 (Or.inl (Nat.ne_of_lt (Nat.lt_of_lt_of_le E_r0.lt p1_1)))).keep K193 (ninS ne_r0_bA nin0)).other W199 (Or.inl ne_r0_sA)).other W209 (Or.inr (slot_ne (Or.inl (own_at hw 29 rfl)) (Or.inl (own_at hw 31 rfl)) (by decide) (t := (.array .byte)) (t' := .int) (by decide) (by decide)))).other W212 (Or.inr (slot_ne (Or.inl (own_at hw 29 rfl)) (Or.inl (own_at hw 33 rfl)) (by decide) (t := (.array .byte)) (t' := .int) (by decide) (by decide))))
    have f218 := ((((f188.keep K193 (ninS ne_r0_bA nin0)).other W199 (Or.inl ne_r0_sA)).other W209 (Or.inr (slot_ne (Or.inl (own_at hw 11 rfl)) (Or.inl (own_at hw 31 rfl)) (by decide) (t := (.array .byte)) (t' := .int) (by decide) (by decide)))).other W212 (Or.inr (slot_ne (Or.inl (own_at hw 11 rfl)) (Or.inl (own_at hw 33 rfl)) (by decide) (t := (.array .byte)) (t' := .int) (by decide) (by decide))))
    have f219 := (((V193.other W199 ne_bA_sA).other W209 ne_bA_r0).other W212 ne_bA_r0)
    have f220 := ((((f192.keep K193).wr W199).wr W209).wr W212)
    have f221 := (((f194.other W199 (Or.inl ne_r0_sA)).other W209 (Or.inr (slot_ne (Or.inl (own_at hw 14 rfl)) (Or.inl (own_at hw 31 rfl)) (by decide) (t := (.array .int)) (t' := .int) (by decide) (by decide)))).other W212 (Or.inr (slot_ne (Or.inl (own_at hw 14 rfl)) (Or.inl (own_at hw 33 rfl)) (by decide) (t := (.array .int)) (t' := .int) (by decide) (by decide))))
    have f222 := ((V199.other W209 ne_sA_r0).other W212 ne_sA_r0)
    have f223 := ((((((((((E_sA.keep K1).keep K127).wr W132).wr W145).wr W157).wr W169).keep K193).wr W199).wr W209).wr W212)
    have f224 := (((((f162.other W169 (Or.inl (Nat.ne_of_lt (Nat.lt_of_lt_of_le E_r0.lt p1_1)))).keep K193 (ninS ne_r0_bA nin0)).other W199 (Or.inl ne_r0_sA)).other W209 (Or.inr (slot_ne (Or.inl (own_at hw 16 rfl)) (Or.inl (own_at hw 31 rfl)) (by decide) (t := (.array .int)) (t' := .int) (by decide) (by decide)))).other W212 (Or.inr (slot_ne (Or.inl (own_at hw 16 rfl)) (Or.inl (own_at hw 33 rfl)) (by decide) (t := (.array .int)) (t' := .int) (by decide) (by decide))))
    have f225 := ((f202.other W209 (Or.inr (slot_ne (Or.inl (own_at hw 18 rfl)) (Or.inl (own_at hw 31 rfl)) (by decide) (t := (.array .int)) (t' := .int) (by decide) (by decide)))).other W212 (Or.inr (slot_ne (Or.inl (own_at hw 18 rfl)) (Or.inl (own_at hw 33 rfl)) (by decide) (t := (.array .int)) (t' := .int) (by decide) (by decide))))
    have f226 := ((((((((p127_1.other W132 (Ne.symm (Nat.ne_of_lt (Nat.lt_of_lt_of_le f126.lt p127_0)))).other W145 (Ne.symm (Nat.ne_of_lt (Nat.lt_of_lt_of_le p1_14.lt p127_0)))).other W157 (Ne.symm (Nat.ne_of_lt (Nat.lt_of_lt_of_le p1_14.lt p127_0)))).other W169 (Ne.symm (Nat.ne_of_lt (Nat.lt_of_lt_of_le p1_14.lt p127_0)))).keep K193 (ninS (Ne.symm (Nat.ne_of_lt (Nat.lt_of_lt_of_le f128.lt p127_0))) nin0)).other W199 (Ne.symm (Nat.ne_of_lt (Nat.lt_of_lt_of_le f120.lt p127_0)))).other W209 (Ne.symm (Nat.ne_of_lt (Nat.lt_of_lt_of_le f126.lt p127_0)))).other W212 (Ne.symm (Nat.ne_of_lt (Nat.lt_of_lt_of_le f126.lt p127_0))))
    have f227 := ((((((((p127_2.wr W132).wr W145).wr W157).wr W169).keep K193).wr W199).wr W209).wr W212)
    obtain ⟨fs, hr, hrun, hended, hW, hsame⟩ := X212.leave (v := none) (fun _ => rfl)
    refine ⟨_, _, k2 _ ?_, hrun, hended, _, _, rfl, ?_, ⟨_, rfl⟩, hW, hsame.mono (by decide) (by decide)⟩
    · refine st1.trans ?_
      refine XS.aloadN X1.here hx rfl (hb hby d4_4) rfl rfl ?_
      refine st114 _ ?_
      refine XS.iconst X114.here hx rfl (hb hby d4_8) ?_
      refine XS.idiv X114.here hx rfl (hb hby d4_9) rfl (by decide) ?_
      refine XS.istoreN X114.here hx rfl (hb hby d4_10) rfl (l' := #[rv r0, iv 1, .unset, .unset, .unset, .unset, .unset]) rfl ?_
      refine XS.aloadN X114.here hx rfl (hb hby d4_11) rfl rfl ?_
      refine XS.aloadN X114.here hx rfl (hb hby d4_12) rfl rfl ?_
      refine st115 _ ?_
      refine XS.aloadN X115.here hx rfl (hb hby d4_16) rfl rfl ?_
      refine st116 _ ?_
      refine XS.aloadN X116.here hx rfl (hb hby d4_20) rfl rfl ?_
      refine st117 _ ?_
      refine XS.iloadN X117.here hx rfl (hb hby d4_24) rfl ?_
      refine X117.iaload hx (j := (1 : Int32)) (v := (.int 2)) (by rw [e117]; exact Ar_z118.1) (State.isArrayOf_alike hZ.alike Ar_z118.2.1) Ar_z118.2.2 hin119 (Has.at H_z118 hin119 rfl) (g := (mkF m 25 #[rv r0, iv 1, .unset, .unset, .unset, .unset, .unset] [(.int 1), (.ref oA_1), (.ref sA), (.ref bA), (.ref r0)])) rfl rfl (hb hby d4_25) _ ?_
      refine X117.iaload hx (j := (2 : Int32)) (v := (.int 2)) (by rw [e117]; exact Ar_z121.1) (State.isArrayOf_alike hZ.alike Ar_z121.2.1) Ar_z121.2.2 hin122 (Has.at H_z121 hin122 rfl) (g := (mkF m 26 #[rv r0, iv 1, .unset, .unset, .unset, .unset, .unset] [(.int 2), (.ref sA), (.ref bA), (.ref r0)])) rfl rfl (hb hby d4_26) _ ?_
      refine XS.aloadN X117.here hx rfl (hb hby d4_27) rfl rfl ?_
      refine XS.aloadN X117.here hx rfl (hb hby d4_28) rfl rfl ?_
      refine st123 _ ?_
      refine XS.iloadN X123.here hx rfl (hb hby d4_32) rfl ?_
      refine X123.iaload hx (j := (1 : Int32)) (v := (.int 2)) (by rw [e123]; exact Ar_z118.1) (State.isArrayOf_alike hZ.alike Ar_z118.2.1) Ar_z118.2.2 hin124 (Has.at H_z118 hin124 rfl) (g := (mkF m 33 #[rv r0, iv 1, .unset, .unset, .unset, .unset, .unset] [(.int 1), (.ref oA_1), (.ref r0), (.int 2), (.ref bA), (.ref r0)])) rfl rfl (hb hby d4_33) _ ?_
      refine st125.trans ?_
      refine st127 _ ?_
      refine st132 _ ?_
      refine XS.iconst X132.here hx rfl (hb hby d4_43) ?_
      refine XS.istoreN X132.here hx rfl (hb hby d4_44) rfl (l' := #[rv r0, iv 1, iv 0, .unset, .unset, .unset, .unset]) rfl ?_
      refine XS.iloadN X132.here hx rfl (hb hby d4_45) rfl ?_
      refine XS.aloadN X132.here hx rfl (hb hby d4_46) rfl rfl ?_
      refine st134 _ ?_
      refine XS.icmpNo X134.here hx rfl (hb hby d4_50) rfl (tlt (by decide : (0 : Int32) < (3 : Int32))).2.1 ?_
      refine XS.aloadN X134.here hx rfl (hb hby d4_53) rfl rfl ?_
      refine st136 _ ?_
      refine XS.aloadN X136.here hx rfl (hb hby d4_57) rfl rfl ?_
      refine st138 _ ?_
      refine XS.iloadN X138.here hx rfl (hb hby d4_61) rfl ?_
      refine X138.iaload hx (j := (0 : Int32)) (v := (.int 1)) (by rw [e138]; exact Ar_z140.1) (State.isArrayOf_alike hZ.alike Ar_z140.2.1) Ar_z140.2.2 hin141 (Has.at H_z140 hin141 rfl) (g := (mkF m 62 #[rv r0, iv 1, iv 0, .unset, .unset, .unset, .unset] [(.int 0), (.ref oA_1), (.ref cA_1)])) rfl rfl (hb hby d4_62) _ ?_
      refine XS.iloadN X138.here hx rfl (hb hby d4_63) rfl ?_
      refine st145 _ ?_
      refine XS.iinc X145.here hx rfl (hb hby d4_65) rfl (l' := #[rv r0, iv 1, iv ((0 : Int32) + (1 : Int32)), .unset, .unset, .unset, .unset]) rfl ?_
      refine XS.goto X145.here hx rfl (pc0 := 68) (pc' := 45) rfl (hb hby d4_68) (by decide) (by decide) ?_
      show OwnS p e below T145 (mkF m 45 #[rv r0, iv 1, iv ((0 : Int32) + (1 : Int32)), .unset, .unset, .unset, .unset] []) _
      refine XS.iloadN X145.here hx rfl (hb hby d4_45) rfl ?_
      refine XS.aloadN X145.here hx rfl (hb hby d4_46) rfl rfl ?_
      refine st147 _ ?_
      refine XS.icmpNo X147.here hx rfl (hb hby d4_50) rfl (tlt (by decide : (1 : Int32) < (3 : Int32))).2.1 ?_
      refine XS.aloadN X147.here hx rfl (hb hby d4_53) rfl rfl ?_
      refine st149 _ ?_
      refine XS.aloadN X149.here hx rfl (hb hby d4_57) rfl rfl ?_
      refine st151 _ ?_
      refine XS.iloadN X151.here hx rfl (hb hby d4_61) rfl ?_
      refine X151.iaload hx (j := (1 : Int32)) (v := (.int 2)) (by rw [e151]; exact Ar_z153.1) (State.isArrayOf_alike hZ.alike Ar_z153.2.1) Ar_z153.2.2 hin154 (Has.at H_z153 hin154 rfl) (g := (mkF m 62 #[rv r0, iv 1, iv ((0 : Int32) + (1 : Int32)), .unset, .unset, .unset, .unset] [(.int 1), (.ref oA_1), (.ref cA_1)])) rfl rfl (hb hby d4_62) _ ?_
      refine XS.iloadN X151.here hx rfl (hb hby d4_63) rfl ?_
      refine st157 _ ?_
      refine XS.iinc X157.here hx rfl (hb hby d4_65) rfl (l' := #[rv r0, iv 1, iv (((0 : Int32) + (1 : Int32)) + (1 : Int32)), .unset, .unset, .unset, .unset]) rfl ?_
      refine XS.goto X157.here hx rfl (pc0 := 68) (pc' := 45) rfl (hb hby d4_68) (by decide) (by decide) ?_
      refine XS.iloadN X157.here hx rfl (hb hby d4_45) rfl ?_
      refine XS.aloadN X157.here hx rfl (hb hby d4_46) rfl rfl ?_
      refine st159 _ ?_
      refine XS.icmpNo X159.here hx rfl (hb hby d4_50) rfl (tlt (by decide : (2 : Int32) < (3 : Int32))).2.1 ?_
      refine XS.aloadN X159.here hx rfl (hb hby d4_53) rfl rfl ?_
      refine st161 _ ?_
      refine XS.aloadN X161.here hx rfl (hb hby d4_57) rfl rfl ?_
      refine st163 _ ?_
      refine XS.iloadN X163.here hx rfl (hb hby d4_61) rfl ?_
      refine X163.iaload hx (j := (2 : Int32)) (v := (.int 0)) (by rw [e163]; exact Ar_z165.1) (State.isArrayOf_alike hZ.alike Ar_z165.2.1) Ar_z165.2.2 hin166 (Has.at H_z165 hin166 rfl) (g := (mkF m 62 #[rv r0, iv 1, iv (((0 : Int32) + (1 : Int32)) + (1 : Int32)), .unset, .unset, .unset, .unset] [(.int 2), (.ref oA_1), (.ref cA_1)])) rfl rfl (hb hby d4_62) _ ?_
      refine XS.iloadN X163.here hx rfl (hb hby d4_63) rfl ?_
      refine st169 _ ?_
      refine XS.iinc X169.here hx rfl (hb hby d4_65) rfl (l' := #[rv r0, iv 1, iv ((((0 : Int32) + (1 : Int32)) + (1 : Int32)) + (1 : Int32)), .unset, .unset, .unset, .unset]) rfl ?_
      refine XS.goto X169.here hx rfl (pc0 := 68) (pc' := 45) rfl (hb hby d4_68) (by decide) (by decide) ?_
      refine XS.iloadN X169.here hx rfl (hb hby d4_45) rfl ?_
      refine XS.aloadN X169.here hx rfl (hb hby d4_46) rfl rfl ?_
      refine st171 _ ?_
      refine XS.icmpYes X171.here hx rfl (pc0 := 50) (pc' := 71) rfl (hb hby d4_50) rfl (flt (by decide : ¬ ((3 : Int32) < (3 : Int32)))).2.1 (by decide) (by decide) ?_
      refine XS.iconst X171.here hx rfl (hb hby d4_71) ?_
      refine XS.istoreN X171.here hx rfl (hb hby d4_72) rfl (l' := #[rv r0, iv 1, iv 0, .unset, .unset, .unset, .unset]) rfl ?_
      refine XS.iconst X171.here hx rfl (hb hby d4_73) ?_
      refine XS.istoreN X171.here hx rfl (hb hby d4_74) rfl (l' := #[rv r0, iv 1, iv 0, iv 0, .unset, .unset, .unset]) rfl ?_
      refine XS.iconst X171.here hx rfl (hb hby d4_75) ?_
      refine XS.istore X171.here hx rfl (hb hby d4_76) rfl (l' := #[rv r0, iv 1, iv 0, iv 0, iv 0, .unset, .unset]) rfl ?_
      refine XS.iload X171.here hx rfl (hb hby d4_78) rfl ?_
      refine XS.aloadN X171.here hx rfl (hb hby d4_80) rfl rfl ?_
      show OwnS p e below T171 (mkF m 81 #[rv r0, iv 1, iv 0, iv 0, iv 0, .unset, .unset] [(.ref r0), (.int 0)]) _
      refine st172 _ ?_
      refine XS.icmpNo X172.here hx rfl (hb hby d4_84) rfl (tlt (by decide : (0 : Int32) < (3 : Int32))).2.1 ?_
      refine XS.aloadN X172.here hx rfl (hb hby d4_87) rfl rfl ?_
      refine st174 _ ?_
      refine XS.iload X174.here hx rfl (hb hby d4_91) rfl ?_
      refine X174.iaload hx (j := (0 : Int32)) (v := (.int 2)) (by rw [e174]; exact Ar_z175.1) (State.isArrayOf_alike hZ.alike Ar_z175.2.1) Ar_z175.2.2 hin176 (Has.at H_z175 hin176 rfl) (g := (mkF m 93 #[rv r0, iv 1, iv 0, iv 0, iv 0, .unset, .unset] [(.int 0), (.ref cA_1)])) rfl rfl (hb hby d4_93) _ ?_
      refine XS.iloadN X174.here hx rfl (hb hby d4_94) rfl ?_
      refine XS.icmpYes X174.here hx rfl (pc0 := 95) (pc' := 149) rfl (hb hby d4_95) rfl (flt (by decide : ¬ ((2 : Int32) < (1 : Int32)))).2.1 (by decide) (by decide) ?_
      refine XS.iinc X174.here hx rfl (hb hby d4_149) rfl (l' := #[rv r0, iv 1, iv 0, iv 0, iv ((0 : Int32) + (1 : Int32)), .unset, .unset]) rfl ?_
      refine XS.goto X174.here hx rfl (pc0 := 152) (pc' := 78) rfl (hb hby d4_152) (by decide) (by decide) ?_
      refine XS.iload X174.here hx rfl (hb hby d4_78) rfl ?_
      refine XS.aloadN X174.here hx rfl (hb hby d4_80) rfl rfl ?_
      refine st177 _ ?_
      refine XS.icmpNo X177.here hx rfl (hb hby d4_84) rfl (tlt (by decide : (1 : Int32) < (3 : Int32))).2.1 ?_
      refine XS.aloadN X177.here hx rfl (hb hby d4_87) rfl rfl ?_
      refine st178 _ ?_
      refine XS.iload X178.here hx rfl (hb hby d4_91) rfl ?_
      refine X178.iaload hx (j := (1 : Int32)) (v := (.int 0)) (by rw [e178]; exact Ar_z175.1) (State.isArrayOf_alike hZ.alike Ar_z175.2.1) Ar_z175.2.2 hin179 (Has.at H_z175 hin179 rfl) (g := (mkF m 93 #[rv r0, iv 1, iv 0, iv 0, iv ((0 : Int32) + (1 : Int32)), .unset, .unset] [(.int 1), (.ref cA_1)])) rfl rfl (hb hby d4_93) _ ?_
      refine XS.iloadN X178.here hx rfl (hb hby d4_94) rfl ?_
      refine XS.icmpNo X178.here hx rfl (hb hby d4_95) rfl (tlt (by decide : (0 : Int32) < (1 : Int32))).2.1 ?_
      refine XS.aloadN X178.here hx rfl (hb hby d4_98) rfl rfl ?_
      refine st181 _ ?_
      refine XS.iload X181.here hx rfl (hb hby d4_102) rfl ?_
      refine X181.iaload hx (j := (1 : Int32)) (v := (.int 1)) (by rw [e181]; exact Ar_z183.1) (State.isArrayOf_alike hZ.alike Ar_z183.2.1) Ar_z183.2.2 hin184 (Has.at H_z183 hin184 rfl) (g := (mkF m 104 #[rv r0, iv 1, iv 0, iv 0, iv ((0 : Int32) + (1 : Int32)), .unset, .unset] [(.int 1), (.ref sA)])) rfl rfl (hb hby d4_104) _ ?_
      refine XS.istore X181.here hx rfl (hb hby d4_105) rfl (l' := #[rv r0, iv 1, iv 0, iv 0, iv ((0 : Int32) + (1 : Int32)), iv 1, .unset]) rfl ?_
      refine XS.aloadN X181.here hx rfl (hb hby d4_107) rfl rfl ?_
      refine XS.iload X181.here hx rfl (hb hby d4_108) rfl ?_
      refine st185.trans ?_
      refine XS.iload X185.here hx rfl (hb hby d4_113) rfl ?_
      refine XS.isub X185.here hx rfl (hb hby d4_115) rfl ?_
      refine XS.istore X185.here hx rfl (hb hby d4_116) rfl (l' := #[rv r0, iv 1, iv 0, iv 0, iv ((0 : Int32) + (1 : Int32)), iv 1, iv 1]) rfl ?_
      refine XS.aloadN X185.here hx rfl (hb hby d4_118) rfl rfl ?_
      refine st189 _ ?_
      refine XS.iload X189.here hx rfl (hb hby d4_122) rfl ?_
      refine XS.aloadN X189.here hx rfl (hb hby d4_124) rfl rfl ?_
      refine st190 _ ?_
      refine XS.iloadN X190.here hx rfl (hb hby d4_128) rfl ?_
      refine XS.iload X190.here hx rfl (hb hby d4_129) rfl ?_
      refine st193 _ ?_
      refine XS.aloadN X193.here hx rfl (hb hby d4_134) rfl rfl ?_
      show OwnS p e below T193 (mkF m 135 #[rv r0, iv 1, iv 0, iv 0, iv ((0 : Int32) + (1 : Int32)), iv 1, iv 1] [(.ref r0)]) _
      refine st195 _ ?_
      refine XS.iloadN X195.here hx rfl (hb hby d4_138) rfl ?_
      refine XS.iinc X195.here hx rfl (hb hby d4_139) rfl (l' := #[rv r0, iv 1, iv ((0 : Int32) + (1 : Int32)), iv 0, iv ((0 : Int32) + (1 : Int32)), iv 1, iv 1]) rfl ?_
      refine XS.iloadN X195.here hx rfl (hb hby d4_142) rfl ?_
      refine st199 _ ?_
      refine XS.iloadN X199.here hx rfl (hb hby d4_144) rfl ?_
      refine XS.iload X199.here hx rfl (hb hby d4_145) rfl ?_
      refine XS.iadd X199.here hx rfl (hb hby d4_147) rfl ?_
      refine XS.istoreN X199.here hx rfl (hb hby d4_148) rfl (l' := #[rv r0, iv 1, iv ((0 : Int32) + (1 : Int32)), iv 1, iv ((0 : Int32) + (1 : Int32)), iv 1, iv 1]) rfl ?_
      refine XS.iinc X199.here hx rfl (hb hby d4_149) rfl (l' := #[rv r0, iv 1, iv ((0 : Int32) + (1 : Int32)), iv 1, iv (((0 : Int32) + (1 : Int32)) + (1 : Int32)), iv 1, iv 1]) rfl ?_
      refine XS.goto X199.here hx rfl (pc0 := 152) (pc' := 78) rfl (hb hby d4_152) (by decide) (by decide) ?_
      refine XS.iload X199.here hx rfl (hb hby d4_78) rfl ?_
      refine XS.aloadN X199.here hx rfl (hb hby d4_80) rfl rfl ?_
      refine st201 _ ?_
      refine XS.icmpNo X201.here hx rfl (hb hby d4_84) rfl (tlt (by decide : (2 : Int32) < (3 : Int32))).2.1 ?_
      refine XS.aloadN X201.here hx rfl (hb hby d4_87) rfl rfl ?_
      refine st203 _ ?_
      refine XS.iload X203.here hx rfl (hb hby d4_91) rfl ?_
      refine X203.iaload hx (j := (2 : Int32)) (v := (.int 1)) (by rw [e203]; exact Ar_z205.1) (State.isArrayOf_alike hZ.alike Ar_z205.2.1) Ar_z205.2.2 hin206 (Has.at H_z205 hin206 rfl) (g := (mkF m 93 #[rv r0, iv 1, iv ((0 : Int32) + (1 : Int32)), iv 1, iv (((0 : Int32) + (1 : Int32)) + (1 : Int32)), iv 1, iv 1] [(.int 2), (.ref cA_1)])) rfl rfl (hb hby d4_93) _ ?_
      refine XS.iloadN X203.here hx rfl (hb hby d4_94) rfl ?_
      refine XS.icmpYes X203.here hx rfl (pc0 := 95) (pc' := 149) rfl (hb hby d4_95) rfl (flt (by decide : ¬ ((1 : Int32) < (1 : Int32)))).2.1 (by decide) (by decide) ?_
      refine XS.iinc X203.here hx rfl (hb hby d4_149) rfl (l' := #[rv r0, iv 1, iv ((0 : Int32) + (1 : Int32)), iv 1, iv ((((0 : Int32) + (1 : Int32)) + (1 : Int32)) + (1 : Int32)), iv 1, iv 1]) rfl ?_
      refine XS.goto X203.here hx rfl (pc0 := 152) (pc' := 78) rfl (hb hby d4_152) (by decide) (by decide) ?_
      refine XS.iload X203.here hx rfl (hb hby d4_78) rfl ?_
      refine XS.aloadN X203.here hx rfl (hb hby d4_80) rfl rfl ?_
      refine st207 _ ?_
      refine XS.icmpYes X207.here hx rfl (pc0 := 84) (pc' := 155) rfl (hb hby d4_84) rfl (flt (by decide : ¬ ((3 : Int32) < (3 : Int32)))).2.1 (by decide) (by decide) ?_
      refine XS.aloadN X207.here hx rfl (hb hby d4_155) rfl rfl ?_
      refine XS.iloadN X207.here hx rfl (hb hby d4_156) rfl ?_
      refine st209 _ ?_
      refine XS.aloadN X209.here hx rfl (hb hby d4_160) rfl rfl ?_
      refine XS.iloadN X209.here hx rfl (hb hby d4_161) rfl ?_
      refine st212 _ ?_
      exact X212.returnOut hx Bd.returns (hb hby d4_165) hr
    · show Q_4 Z r0 bA kB sA kS oZ kZ cZ x0 x1 x2 h0 n0 _ T212.heap _
      rw [e212]
      exact ⟨ar_127, oA_1, cA_1, kk_127, x2, x1, rfl, N212, (((((((((((Keep.refl h0 [r0, bA, sA]).trans K1 (allS (Or.inl (List.mem_of_getElem? (i := 0) rfl)) all0)).trans K127 all0).wr W132 (Or.inl (List.mem_of_getElem? (i := 0) rfl))).wr W145 (Or.inr sz_cA_1)).wr W157 (Or.inr sz_cA_1)).wr W169 (Or.inr sz_cA_1)).trans K193 (allS (Or.inl (List.mem_of_getElem? (i := 1) rfl)) all0)).wr W199 (Or.inl (List.mem_of_getElem? (i := 2) rfl))).wr W209 (Or.inl (List.mem_of_getElem? (i := 0) rfl))).wr W212 (Or.inl (List.mem_of_getElem? (i := 0) rfl))), sz_ar_127, f213, f214, f215, f216, Fw212, f217, f218, f219, f220, f221, f222, f223, f224, f225, f226, f227⟩
  · have pl1 := (allS (P := fun x => ∃ cell : Cell, h0[x]? = some cell ∧ cell.vm.isStatics = false) (own_ns E_r0) all0)
    have g_oA_1 : n0 ≤ oA_1 := Nat.le_trans Z0 p1_0
    have sz_oA_1 : h0.size ≤ oA_1 := Nat.le_trans (Keep.refl h0 []).1 p1_0
    have g_cA_1 : n0 ≤ cA_1 := Nat.le_trans Z0 p1_1
    have sz_cA_1 : h0.size ≤ cA_1 := Nat.le_trans (Keep.refl h0 []).1 p1_1
    have N1 := Fr.app N0 N1q
    obtain ⟨T228, X228, e228, st228⟩ := getF X1 hx hZ hown (host := "") (Or.inl (own_at hw 30 rfl)) Via.refl rfl p1_3 (g := (mkF m 5 #[rv r0, .unset, .unset, .unset, .unset, .unset, .unset] [(.ref r0)])) rfl rfl (hb hby d4_5)
    obtain ⟨T229, X229, e229, st229⟩ := getF X228 hx hZ hown (host := "") (Or.inl (own_at hw 10 rfl)) Via.refl e228 p1_8 (g := (mkF m 13 #[rv r0, iv 1, .unset, .unset, .unset, .unset, .unset] [(.ref r0), (.ref r0)])) rfl rfl (hb hby d4_13)
    obtain ⟨T230, X230, e230, st230⟩ := getF X229 hx hZ hown (host := "") (Or.inl (own_at hw 13 rfl)) Via.refl e229 p1_9 (g := (mkF m 17 #[rv r0, iv 1, .unset, .unset, .unset, .unset, .unset] [(.ref r0), (.ref bA), (.ref r0)])) rfl rfl (hb hby d4_17)
    obtain ⟨T231, X231, e231, st231⟩ := getF X230 hx hZ hown (host := "") (Or.inl (own_at hw 15 rfl)) Via.refl e230 p1_10 (g := (mkF m 21 #[rv r0, iv 1, .unset, .unset, .unset, .unset, .unset] [(.ref r0), (.ref sA), (.ref bA), (.ref r0)])) rfl rfl (hb hby d4_21)
    obtain ⟨cl_z232, Ar_z232, q_z232, S_z232, N_z232, H_z232, G_z232⟩ := id p1_11
    have hin233 : ¬ ((1 : Int32) < 0 ∨ cl_z232.slots.size ≤ ((1 : Int32)).toNatClampNeg) := inb_of S_z232 ⟨by decide, by decide⟩
    have f234 := (V_sA.keep K1 (ninS ne_sA_r0 nin0))
    obtain ⟨cl_z235, Ar_z235, q_z235, S_z235, N_z235, H_z235, G_z235⟩ := id f234
    have hin236 : ¬ ((0 : Int32) < 0 ∨ cl_z235.slots.size ≤ ((0 : Int32)).toNatClampNeg) := inb_of S_z235 ⟨by decide, by decide⟩
    obtain ⟨T237, X237, e237, st237⟩ := getF X231 hx hZ hown (host := "") (Or.inl (own_at hw 15 rfl)) Via.refl e231 p1_10 (g := (mkF m 29 #[rv r0, iv 1, .unset, .unset, .unset, .unset, .unset] [(.ref r0), (.ref r0), (.int 0), (.ref bA), (.ref r0)])) rfl rfl (hb hby d4_29)
    have hin238 : ¬ ((1 : Int32) < 0 ∨ cl_z232.slots.size ≤ ((1 : Int32)).toNatClampNeg) := inb_of S_z232 ⟨by decide, by decide⟩
    have f240 := (E_r0.keep K1)
    obtain ⟨cq239, q239, q239'⟩ := f240.cell
    obtain ⟨_, _, ⟨T239, L239, j239, i239⟩, -, X239, ⟨Lc239, hQ239, l239, y239, z239⟩, st239⟩ := X237.privateBack hx (y := (⟨cS0, "end", "(I)I"⟩ : MethodName)) hown (mvT hZ (own_at hw 59 rfl)) (mvT hZ (own_at hw 60 rfl)) (own_selpriv (by decide) (mvT hZ (own_at hw 1 rfl)) (mvP hZ (own_at hw 61 rfl)) (mvT hZ (own_at hw 60 rfl))) (Cond.privateMethod_at (mvP hZ (own_at hw 61 rfl) (args := #[]))) (mvT hZ (own_at hw 62 rfl)) (by decide) (backOf (W := 3) (rm9_0 l Z a0 hw [] r0 sA kS T1.heap n0 (Nat.le_trans Z0 K1.1) f240 p1_3 p1_4 p1_9 f234) hZ (own_at hw 62 rfl) (own_at hw 2 rfl) (by decide) (by decide)) (g := (mkF m 34 #[rv r0, iv 1, .unset, .unset, .unset, .unset, .unset] [(.int 0), (.ref r0), (.int 0), (.ref bA), (.ref r0)])) rfl (by rw [hml]; rfl) (Steps.refl _) (a := r0) (by rw [e237]; exact q239) q239' (argsL := [(.int 0)]) (rest := [(.int 0), (.ref bA), (.ref r0)]) (lenOf pd_5 rfl) rfl (Nat.le_refl _) (hb hby d4_34) (fun _ _ => ⟨rfl, e237, (by decide : 2 + 0 ≤ _), (by decide : 512 + 0 ≤ _)⟩)
    dsimp only [Pt.U, Pt.locs, Pt.cells, Pt.slots] at X239 l239 y239 z239 st239 hQ239
    subst l239 y239 z239
    obtain ⟨rfl, N239q, e239⟩ := hQ239
    have N239 := Fr.app N1 N239q
    have f242 := (V_bA.keep K1 (ninS ne_bA_r0 nin0))
    obtain ⟨_, _, ⟨T241, L241, j241, i241⟩, -, X241, ⟨Lc241, hQ241, l241, y241, z241⟩, st241⟩ := Jvm.LawKit.callS X239 hx (y := (⟨cS1, "copyOfRange", "([BII)[B"⟩ : MethodName)) hown (mvT hZ (own_at hw 75 rfl)) (mvT hZ (own_at hw 76 rfl)) (mvT hZ (own_at hw 65 rfl)) (mvT hZ (own_at hw 77 rfl)) (by decide) (backOf (W := 1) (rm13_0 l Z a0 hw [] bA kB x0 x1 x2 T1.heap n0 (Nat.le_trans Z0 K1.1) f242) hZ (own_at hw 77 rfl) (own_at hw 65 rfl) (by decide) (by decide)) (g := (mkF m 37 #[rv r0, iv 1, .unset, .unset, .unset, .unset, .unset] [(.int 1), (.int 0), (.ref bA), (.ref r0)])) rfl (by rw [hml]; rfl) (argsL := [(.ref bA), (.int 0), (.int 1)]) (rest := [(.ref r0)]) (lenOf pd_8 rfl) rfl (Nat.le_refl _) (hb hby d4_37) (fun _ _ => ⟨rfl, e239, (by decide : 2 + 1 ≤ _), (by decide : 512 + 1 ≤ _)⟩)
    dsimp only [Pt.U, Pt.locs, Pt.cells, Pt.slots] at X241 l241 y241 z241 st241 hQ241
    subst l241 y241 z241
    have f243 := (V_oZ.keep K1 (ninS ne_oZ_r0 nin0))
    obtain ⟨ar_241, kk_241, rfl, N241q, K241, p241_0, p241_1, p241_2⟩ := hQ241
    have g_ar_241 : n0 ≤ ar_241 := Nat.le_trans (Nat.le_trans Z0 K1.1) p241_0
    have sz_ar_241 : h0.size ≤ ar_241 := Nat.le_trans ((Keep.refl h0 [r0]).trans K1 (allS (Or.inl (List.mem_of_getElem? (i := 0) rfl)) all0)).1 p241_0
    have N241 := Fr.app N239 N241q
    have f244 := (f240.keep K241)
    have f245 := (p1_7.keep K241 nin0)
    obtain ⟨T246, h246, X246, e246, W246, st246⟩ := putF X241 hx hZ hown (host := "") (Or.inl (own_at hw 28 rfl)) Via.refl rfl f245 f244 (Or.inl (own_at hw 29 rfl)) (own_at hw 1 rfl) (ty := (.array .byte)) (by decide) rfl rfl (g := (mkF m 40 #[rv r0, iv 1, .unset, .unset, .unset, .unset, .unset] [(.ref ar_241), (.ref r0)])) rfl rfl (hb hby d4_40)
    have Fw246 : Fld Z h246 r0 cS0 "limit" "[B" (.ref ar_241) := f245.same W246
    have N246 := Fr.snoc X246 N241 ge_r0
    have f247 := ((p1_3.keep K241 nin0).other W246 (Or.inr (slot_ne (Or.inl (own_at hw 31 rfl)) (Or.inl (own_at hw 29 rfl)) (by decide) (t := .int) (t' := (.array .byte)) (by decide) (by decide))))
    obtain ⟨T248, X248, e248, st248⟩ := getF X246 hx hZ hown (host := "") (Or.inl (own_at hw 30 rfl)) Via.refl e246 f247 (g := (mkF m 47 #[rv r0, iv 1, iv 0, .unset, .unset, .unset, .unset] [(.ref r0), (.int 0)])) rfl rfl (hb hby d4_47)
    have f249 := ((p1_13.keep K241 nin0).other W246 (Or.inr (slot_ne (Or.inl (own_at hw 18 rfl)) (Or.inl (own_at hw 29 rfl)) (by decide) (t := (.array .int)) (t' := (.array .byte)) (by decide) (by decide))))
    obtain ⟨T250, X250, e250, st250⟩ := getF X248 hx hZ hown (host := "") (Or.inl (own_at hw 17 rfl)) Via.refl e248 f249 (g := (mkF m 54 #[rv r0, iv 1, iv 0, .unset, .unset, .unset, .unset] [(.ref r0)])) rfl rfl (hb hby d4_54)
    have f251 := ((p1_10.keep K241 nin0).other W246 (Or.inr (slot_ne (Or.inl (own_at hw 16 rfl)) (Or.inl (own_at hw 29 rfl)) (by decide) (t := (.array .int)) (t' := (.array .byte)) (by decide) (by decide))))
    obtain ⟨T252, X252, e252, st252⟩ := getF X250 hx hZ hown (host := "") (Or.inl (own_at hw 15 rfl)) Via.refl e250 f251 (g := (mkF m 58 #[rv r0, iv 1, iv 0, .unset, .unset, .unset, .unset] [(.ref r0), (.ref cA_1)])) rfl rfl (hb hby d4_58)
    have f253 := ((p1_11.keep K241 nin0).other W246 (Ne.symm (Nat.ne_of_lt (Nat.lt_of_lt_of_le E_r0.lt p1_0))))
    obtain ⟨cl_z254, Ar_z254, q_z254, S_z254, N_z254, H_z254, G_z254⟩ := id f253
    have hin255 : ¬ ((0 : Int32) < 0 ∨ cl_z254.slots.size ≤ ((0 : Int32)).toNatClampNeg) := inb_of S_z254 ⟨by decide, by decide⟩
    have f256 := ((p1_14.keep K241 nin0).other W246 (Ne.symm (Nat.ne_of_lt (Nat.lt_of_lt_of_le E_r0.lt p1_1))))
    obtain ⟨cl_z257, Ar_z257, q_z257, S_z257, N_z257, H_z257, G_z257⟩ := id f256
    have hin258 : ¬ ((1 : Int32) < 0 ∨ cl_z257.slots.size ≤ ((1 : Int32)).toNatClampNeg) := inb_of S_z257 ⟨by decide, by decide⟩
    obtain ⟨T259, h259, X259, e259, W259, st259⟩ := stI X252 hx hZ e252 Ar_z257 (j := (1 : Int32)) hin258 (g := (mkF m 64 #[rv r0, iv 1, iv 0, .unset, .unset, .unset, .unset] [(.int 0), (.int 1), (.ref cA_1)])) rfl rfl (hb hby d4_64)
    have V259 : Arv Z h259 cA_1 kC_1 .int (256 : Int32) [(.int 1), (.int 0), (.int 2)] (.int 0) := Arv.set Ar_z257 q_z257 S_z257 N_z257 H_z257 G_z257 rfl W259 1 rfl (Nat.le_of_ble_eq_true rfl)
    have N259 := Fr.snoc X259 N246 g_cA_1
    have f260 := (f247.other W259 (Or.inl (Nat.ne_of_lt (Nat.lt_of_lt_of_le E_r0.lt p1_1))))
    obtain ⟨T261, X261, e261, st261⟩ := getF X259 hx hZ hown (host := "") (Or.inl (own_at hw 30 rfl)) Via.refl e259 f260 (g := (mkF m 47 #[rv r0, iv 1, iv ((0 : Int32) + (1 : Int32)), .unset, .unset, .unset, .unset] [(.ref r0), (.int 1)])) rfl rfl (hb hby d4_47)
    have f262 := (f249.other W259 (Or.inl (Nat.ne_of_lt (Nat.lt_of_lt_of_le E_r0.lt p1_1))))
    obtain ⟨T263, X263, e263, st263⟩ := getF X261 hx hZ hown (host := "") (Or.inl (own_at hw 17 rfl)) Via.refl e261 f262 (g := (mkF m 54 #[rv r0, iv 1, iv ((0 : Int32) + (1 : Int32)), .unset, .unset, .unset, .unset] [(.ref r0)])) rfl rfl (hb hby d4_54)
    have f264 := (f251.other W259 (Or.inl (Nat.ne_of_lt (Nat.lt_of_lt_of_le E_r0.lt p1_1))))
    obtain ⟨T265, X265, e265, st265⟩ := getF X263 hx hZ hown (host := "") (Or.inl (own_at hw 15 rfl)) Via.refl e263 f264 (g := (mkF m 58 #[rv r0, iv 1, iv ((0 : Int32) + (1 : Int32)), .unset, .unset, .unset, .unset] [(.ref r0), (.ref cA_1)])) rfl rfl (hb hby d4_58)
    have f266 := (f253.other W259 p1_2)
    obtain ⟨cl_z267, Ar_z267, q_z267, S_z267, N_z267, H_z267, G_z267⟩ := id f266
    have hin268 : ¬ ((1 : Int32) < 0 ∨ cl_z267.slots.size ≤ ((1 : Int32)).toNatClampNeg) := inb_of S_z267 ⟨by decide, by decide⟩
    obtain ⟨cl_z269, Ar_z269, q_z269, S_z269, N_z269, H_z269, G_z269⟩ := id V259
    have hin270 : ¬ ((0 : Int32) < 0 ∨ cl_z269.slots.size ≤ ((0 : Int32)).toNatClampNeg) := inb_of S_z269 ⟨by decide, by decide⟩
    obtain ⟨T271, h271, X271, e271, W271, st271⟩ := stI X265 hx hZ e265 Ar_z269 (j := (0 : Int32)) hin270 (g := (mkF m 64 #[rv r0, iv 1, iv ((0 : Int32) + (1 : Int32)), .unset, .unset, .unset, .unset] [(.int 1), (.int 0), (.ref cA_1)])) rfl rfl (hb hby d4_64)
    have V271 : Arv Z h271 cA_1 kC_1 .int (256 : Int32) [(.int 1), (.int 0), (.int 2)] (.int 0) := Arv.set Ar_z269 q_z269 S_z269 N_z269 H_z269 G_z269 rfl W271 0 rfl (Nat.le_of_ble_eq_true rfl)
    have N271 := Fr.snoc X271 N259 g_cA_1
    have f272 := (f260.other W271 (Or.inl (Nat.ne_of_lt (Nat.lt_of_lt_of_le E_r0.lt p1_1))))
    obtain ⟨T273, X273, e273, st273⟩ := getF X271 hx hZ hown (host := "") (Or.inl (own_at hw 30 rfl)) Via.refl e271 f272 (g := (mkF m 47 #[rv r0, iv 1, iv (((0 : Int32) + (1 : Int32)) + (1 : Int32)), .unset, .unset, .unset, .unset] [(.ref r0), (.int 2)])) rfl rfl (hb hby d4_47)
    have f274 := (f262.other W271 (Or.inl (Nat.ne_of_lt (Nat.lt_of_lt_of_le E_r0.lt p1_1))))
    obtain ⟨T275, X275, e275, st275⟩ := getF X273 hx hZ hown (host := "") (Or.inl (own_at hw 17 rfl)) Via.refl e273 f274 (g := (mkF m 54 #[rv r0, iv 1, iv (((0 : Int32) + (1 : Int32)) + (1 : Int32)), .unset, .unset, .unset, .unset] [(.ref r0)])) rfl rfl (hb hby d4_54)
    have f276 := (f264.other W271 (Or.inl (Nat.ne_of_lt (Nat.lt_of_lt_of_le E_r0.lt p1_1))))
    obtain ⟨T277, X277, e277, st277⟩ := getF X275 hx hZ hown (host := "") (Or.inl (own_at hw 15 rfl)) Via.refl e275 f276 (g := (mkF m 58 #[rv r0, iv 1, iv (((0 : Int32) + (1 : Int32)) + (1 : Int32)), .unset, .unset, .unset, .unset] [(.ref r0), (.ref cA_1)])) rfl rfl (hb hby d4_58)
    have f278 := (f266.other W271 p1_2)
    obtain ⟨cl_z279, Ar_z279, q_z279, S_z279, N_z279, H_z279, G_z279⟩ := id f278
    have hin280 : ¬ ((2 : Int32) < 0 ∨ cl_z279.slots.size ≤ ((2 : Int32)).toNatClampNeg) := inb_of S_z279 ⟨by decide, by decide⟩
    obtain ⟨cl_z281, Ar_z281, q_z281, S_z281, N_z281, H_z281, G_z281⟩ := id V271
    have hin282 : ¬ ((2 : Int32) < 0 ∨ cl_z281.slots.size ≤ ((2 : Int32)).toNatClampNeg) := inb_of S_z281 ⟨by decide, by decide⟩
    obtain ⟨T283, h283, X283, e283, W283, st283⟩ := stI X277 hx hZ e277 Ar_z281 (j := (2 : Int32)) hin282 (g := (mkF m 64 #[rv r0, iv 1, iv (((0 : Int32) + (1 : Int32)) + (1 : Int32)), .unset, .unset, .unset, .unset] [(.int 2), (.int 2), (.ref cA_1)])) rfl rfl (hb hby d4_64)
    have V283 : Arv Z h283 cA_1 kC_1 .int (256 : Int32) [(.int 1), (.int 0), (.int 2)] (.int 0) := Arv.set Ar_z281 q_z281 S_z281 N_z281 H_z281 G_z281 rfl W283 2 rfl (Nat.le_of_ble_eq_true rfl)
    have N283 := Fr.snoc X283 N271 g_cA_1
    have f284 := (f272.other W283 (Or.inl (Nat.ne_of_lt (Nat.lt_of_lt_of_le E_r0.lt p1_1))))
    obtain ⟨T285, X285, e285, st285⟩ := getF X283 hx hZ hown (host := "") (Or.inl (own_at hw 30 rfl)) Via.refl e283 f284 (g := (mkF m 47 #[rv r0, iv 1, iv ((((0 : Int32) + (1 : Int32)) + (1 : Int32)) + (1 : Int32)), .unset, .unset, .unset, .unset] [(.ref r0), (.int 3)])) rfl rfl (hb hby d4_47)
    obtain ⟨T286, X286, e286, st286⟩ := getF X285 hx hZ hown (host := "") (Or.inl (own_at hw 30 rfl)) Via.refl e285 f284 (g := (mkF m 81 #[rv r0, iv 1, iv 0, iv 0, iv 0, .unset, .unset] [(.ref r0), (.int 0)])) rfl rfl (hb hby d4_81)
    have f287 := (f274.other W283 (Or.inl (Nat.ne_of_lt (Nat.lt_of_lt_of_le E_r0.lt p1_1))))
    obtain ⟨T288, X288, e288, st288⟩ := getF X286 hx hZ hown (host := "") (Or.inl (own_at hw 17 rfl)) Via.refl e286 f287 (g := (mkF m 88 #[rv r0, iv 1, iv 0, iv 0, iv 0, .unset, .unset] [(.ref r0)])) rfl rfl (hb hby d4_88)
    obtain ⟨cl_z289, Ar_z289, q_z289, S_z289, N_z289, H_z289, G_z289⟩ := id V283
    have hin290 : ¬ ((0 : Int32) < 0 ∨ cl_z289.slots.size ≤ ((0 : Int32)).toNatClampNeg) := inb_of S_z289 ⟨by decide, by decide⟩
    obtain ⟨T291, X291, e291, st291⟩ := getF X288 hx hZ hown (host := "") (Or.inl (own_at hw 30 rfl)) Via.refl e288 f284 (g := (mkF m 81 #[rv r0, iv 1, iv 0, iv 0, iv ((0 : Int32) + (1 : Int32)), .unset, .unset] [(.ref r0), (.int 1)])) rfl rfl (hb hby d4_81)
    obtain ⟨T292, X292, e292, st292⟩ := getF X291 hx hZ hown (host := "") (Or.inl (own_at hw 17 rfl)) Via.refl e291 f287 (g := (mkF m 88 #[rv r0, iv 1, iv 0, iv 0, iv ((0 : Int32) + (1 : Int32)), .unset, .unset] [(.ref r0)])) rfl rfl (hb hby d4_88)
    have hin293 : ¬ ((1 : Int32) < 0 ∨ cl_z289.slots.size ≤ ((1 : Int32)).toNatClampNeg) := inb_of S_z289 ⟨by decide, by decide⟩
    have f294 := (((((p1_9.keep K241 nin0).other W246 (Or.inr (slot_ne (Or.inl (own_at hw 14 rfl)) (Or.inl (own_at hw 29 rfl)) (by decide) (t := (.array .int)) (t' := (.array .byte)) (by decide) (by decide)))).other W259 (Or.inl (Nat.ne_of_lt (Nat.lt_of_lt_of_le E_r0.lt p1_1)))).other W271 (Or.inl (Nat.ne_of_lt (Nat.lt_of_lt_of_le E_r0.lt p1_1)))).other W283 (Or.inl (Nat.ne_of_lt (Nat.lt_of_lt_of_le E_r0.lt p1_1))))
    obtain ⟨T295, X295, e295, st295⟩ := getF X292 hx hZ hown (host := "") (Or.inl (own_at hw 13 rfl)) Via.refl e292 f294 (g := (mkF m 99 #[rv r0, iv 1, iv 0, iv 0, iv ((0 : Int32) + (1 : Int32)), .unset, .unset] [(.ref r0)])) rfl rfl (hb hby d4_99)
    have f296 := (((((f234.keep K241 nin0).other W246 ne_sA_r0).other W259 (Nat.ne_of_lt (Nat.lt_of_lt_of_le V_sA.lt p1_1))).other W271 (Nat.ne_of_lt (Nat.lt_of_lt_of_le V_sA.lt p1_1))).other W283 (Nat.ne_of_lt (Nat.lt_of_lt_of_le V_sA.lt p1_1)))
    obtain ⟨cl_z297, Ar_z297, q_z297, S_z297, N_z297, H_z297, G_z297⟩ := id f296
    have hin298 : ¬ ((1 : Int32) < 0 ∨ cl_z297.slots.size ≤ ((1 : Int32)).toNatClampNeg) := inb_of S_z297 ⟨by decide, by decide⟩
    have f300 := ((((f244.wr W246).wr W259).wr W271).wr W283)
    have f301 := (((((p1_4.keep K241 nin0).other W246 (Or.inr (slot_ne (Or.inl (own_at hw 33 rfl)) (Or.inl (own_at hw 29 rfl)) (by decide) (t := .int) (t' := (.array .byte)) (by decide) (by decide)))).other W259 (Or.inl (Nat.ne_of_lt (Nat.lt_of_lt_of_le E_r0.lt p1_1)))).other W271 (Or.inl (Nat.ne_of_lt (Nat.lt_of_lt_of_le E_r0.lt p1_1)))).other W283 (Or.inl (Nat.ne_of_lt (Nat.lt_of_lt_of_le E_r0.lt p1_1))))
    obtain ⟨cq299, q299, q299'⟩ := f300.cell
    obtain ⟨_, _, ⟨T299, L299, j299, i299⟩, -, X299, ⟨Lc299, hQ299, l299, y299, z299⟩, st299⟩ := X295.privateBack hx (y := (⟨cS0, "end", "(I)I"⟩ : MethodName)) hown (mvT hZ (own_at hw 59 rfl)) (mvT hZ (own_at hw 60 rfl)) (own_selpriv (by decide) (mvT hZ (own_at hw 1 rfl)) (mvP hZ (own_at hw 61 rfl)) (mvT hZ (own_at hw 60 rfl))) (Cond.privateMethod_at (mvP hZ (own_at hw 61 rfl) (args := #[]))) (mvT hZ (own_at hw 62 rfl)) (by decide) (backOf (W := 0) (rm9_1 l Z a0 hw [] r0 sA kS h283 n0 (Nat.le_trans (Nat.le_trans (Nat.le_trans (Nat.le_trans (Nat.le_trans (Nat.le_trans Z0 K1.1) K241.1) (Keep.of_wr W246).1) (Keep.of_wr W259).1) (Keep.of_wr W271).1) (Keep.of_wr W283).1) f300 f284 f301 f294 f296) hZ (own_at hw 62 rfl) (own_at hw 2 rfl) (by decide) (by decide)) (g := (mkF m 110 #[rv r0, iv 1, iv 0, iv 0, iv ((0 : Int32) + (1 : Int32)), iv 1, .unset] [(.int 1), (.ref r0)])) rfl (by rw [hml]; rfl) (Steps.refl _) (a := r0) (by rw [e295]; exact q299) q299' (argsL := [(.int 1)]) (rest := []) (lenOf pd_5 rfl) rfl (Nat.le_refl _) (hb hby d4_110) (fun _ _ => ⟨rfl, e295, (by decide : 3 + 0 ≤ _), (by decide : 513 + 0 ≤ _)⟩)
    dsimp only [Pt.U, Pt.locs, Pt.cells, Pt.slots] at X299 l299 y299 z299 st299 hQ299
    subst l299 y299 z299
    obtain ⟨rfl, N299q, e299⟩ := hQ299
    have N299 := Fr.app N283 N299q
    have f302 := (((((p1_8.keep K241 nin0).other W246 (Or.inr (slot_ne (Or.inl (own_at hw 11 rfl)) (Or.inl (own_at hw 29 rfl)) (by decide) (t := (.array .byte)) (t' := (.array .byte)) (by decide) (by decide)))).other W259 (Or.inl (Nat.ne_of_lt (Nat.lt_of_lt_of_le E_r0.lt p1_1)))).other W271 (Or.inl (Nat.ne_of_lt (Nat.lt_of_lt_of_le E_r0.lt p1_1)))).other W283 (Or.inl (Nat.ne_of_lt (Nat.lt_of_lt_of_le E_r0.lt p1_1))))
    obtain ⟨T303, X303, e303, st303⟩ := getF X299 hx hZ hown (host := "") (Or.inl (own_at hw 10 rfl)) Via.refl e299 f302 (g := (mkF m 119 #[rv r0, iv 1, iv 0, iv 0, iv ((0 : Int32) + (1 : Int32)), iv 1, iv 1] [(.ref r0)])) rfl rfl (hb hby d4_119)
    obtain ⟨T304, X304, e304, st304⟩ := getF X303 hx hZ hown (host := "") (Or.inl (own_at hw 10 rfl)) Via.refl e303 f302 (g := (mkF m 125 #[rv r0, iv 1, iv 0, iv 0, iv ((0 : Int32) + (1 : Int32)), iv 1, iv 1] [(.ref r0), (.int 1), (.ref bA)])) rfl rfl (hb hby d4_125)
    have f305 := (((((f242.keep K241 nin0).other W246 ne_bA_r0).other W259 (Nat.ne_of_lt (Nat.lt_of_lt_of_le V_bA.lt p1_1))).other W271 (Nat.ne_of_lt (Nat.lt_of_lt_of_le V_bA.lt p1_1))).other W283 (Nat.ne_of_lt (Nat.lt_of_lt_of_le V_bA.lt p1_1)))
    have f306 := ((((((E_bA.keep K1).keep K241).wr W246).wr W259).wr W271).wr W283)
    obtain ⟨T307, h307, L307, X307, e307, N307, K307, Vr307, st307⟩ := cpA X304 hx hZ hown (own_at hw 34 rfl) (own_at hw 37 rfl) (own_at hw 35 rfl) (own_at hw 36 rfl) e304 f305 f305 (us := [(.int x1)]) (Or.inl ⟨rfl, rfl⟩) (by decide) (by decide) (by decide) (by decide) (by decide) rfl (Nat.le_of_ble_eq_true rfl) N299 ge_bA (g := (mkF m 131 #[rv r0, iv 1, iv 0, iv 0, iv ((0 : Int32) + (1 : Int32)), iv 1, iv 1] [(.int 1), (.int 0), (.ref bA), (.int 1), (.ref bA)])) rfl (by rw [hml]; rfl) rfl (hb hby d4_131) (by decide) (W := 0) (Nat.le_refl _) (by decide)
    have pl307 := (allS (P := fun x => ∃ cell : Cell, h283[x]? = some cell ∧ cell.vm.isStatics = false) (own_ns f306) all0)
    have V307 : Arv Z h307 bA kB .byte (4096 : Int32) [(.int x1), (.int x1), (.int x2)] (.int 0) := Vr307
    have f308 := (f294.keep K307 (ninS ne_r0_bA nin0))
    obtain ⟨T309, X309, e309, st309⟩ := getF X307 hx hZ hown (host := "") (Or.inl (own_at hw 13 rfl)) Via.refl e307 f308 (g := (mkF m 135 #[rv r0, iv 1, iv 0, iv 0, iv ((0 : Int32) + (1 : Int32)), iv 1, iv 1] [(.ref r0)])) rfl rfl (hb hby d4_135)
    have f310 := (f296.keep K307 (ninS ne_sA_bA nin0))
    obtain ⟨cl_z311, Ar_z311, q_z311, S_z311, N_z311, H_z311, G_z311⟩ := id f310
    have hin312 : ¬ ((0 : Int32) < 0 ∨ cl_z311.slots.size ≤ ((0 : Int32)).toNatClampNeg) := inb_of S_z311 ⟨by decide, by decide⟩
    obtain ⟨T313, h313, X313, e313, W313, st313⟩ := stI X309 hx hZ e309 Ar_z311 (j := (0 : Int32)) hin312 (g := (mkF m 143 #[rv r0, iv 1, iv ((0 : Int32) + (1 : Int32)), iv 0, iv ((0 : Int32) + (1 : Int32)), iv 1, iv 1] [(.int 0), (.int 0), (.ref sA)])) rfl rfl (hb hby d4_143)
    have V313 : Arv Z h313 sA kS .int (256 : Int32) [(.int 0), (.int 1), (.int 2)] (.int 0) := Arv.set Ar_z311 q_z311 S_z311 N_z311 H_z311 G_z311 rfl W313 0 rfl (Nat.le_of_ble_eq_true rfl)
    have N313 := Fr.snoc X313 N307 ge_sA
    have f314 := ((f284.keep K307 (ninS ne_r0_bA nin0)).other W313 (Or.inl ne_r0_sA))
    obtain ⟨T315, X315, e315, st315⟩ := getF X313 hx hZ hown (host := "") (Or.inl (own_at hw 30 rfl)) Via.refl e313 f314 (g := (mkF m 81 #[rv r0, iv 1, iv ((0 : Int32) + (1 : Int32)), iv 1, iv (((0 : Int32) + (1 : Int32)) + (1 : Int32)), iv 1, iv 1] [(.ref r0), (.int 2)])) rfl rfl (hb hby d4_81)
    have f316 := ((f287.keep K307 (ninS ne_r0_bA nin0)).other W313 (Or.inl ne_r0_sA))
    obtain ⟨T317, X317, e317, st317⟩ := getF X315 hx hZ hown (host := "") (Or.inl (own_at hw 17 rfl)) Via.refl e315 f316 (g := (mkF m 88 #[rv r0, iv 1, iv ((0 : Int32) + (1 : Int32)), iv 1, iv (((0 : Int32) + (1 : Int32)) + (1 : Int32)), iv 1, iv 1] [(.ref r0)])) rfl rfl (hb hby d4_88)
    have f318 := ((V283.keep K307 (ninS (Ne.symm (Nat.ne_of_lt (Nat.lt_of_lt_of_le V_bA.lt p1_1))) nin0)).other W313 (Ne.symm (Nat.ne_of_lt (Nat.lt_of_lt_of_le V_sA.lt p1_1))))
    obtain ⟨cl_z319, Ar_z319, q_z319, S_z319, N_z319, H_z319, G_z319⟩ := id f318
    have hin320 : ¬ ((2 : Int32) < 0 ∨ cl_z319.slots.size ≤ ((2 : Int32)).toNatClampNeg) := inb_of S_z319 ⟨by decide, by decide⟩
    obtain ⟨T321, X321, e321, st321⟩ := getF X317 hx hZ hown (host := "") (Or.inl (own_at hw 30 rfl)) Via.refl e317 f314 (g := (mkF m 81 #[rv r0, iv 1, iv ((0 : Int32) + (1 : Int32)), iv 1, iv ((((0 : Int32) + (1 : Int32)) + (1 : Int32)) + (1 : Int32)), iv 1, iv 1] [(.ref r0), (.int 3)])) rfl rfl (hb hby d4_81)
    have f322 := ((f300.keep K307).wr W313)
    obtain ⟨T323, h323, X323, e323, W323, st323⟩ := putF X321 hx hZ hown (host := "") (Or.inl (own_at hw 30 rfl)) Via.refl e321 f314 f322 (Or.inl (own_at hw 31 rfl)) (own_at hw 1 rfl) (ty := .int) (by decide) rfl rfl (g := (mkF m 157 #[rv r0, iv 1, iv ((0 : Int32) + (1 : Int32)), iv 1, iv ((((0 : Int32) + (1 : Int32)) + (1 : Int32)) + (1 : Int32)), iv 1, iv 1] [(.int 1), (.ref r0)])) rfl rfl (hb hby d4_157)
    have Fw323 : Fld Z h323 r0 cS0 "count" "I" (.int 1) := f314.same W323
    have N323 := Fr.snoc X323 N313 ge_r0
    have f324 := (f322.wr W323)
    have f325 := (((f301.keep K307 (ninS ne_r0_bA nin0)).other W313 (Or.inl ne_r0_sA)).other W323 (Or.inr (slot_ne (Or.inl (own_at hw 33 rfl)) (Or.inl (own_at hw 31 rfl)) (by decide) (t := .int) (t' := .int) (by decide) (by decide))))
    obtain ⟨T326, h326, X326, e326, W326, st326⟩ := putF X323 hx hZ hown (host := "") (Or.inl (own_at hw 32 rfl)) Via.refl e323 f325 f324 (Or.inl (own_at hw 33 rfl)) (own_at hw 1 rfl) (ty := .int) (by decide) rfl rfl (g := (mkF m 162 #[rv r0, iv 1, iv ((0 : Int32) + (1 : Int32)), iv 1, iv ((((0 : Int32) + (1 : Int32)) + (1 : Int32)) + (1 : Int32)), iv 1, iv 1] [(.int 1), (.ref r0)])) rfl rfl (hb hby d4_162)
    have Fw326 : Fld Z h326 r0 cS0 "used" "I" (.int 1) := f325.same W326
    have N326 := Fr.snoc X326 N323 ge_r0
    have f327 := (f324.wr W326)
    have f328 := (((((((((p1_5.keep K241 nin0).other W246 (Or.inr (slot_ne (Or.inr (own_at hw 20 rfl)) (Or.inl (own_at hw 29 rfl)) (by decide) (t := .int) (t' := (.array .byte)) (by decide) (by decide)))).other W259 (Or.inl (Nat.ne_of_lt (Nat.lt_of_lt_of_le E_r0.lt p1_1)))).other W271 (Or.inl (Nat.ne_of_lt (Nat.lt_of_lt_of_le E_r0.lt p1_1)))).other W283 (Or.inl (Nat.ne_of_lt (Nat.lt_of_lt_of_le E_r0.lt p1_1)))).keep K307 (ninS ne_r0_bA nin0)).other W313 (Or.inl ne_r0_sA)).other W323 (Or.inr (slot_ne (Or.inr (own_at hw 20 rfl)) (Or.inl (own_at hw 31 rfl)) (by decide) (t := .int) (t' := .int) (by decide) (by decide)))).other W326 (Or.inr (slot_ne (Or.inr (own_at hw 20 rfl)) (Or.inl (own_at hw 33 rfl)) (by decide) (t := .int) (t' := .int) (by decide) (by decide))))
    have f329 := (((((((((p1_6.keep K241 nin0).other W246 (Or.inr (slot_ne (Or.inr (own_at hw 22 rfl)) (Or.inl (own_at hw 29 rfl)) (by decide) (t := .int) (t' := (.array .byte)) (by decide) (by decide)))).other W259 (Or.inl (Nat.ne_of_lt (Nat.lt_of_lt_of_le E_r0.lt p1_1)))).other W271 (Or.inl (Nat.ne_of_lt (Nat.lt_of_lt_of_le E_r0.lt p1_1)))).other W283 (Or.inl (Nat.ne_of_lt (Nat.lt_of_lt_of_le E_r0.lt p1_1)))).keep K307 (ninS ne_r0_bA nin0)).other W313 (Or.inl ne_r0_sA)).other W323 (Or.inr (slot_ne (Or.inr (own_at hw 22 rfl)) (Or.inl (own_at hw 31 rfl)) (by decide) (t := .int) (t' := .int) (by decide) (by decide)))).other W326 (Or.inr (slot_ne (Or.inr (own_at hw 22 rfl)) (Or.inl (own_at hw 33 rfl)) (by decide) (t := .int) (t' := .int) (by decide) (by decide))))
    have f330 := (Fw323.other W326 (Or.inr (slot_ne (Or.inl (own_at hw 31 rfl)) (Or.inl (own_at hw 33 rfl)) (by decide) (t := .int) (t' := .int) (by decide) (by decide))))
    have f331 := (((((((Fw246.other W259 (Or.inl (Nat.ne_of_lt (Nat.lt_of_lt_of_le E_r0.lt p1_1)))).other W271 (Or.inl (Nat.ne_of_lt (Nat.lt_of_lt_of_le E_r0.lt p1_1)))).other W283 (Or.inl (Nat.ne_of_lt (Nat.lt_of_lt_of_le E_r0.lt p1_1)))).keep K307 (ninS ne_r0_bA nin0)).other W313 (Or.inl ne_r0_sA)).other W323 (Or.inr (slot_ne (Or.inl (own_at hw 29 rfl)) (Or.inl (own_at hw 31 rfl)) (by decide) (t := (.array .byte)) (t' := .int) (by decide) (by decide)))).other W326 (Or.inr (slot_ne (Or.inl (own_at hw 29 rfl)) (Or.inl (own_at hw 33 rfl)) (by decide) (t := (.array .byte)) (t' := .int) (by decide) (by decide))))
    have f332 := ((((f302.keep K307 (ninS ne_r0_bA nin0)).other W313 (Or.inl ne_r0_sA)).other W323 (Or.inr (slot_ne (Or.inl (own_at hw 11 rfl)) (Or.inl (own_at hw 31 rfl)) (by decide) (t := (.array .byte)) (t' := .int) (by decide) (by decide)))).other W326 (Or.inr (slot_ne (Or.inl (own_at hw 11 rfl)) (Or.inl (own_at hw 33 rfl)) (by decide) (t := (.array .byte)) (t' := .int) (by decide) (by decide))))
    have f333 := (((V307.other W313 ne_bA_sA).other W323 ne_bA_r0).other W326 ne_bA_r0)
    have f334 := ((((f306.keep K307).wr W313).wr W323).wr W326)
    have f335 := (((f308.other W313 (Or.inl ne_r0_sA)).other W323 (Or.inr (slot_ne (Or.inl (own_at hw 14 rfl)) (Or.inl (own_at hw 31 rfl)) (by decide) (t := (.array .int)) (t' := .int) (by decide) (by decide)))).other W326 (Or.inr (slot_ne (Or.inl (own_at hw 14 rfl)) (Or.inl (own_at hw 33 rfl)) (by decide) (t := (.array .int)) (t' := .int) (by decide) (by decide))))
    have f336 := ((V313.other W323 ne_sA_r0).other W326 ne_sA_r0)
    have f337 := ((((((((((E_sA.keep K1).keep K241).wr W246).wr W259).wr W271).wr W283).keep K307).wr W313).wr W323).wr W326)
    have f338 := (((((f276.other W283 (Or.inl (Nat.ne_of_lt (Nat.lt_of_lt_of_le E_r0.lt p1_1)))).keep K307 (ninS ne_r0_bA nin0)).other W313 (Or.inl ne_r0_sA)).other W323 (Or.inr (slot_ne (Or.inl (own_at hw 16 rfl)) (Or.inl (own_at hw 31 rfl)) (by decide) (t := (.array .int)) (t' := .int) (by decide) (by decide)))).other W326 (Or.inr (slot_ne (Or.inl (own_at hw 16 rfl)) (Or.inl (own_at hw 33 rfl)) (by decide) (t := (.array .int)) (t' := .int) (by decide) (by decide))))
    have f339 := ((f316.other W323 (Or.inr (slot_ne (Or.inl (own_at hw 18 rfl)) (Or.inl (own_at hw 31 rfl)) (by decide) (t := (.array .int)) (t' := .int) (by decide) (by decide)))).other W326 (Or.inr (slot_ne (Or.inl (own_at hw 18 rfl)) (Or.inl (own_at hw 33 rfl)) (by decide) (t := (.array .int)) (t' := .int) (by decide) (by decide))))
    have f340 := ((((((((p241_1.other W246 (Ne.symm (Nat.ne_of_lt (Nat.lt_of_lt_of_le f240.lt p241_0)))).other W259 (Ne.symm (Nat.ne_of_lt (Nat.lt_of_lt_of_le p1_14.lt p241_0)))).other W271 (Ne.symm (Nat.ne_of_lt (Nat.lt_of_lt_of_le p1_14.lt p241_0)))).other W283 (Ne.symm (Nat.ne_of_lt (Nat.lt_of_lt_of_le p1_14.lt p241_0)))).keep K307 (ninS (Ne.symm (Nat.ne_of_lt (Nat.lt_of_lt_of_le f242.lt p241_0))) nin0)).other W313 (Ne.symm (Nat.ne_of_lt (Nat.lt_of_lt_of_le f234.lt p241_0)))).other W323 (Ne.symm (Nat.ne_of_lt (Nat.lt_of_lt_of_le f240.lt p241_0)))).other W326 (Ne.symm (Nat.ne_of_lt (Nat.lt_of_lt_of_le f240.lt p241_0))))
    have f341 := ((((((((p241_2.wr W246).wr W259).wr W271).wr W283).keep K307).wr W313).wr W323).wr W326)
    obtain ⟨fs, hr, hrun, hended, hW, hsame⟩ := X326.leave (v := none) (fun _ => rfl)
    refine ⟨_, _, k2 _ ?_, hrun, hended, _, _, rfl, ?_, ⟨_, rfl⟩, hW, hsame.mono (by decide) (by decide)⟩
    · refine st1.trans ?_
      refine XS.aloadN X1.here hx rfl (hb hby d4_4) rfl rfl ?_
      refine st228 _ ?_
      refine XS.iconst X228.here hx rfl (hb hby d4_8) ?_
      refine XS.idiv X228.here hx rfl (hb hby d4_9) rfl (by decide) ?_
      refine XS.istoreN X228.here hx rfl (hb hby d4_10) rfl (l' := #[rv r0, iv 1, .unset, .unset, .unset, .unset, .unset]) rfl ?_
      refine XS.aloadN X228.here hx rfl (hb hby d4_11) rfl rfl ?_
      refine XS.aloadN X228.here hx rfl (hb hby d4_12) rfl rfl ?_
      refine st229 _ ?_
      refine XS.aloadN X229.here hx rfl (hb hby d4_16) rfl rfl ?_
      refine st230 _ ?_
      refine XS.aloadN X230.here hx rfl (hb hby d4_20) rfl rfl ?_
      refine st231 _ ?_
      refine XS.iloadN X231.here hx rfl (hb hby d4_24) rfl ?_
      refine X231.iaload hx (j := (1 : Int32)) (v := (.int 0)) (by rw [e231]; exact Ar_z232.1) (State.isArrayOf_alike hZ.alike Ar_z232.2.1) Ar_z232.2.2 hin233 (Has.at H_z232 hin233 rfl) (g := (mkF m 25 #[rv r0, iv 1, .unset, .unset, .unset, .unset, .unset] [(.int 1), (.ref oA_1), (.ref sA), (.ref bA), (.ref r0)])) rfl rfl (hb hby d4_25) _ ?_
      refine X231.iaload hx (j := (0 : Int32)) (v := (.int 0)) (by rw [e231]; exact Ar_z235.1) (State.isArrayOf_alike hZ.alike Ar_z235.2.1) Ar_z235.2.2 hin236 (Has.at H_z235 hin236 rfl) (g := (mkF m 26 #[rv r0, iv 1, .unset, .unset, .unset, .unset, .unset] [(.int 0), (.ref sA), (.ref bA), (.ref r0)])) rfl rfl (hb hby d4_26) _ ?_
      refine XS.aloadN X231.here hx rfl (hb hby d4_27) rfl rfl ?_
      refine XS.aloadN X231.here hx rfl (hb hby d4_28) rfl rfl ?_
      refine st237 _ ?_
      refine XS.iloadN X237.here hx rfl (hb hby d4_32) rfl ?_
      refine X237.iaload hx (j := (1 : Int32)) (v := (.int 0)) (by rw [e237]; exact Ar_z232.1) (State.isArrayOf_alike hZ.alike Ar_z232.2.1) Ar_z232.2.2 hin238 (Has.at H_z232 hin238 rfl) (g := (mkF m 33 #[rv r0, iv 1, .unset, .unset, .unset, .unset, .unset] [(.int 1), (.ref oA_1), (.ref r0), (.int 0), (.ref bA), (.ref r0)])) rfl rfl (hb hby d4_33) _ ?_
      refine st239.trans ?_
      refine st241 _ ?_
      refine st246 _ ?_
      refine XS.iconst X246.here hx rfl (hb hby d4_43) ?_
      refine XS.istoreN X246.here hx rfl (hb hby d4_44) rfl (l' := #[rv r0, iv 1, iv 0, .unset, .unset, .unset, .unset]) rfl ?_
      refine XS.iloadN X246.here hx rfl (hb hby d4_45) rfl ?_
      refine XS.aloadN X246.here hx rfl (hb hby d4_46) rfl rfl ?_
      refine st248 _ ?_
      refine XS.icmpNo X248.here hx rfl (hb hby d4_50) rfl (tlt (by decide : (0 : Int32) < (3 : Int32))).2.1 ?_
      refine XS.aloadN X248.here hx rfl (hb hby d4_53) rfl rfl ?_
      refine st250 _ ?_
      refine XS.aloadN X250.here hx rfl (hb hby d4_57) rfl rfl ?_
      refine st252 _ ?_
      refine XS.iloadN X252.here hx rfl (hb hby d4_61) rfl ?_
      refine X252.iaload hx (j := (0 : Int32)) (v := (.int 1)) (by rw [e252]; exact Ar_z254.1) (State.isArrayOf_alike hZ.alike Ar_z254.2.1) Ar_z254.2.2 hin255 (Has.at H_z254 hin255 rfl) (g := (mkF m 62 #[rv r0, iv 1, iv 0, .unset, .unset, .unset, .unset] [(.int 0), (.ref oA_1), (.ref cA_1)])) rfl rfl (hb hby d4_62) _ ?_
      refine XS.iloadN X252.here hx rfl (hb hby d4_63) rfl ?_
      refine st259 _ ?_
      refine XS.iinc X259.here hx rfl (hb hby d4_65) rfl (l' := #[rv r0, iv 1, iv ((0 : Int32) + (1 : Int32)), .unset, .unset, .unset, .unset]) rfl ?_
      refine XS.goto X259.here hx rfl (pc0 := 68) (pc' := 45) rfl (hb hby d4_68) (by decide) (by decide) ?_
      show OwnS p e below T259 (mkF m 45 #[rv r0, iv 1, iv ((0 : Int32) + (1 : Int32)), .unset, .unset, .unset, .unset] []) _
      refine XS.iloadN X259.here hx rfl (hb hby d4_45) rfl ?_
      refine XS.aloadN X259.here hx rfl (hb hby d4_46) rfl rfl ?_
      refine st261 _ ?_
      refine XS.icmpNo X261.here hx rfl (hb hby d4_50) rfl (tlt (by decide : (1 : Int32) < (3 : Int32))).2.1 ?_
      refine XS.aloadN X261.here hx rfl (hb hby d4_53) rfl rfl ?_
      refine st263 _ ?_
      refine XS.aloadN X263.here hx rfl (hb hby d4_57) rfl rfl ?_
      refine st265 _ ?_
      refine XS.iloadN X265.here hx rfl (hb hby d4_61) rfl ?_
      refine X265.iaload hx (j := (1 : Int32)) (v := (.int 0)) (by rw [e265]; exact Ar_z267.1) (State.isArrayOf_alike hZ.alike Ar_z267.2.1) Ar_z267.2.2 hin268 (Has.at H_z267 hin268 rfl) (g := (mkF m 62 #[rv r0, iv 1, iv ((0 : Int32) + (1 : Int32)), .unset, .unset, .unset, .unset] [(.int 1), (.ref oA_1), (.ref cA_1)])) rfl rfl (hb hby d4_62) _ ?_
      refine XS.iloadN X265.here hx rfl (hb hby d4_63) rfl ?_
      refine st271 _ ?_
      refine XS.iinc X271.here hx rfl (hb hby d4_65) rfl (l' := #[rv r0, iv 1, iv (((0 : Int32) + (1 : Int32)) + (1 : Int32)), .unset, .unset, .unset, .unset]) rfl ?_
      refine XS.goto X271.here hx rfl (pc0 := 68) (pc' := 45) rfl (hb hby d4_68) (by decide) (by decide) ?_
      refine XS.iloadN X271.here hx rfl (hb hby d4_45) rfl ?_
      refine XS.aloadN X271.here hx rfl (hb hby d4_46) rfl rfl ?_
      refine st273 _ ?_
      refine XS.icmpNo X273.here hx rfl (hb hby d4_50) rfl (tlt (by decide : (2 : Int32) < (3 : Int32))).2.1 ?_
      refine XS.aloadN X273.here hx rfl (hb hby d4_53) rfl rfl ?_
      refine st275 _ ?_
      refine XS.aloadN X275.here hx rfl (hb hby d4_57) rfl rfl ?_
      refine st277 _ ?_
      refine XS.iloadN X277.here hx rfl (hb hby d4_61) rfl ?_
      refine X277.iaload hx (j := (2 : Int32)) (v := (.int 2)) (by rw [e277]; exact Ar_z279.1) (State.isArrayOf_alike hZ.alike Ar_z279.2.1) Ar_z279.2.2 hin280 (Has.at H_z279 hin280 rfl) (g := (mkF m 62 #[rv r0, iv 1, iv (((0 : Int32) + (1 : Int32)) + (1 : Int32)), .unset, .unset, .unset, .unset] [(.int 2), (.ref oA_1), (.ref cA_1)])) rfl rfl (hb hby d4_62) _ ?_
      refine XS.iloadN X277.here hx rfl (hb hby d4_63) rfl ?_
      refine st283 _ ?_
      refine XS.iinc X283.here hx rfl (hb hby d4_65) rfl (l' := #[rv r0, iv 1, iv ((((0 : Int32) + (1 : Int32)) + (1 : Int32)) + (1 : Int32)), .unset, .unset, .unset, .unset]) rfl ?_
      refine XS.goto X283.here hx rfl (pc0 := 68) (pc' := 45) rfl (hb hby d4_68) (by decide) (by decide) ?_
      refine XS.iloadN X283.here hx rfl (hb hby d4_45) rfl ?_
      refine XS.aloadN X283.here hx rfl (hb hby d4_46) rfl rfl ?_
      refine st285 _ ?_
      refine XS.icmpYes X285.here hx rfl (pc0 := 50) (pc' := 71) rfl (hb hby d4_50) rfl (flt (by decide : ¬ ((3 : Int32) < (3 : Int32)))).2.1 (by decide) (by decide) ?_
      refine XS.iconst X285.here hx rfl (hb hby d4_71) ?_
      refine XS.istoreN X285.here hx rfl (hb hby d4_72) rfl (l' := #[rv r0, iv 1, iv 0, .unset, .unset, .unset, .unset]) rfl ?_
      refine XS.iconst X285.here hx rfl (hb hby d4_73) ?_
      refine XS.istoreN X285.here hx rfl (hb hby d4_74) rfl (l' := #[rv r0, iv 1, iv 0, iv 0, .unset, .unset, .unset]) rfl ?_
      refine XS.iconst X285.here hx rfl (hb hby d4_75) ?_
      refine XS.istore X285.here hx rfl (hb hby d4_76) rfl (l' := #[rv r0, iv 1, iv 0, iv 0, iv 0, .unset, .unset]) rfl ?_
      refine XS.iload X285.here hx rfl (hb hby d4_78) rfl ?_
      refine XS.aloadN X285.here hx rfl (hb hby d4_80) rfl rfl ?_
      show OwnS p e below T285 (mkF m 81 #[rv r0, iv 1, iv 0, iv 0, iv 0, .unset, .unset] [(.ref r0), (.int 0)]) _
      refine st286 _ ?_
      refine XS.icmpNo X286.here hx rfl (hb hby d4_84) rfl (tlt (by decide : (0 : Int32) < (3 : Int32))).2.1 ?_
      refine XS.aloadN X286.here hx rfl (hb hby d4_87) rfl rfl ?_
      refine st288 _ ?_
      refine XS.iload X288.here hx rfl (hb hby d4_91) rfl ?_
      refine X288.iaload hx (j := (0 : Int32)) (v := (.int 1)) (by rw [e288]; exact Ar_z289.1) (State.isArrayOf_alike hZ.alike Ar_z289.2.1) Ar_z289.2.2 hin290 (Has.at H_z289 hin290 rfl) (g := (mkF m 93 #[rv r0, iv 1, iv 0, iv 0, iv 0, .unset, .unset] [(.int 0), (.ref cA_1)])) rfl rfl (hb hby d4_93) _ ?_
      refine XS.iloadN X288.here hx rfl (hb hby d4_94) rfl ?_
      refine XS.icmpYes X288.here hx rfl (pc0 := 95) (pc' := 149) rfl (hb hby d4_95) rfl (flt (by decide : ¬ ((1 : Int32) < (1 : Int32)))).2.1 (by decide) (by decide) ?_
      refine XS.iinc X288.here hx rfl (hb hby d4_149) rfl (l' := #[rv r0, iv 1, iv 0, iv 0, iv ((0 : Int32) + (1 : Int32)), .unset, .unset]) rfl ?_
      refine XS.goto X288.here hx rfl (pc0 := 152) (pc' := 78) rfl (hb hby d4_152) (by decide) (by decide) ?_
      refine XS.iload X288.here hx rfl (hb hby d4_78) rfl ?_
      refine XS.aloadN X288.here hx rfl (hb hby d4_80) rfl rfl ?_
      refine st291 _ ?_
      refine XS.icmpNo X291.here hx rfl (hb hby d4_84) rfl (tlt (by decide : (1 : Int32) < (3 : Int32))).2.1 ?_
      refine XS.aloadN X291.here hx rfl (hb hby d4_87) rfl rfl ?_
      refine st292 _ ?_
      refine XS.iload X292.here hx rfl (hb hby d4_91) rfl ?_
      refine X292.iaload hx (j := (1 : Int32)) (v := (.int 0)) (by rw [e292]; exact Ar_z289.1) (State.isArrayOf_alike hZ.alike Ar_z289.2.1) Ar_z289.2.2 hin293 (Has.at H_z289 hin293 rfl) (g := (mkF m 93 #[rv r0, iv 1, iv 0, iv 0, iv ((0 : Int32) + (1 : Int32)), .unset, .unset] [(.int 1), (.ref cA_1)])) rfl rfl (hb hby d4_93) _ ?_
      refine XS.iloadN X292.here hx rfl (hb hby d4_94) rfl ?_
      refine XS.icmpNo X292.here hx rfl (hb hby d4_95) rfl (tlt (by decide : (0 : Int32) < (1 : Int32))).2.1 ?_
      refine XS.aloadN X292.here hx rfl (hb hby d4_98) rfl rfl ?_
      refine st295 _ ?_
      refine XS.iload X295.here hx rfl (hb hby d4_102) rfl ?_
      refine X295.iaload hx (j := (1 : Int32)) (v := (.int 1)) (by rw [e295]; exact Ar_z297.1) (State.isArrayOf_alike hZ.alike Ar_z297.2.1) Ar_z297.2.2 hin298 (Has.at H_z297 hin298 rfl) (g := (mkF m 104 #[rv r0, iv 1, iv 0, iv 0, iv ((0 : Int32) + (1 : Int32)), .unset, .unset] [(.int 1), (.ref sA)])) rfl rfl (hb hby d4_104) _ ?_
      refine XS.istore X295.here hx rfl (hb hby d4_105) rfl (l' := #[rv r0, iv 1, iv 0, iv 0, iv ((0 : Int32) + (1 : Int32)), iv 1, .unset]) rfl ?_
      refine XS.aloadN X295.here hx rfl (hb hby d4_107) rfl rfl ?_
      refine XS.iload X295.here hx rfl (hb hby d4_108) rfl ?_
      refine st299.trans ?_
      refine XS.iload X299.here hx rfl (hb hby d4_113) rfl ?_
      refine XS.isub X299.here hx rfl (hb hby d4_115) rfl ?_
      refine XS.istore X299.here hx rfl (hb hby d4_116) rfl (l' := #[rv r0, iv 1, iv 0, iv 0, iv ((0 : Int32) + (1 : Int32)), iv 1, iv 1]) rfl ?_
      refine XS.aloadN X299.here hx rfl (hb hby d4_118) rfl rfl ?_
      refine st303 _ ?_
      refine XS.iload X303.here hx rfl (hb hby d4_122) rfl ?_
      refine XS.aloadN X303.here hx rfl (hb hby d4_124) rfl rfl ?_
      refine st304 _ ?_
      refine XS.iloadN X304.here hx rfl (hb hby d4_128) rfl ?_
      refine XS.iload X304.here hx rfl (hb hby d4_129) rfl ?_
      refine st307 _ ?_
      refine XS.aloadN X307.here hx rfl (hb hby d4_134) rfl rfl ?_
      show OwnS p e below T307 (mkF m 135 #[rv r0, iv 1, iv 0, iv 0, iv ((0 : Int32) + (1 : Int32)), iv 1, iv 1] [(.ref r0)]) _
      refine st309 _ ?_
      refine XS.iloadN X309.here hx rfl (hb hby d4_138) rfl ?_
      refine XS.iinc X309.here hx rfl (hb hby d4_139) rfl (l' := #[rv r0, iv 1, iv ((0 : Int32) + (1 : Int32)), iv 0, iv ((0 : Int32) + (1 : Int32)), iv 1, iv 1]) rfl ?_
      refine XS.iloadN X309.here hx rfl (hb hby d4_142) rfl ?_
      refine st313 _ ?_
      refine XS.iloadN X313.here hx rfl (hb hby d4_144) rfl ?_
      refine XS.iload X313.here hx rfl (hb hby d4_145) rfl ?_
      refine XS.iadd X313.here hx rfl (hb hby d4_147) rfl ?_
      refine XS.istoreN X313.here hx rfl (hb hby d4_148) rfl (l' := #[rv r0, iv 1, iv ((0 : Int32) + (1 : Int32)), iv 1, iv ((0 : Int32) + (1 : Int32)), iv 1, iv 1]) rfl ?_
      refine XS.iinc X313.here hx rfl (hb hby d4_149) rfl (l' := #[rv r0, iv 1, iv ((0 : Int32) + (1 : Int32)), iv 1, iv (((0 : Int32) + (1 : Int32)) + (1 : Int32)), iv 1, iv 1]) rfl ?_
      refine XS.goto X313.here hx rfl (pc0 := 152) (pc' := 78) rfl (hb hby d4_152) (by decide) (by decide) ?_
      refine XS.iload X313.here hx rfl (hb hby d4_78) rfl ?_
      refine XS.aloadN X313.here hx rfl (hb hby d4_80) rfl rfl ?_
      refine st315 _ ?_
      refine XS.icmpNo X315.here hx rfl (hb hby d4_84) rfl (tlt (by decide : (2 : Int32) < (3 : Int32))).2.1 ?_
      refine XS.aloadN X315.here hx rfl (hb hby d4_87) rfl rfl ?_
      refine st317 _ ?_
      refine XS.iload X317.here hx rfl (hb hby d4_91) rfl ?_
      refine X317.iaload hx (j := (2 : Int32)) (v := (.int 2)) (by rw [e317]; exact Ar_z319.1) (State.isArrayOf_alike hZ.alike Ar_z319.2.1) Ar_z319.2.2 hin320 (Has.at H_z319 hin320 rfl) (g := (mkF m 93 #[rv r0, iv 1, iv ((0 : Int32) + (1 : Int32)), iv 1, iv (((0 : Int32) + (1 : Int32)) + (1 : Int32)), iv 1, iv 1] [(.int 2), (.ref cA_1)])) rfl rfl (hb hby d4_93) _ ?_
      refine XS.iloadN X317.here hx rfl (hb hby d4_94) rfl ?_
      refine XS.icmpYes X317.here hx rfl (pc0 := 95) (pc' := 149) rfl (hb hby d4_95) rfl (flt (by decide : ¬ ((2 : Int32) < (1 : Int32)))).2.1 (by decide) (by decide) ?_
      refine XS.iinc X317.here hx rfl (hb hby d4_149) rfl (l' := #[rv r0, iv 1, iv ((0 : Int32) + (1 : Int32)), iv 1, iv ((((0 : Int32) + (1 : Int32)) + (1 : Int32)) + (1 : Int32)), iv 1, iv 1]) rfl ?_
      refine XS.goto X317.here hx rfl (pc0 := 152) (pc' := 78) rfl (hb hby d4_152) (by decide) (by decide) ?_
      refine XS.iload X317.here hx rfl (hb hby d4_78) rfl ?_
      refine XS.aloadN X317.here hx rfl (hb hby d4_80) rfl rfl ?_
      refine st321 _ ?_
      refine XS.icmpYes X321.here hx rfl (pc0 := 84) (pc' := 155) rfl (hb hby d4_84) rfl (flt (by decide : ¬ ((3 : Int32) < (3 : Int32)))).2.1 (by decide) (by decide) ?_
      refine XS.aloadN X321.here hx rfl (hb hby d4_155) rfl rfl ?_
      refine XS.iloadN X321.here hx rfl (hb hby d4_156) rfl ?_
      refine st323 _ ?_
      refine XS.aloadN X323.here hx rfl (hb hby d4_160) rfl rfl ?_
      refine XS.iloadN X323.here hx rfl (hb hby d4_161) rfl ?_
      refine st326 _ ?_
      exact X326.returnOut hx Bd.returns (hb hby d4_165) hr
    · show Q_4 Z r0 bA kB sA kS oZ kZ cZ x0 x1 x2 h0 n0 _ T326.heap _
      rw [e326]
      exact ⟨ar_241, oA_1, cA_1, kk_241, x0, x1, rfl, N326, (((((((((((Keep.refl h0 [r0, bA, sA]).trans K1 (allS (Or.inl (List.mem_of_getElem? (i := 0) rfl)) all0)).trans K241 all0).wr W246 (Or.inl (List.mem_of_getElem? (i := 0) rfl))).wr W259 (Or.inr sz_cA_1)).wr W271 (Or.inr sz_cA_1)).wr W283 (Or.inr sz_cA_1)).trans K307 (allS (Or.inl (List.mem_of_getElem? (i := 1) rfl)) all0)).wr W313 (Or.inl (List.mem_of_getElem? (i := 2) rfl))).wr W323 (Or.inl (List.mem_of_getElem? (i := 0) rfl))).wr W326 (Or.inl (List.mem_of_getElem? (i := 0) rfl))), sz_ar_241, f327, f328, f329, f330, Fw326, f331, f332, f333, f334, f335, f336, f337, f338, f339, f340, f341⟩
  · have pl1 := (allS (P := fun x => ∃ cell : Cell, h0[x]? = some cell ∧ cell.vm.isStatics = false) (own_ns E_r0) all0)
    have g_oA_1 : n0 ≤ oA_1 := Nat.le_trans Z0 p1_0
    have sz_oA_1 : h0.size ≤ oA_1 := Nat.le_trans (Keep.refl h0 []).1 p1_0
    have g_cA_1 : n0 ≤ cA_1 := Nat.le_trans Z0 p1_1
    have sz_cA_1 : h0.size ≤ cA_1 := Nat.le_trans (Keep.refl h0 []).1 p1_1
    have N1 := Fr.app N0 N1q
    obtain ⟨T342, X342, e342, st342⟩ := getF X1 hx hZ hown (host := "") (Or.inl (own_at hw 30 rfl)) Via.refl rfl p1_3 (g := (mkF m 5 #[rv r0, .unset, .unset, .unset, .unset, .unset, .unset] [(.ref r0)])) rfl rfl (hb hby d4_5)
    obtain ⟨T343, X343, e343, st343⟩ := getF X342 hx hZ hown (host := "") (Or.inl (own_at hw 10 rfl)) Via.refl e342 p1_8 (g := (mkF m 13 #[rv r0, iv 1, .unset, .unset, .unset, .unset, .unset] [(.ref r0), (.ref r0)])) rfl rfl (hb hby d4_13)
    obtain ⟨T344, X344, e344, st344⟩ := getF X343 hx hZ hown (host := "") (Or.inl (own_at hw 13 rfl)) Via.refl e343 p1_9 (g := (mkF m 17 #[rv r0, iv 1, .unset, .unset, .unset, .unset, .unset] [(.ref r0), (.ref bA), (.ref r0)])) rfl rfl (hb hby d4_17)
    obtain ⟨T345, X345, e345, st345⟩ := getF X344 hx hZ hown (host := "") (Or.inl (own_at hw 15 rfl)) Via.refl e344 p1_10 (g := (mkF m 21 #[rv r0, iv 1, .unset, .unset, .unset, .unset, .unset] [(.ref r0), (.ref sA), (.ref bA), (.ref r0)])) rfl rfl (hb hby d4_21)
    obtain ⟨cl_z346, Ar_z346, q_z346, S_z346, N_z346, H_z346, G_z346⟩ := id p1_11
    have hin347 : ¬ ((1 : Int32) < 0 ∨ cl_z346.slots.size ≤ ((1 : Int32)).toNatClampNeg) := inb_of S_z346 ⟨by decide, by decide⟩
    have f348 := (V_sA.keep K1 (ninS ne_sA_r0 nin0))
    obtain ⟨cl_z349, Ar_z349, q_z349, S_z349, N_z349, H_z349, G_z349⟩ := id f348
    have hin350 : ¬ ((0 : Int32) < 0 ∨ cl_z349.slots.size ≤ ((0 : Int32)).toNatClampNeg) := inb_of S_z349 ⟨by decide, by decide⟩
    obtain ⟨T351, X351, e351, st351⟩ := getF X345 hx hZ hown (host := "") (Or.inl (own_at hw 15 rfl)) Via.refl e345 p1_10 (g := (mkF m 29 #[rv r0, iv 1, .unset, .unset, .unset, .unset, .unset] [(.ref r0), (.ref r0), (.int 0), (.ref bA), (.ref r0)])) rfl rfl (hb hby d4_29)
    have hin352 : ¬ ((1 : Int32) < 0 ∨ cl_z346.slots.size ≤ ((1 : Int32)).toNatClampNeg) := inb_of S_z346 ⟨by decide, by decide⟩
    have f354 := (E_r0.keep K1)
    obtain ⟨cq353, q353, q353'⟩ := f354.cell
    obtain ⟨_, _, ⟨T353, L353, j353, i353⟩, -, X353, ⟨Lc353, hQ353, l353, y353, z353⟩, st353⟩ := X351.privateBack hx (y := (⟨cS0, "end", "(I)I"⟩ : MethodName)) hown (mvT hZ (own_at hw 59 rfl)) (mvT hZ (own_at hw 60 rfl)) (own_selpriv (by decide) (mvT hZ (own_at hw 1 rfl)) (mvP hZ (own_at hw 61 rfl)) (mvT hZ (own_at hw 60 rfl))) (Cond.privateMethod_at (mvP hZ (own_at hw 61 rfl) (args := #[]))) (mvT hZ (own_at hw 62 rfl)) (by decide) (backOf (W := 3) (rm9_0 l Z a0 hw [] r0 sA kS T1.heap n0 (Nat.le_trans Z0 K1.1) f354 p1_3 p1_4 p1_9 f348) hZ (own_at hw 62 rfl) (own_at hw 2 rfl) (by decide) (by decide)) (g := (mkF m 34 #[rv r0, iv 1, .unset, .unset, .unset, .unset, .unset] [(.int 0), (.ref r0), (.int 0), (.ref bA), (.ref r0)])) rfl (by rw [hml]; rfl) (Steps.refl _) (a := r0) (by rw [e351]; exact q353) q353' (argsL := [(.int 0)]) (rest := [(.int 0), (.ref bA), (.ref r0)]) (lenOf pd_5 rfl) rfl (Nat.le_refl _) (hb hby d4_34) (fun _ _ => ⟨rfl, e351, (by decide : 2 + 0 ≤ _), (by decide : 512 + 0 ≤ _)⟩)
    dsimp only [Pt.U, Pt.locs, Pt.cells, Pt.slots] at X353 l353 y353 z353 st353 hQ353
    subst l353 y353 z353
    obtain ⟨rfl, N353q, e353⟩ := hQ353
    have N353 := Fr.app N1 N353q
    have f356 := (V_bA.keep K1 (ninS ne_bA_r0 nin0))
    obtain ⟨_, _, ⟨T355, L355, j355, i355⟩, -, X355, ⟨Lc355, hQ355, l355, y355, z355⟩, st355⟩ := Jvm.LawKit.callS X353 hx (y := (⟨cS1, "copyOfRange", "([BII)[B"⟩ : MethodName)) hown (mvT hZ (own_at hw 75 rfl)) (mvT hZ (own_at hw 76 rfl)) (mvT hZ (own_at hw 65 rfl)) (mvT hZ (own_at hw 77 rfl)) (by decide) (backOf (W := 1) (rm13_0 l Z a0 hw [] bA kB x0 x1 x2 T1.heap n0 (Nat.le_trans Z0 K1.1) f356) hZ (own_at hw 77 rfl) (own_at hw 65 rfl) (by decide) (by decide)) (g := (mkF m 37 #[rv r0, iv 1, .unset, .unset, .unset, .unset, .unset] [(.int 1), (.int 0), (.ref bA), (.ref r0)])) rfl (by rw [hml]; rfl) (argsL := [(.ref bA), (.int 0), (.int 1)]) (rest := [(.ref r0)]) (lenOf pd_8 rfl) rfl (Nat.le_refl _) (hb hby d4_37) (fun _ _ => ⟨rfl, e353, (by decide : 2 + 1 ≤ _), (by decide : 512 + 1 ≤ _)⟩)
    dsimp only [Pt.U, Pt.locs, Pt.cells, Pt.slots] at X355 l355 y355 z355 st355 hQ355
    subst l355 y355 z355
    have f357 := (V_oZ.keep K1 (ninS ne_oZ_r0 nin0))
    obtain ⟨ar_355, kk_355, rfl, N355q, K355, p355_0, p355_1, p355_2⟩ := hQ355
    have g_ar_355 : n0 ≤ ar_355 := Nat.le_trans (Nat.le_trans Z0 K1.1) p355_0
    have sz_ar_355 : h0.size ≤ ar_355 := Nat.le_trans ((Keep.refl h0 [r0]).trans K1 (allS (Or.inl (List.mem_of_getElem? (i := 0) rfl)) all0)).1 p355_0
    have N355 := Fr.app N353 N355q
    have f358 := (f354.keep K355)
    have f359 := (p1_7.keep K355 nin0)
    obtain ⟨T360, h360, X360, e360, W360, st360⟩ := putF X355 hx hZ hown (host := "") (Or.inl (own_at hw 28 rfl)) Via.refl rfl f359 f358 (Or.inl (own_at hw 29 rfl)) (own_at hw 1 rfl) (ty := (.array .byte)) (by decide) rfl rfl (g := (mkF m 40 #[rv r0, iv 1, .unset, .unset, .unset, .unset, .unset] [(.ref ar_355), (.ref r0)])) rfl rfl (hb hby d4_40)
    have Fw360 : Fld Z h360 r0 cS0 "limit" "[B" (.ref ar_355) := f359.same W360
    have N360 := Fr.snoc X360 N355 ge_r0
    have f361 := ((p1_3.keep K355 nin0).other W360 (Or.inr (slot_ne (Or.inl (own_at hw 31 rfl)) (Or.inl (own_at hw 29 rfl)) (by decide) (t := .int) (t' := (.array .byte)) (by decide) (by decide))))
    obtain ⟨T362, X362, e362, st362⟩ := getF X360 hx hZ hown (host := "") (Or.inl (own_at hw 30 rfl)) Via.refl e360 f361 (g := (mkF m 47 #[rv r0, iv 1, iv 0, .unset, .unset, .unset, .unset] [(.ref r0), (.int 0)])) rfl rfl (hb hby d4_47)
    have f363 := ((p1_13.keep K355 nin0).other W360 (Or.inr (slot_ne (Or.inl (own_at hw 18 rfl)) (Or.inl (own_at hw 29 rfl)) (by decide) (t := (.array .int)) (t' := (.array .byte)) (by decide) (by decide))))
    obtain ⟨T364, X364, e364, st364⟩ := getF X362 hx hZ hown (host := "") (Or.inl (own_at hw 17 rfl)) Via.refl e362 f363 (g := (mkF m 54 #[rv r0, iv 1, iv 0, .unset, .unset, .unset, .unset] [(.ref r0)])) rfl rfl (hb hby d4_54)
    have f365 := ((p1_10.keep K355 nin0).other W360 (Or.inr (slot_ne (Or.inl (own_at hw 16 rfl)) (Or.inl (own_at hw 29 rfl)) (by decide) (t := (.array .int)) (t' := (.array .byte)) (by decide) (by decide))))
    obtain ⟨T366, X366, e366, st366⟩ := getF X364 hx hZ hown (host := "") (Or.inl (own_at hw 15 rfl)) Via.refl e364 f365 (g := (mkF m 58 #[rv r0, iv 1, iv 0, .unset, .unset, .unset, .unset] [(.ref r0), (.ref cA_1)])) rfl rfl (hb hby d4_58)
    have f367 := ((p1_11.keep K355 nin0).other W360 (Ne.symm (Nat.ne_of_lt (Nat.lt_of_lt_of_le E_r0.lt p1_0))))
    obtain ⟨cl_z368, Ar_z368, q_z368, S_z368, N_z368, H_z368, G_z368⟩ := id f367
    have hin369 : ¬ ((0 : Int32) < 0 ∨ cl_z368.slots.size ≤ ((0 : Int32)).toNatClampNeg) := inb_of S_z368 ⟨by decide, by decide⟩
    have f370 := ((p1_14.keep K355 nin0).other W360 (Ne.symm (Nat.ne_of_lt (Nat.lt_of_lt_of_le E_r0.lt p1_1))))
    obtain ⟨cl_z371, Ar_z371, q_z371, S_z371, N_z371, H_z371, G_z371⟩ := id f370
    have hin372 : ¬ ((2 : Int32) < 0 ∨ cl_z371.slots.size ≤ ((2 : Int32)).toNatClampNeg) := inb_of S_z371 ⟨by decide, by decide⟩
    obtain ⟨T373, h373, X373, e373, W373, st373⟩ := stI X366 hx hZ e366 Ar_z371 (j := (2 : Int32)) hin372 (g := (mkF m 64 #[rv r0, iv 1, iv 0, .unset, .unset, .unset, .unset] [(.int 0), (.int 2), (.ref cA_1)])) rfl rfl (hb hby d4_64)
    have V373 : Arv Z h373 cA_1 kC_1 .int (256 : Int32) [(.int 0), (.int 1), (.int 0)] (.int 0) := Arv.set Ar_z371 q_z371 S_z371 N_z371 H_z371 G_z371 rfl W373 2 rfl (Nat.le_of_ble_eq_true rfl)
    have N373 := Fr.snoc X373 N360 g_cA_1
    have f374 := (f361.other W373 (Or.inl (Nat.ne_of_lt (Nat.lt_of_lt_of_le E_r0.lt p1_1))))
    obtain ⟨T375, X375, e375, st375⟩ := getF X373 hx hZ hown (host := "") (Or.inl (own_at hw 30 rfl)) Via.refl e373 f374 (g := (mkF m 47 #[rv r0, iv 1, iv ((0 : Int32) + (1 : Int32)), .unset, .unset, .unset, .unset] [(.ref r0), (.int 1)])) rfl rfl (hb hby d4_47)
    have f376 := (f363.other W373 (Or.inl (Nat.ne_of_lt (Nat.lt_of_lt_of_le E_r0.lt p1_1))))
    obtain ⟨T377, X377, e377, st377⟩ := getF X375 hx hZ hown (host := "") (Or.inl (own_at hw 17 rfl)) Via.refl e375 f376 (g := (mkF m 54 #[rv r0, iv 1, iv ((0 : Int32) + (1 : Int32)), .unset, .unset, .unset, .unset] [(.ref r0)])) rfl rfl (hb hby d4_54)
    have f378 := (f365.other W373 (Or.inl (Nat.ne_of_lt (Nat.lt_of_lt_of_le E_r0.lt p1_1))))
    obtain ⟨T379, X379, e379, st379⟩ := getF X377 hx hZ hown (host := "") (Or.inl (own_at hw 15 rfl)) Via.refl e377 f378 (g := (mkF m 58 #[rv r0, iv 1, iv ((0 : Int32) + (1 : Int32)), .unset, .unset, .unset, .unset] [(.ref r0), (.ref cA_1)])) rfl rfl (hb hby d4_58)
    have f380 := (f367.other W373 p1_2)
    obtain ⟨cl_z381, Ar_z381, q_z381, S_z381, N_z381, H_z381, G_z381⟩ := id f380
    have hin382 : ¬ ((1 : Int32) < 0 ∨ cl_z381.slots.size ≤ ((1 : Int32)).toNatClampNeg) := inb_of S_z381 ⟨by decide, by decide⟩
    obtain ⟨cl_z383, Ar_z383, q_z383, S_z383, N_z383, H_z383, G_z383⟩ := id V373
    have hin384 : ¬ ((0 : Int32) < 0 ∨ cl_z383.slots.size ≤ ((0 : Int32)).toNatClampNeg) := inb_of S_z383 ⟨by decide, by decide⟩
    obtain ⟨T385, h385, X385, e385, W385, st385⟩ := stI X379 hx hZ e379 Ar_z383 (j := (0 : Int32)) hin384 (g := (mkF m 64 #[rv r0, iv 1, iv ((0 : Int32) + (1 : Int32)), .unset, .unset, .unset, .unset] [(.int 1), (.int 0), (.ref cA_1)])) rfl rfl (hb hby d4_64)
    have V385 : Arv Z h385 cA_1 kC_1 .int (256 : Int32) [(.int 1), (.int 1), (.int 0)] (.int 0) := Arv.set Ar_z383 q_z383 S_z383 N_z383 H_z383 G_z383 rfl W385 0 rfl (Nat.le_of_ble_eq_true rfl)
    have N385 := Fr.snoc X385 N373 g_cA_1
    have f386 := (f374.other W385 (Or.inl (Nat.ne_of_lt (Nat.lt_of_lt_of_le E_r0.lt p1_1))))
    obtain ⟨T387, X387, e387, st387⟩ := getF X385 hx hZ hown (host := "") (Or.inl (own_at hw 30 rfl)) Via.refl e385 f386 (g := (mkF m 47 #[rv r0, iv 1, iv (((0 : Int32) + (1 : Int32)) + (1 : Int32)), .unset, .unset, .unset, .unset] [(.ref r0), (.int 2)])) rfl rfl (hb hby d4_47)
    have f388 := (f376.other W385 (Or.inl (Nat.ne_of_lt (Nat.lt_of_lt_of_le E_r0.lt p1_1))))
    obtain ⟨T389, X389, e389, st389⟩ := getF X387 hx hZ hown (host := "") (Or.inl (own_at hw 17 rfl)) Via.refl e387 f388 (g := (mkF m 54 #[rv r0, iv 1, iv (((0 : Int32) + (1 : Int32)) + (1 : Int32)), .unset, .unset, .unset, .unset] [(.ref r0)])) rfl rfl (hb hby d4_54)
    have f390 := (f378.other W385 (Or.inl (Nat.ne_of_lt (Nat.lt_of_lt_of_le E_r0.lt p1_1))))
    obtain ⟨T391, X391, e391, st391⟩ := getF X389 hx hZ hown (host := "") (Or.inl (own_at hw 15 rfl)) Via.refl e389 f390 (g := (mkF m 58 #[rv r0, iv 1, iv (((0 : Int32) + (1 : Int32)) + (1 : Int32)), .unset, .unset, .unset, .unset] [(.ref r0), (.ref cA_1)])) rfl rfl (hb hby d4_58)
    have f392 := (f380.other W385 p1_2)
    obtain ⟨cl_z393, Ar_z393, q_z393, S_z393, N_z393, H_z393, G_z393⟩ := id f392
    have hin394 : ¬ ((2 : Int32) < 0 ∨ cl_z393.slots.size ≤ ((2 : Int32)).toNatClampNeg) := inb_of S_z393 ⟨by decide, by decide⟩
    obtain ⟨cl_z395, Ar_z395, q_z395, S_z395, N_z395, H_z395, G_z395⟩ := id V385
    have hin396 : ¬ ((1 : Int32) < 0 ∨ cl_z395.slots.size ≤ ((1 : Int32)).toNatClampNeg) := inb_of S_z395 ⟨by decide, by decide⟩
    obtain ⟨T397, h397, X397, e397, W397, st397⟩ := stI X391 hx hZ e391 Ar_z395 (j := (1 : Int32)) hin396 (g := (mkF m 64 #[rv r0, iv 1, iv (((0 : Int32) + (1 : Int32)) + (1 : Int32)), .unset, .unset, .unset, .unset] [(.int 2), (.int 1), (.ref cA_1)])) rfl rfl (hb hby d4_64)
    have V397 : Arv Z h397 cA_1 kC_1 .int (256 : Int32) [(.int 1), (.int 2), (.int 0)] (.int 0) := Arv.set Ar_z395 q_z395 S_z395 N_z395 H_z395 G_z395 rfl W397 1 rfl (Nat.le_of_ble_eq_true rfl)
    have N397 := Fr.snoc X397 N385 g_cA_1
    have f398 := (f386.other W397 (Or.inl (Nat.ne_of_lt (Nat.lt_of_lt_of_le E_r0.lt p1_1))))
    obtain ⟨T399, X399, e399, st399⟩ := getF X397 hx hZ hown (host := "") (Or.inl (own_at hw 30 rfl)) Via.refl e397 f398 (g := (mkF m 47 #[rv r0, iv 1, iv ((((0 : Int32) + (1 : Int32)) + (1 : Int32)) + (1 : Int32)), .unset, .unset, .unset, .unset] [(.ref r0), (.int 3)])) rfl rfl (hb hby d4_47)
    obtain ⟨T400, X400, e400, st400⟩ := getF X399 hx hZ hown (host := "") (Or.inl (own_at hw 30 rfl)) Via.refl e399 f398 (g := (mkF m 81 #[rv r0, iv 1, iv 0, iv 0, iv 0, .unset, .unset] [(.ref r0), (.int 0)])) rfl rfl (hb hby d4_81)
    have f401 := (f388.other W397 (Or.inl (Nat.ne_of_lt (Nat.lt_of_lt_of_le E_r0.lt p1_1))))
    obtain ⟨T402, X402, e402, st402⟩ := getF X400 hx hZ hown (host := "") (Or.inl (own_at hw 17 rfl)) Via.refl e400 f401 (g := (mkF m 88 #[rv r0, iv 1, iv 0, iv 0, iv 0, .unset, .unset] [(.ref r0)])) rfl rfl (hb hby d4_88)
    obtain ⟨cl_z403, Ar_z403, q_z403, S_z403, N_z403, H_z403, G_z403⟩ := id V397
    have hin404 : ¬ ((0 : Int32) < 0 ∨ cl_z403.slots.size ≤ ((0 : Int32)).toNatClampNeg) := inb_of S_z403 ⟨by decide, by decide⟩
    obtain ⟨T405, X405, e405, st405⟩ := getF X402 hx hZ hown (host := "") (Or.inl (own_at hw 30 rfl)) Via.refl e402 f398 (g := (mkF m 81 #[rv r0, iv 1, iv 0, iv 0, iv ((0 : Int32) + (1 : Int32)), .unset, .unset] [(.ref r0), (.int 1)])) rfl rfl (hb hby d4_81)
    obtain ⟨T406, X406, e406, st406⟩ := getF X405 hx hZ hown (host := "") (Or.inl (own_at hw 17 rfl)) Via.refl e405 f401 (g := (mkF m 88 #[rv r0, iv 1, iv 0, iv 0, iv ((0 : Int32) + (1 : Int32)), .unset, .unset] [(.ref r0)])) rfl rfl (hb hby d4_88)
    have hin407 : ¬ ((1 : Int32) < 0 ∨ cl_z403.slots.size ≤ ((1 : Int32)).toNatClampNeg) := inb_of S_z403 ⟨by decide, by decide⟩
    obtain ⟨T408, X408, e408, st408⟩ := getF X406 hx hZ hown (host := "") (Or.inl (own_at hw 30 rfl)) Via.refl e406 f398 (g := (mkF m 81 #[rv r0, iv 1, iv 0, iv 0, iv (((0 : Int32) + (1 : Int32)) + (1 : Int32)), .unset, .unset] [(.ref r0), (.int 2)])) rfl rfl (hb hby d4_81)
    obtain ⟨T409, X409, e409, st409⟩ := getF X408 hx hZ hown (host := "") (Or.inl (own_at hw 17 rfl)) Via.refl e408 f401 (g := (mkF m 88 #[rv r0, iv 1, iv 0, iv 0, iv (((0 : Int32) + (1 : Int32)) + (1 : Int32)), .unset, .unset] [(.ref r0)])) rfl rfl (hb hby d4_88)
    have hin410 : ¬ ((2 : Int32) < 0 ∨ cl_z403.slots.size ≤ ((2 : Int32)).toNatClampNeg) := inb_of S_z403 ⟨by decide, by decide⟩
    have f411 := (((((p1_9.keep K355 nin0).other W360 (Or.inr (slot_ne (Or.inl (own_at hw 14 rfl)) (Or.inl (own_at hw 29 rfl)) (by decide) (t := (.array .int)) (t' := (.array .byte)) (by decide) (by decide)))).other W373 (Or.inl (Nat.ne_of_lt (Nat.lt_of_lt_of_le E_r0.lt p1_1)))).other W385 (Or.inl (Nat.ne_of_lt (Nat.lt_of_lt_of_le E_r0.lt p1_1)))).other W397 (Or.inl (Nat.ne_of_lt (Nat.lt_of_lt_of_le E_r0.lt p1_1))))
    obtain ⟨T412, X412, e412, st412⟩ := getF X409 hx hZ hown (host := "") (Or.inl (own_at hw 13 rfl)) Via.refl e409 f411 (g := (mkF m 99 #[rv r0, iv 1, iv 0, iv 0, iv (((0 : Int32) + (1 : Int32)) + (1 : Int32)), .unset, .unset] [(.ref r0)])) rfl rfl (hb hby d4_99)
    have f413 := (((((f348.keep K355 nin0).other W360 ne_sA_r0).other W373 (Nat.ne_of_lt (Nat.lt_of_lt_of_le V_sA.lt p1_1))).other W385 (Nat.ne_of_lt (Nat.lt_of_lt_of_le V_sA.lt p1_1))).other W397 (Nat.ne_of_lt (Nat.lt_of_lt_of_le V_sA.lt p1_1)))
    obtain ⟨cl_z414, Ar_z414, q_z414, S_z414, N_z414, H_z414, G_z414⟩ := id f413
    have hin415 : ¬ ((2 : Int32) < 0 ∨ cl_z414.slots.size ≤ ((2 : Int32)).toNatClampNeg) := inb_of S_z414 ⟨by decide, by decide⟩
    have f417 := ((((f358.wr W360).wr W373).wr W385).wr W397)
    have f418 := (((((p1_4.keep K355 nin0).other W360 (Or.inr (slot_ne (Or.inl (own_at hw 33 rfl)) (Or.inl (own_at hw 29 rfl)) (by decide) (t := .int) (t' := (.array .byte)) (by decide) (by decide)))).other W373 (Or.inl (Nat.ne_of_lt (Nat.lt_of_lt_of_le E_r0.lt p1_1)))).other W385 (Or.inl (Nat.ne_of_lt (Nat.lt_of_lt_of_le E_r0.lt p1_1)))).other W397 (Or.inl (Nat.ne_of_lt (Nat.lt_of_lt_of_le E_r0.lt p1_1))))
    obtain ⟨cq416, q416, q416'⟩ := f417.cell
    obtain ⟨_, _, ⟨T416, L416, j416, i416⟩, -, X416, ⟨Lc416, hQ416, l416, y416, z416⟩, st416⟩ := X412.privateBack hx (y := (⟨cS0, "end", "(I)I"⟩ : MethodName)) hown (mvT hZ (own_at hw 59 rfl)) (mvT hZ (own_at hw 60 rfl)) (own_selpriv (by decide) (mvT hZ (own_at hw 1 rfl)) (mvP hZ (own_at hw 61 rfl)) (mvT hZ (own_at hw 60 rfl))) (Cond.privateMethod_at (mvP hZ (own_at hw 61 rfl) (args := #[]))) (mvT hZ (own_at hw 62 rfl)) (by decide) (backOf (W := 0) (rm9_2 l Z a0 hw [] r0 sA kS h397 n0 (Nat.le_trans (Nat.le_trans (Nat.le_trans (Nat.le_trans (Nat.le_trans (Nat.le_trans Z0 K1.1) K355.1) (Keep.of_wr W360).1) (Keep.of_wr W373).1) (Keep.of_wr W385).1) (Keep.of_wr W397).1) f417 f398 f418 f411 f413) hZ (own_at hw 62 rfl) (own_at hw 2 rfl) (by decide) (by decide)) (g := (mkF m 110 #[rv r0, iv 1, iv 0, iv 0, iv (((0 : Int32) + (1 : Int32)) + (1 : Int32)), iv 2, .unset] [(.int 2), (.ref r0)])) rfl (by rw [hml]; rfl) (Steps.refl _) (a := r0) (by rw [e412]; exact q416) q416' (argsL := [(.int 2)]) (rest := []) (lenOf pd_5 rfl) rfl (Nat.le_refl _) (hb hby d4_110) (fun _ _ => ⟨rfl, e412, (by decide : 3 + 0 ≤ _), (by decide : 513 + 0 ≤ _)⟩)
    dsimp only [Pt.U, Pt.locs, Pt.cells, Pt.slots] at X416 l416 y416 z416 st416 hQ416
    subst l416 y416 z416
    obtain ⟨rfl, N416q, e416⟩ := hQ416
    have N416 := Fr.app N397 N416q
    have f419 := (((((p1_8.keep K355 nin0).other W360 (Or.inr (slot_ne (Or.inl (own_at hw 11 rfl)) (Or.inl (own_at hw 29 rfl)) (by decide) (t := (.array .byte)) (t' := (.array .byte)) (by decide) (by decide)))).other W373 (Or.inl (Nat.ne_of_lt (Nat.lt_of_lt_of_le E_r0.lt p1_1)))).other W385 (Or.inl (Nat.ne_of_lt (Nat.lt_of_lt_of_le E_r0.lt p1_1)))).other W397 (Or.inl (Nat.ne_of_lt (Nat.lt_of_lt_of_le E_r0.lt p1_1))))
    obtain ⟨T420, X420, e420, st420⟩ := getF X416 hx hZ hown (host := "") (Or.inl (own_at hw 10 rfl)) Via.refl e416 f419 (g := (mkF m 119 #[rv r0, iv 1, iv 0, iv 0, iv (((0 : Int32) + (1 : Int32)) + (1 : Int32)), iv 2, iv 1] [(.ref r0)])) rfl rfl (hb hby d4_119)
    obtain ⟨T421, X421, e421, st421⟩ := getF X420 hx hZ hown (host := "") (Or.inl (own_at hw 10 rfl)) Via.refl e420 f419 (g := (mkF m 125 #[rv r0, iv 1, iv 0, iv 0, iv (((0 : Int32) + (1 : Int32)) + (1 : Int32)), iv 2, iv 1] [(.ref r0), (.int 2), (.ref bA)])) rfl rfl (hb hby d4_125)
    have f422 := (((((f356.keep K355 nin0).other W360 ne_bA_r0).other W373 (Nat.ne_of_lt (Nat.lt_of_lt_of_le V_bA.lt p1_1))).other W385 (Nat.ne_of_lt (Nat.lt_of_lt_of_le V_bA.lt p1_1))).other W397 (Nat.ne_of_lt (Nat.lt_of_lt_of_le V_bA.lt p1_1)))
    have f423 := ((((((E_bA.keep K1).keep K355).wr W360).wr W373).wr W385).wr W397)
    obtain ⟨T424, h424, L424, X424, e424, N424, K424, Vr424, st424⟩ := cpA X421 hx hZ hown (own_at hw 34 rfl) (own_at hw 37 rfl) (own_at hw 35 rfl) (own_at hw 36 rfl) e421 f422 f422 (us := [(.int x2)]) (Or.inl ⟨rfl, rfl⟩) (by decide) (by decide) (by decide) (by decide) (by decide) rfl (Nat.le_of_ble_eq_true rfl) N416 ge_bA (g := (mkF m 131 #[rv r0, iv 1, iv 0, iv 0, iv (((0 : Int32) + (1 : Int32)) + (1 : Int32)), iv 2, iv 1] [(.int 1), (.int 0), (.ref bA), (.int 2), (.ref bA)])) rfl (by rw [hml]; rfl) rfl (hb hby d4_131) (by decide) (W := 0) (Nat.le_refl _) (by decide)
    have pl424 := (allS (P := fun x => ∃ cell : Cell, h397[x]? = some cell ∧ cell.vm.isStatics = false) (own_ns f423) all0)
    have V424 : Arv Z h424 bA kB .byte (4096 : Int32) [(.int x2), (.int x1), (.int x2)] (.int 0) := Vr424
    have f425 := (f411.keep K424 (ninS ne_r0_bA nin0))
    obtain ⟨T426, X426, e426, st426⟩ := getF X424 hx hZ hown (host := "") (Or.inl (own_at hw 13 rfl)) Via.refl e424 f425 (g := (mkF m 135 #[rv r0, iv 1, iv 0, iv 0, iv (((0 : Int32) + (1 : Int32)) + (1 : Int32)), iv 2, iv 1] [(.ref r0)])) rfl rfl (hb hby d4_135)
    have f427 := (f413.keep K424 (ninS ne_sA_bA nin0))
    obtain ⟨cl_z428, Ar_z428, q_z428, S_z428, N_z428, H_z428, G_z428⟩ := id f427
    have hin429 : ¬ ((0 : Int32) < 0 ∨ cl_z428.slots.size ≤ ((0 : Int32)).toNatClampNeg) := inb_of S_z428 ⟨by decide, by decide⟩
    obtain ⟨T430, h430, X430, e430, W430, st430⟩ := stI X426 hx hZ e426 Ar_z428 (j := (0 : Int32)) hin429 (g := (mkF m 143 #[rv r0, iv 1, iv ((0 : Int32) + (1 : Int32)), iv 0, iv (((0 : Int32) + (1 : Int32)) + (1 : Int32)), iv 2, iv 1] [(.int 0), (.int 0), (.ref sA)])) rfl rfl (hb hby d4_143)
    have V430 : Arv Z h430 sA kS .int (256 : Int32) [(.int 0), (.int 1), (.int 2)] (.int 0) := Arv.set Ar_z428 q_z428 S_z428 N_z428 H_z428 G_z428 rfl W430 0 rfl (Nat.le_of_ble_eq_true rfl)
    have N430 := Fr.snoc X430 N424 ge_sA
    have f431 := ((f398.keep K424 (ninS ne_r0_bA nin0)).other W430 (Or.inl ne_r0_sA))
    obtain ⟨T432, X432, e432, st432⟩ := getF X430 hx hZ hown (host := "") (Or.inl (own_at hw 30 rfl)) Via.refl e430 f431 (g := (mkF m 81 #[rv r0, iv 1, iv ((0 : Int32) + (1 : Int32)), iv 1, iv ((((0 : Int32) + (1 : Int32)) + (1 : Int32)) + (1 : Int32)), iv 2, iv 1] [(.ref r0), (.int 3)])) rfl rfl (hb hby d4_81)
    have f433 := ((f417.keep K424).wr W430)
    obtain ⟨T434, h434, X434, e434, W434, st434⟩ := putF X432 hx hZ hown (host := "") (Or.inl (own_at hw 30 rfl)) Via.refl e432 f431 f433 (Or.inl (own_at hw 31 rfl)) (own_at hw 1 rfl) (ty := .int) (by decide) rfl rfl (g := (mkF m 157 #[rv r0, iv 1, iv ((0 : Int32) + (1 : Int32)), iv 1, iv ((((0 : Int32) + (1 : Int32)) + (1 : Int32)) + (1 : Int32)), iv 2, iv 1] [(.int 1), (.ref r0)])) rfl rfl (hb hby d4_157)
    have Fw434 : Fld Z h434 r0 cS0 "count" "I" (.int 1) := f431.same W434
    have N434 := Fr.snoc X434 N430 ge_r0
    have f435 := (f433.wr W434)
    have f436 := (((f418.keep K424 (ninS ne_r0_bA nin0)).other W430 (Or.inl ne_r0_sA)).other W434 (Or.inr (slot_ne (Or.inl (own_at hw 33 rfl)) (Or.inl (own_at hw 31 rfl)) (by decide) (t := .int) (t' := .int) (by decide) (by decide))))
    obtain ⟨T437, h437, X437, e437, W437, st437⟩ := putF X434 hx hZ hown (host := "") (Or.inl (own_at hw 32 rfl)) Via.refl e434 f436 f435 (Or.inl (own_at hw 33 rfl)) (own_at hw 1 rfl) (ty := .int) (by decide) rfl rfl (g := (mkF m 162 #[rv r0, iv 1, iv ((0 : Int32) + (1 : Int32)), iv 1, iv ((((0 : Int32) + (1 : Int32)) + (1 : Int32)) + (1 : Int32)), iv 2, iv 1] [(.int 1), (.ref r0)])) rfl rfl (hb hby d4_162)
    have Fw437 : Fld Z h437 r0 cS0 "used" "I" (.int 1) := f436.same W437
    have N437 := Fr.snoc X437 N434 ge_r0
    have f438 := (f435.wr W437)
    have f439 := (((((((((p1_5.keep K355 nin0).other W360 (Or.inr (slot_ne (Or.inr (own_at hw 20 rfl)) (Or.inl (own_at hw 29 rfl)) (by decide) (t := .int) (t' := (.array .byte)) (by decide) (by decide)))).other W373 (Or.inl (Nat.ne_of_lt (Nat.lt_of_lt_of_le E_r0.lt p1_1)))).other W385 (Or.inl (Nat.ne_of_lt (Nat.lt_of_lt_of_le E_r0.lt p1_1)))).other W397 (Or.inl (Nat.ne_of_lt (Nat.lt_of_lt_of_le E_r0.lt p1_1)))).keep K424 (ninS ne_r0_bA nin0)).other W430 (Or.inl ne_r0_sA)).other W434 (Or.inr (slot_ne (Or.inr (own_at hw 20 rfl)) (Or.inl (own_at hw 31 rfl)) (by decide) (t := .int) (t' := .int) (by decide) (by decide)))).other W437 (Or.inr (slot_ne (Or.inr (own_at hw 20 rfl)) (Or.inl (own_at hw 33 rfl)) (by decide) (t := .int) (t' := .int) (by decide) (by decide))))
    have f440 := (((((((((p1_6.keep K355 nin0).other W360 (Or.inr (slot_ne (Or.inr (own_at hw 22 rfl)) (Or.inl (own_at hw 29 rfl)) (by decide) (t := .int) (t' := (.array .byte)) (by decide) (by decide)))).other W373 (Or.inl (Nat.ne_of_lt (Nat.lt_of_lt_of_le E_r0.lt p1_1)))).other W385 (Or.inl (Nat.ne_of_lt (Nat.lt_of_lt_of_le E_r0.lt p1_1)))).other W397 (Or.inl (Nat.ne_of_lt (Nat.lt_of_lt_of_le E_r0.lt p1_1)))).keep K424 (ninS ne_r0_bA nin0)).other W430 (Or.inl ne_r0_sA)).other W434 (Or.inr (slot_ne (Or.inr (own_at hw 22 rfl)) (Or.inl (own_at hw 31 rfl)) (by decide) (t := .int) (t' := .int) (by decide) (by decide)))).other W437 (Or.inr (slot_ne (Or.inr (own_at hw 22 rfl)) (Or.inl (own_at hw 33 rfl)) (by decide) (t := .int) (t' := .int) (by decide) (by decide))))
    have f441 := (Fw434.other W437 (Or.inr (slot_ne (Or.inl (own_at hw 31 rfl)) (Or.inl (own_at hw 33 rfl)) (by decide) (t := .int) (t' := .int) (by decide) (by decide))))
    have f442 := (((((((Fw360.other W373 (Or.inl (Nat.ne_of_lt (Nat.lt_of_lt_of_le E_r0.lt p1_1)))).other W385 (Or.inl (Nat.ne_of_lt (Nat.lt_of_lt_of_le E_r0.lt p1_1)))).other W397 (Or.inl (Nat.ne_of_lt (Nat.lt_of_lt_of_le E_r0.lt p1_1)))).keep K424 (ninS ne_r0_bA nin0)).other W430 (Or.inl ne_r0_sA)).other W434 (Or.inr (slot_ne (Or.inl (own_at hw 29 rfl)) (Or.inl (own_at hw 31 rfl)) (by decide) (t := (.array .byte)) (t' := .int) (by decide) (by decide)))).other W437 (Or.inr (slot_ne (Or.inl (own_at hw 29 rfl)) (Or.inl (own_at hw 33 rfl)) (by decide) (t := (.array .byte)) (t' := .int) (by decide) (by decide))))
    have f443 := ((((f419.keep K424 (ninS ne_r0_bA nin0)).other W430 (Or.inl ne_r0_sA)).other W434 (Or.inr (slot_ne (Or.inl (own_at hw 11 rfl)) (Or.inl (own_at hw 31 rfl)) (by decide) (t := (.array .byte)) (t' := .int) (by decide) (by decide)))).other W437 (Or.inr (slot_ne (Or.inl (own_at hw 11 rfl)) (Or.inl (own_at hw 33 rfl)) (by decide) (t := (.array .byte)) (t' := .int) (by decide) (by decide))))
    have f444 := (((V424.other W430 ne_bA_sA).other W434 ne_bA_r0).other W437 ne_bA_r0)
    have f445 := ((((f423.keep K424).wr W430).wr W434).wr W437)
    have f446 := (((f425.other W430 (Or.inl ne_r0_sA)).other W434 (Or.inr (slot_ne (Or.inl (own_at hw 14 rfl)) (Or.inl (own_at hw 31 rfl)) (by decide) (t := (.array .int)) (t' := .int) (by decide) (by decide)))).other W437 (Or.inr (slot_ne (Or.inl (own_at hw 14 rfl)) (Or.inl (own_at hw 33 rfl)) (by decide) (t := (.array .int)) (t' := .int) (by decide) (by decide))))
    have f447 := ((V430.other W434 ne_sA_r0).other W437 ne_sA_r0)
    have f448 := ((((((((((E_sA.keep K1).keep K355).wr W360).wr W373).wr W385).wr W397).keep K424).wr W430).wr W434).wr W437)
    have f449 := (((((f390.other W397 (Or.inl (Nat.ne_of_lt (Nat.lt_of_lt_of_le E_r0.lt p1_1)))).keep K424 (ninS ne_r0_bA nin0)).other W430 (Or.inl ne_r0_sA)).other W434 (Or.inr (slot_ne (Or.inl (own_at hw 16 rfl)) (Or.inl (own_at hw 31 rfl)) (by decide) (t := (.array .int)) (t' := .int) (by decide) (by decide)))).other W437 (Or.inr (slot_ne (Or.inl (own_at hw 16 rfl)) (Or.inl (own_at hw 33 rfl)) (by decide) (t := (.array .int)) (t' := .int) (by decide) (by decide))))
    have f450 := ((((f401.keep K424 (ninS ne_r0_bA nin0)).other W430 (Or.inl ne_r0_sA)).other W434 (Or.inr (slot_ne (Or.inl (own_at hw 18 rfl)) (Or.inl (own_at hw 31 rfl)) (by decide) (t := (.array .int)) (t' := .int) (by decide) (by decide)))).other W437 (Or.inr (slot_ne (Or.inl (own_at hw 18 rfl)) (Or.inl (own_at hw 33 rfl)) (by decide) (t := (.array .int)) (t' := .int) (by decide) (by decide))))
    have f451 := ((((((((p355_1.other W360 (Ne.symm (Nat.ne_of_lt (Nat.lt_of_lt_of_le f354.lt p355_0)))).other W373 (Ne.symm (Nat.ne_of_lt (Nat.lt_of_lt_of_le p1_14.lt p355_0)))).other W385 (Ne.symm (Nat.ne_of_lt (Nat.lt_of_lt_of_le p1_14.lt p355_0)))).other W397 (Ne.symm (Nat.ne_of_lt (Nat.lt_of_lt_of_le p1_14.lt p355_0)))).keep K424 (ninS (Ne.symm (Nat.ne_of_lt (Nat.lt_of_lt_of_le f356.lt p355_0))) nin0)).other W430 (Ne.symm (Nat.ne_of_lt (Nat.lt_of_lt_of_le f348.lt p355_0)))).other W434 (Ne.symm (Nat.ne_of_lt (Nat.lt_of_lt_of_le f354.lt p355_0)))).other W437 (Ne.symm (Nat.ne_of_lt (Nat.lt_of_lt_of_le f354.lt p355_0))))
    have f452 := ((((((((p355_2.wr W360).wr W373).wr W385).wr W397).keep K424).wr W430).wr W434).wr W437)
    obtain ⟨fs, hr, hrun, hended, hW, hsame⟩ := X437.leave (v := none) (fun _ => rfl)
    refine ⟨_, _, k2 _ ?_, hrun, hended, _, _, rfl, ?_, ⟨_, rfl⟩, hW, hsame.mono (by decide) (by decide)⟩
    · refine st1.trans ?_
      refine XS.aloadN X1.here hx rfl (hb hby d4_4) rfl rfl ?_
      refine st342 _ ?_
      refine XS.iconst X342.here hx rfl (hb hby d4_8) ?_
      refine XS.idiv X342.here hx rfl (hb hby d4_9) rfl (by decide) ?_
      refine XS.istoreN X342.here hx rfl (hb hby d4_10) rfl (l' := #[rv r0, iv 1, .unset, .unset, .unset, .unset, .unset]) rfl ?_
      refine XS.aloadN X342.here hx rfl (hb hby d4_11) rfl rfl ?_
      refine XS.aloadN X342.here hx rfl (hb hby d4_12) rfl rfl ?_
      refine st343 _ ?_
      refine XS.aloadN X343.here hx rfl (hb hby d4_16) rfl rfl ?_
      refine st344 _ ?_
      refine XS.aloadN X344.here hx rfl (hb hby d4_20) rfl rfl ?_
      refine st345 _ ?_
      refine XS.iloadN X345.here hx rfl (hb hby d4_24) rfl ?_
      refine X345.iaload hx (j := (1 : Int32)) (v := (.int 0)) (by rw [e345]; exact Ar_z346.1) (State.isArrayOf_alike hZ.alike Ar_z346.2.1) Ar_z346.2.2 hin347 (Has.at H_z346 hin347 rfl) (g := (mkF m 25 #[rv r0, iv 1, .unset, .unset, .unset, .unset, .unset] [(.int 1), (.ref oA_1), (.ref sA), (.ref bA), (.ref r0)])) rfl rfl (hb hby d4_25) _ ?_
      refine X345.iaload hx (j := (0 : Int32)) (v := (.int 0)) (by rw [e345]; exact Ar_z349.1) (State.isArrayOf_alike hZ.alike Ar_z349.2.1) Ar_z349.2.2 hin350 (Has.at H_z349 hin350 rfl) (g := (mkF m 26 #[rv r0, iv 1, .unset, .unset, .unset, .unset, .unset] [(.int 0), (.ref sA), (.ref bA), (.ref r0)])) rfl rfl (hb hby d4_26) _ ?_
      refine XS.aloadN X345.here hx rfl (hb hby d4_27) rfl rfl ?_
      refine XS.aloadN X345.here hx rfl (hb hby d4_28) rfl rfl ?_
      refine st351 _ ?_
      refine XS.iloadN X351.here hx rfl (hb hby d4_32) rfl ?_
      refine X351.iaload hx (j := (1 : Int32)) (v := (.int 0)) (by rw [e351]; exact Ar_z346.1) (State.isArrayOf_alike hZ.alike Ar_z346.2.1) Ar_z346.2.2 hin352 (Has.at H_z346 hin352 rfl) (g := (mkF m 33 #[rv r0, iv 1, .unset, .unset, .unset, .unset, .unset] [(.int 1), (.ref oA_1), (.ref r0), (.int 0), (.ref bA), (.ref r0)])) rfl rfl (hb hby d4_33) _ ?_
      refine st353.trans ?_
      refine st355 _ ?_
      refine st360 _ ?_
      refine XS.iconst X360.here hx rfl (hb hby d4_43) ?_
      refine XS.istoreN X360.here hx rfl (hb hby d4_44) rfl (l' := #[rv r0, iv 1, iv 0, .unset, .unset, .unset, .unset]) rfl ?_
      refine XS.iloadN X360.here hx rfl (hb hby d4_45) rfl ?_
      refine XS.aloadN X360.here hx rfl (hb hby d4_46) rfl rfl ?_
      refine st362 _ ?_
      refine XS.icmpNo X362.here hx rfl (hb hby d4_50) rfl (tlt (by decide : (0 : Int32) < (3 : Int32))).2.1 ?_
      refine XS.aloadN X362.here hx rfl (hb hby d4_53) rfl rfl ?_
      refine st364 _ ?_
      refine XS.aloadN X364.here hx rfl (hb hby d4_57) rfl rfl ?_
      refine st366 _ ?_
      refine XS.iloadN X366.here hx rfl (hb hby d4_61) rfl ?_
      refine X366.iaload hx (j := (0 : Int32)) (v := (.int 2)) (by rw [e366]; exact Ar_z368.1) (State.isArrayOf_alike hZ.alike Ar_z368.2.1) Ar_z368.2.2 hin369 (Has.at H_z368 hin369 rfl) (g := (mkF m 62 #[rv r0, iv 1, iv 0, .unset, .unset, .unset, .unset] [(.int 0), (.ref oA_1), (.ref cA_1)])) rfl rfl (hb hby d4_62) _ ?_
      refine XS.iloadN X366.here hx rfl (hb hby d4_63) rfl ?_
      refine st373 _ ?_
      refine XS.iinc X373.here hx rfl (hb hby d4_65) rfl (l' := #[rv r0, iv 1, iv ((0 : Int32) + (1 : Int32)), .unset, .unset, .unset, .unset]) rfl ?_
      refine XS.goto X373.here hx rfl (pc0 := 68) (pc' := 45) rfl (hb hby d4_68) (by decide) (by decide) ?_
      show OwnS p e below T373 (mkF m 45 #[rv r0, iv 1, iv ((0 : Int32) + (1 : Int32)), .unset, .unset, .unset, .unset] []) _
      refine XS.iloadN X373.here hx rfl (hb hby d4_45) rfl ?_
      refine XS.aloadN X373.here hx rfl (hb hby d4_46) rfl rfl ?_
      refine st375 _ ?_
      refine XS.icmpNo X375.here hx rfl (hb hby d4_50) rfl (tlt (by decide : (1 : Int32) < (3 : Int32))).2.1 ?_
      refine XS.aloadN X375.here hx rfl (hb hby d4_53) rfl rfl ?_
      refine st377 _ ?_
      refine XS.aloadN X377.here hx rfl (hb hby d4_57) rfl rfl ?_
      refine st379 _ ?_
      refine XS.iloadN X379.here hx rfl (hb hby d4_61) rfl ?_
      refine X379.iaload hx (j := (1 : Int32)) (v := (.int 0)) (by rw [e379]; exact Ar_z381.1) (State.isArrayOf_alike hZ.alike Ar_z381.2.1) Ar_z381.2.2 hin382 (Has.at H_z381 hin382 rfl) (g := (mkF m 62 #[rv r0, iv 1, iv ((0 : Int32) + (1 : Int32)), .unset, .unset, .unset, .unset] [(.int 1), (.ref oA_1), (.ref cA_1)])) rfl rfl (hb hby d4_62) _ ?_
      refine XS.iloadN X379.here hx rfl (hb hby d4_63) rfl ?_
      refine st385 _ ?_
      refine XS.iinc X385.here hx rfl (hb hby d4_65) rfl (l' := #[rv r0, iv 1, iv (((0 : Int32) + (1 : Int32)) + (1 : Int32)), .unset, .unset, .unset, .unset]) rfl ?_
      refine XS.goto X385.here hx rfl (pc0 := 68) (pc' := 45) rfl (hb hby d4_68) (by decide) (by decide) ?_
      refine XS.iloadN X385.here hx rfl (hb hby d4_45) rfl ?_
      refine XS.aloadN X385.here hx rfl (hb hby d4_46) rfl rfl ?_
      refine st387 _ ?_
      refine XS.icmpNo X387.here hx rfl (hb hby d4_50) rfl (tlt (by decide : (2 : Int32) < (3 : Int32))).2.1 ?_
      refine XS.aloadN X387.here hx rfl (hb hby d4_53) rfl rfl ?_
      refine st389 _ ?_
      refine XS.aloadN X389.here hx rfl (hb hby d4_57) rfl rfl ?_
      refine st391 _ ?_
      refine XS.iloadN X391.here hx rfl (hb hby d4_61) rfl ?_
      refine X391.iaload hx (j := (2 : Int32)) (v := (.int 1)) (by rw [e391]; exact Ar_z393.1) (State.isArrayOf_alike hZ.alike Ar_z393.2.1) Ar_z393.2.2 hin394 (Has.at H_z393 hin394 rfl) (g := (mkF m 62 #[rv r0, iv 1, iv (((0 : Int32) + (1 : Int32)) + (1 : Int32)), .unset, .unset, .unset, .unset] [(.int 2), (.ref oA_1), (.ref cA_1)])) rfl rfl (hb hby d4_62) _ ?_
      refine XS.iloadN X391.here hx rfl (hb hby d4_63) rfl ?_
      refine st397 _ ?_
      refine XS.iinc X397.here hx rfl (hb hby d4_65) rfl (l' := #[rv r0, iv 1, iv ((((0 : Int32) + (1 : Int32)) + (1 : Int32)) + (1 : Int32)), .unset, .unset, .unset, .unset]) rfl ?_
      refine XS.goto X397.here hx rfl (pc0 := 68) (pc' := 45) rfl (hb hby d4_68) (by decide) (by decide) ?_
      refine XS.iloadN X397.here hx rfl (hb hby d4_45) rfl ?_
      refine XS.aloadN X397.here hx rfl (hb hby d4_46) rfl rfl ?_
      refine st399 _ ?_
      refine XS.icmpYes X399.here hx rfl (pc0 := 50) (pc' := 71) rfl (hb hby d4_50) rfl (flt (by decide : ¬ ((3 : Int32) < (3 : Int32)))).2.1 (by decide) (by decide) ?_
      refine XS.iconst X399.here hx rfl (hb hby d4_71) ?_
      refine XS.istoreN X399.here hx rfl (hb hby d4_72) rfl (l' := #[rv r0, iv 1, iv 0, .unset, .unset, .unset, .unset]) rfl ?_
      refine XS.iconst X399.here hx rfl (hb hby d4_73) ?_
      refine XS.istoreN X399.here hx rfl (hb hby d4_74) rfl (l' := #[rv r0, iv 1, iv 0, iv 0, .unset, .unset, .unset]) rfl ?_
      refine XS.iconst X399.here hx rfl (hb hby d4_75) ?_
      refine XS.istore X399.here hx rfl (hb hby d4_76) rfl (l' := #[rv r0, iv 1, iv 0, iv 0, iv 0, .unset, .unset]) rfl ?_
      refine XS.iload X399.here hx rfl (hb hby d4_78) rfl ?_
      refine XS.aloadN X399.here hx rfl (hb hby d4_80) rfl rfl ?_
      show OwnS p e below T399 (mkF m 81 #[rv r0, iv 1, iv 0, iv 0, iv 0, .unset, .unset] [(.ref r0), (.int 0)]) _
      refine st400 _ ?_
      refine XS.icmpNo X400.here hx rfl (hb hby d4_84) rfl (tlt (by decide : (0 : Int32) < (3 : Int32))).2.1 ?_
      refine XS.aloadN X400.here hx rfl (hb hby d4_87) rfl rfl ?_
      refine st402 _ ?_
      refine XS.iload X402.here hx rfl (hb hby d4_91) rfl ?_
      refine X402.iaload hx (j := (0 : Int32)) (v := (.int 1)) (by rw [e402]; exact Ar_z403.1) (State.isArrayOf_alike hZ.alike Ar_z403.2.1) Ar_z403.2.2 hin404 (Has.at H_z403 hin404 rfl) (g := (mkF m 93 #[rv r0, iv 1, iv 0, iv 0, iv 0, .unset, .unset] [(.int 0), (.ref cA_1)])) rfl rfl (hb hby d4_93) _ ?_
      refine XS.iloadN X402.here hx rfl (hb hby d4_94) rfl ?_
      refine XS.icmpYes X402.here hx rfl (pc0 := 95) (pc' := 149) rfl (hb hby d4_95) rfl (flt (by decide : ¬ ((1 : Int32) < (1 : Int32)))).2.1 (by decide) (by decide) ?_
      refine XS.iinc X402.here hx rfl (hb hby d4_149) rfl (l' := #[rv r0, iv 1, iv 0, iv 0, iv ((0 : Int32) + (1 : Int32)), .unset, .unset]) rfl ?_
      refine XS.goto X402.here hx rfl (pc0 := 152) (pc' := 78) rfl (hb hby d4_152) (by decide) (by decide) ?_
      refine XS.iload X402.here hx rfl (hb hby d4_78) rfl ?_
      refine XS.aloadN X402.here hx rfl (hb hby d4_80) rfl rfl ?_
      refine st405 _ ?_
      refine XS.icmpNo X405.here hx rfl (hb hby d4_84) rfl (tlt (by decide : (1 : Int32) < (3 : Int32))).2.1 ?_
      refine XS.aloadN X405.here hx rfl (hb hby d4_87) rfl rfl ?_
      refine st406 _ ?_
      refine XS.iload X406.here hx rfl (hb hby d4_91) rfl ?_
      refine X406.iaload hx (j := (1 : Int32)) (v := (.int 2)) (by rw [e406]; exact Ar_z403.1) (State.isArrayOf_alike hZ.alike Ar_z403.2.1) Ar_z403.2.2 hin407 (Has.at H_z403 hin407 rfl) (g := (mkF m 93 #[rv r0, iv 1, iv 0, iv 0, iv ((0 : Int32) + (1 : Int32)), .unset, .unset] [(.int 1), (.ref cA_1)])) rfl rfl (hb hby d4_93) _ ?_
      refine XS.iloadN X406.here hx rfl (hb hby d4_94) rfl ?_
      refine XS.icmpYes X406.here hx rfl (pc0 := 95) (pc' := 149) rfl (hb hby d4_95) rfl (flt (by decide : ¬ ((2 : Int32) < (1 : Int32)))).2.1 (by decide) (by decide) ?_
      refine XS.iinc X406.here hx rfl (hb hby d4_149) rfl (l' := #[rv r0, iv 1, iv 0, iv 0, iv (((0 : Int32) + (1 : Int32)) + (1 : Int32)), .unset, .unset]) rfl ?_
      refine XS.goto X406.here hx rfl (pc0 := 152) (pc' := 78) rfl (hb hby d4_152) (by decide) (by decide) ?_
      refine XS.iload X406.here hx rfl (hb hby d4_78) rfl ?_
      refine XS.aloadN X406.here hx rfl (hb hby d4_80) rfl rfl ?_
      refine st408 _ ?_
      refine XS.icmpNo X408.here hx rfl (hb hby d4_84) rfl (tlt (by decide : (2 : Int32) < (3 : Int32))).2.1 ?_
      refine XS.aloadN X408.here hx rfl (hb hby d4_87) rfl rfl ?_
      refine st409 _ ?_
      refine XS.iload X409.here hx rfl (hb hby d4_91) rfl ?_
      refine X409.iaload hx (j := (2 : Int32)) (v := (.int 0)) (by rw [e409]; exact Ar_z403.1) (State.isArrayOf_alike hZ.alike Ar_z403.2.1) Ar_z403.2.2 hin410 (Has.at H_z403 hin410 rfl) (g := (mkF m 93 #[rv r0, iv 1, iv 0, iv 0, iv (((0 : Int32) + (1 : Int32)) + (1 : Int32)), .unset, .unset] [(.int 2), (.ref cA_1)])) rfl rfl (hb hby d4_93) _ ?_
      refine XS.iloadN X409.here hx rfl (hb hby d4_94) rfl ?_
      refine XS.icmpNo X409.here hx rfl (hb hby d4_95) rfl (tlt (by decide : (0 : Int32) < (1 : Int32))).2.1 ?_
      refine XS.aloadN X409.here hx rfl (hb hby d4_98) rfl rfl ?_
      refine st412 _ ?_
      refine XS.iload X412.here hx rfl (hb hby d4_102) rfl ?_
      refine X412.iaload hx (j := (2 : Int32)) (v := (.int 2)) (by rw [e412]; exact Ar_z414.1) (State.isArrayOf_alike hZ.alike Ar_z414.2.1) Ar_z414.2.2 hin415 (Has.at H_z414 hin415 rfl) (g := (mkF m 104 #[rv r0, iv 1, iv 0, iv 0, iv (((0 : Int32) + (1 : Int32)) + (1 : Int32)), .unset, .unset] [(.int 2), (.ref sA)])) rfl rfl (hb hby d4_104) _ ?_
      refine XS.istore X412.here hx rfl (hb hby d4_105) rfl (l' := #[rv r0, iv 1, iv 0, iv 0, iv (((0 : Int32) + (1 : Int32)) + (1 : Int32)), iv 2, .unset]) rfl ?_
      refine XS.aloadN X412.here hx rfl (hb hby d4_107) rfl rfl ?_
      refine XS.iload X412.here hx rfl (hb hby d4_108) rfl ?_
      refine st416.trans ?_
      show OwnS p e below T416 (mkF m 113 #[rv r0, iv 1, iv 0, iv 0, iv (((0 : Int32) + (1 : Int32)) + (1 : Int32)), iv 2, .unset] [(.int 3)]) _
      refine XS.iload X416.here hx rfl (hb hby d4_113) rfl ?_
      refine XS.isub X416.here hx rfl (hb hby d4_115) rfl ?_
      refine XS.istore X416.here hx rfl (hb hby d4_116) rfl (l' := #[rv r0, iv 1, iv 0, iv 0, iv (((0 : Int32) + (1 : Int32)) + (1 : Int32)), iv 2, iv 1]) rfl ?_
      refine XS.aloadN X416.here hx rfl (hb hby d4_118) rfl rfl ?_
      refine st420 _ ?_
      refine XS.iload X420.here hx rfl (hb hby d4_122) rfl ?_
      refine XS.aloadN X420.here hx rfl (hb hby d4_124) rfl rfl ?_
      refine st421 _ ?_
      refine XS.iloadN X421.here hx rfl (hb hby d4_128) rfl ?_
      refine XS.iload X421.here hx rfl (hb hby d4_129) rfl ?_
      refine st424 _ ?_
      refine XS.aloadN X424.here hx rfl (hb hby d4_134) rfl rfl ?_
      refine st426 _ ?_
      refine XS.iloadN X426.here hx rfl (hb hby d4_138) rfl ?_
      refine XS.iinc X426.here hx rfl (hb hby d4_139) rfl (l' := #[rv r0, iv 1, iv ((0 : Int32) + (1 : Int32)), iv 0, iv (((0 : Int32) + (1 : Int32)) + (1 : Int32)), iv 2, iv 1]) rfl ?_
      refine XS.iloadN X426.here hx rfl (hb hby d4_142) rfl ?_
      refine st430 _ ?_
      refine XS.iloadN X430.here hx rfl (hb hby d4_144) rfl ?_
      refine XS.iload X430.here hx rfl (hb hby d4_145) rfl ?_
      refine XS.iadd X430.here hx rfl (hb hby d4_147) rfl ?_
      refine XS.istoreN X430.here hx rfl (hb hby d4_148) rfl (l' := #[rv r0, iv 1, iv ((0 : Int32) + (1 : Int32)), iv 1, iv (((0 : Int32) + (1 : Int32)) + (1 : Int32)), iv 2, iv 1]) rfl ?_
      refine XS.iinc X430.here hx rfl (hb hby d4_149) rfl (l' := #[rv r0, iv 1, iv ((0 : Int32) + (1 : Int32)), iv 1, iv ((((0 : Int32) + (1 : Int32)) + (1 : Int32)) + (1 : Int32)), iv 2, iv 1]) rfl ?_
      refine XS.goto X430.here hx rfl (pc0 := 152) (pc' := 78) rfl (hb hby d4_152) (by decide) (by decide) ?_
      refine XS.iload X430.here hx rfl (hb hby d4_78) rfl ?_
      refine XS.aloadN X430.here hx rfl (hb hby d4_80) rfl rfl ?_
      refine st432 _ ?_
      refine XS.icmpYes X432.here hx rfl (pc0 := 84) (pc' := 155) rfl (hb hby d4_84) rfl (flt (by decide : ¬ ((3 : Int32) < (3 : Int32)))).2.1 (by decide) (by decide) ?_
      refine XS.aloadN X432.here hx rfl (hb hby d4_155) rfl rfl ?_
      refine XS.iloadN X432.here hx rfl (hb hby d4_156) rfl ?_
      refine st434 _ ?_
      refine XS.aloadN X434.here hx rfl (hb hby d4_160) rfl rfl ?_
      refine XS.iloadN X434.here hx rfl (hb hby d4_161) rfl ?_
      refine st437 _ ?_
      exact X437.returnOut hx Bd.returns (hb hby d4_165) hr
    · show Q_4 Z r0 bA kB sA kS oZ kZ cZ x0 x1 x2 h0 n0 _ T437.heap _
      rw [e437]
      exact ⟨ar_355, oA_1, cA_1, kk_355, x0, x2, rfl, N437, (((((((((((Keep.refl h0 [r0, bA, sA]).trans K1 (allS (Or.inl (List.mem_of_getElem? (i := 0) rfl)) all0)).trans K355 all0).wr W360 (Or.inl (List.mem_of_getElem? (i := 0) rfl))).wr W373 (Or.inr sz_cA_1)).wr W385 (Or.inr sz_cA_1)).wr W397 (Or.inr sz_cA_1)).trans K424 (allS (Or.inl (List.mem_of_getElem? (i := 1) rfl)) all0)).wr W430 (Or.inl (List.mem_of_getElem? (i := 2) rfl))).wr W434 (Or.inl (List.mem_of_getElem? (i := 0) rfl))).wr W437 (Or.inl (List.mem_of_getElem? (i := 0) rfl))), sz_ar_355, f438, f439, f440, f441, Fw437, f442, f443, f444, f445, f446, f447, f448, f449, f450, f451, f452⟩
  · have pl1 := (allS (P := fun x => ∃ cell : Cell, h0[x]? = some cell ∧ cell.vm.isStatics = false) (own_ns E_r0) all0)
    have g_oA_1 : n0 ≤ oA_1 := Nat.le_trans Z0 p1_0
    have sz_oA_1 : h0.size ≤ oA_1 := Nat.le_trans (Keep.refl h0 []).1 p1_0
    have g_cA_1 : n0 ≤ cA_1 := Nat.le_trans Z0 p1_1
    have sz_cA_1 : h0.size ≤ cA_1 := Nat.le_trans (Keep.refl h0 []).1 p1_1
    have N1 := Fr.app N0 N1q
    obtain ⟨T453, X453, e453, st453⟩ := getF X1 hx hZ hown (host := "") (Or.inl (own_at hw 30 rfl)) Via.refl rfl p1_3 (g := (mkF m 5 #[rv r0, .unset, .unset, .unset, .unset, .unset, .unset] [(.ref r0)])) rfl rfl (hb hby d4_5)
    obtain ⟨T454, X454, e454, st454⟩ := getF X453 hx hZ hown (host := "") (Or.inl (own_at hw 10 rfl)) Via.refl e453 p1_8 (g := (mkF m 13 #[rv r0, iv 1, .unset, .unset, .unset, .unset, .unset] [(.ref r0), (.ref r0)])) rfl rfl (hb hby d4_13)
    obtain ⟨T455, X455, e455, st455⟩ := getF X454 hx hZ hown (host := "") (Or.inl (own_at hw 13 rfl)) Via.refl e454 p1_9 (g := (mkF m 17 #[rv r0, iv 1, .unset, .unset, .unset, .unset, .unset] [(.ref r0), (.ref bA), (.ref r0)])) rfl rfl (hb hby d4_17)
    obtain ⟨T456, X456, e456, st456⟩ := getF X455 hx hZ hown (host := "") (Or.inl (own_at hw 15 rfl)) Via.refl e455 p1_10 (g := (mkF m 21 #[rv r0, iv 1, .unset, .unset, .unset, .unset, .unset] [(.ref r0), (.ref sA), (.ref bA), (.ref r0)])) rfl rfl (hb hby d4_21)
    obtain ⟨cl_z457, Ar_z457, q_z457, S_z457, N_z457, H_z457, G_z457⟩ := id p1_11
    have hin458 : ¬ ((1 : Int32) < 0 ∨ cl_z457.slots.size ≤ ((1 : Int32)).toNatClampNeg) := inb_of S_z457 ⟨by decide, by decide⟩
    have f459 := (V_sA.keep K1 (ninS ne_sA_r0 nin0))
    obtain ⟨cl_z460, Ar_z460, q_z460, S_z460, N_z460, H_z460, G_z460⟩ := id f459
    have hin461 : ¬ ((2 : Int32) < 0 ∨ cl_z460.slots.size ≤ ((2 : Int32)).toNatClampNeg) := inb_of S_z460 ⟨by decide, by decide⟩
    obtain ⟨T462, X462, e462, st462⟩ := getF X456 hx hZ hown (host := "") (Or.inl (own_at hw 15 rfl)) Via.refl e456 p1_10 (g := (mkF m 29 #[rv r0, iv 1, .unset, .unset, .unset, .unset, .unset] [(.ref r0), (.ref r0), (.int 2), (.ref bA), (.ref r0)])) rfl rfl (hb hby d4_29)
    have hin463 : ¬ ((1 : Int32) < 0 ∨ cl_z457.slots.size ≤ ((1 : Int32)).toNatClampNeg) := inb_of S_z457 ⟨by decide, by decide⟩
    have f465 := (E_r0.keep K1)
    obtain ⟨cq464, q464, q464'⟩ := f465.cell
    obtain ⟨_, _, ⟨T464, L464, j464, i464⟩, -, X464, ⟨Lc464, hQ464, l464, y464, z464⟩, st464⟩ := X462.privateBack hx (y := (⟨cS0, "end", "(I)I"⟩ : MethodName)) hown (mvT hZ (own_at hw 59 rfl)) (mvT hZ (own_at hw 60 rfl)) (own_selpriv (by decide) (mvT hZ (own_at hw 1 rfl)) (mvP hZ (own_at hw 61 rfl)) (mvT hZ (own_at hw 60 rfl))) (Cond.privateMethod_at (mvP hZ (own_at hw 61 rfl) (args := #[]))) (mvT hZ (own_at hw 62 rfl)) (by decide) (backOf (W := 3) (rm9_2 l Z a0 hw [] r0 sA kS T1.heap n0 (Nat.le_trans Z0 K1.1) f465 p1_3 p1_4 p1_9 f459) hZ (own_at hw 62 rfl) (own_at hw 2 rfl) (by decide) (by decide)) (g := (mkF m 34 #[rv r0, iv 1, .unset, .unset, .unset, .unset, .unset] [(.int 2), (.ref r0), (.int 2), (.ref bA), (.ref r0)])) rfl (by rw [hml]; rfl) (Steps.refl _) (a := r0) (by rw [e462]; exact q464) q464' (argsL := [(.int 2)]) (rest := [(.int 2), (.ref bA), (.ref r0)]) (lenOf pd_5 rfl) rfl (Nat.le_refl _) (hb hby d4_34) (fun _ _ => ⟨rfl, e462, (by decide : 2 + 0 ≤ _), (by decide : 512 + 0 ≤ _)⟩)
    dsimp only [Pt.U, Pt.locs, Pt.cells, Pt.slots] at X464 l464 y464 z464 st464 hQ464
    subst l464 y464 z464
    obtain ⟨rfl, N464q, e464⟩ := hQ464
    have N464 := Fr.app N1 N464q
    have f467 := (V_bA.keep K1 (ninS ne_bA_r0 nin0))
    obtain ⟨_, _, ⟨T466, L466, j466, i466⟩, -, X466, ⟨Lc466, hQ466, l466, y466, z466⟩, st466⟩ := Jvm.LawKit.callS X464 hx (y := (⟨cS1, "copyOfRange", "([BII)[B"⟩ : MethodName)) hown (mvT hZ (own_at hw 75 rfl)) (mvT hZ (own_at hw 76 rfl)) (mvT hZ (own_at hw 65 rfl)) (mvT hZ (own_at hw 77 rfl)) (by decide) (backOf (W := 1) (rm13_2 l Z a0 hw [] bA kB x0 x1 x2 T1.heap n0 (Nat.le_trans Z0 K1.1) f467) hZ (own_at hw 77 rfl) (own_at hw 65 rfl) (by decide) (by decide)) (g := (mkF m 37 #[rv r0, iv 1, .unset, .unset, .unset, .unset, .unset] [(.int 3), (.int 2), (.ref bA), (.ref r0)])) rfl (by rw [hml]; rfl) (argsL := [(.ref bA), (.int 2), (.int 3)]) (rest := [(.ref r0)]) (lenOf pd_8 rfl) rfl (Nat.le_refl _) (hb hby d4_37) (fun _ _ => ⟨rfl, e464, (by decide : 2 + 1 ≤ _), (by decide : 512 + 1 ≤ _)⟩)
    dsimp only [Pt.U, Pt.locs, Pt.cells, Pt.slots] at X466 l466 y466 z466 st466 hQ466
    subst l466 y466 z466
    have f468 := (V_oZ.keep K1 (ninS ne_oZ_r0 nin0))
    obtain ⟨ar_466, kk_466, rfl, N466q, K466, p466_0, p466_1, p466_2⟩ := hQ466
    have g_ar_466 : n0 ≤ ar_466 := Nat.le_trans (Nat.le_trans Z0 K1.1) p466_0
    have sz_ar_466 : h0.size ≤ ar_466 := Nat.le_trans ((Keep.refl h0 [r0]).trans K1 (allS (Or.inl (List.mem_of_getElem? (i := 0) rfl)) all0)).1 p466_0
    have N466 := Fr.app N464 N466q
    have f469 := (f465.keep K466)
    have f470 := (p1_7.keep K466 nin0)
    obtain ⟨T471, h471, X471, e471, W471, st471⟩ := putF X466 hx hZ hown (host := "") (Or.inl (own_at hw 28 rfl)) Via.refl rfl f470 f469 (Or.inl (own_at hw 29 rfl)) (own_at hw 1 rfl) (ty := (.array .byte)) (by decide) rfl rfl (g := (mkF m 40 #[rv r0, iv 1, .unset, .unset, .unset, .unset, .unset] [(.ref ar_466), (.ref r0)])) rfl rfl (hb hby d4_40)
    have Fw471 : Fld Z h471 r0 cS0 "limit" "[B" (.ref ar_466) := f470.same W471
    have N471 := Fr.snoc X471 N466 ge_r0
    have f472 := ((p1_3.keep K466 nin0).other W471 (Or.inr (slot_ne (Or.inl (own_at hw 31 rfl)) (Or.inl (own_at hw 29 rfl)) (by decide) (t := .int) (t' := (.array .byte)) (by decide) (by decide))))
    obtain ⟨T473, X473, e473, st473⟩ := getF X471 hx hZ hown (host := "") (Or.inl (own_at hw 30 rfl)) Via.refl e471 f472 (g := (mkF m 47 #[rv r0, iv 1, iv 0, .unset, .unset, .unset, .unset] [(.ref r0), (.int 0)])) rfl rfl (hb hby d4_47)
    have f474 := ((p1_13.keep K466 nin0).other W471 (Or.inr (slot_ne (Or.inl (own_at hw 18 rfl)) (Or.inl (own_at hw 29 rfl)) (by decide) (t := (.array .int)) (t' := (.array .byte)) (by decide) (by decide))))
    obtain ⟨T475, X475, e475, st475⟩ := getF X473 hx hZ hown (host := "") (Or.inl (own_at hw 17 rfl)) Via.refl e473 f474 (g := (mkF m 54 #[rv r0, iv 1, iv 0, .unset, .unset, .unset, .unset] [(.ref r0)])) rfl rfl (hb hby d4_54)
    have f476 := ((p1_10.keep K466 nin0).other W471 (Or.inr (slot_ne (Or.inl (own_at hw 16 rfl)) (Or.inl (own_at hw 29 rfl)) (by decide) (t := (.array .int)) (t' := (.array .byte)) (by decide) (by decide))))
    obtain ⟨T477, X477, e477, st477⟩ := getF X475 hx hZ hown (host := "") (Or.inl (own_at hw 15 rfl)) Via.refl e475 f476 (g := (mkF m 58 #[rv r0, iv 1, iv 0, .unset, .unset, .unset, .unset] [(.ref r0), (.ref cA_1)])) rfl rfl (hb hby d4_58)
    have f478 := ((p1_11.keep K466 nin0).other W471 (Ne.symm (Nat.ne_of_lt (Nat.lt_of_lt_of_le E_r0.lt p1_0))))
    obtain ⟨cl_z479, Ar_z479, q_z479, S_z479, N_z479, H_z479, G_z479⟩ := id f478
    have hin480 : ¬ ((0 : Int32) < 0 ∨ cl_z479.slots.size ≤ ((0 : Int32)).toNatClampNeg) := inb_of S_z479 ⟨by decide, by decide⟩
    have f481 := ((p1_14.keep K466 nin0).other W471 (Ne.symm (Nat.ne_of_lt (Nat.lt_of_lt_of_le E_r0.lt p1_1))))
    obtain ⟨cl_z482, Ar_z482, q_z482, S_z482, N_z482, H_z482, G_z482⟩ := id f481
    have hin483 : ¬ ((0 : Int32) < 0 ∨ cl_z482.slots.size ≤ ((0 : Int32)).toNatClampNeg) := inb_of S_z482 ⟨by decide, by decide⟩
    obtain ⟨T484, h484, X484, e484, W484, st484⟩ := stI X477 hx hZ e477 Ar_z482 (j := (0 : Int32)) hin483 (g := (mkF m 64 #[rv r0, iv 1, iv 0, .unset, .unset, .unset, .unset] [(.int 0), (.int 0), (.ref cA_1)])) rfl rfl (hb hby d4_64)
    have V484 : Arv Z h484 cA_1 kC_1 .int (256 : Int32) [(.int 0), (.int 1), (.int 2)] (.int 0) := Arv.set Ar_z482 q_z482 S_z482 N_z482 H_z482 G_z482 rfl W484 0 rfl (Nat.le_of_ble_eq_true rfl)
    have N484 := Fr.snoc X484 N471 g_cA_1
    have f485 := (f472.other W484 (Or.inl (Nat.ne_of_lt (Nat.lt_of_lt_of_le E_r0.lt p1_1))))
    obtain ⟨T486, X486, e486, st486⟩ := getF X484 hx hZ hown (host := "") (Or.inl (own_at hw 30 rfl)) Via.refl e484 f485 (g := (mkF m 47 #[rv r0, iv 1, iv ((0 : Int32) + (1 : Int32)), .unset, .unset, .unset, .unset] [(.ref r0), (.int 1)])) rfl rfl (hb hby d4_47)
    have f487 := (f474.other W484 (Or.inl (Nat.ne_of_lt (Nat.lt_of_lt_of_le E_r0.lt p1_1))))
    obtain ⟨T488, X488, e488, st488⟩ := getF X486 hx hZ hown (host := "") (Or.inl (own_at hw 17 rfl)) Via.refl e486 f487 (g := (mkF m 54 #[rv r0, iv 1, iv ((0 : Int32) + (1 : Int32)), .unset, .unset, .unset, .unset] [(.ref r0)])) rfl rfl (hb hby d4_54)
    have f489 := (f476.other W484 (Or.inl (Nat.ne_of_lt (Nat.lt_of_lt_of_le E_r0.lt p1_1))))
    obtain ⟨T490, X490, e490, st490⟩ := getF X488 hx hZ hown (host := "") (Or.inl (own_at hw 15 rfl)) Via.refl e488 f489 (g := (mkF m 58 #[rv r0, iv 1, iv ((0 : Int32) + (1 : Int32)), .unset, .unset, .unset, .unset] [(.ref r0), (.ref cA_1)])) rfl rfl (hb hby d4_58)
    have f491 := (f478.other W484 p1_2)
    obtain ⟨cl_z492, Ar_z492, q_z492, S_z492, N_z492, H_z492, G_z492⟩ := id f491
    have hin493 : ¬ ((1 : Int32) < 0 ∨ cl_z492.slots.size ≤ ((1 : Int32)).toNatClampNeg) := inb_of S_z492 ⟨by decide, by decide⟩
    obtain ⟨cl_z494, Ar_z494, q_z494, S_z494, N_z494, H_z494, G_z494⟩ := id V484
    have hin495 : ¬ ((2 : Int32) < 0 ∨ cl_z494.slots.size ≤ ((2 : Int32)).toNatClampNeg) := inb_of S_z494 ⟨by decide, by decide⟩
    obtain ⟨T496, h496, X496, e496, W496, st496⟩ := stI X490 hx hZ e490 Ar_z494 (j := (2 : Int32)) hin495 (g := (mkF m 64 #[rv r0, iv 1, iv ((0 : Int32) + (1 : Int32)), .unset, .unset, .unset, .unset] [(.int 1), (.int 2), (.ref cA_1)])) rfl rfl (hb hby d4_64)
    have V496 : Arv Z h496 cA_1 kC_1 .int (256 : Int32) [(.int 0), (.int 1), (.int 1)] (.int 0) := Arv.set Ar_z494 q_z494 S_z494 N_z494 H_z494 G_z494 rfl W496 2 rfl (Nat.le_of_ble_eq_true rfl)
    have N496 := Fr.snoc X496 N484 g_cA_1
    have f497 := (f485.other W496 (Or.inl (Nat.ne_of_lt (Nat.lt_of_lt_of_le E_r0.lt p1_1))))
    obtain ⟨T498, X498, e498, st498⟩ := getF X496 hx hZ hown (host := "") (Or.inl (own_at hw 30 rfl)) Via.refl e496 f497 (g := (mkF m 47 #[rv r0, iv 1, iv (((0 : Int32) + (1 : Int32)) + (1 : Int32)), .unset, .unset, .unset, .unset] [(.ref r0), (.int 2)])) rfl rfl (hb hby d4_47)
    have f499 := (f487.other W496 (Or.inl (Nat.ne_of_lt (Nat.lt_of_lt_of_le E_r0.lt p1_1))))
    obtain ⟨T500, X500, e500, st500⟩ := getF X498 hx hZ hown (host := "") (Or.inl (own_at hw 17 rfl)) Via.refl e498 f499 (g := (mkF m 54 #[rv r0, iv 1, iv (((0 : Int32) + (1 : Int32)) + (1 : Int32)), .unset, .unset, .unset, .unset] [(.ref r0)])) rfl rfl (hb hby d4_54)
    have f501 := (f489.other W496 (Or.inl (Nat.ne_of_lt (Nat.lt_of_lt_of_le E_r0.lt p1_1))))
    obtain ⟨T502, X502, e502, st502⟩ := getF X500 hx hZ hown (host := "") (Or.inl (own_at hw 15 rfl)) Via.refl e500 f501 (g := (mkF m 58 #[rv r0, iv 1, iv (((0 : Int32) + (1 : Int32)) + (1 : Int32)), .unset, .unset, .unset, .unset] [(.ref r0), (.ref cA_1)])) rfl rfl (hb hby d4_58)
    have f503 := (f491.other W496 p1_2)
    obtain ⟨cl_z504, Ar_z504, q_z504, S_z504, N_z504, H_z504, G_z504⟩ := id f503
    have hin505 : ¬ ((2 : Int32) < 0 ∨ cl_z504.slots.size ≤ ((2 : Int32)).toNatClampNeg) := inb_of S_z504 ⟨by decide, by decide⟩
    obtain ⟨cl_z506, Ar_z506, q_z506, S_z506, N_z506, H_z506, G_z506⟩ := id V496
    have hin507 : ¬ ((1 : Int32) < 0 ∨ cl_z506.slots.size ≤ ((1 : Int32)).toNatClampNeg) := inb_of S_z506 ⟨by decide, by decide⟩
    obtain ⟨T508, h508, X508, e508, W508, st508⟩ := stI X502 hx hZ e502 Ar_z506 (j := (1 : Int32)) hin507 (g := (mkF m 64 #[rv r0, iv 1, iv (((0 : Int32) + (1 : Int32)) + (1 : Int32)), .unset, .unset, .unset, .unset] [(.int 2), (.int 1), (.ref cA_1)])) rfl rfl (hb hby d4_64)
    have V508 : Arv Z h508 cA_1 kC_1 .int (256 : Int32) [(.int 0), (.int 2), (.int 1)] (.int 0) := Arv.set Ar_z506 q_z506 S_z506 N_z506 H_z506 G_z506 rfl W508 1 rfl (Nat.le_of_ble_eq_true rfl)
    have N508 := Fr.snoc X508 N496 g_cA_1
    have f509 := (f497.other W508 (Or.inl (Nat.ne_of_lt (Nat.lt_of_lt_of_le E_r0.lt p1_1))))
    obtain ⟨T510, X510, e510, st510⟩ := getF X508 hx hZ hown (host := "") (Or.inl (own_at hw 30 rfl)) Via.refl e508 f509 (g := (mkF m 47 #[rv r0, iv 1, iv ((((0 : Int32) + (1 : Int32)) + (1 : Int32)) + (1 : Int32)), .unset, .unset, .unset, .unset] [(.ref r0), (.int 3)])) rfl rfl (hb hby d4_47)
    obtain ⟨T511, X511, e511, st511⟩ := getF X510 hx hZ hown (host := "") (Or.inl (own_at hw 30 rfl)) Via.refl e510 f509 (g := (mkF m 81 #[rv r0, iv 1, iv 0, iv 0, iv 0, .unset, .unset] [(.ref r0), (.int 0)])) rfl rfl (hb hby d4_81)
    have f512 := (f499.other W508 (Or.inl (Nat.ne_of_lt (Nat.lt_of_lt_of_le E_r0.lt p1_1))))
    obtain ⟨T513, X513, e513, st513⟩ := getF X511 hx hZ hown (host := "") (Or.inl (own_at hw 17 rfl)) Via.refl e511 f512 (g := (mkF m 88 #[rv r0, iv 1, iv 0, iv 0, iv 0, .unset, .unset] [(.ref r0)])) rfl rfl (hb hby d4_88)
    obtain ⟨cl_z514, Ar_z514, q_z514, S_z514, N_z514, H_z514, G_z514⟩ := id V508
    have hin515 : ¬ ((0 : Int32) < 0 ∨ cl_z514.slots.size ≤ ((0 : Int32)).toNatClampNeg) := inb_of S_z514 ⟨by decide, by decide⟩
    have f516 := (((((p1_9.keep K466 nin0).other W471 (Or.inr (slot_ne (Or.inl (own_at hw 14 rfl)) (Or.inl (own_at hw 29 rfl)) (by decide) (t := (.array .int)) (t' := (.array .byte)) (by decide) (by decide)))).other W484 (Or.inl (Nat.ne_of_lt (Nat.lt_of_lt_of_le E_r0.lt p1_1)))).other W496 (Or.inl (Nat.ne_of_lt (Nat.lt_of_lt_of_le E_r0.lt p1_1)))).other W508 (Or.inl (Nat.ne_of_lt (Nat.lt_of_lt_of_le E_r0.lt p1_1))))
    obtain ⟨T517, X517, e517, st517⟩ := getF X513 hx hZ hown (host := "") (Or.inl (own_at hw 13 rfl)) Via.refl e513 f516 (g := (mkF m 99 #[rv r0, iv 1, iv 0, iv 0, iv 0, .unset, .unset] [(.ref r0)])) rfl rfl (hb hby d4_99)
    have f518 := (((((f459.keep K466 nin0).other W471 ne_sA_r0).other W484 (Nat.ne_of_lt (Nat.lt_of_lt_of_le V_sA.lt p1_1))).other W496 (Nat.ne_of_lt (Nat.lt_of_lt_of_le V_sA.lt p1_1))).other W508 (Nat.ne_of_lt (Nat.lt_of_lt_of_le V_sA.lt p1_1)))
    obtain ⟨cl_z519, Ar_z519, q_z519, S_z519, N_z519, H_z519, G_z519⟩ := id f518
    have hin520 : ¬ ((0 : Int32) < 0 ∨ cl_z519.slots.size ≤ ((0 : Int32)).toNatClampNeg) := inb_of S_z519 ⟨by decide, by decide⟩
    have f522 := ((((f469.wr W471).wr W484).wr W496).wr W508)
    have f523 := (((((p1_4.keep K466 nin0).other W471 (Or.inr (slot_ne (Or.inl (own_at hw 33 rfl)) (Or.inl (own_at hw 29 rfl)) (by decide) (t := .int) (t' := (.array .byte)) (by decide) (by decide)))).other W484 (Or.inl (Nat.ne_of_lt (Nat.lt_of_lt_of_le E_r0.lt p1_1)))).other W496 (Or.inl (Nat.ne_of_lt (Nat.lt_of_lt_of_le E_r0.lt p1_1)))).other W508 (Or.inl (Nat.ne_of_lt (Nat.lt_of_lt_of_le E_r0.lt p1_1))))
    obtain ⟨cq521, q521, q521'⟩ := f522.cell
    obtain ⟨_, _, ⟨T521, L521, j521, i521⟩, -, X521, ⟨Lc521, hQ521, l521, y521, z521⟩, st521⟩ := X517.privateBack hx (y := (⟨cS0, "end", "(I)I"⟩ : MethodName)) hown (mvT hZ (own_at hw 59 rfl)) (mvT hZ (own_at hw 60 rfl)) (own_selpriv (by decide) (mvT hZ (own_at hw 1 rfl)) (mvP hZ (own_at hw 61 rfl)) (mvT hZ (own_at hw 60 rfl))) (Cond.privateMethod_at (mvP hZ (own_at hw 61 rfl) (args := #[]))) (mvT hZ (own_at hw 62 rfl)) (by decide) (backOf (W := 0) (rm9_0 l Z a0 hw [] r0 sA kS h508 n0 (Nat.le_trans (Nat.le_trans (Nat.le_trans (Nat.le_trans (Nat.le_trans (Nat.le_trans Z0 K1.1) K466.1) (Keep.of_wr W471).1) (Keep.of_wr W484).1) (Keep.of_wr W496).1) (Keep.of_wr W508).1) f522 f509 f523 f516 f518) hZ (own_at hw 62 rfl) (own_at hw 2 rfl) (by decide) (by decide)) (g := (mkF m 110 #[rv r0, iv 1, iv 0, iv 0, iv 0, iv 0, .unset] [(.int 0), (.ref r0)])) rfl (by rw [hml]; rfl) (Steps.refl _) (a := r0) (by rw [e517]; exact q521) q521' (argsL := [(.int 0)]) (rest := []) (lenOf pd_5 rfl) rfl (Nat.le_refl _) (hb hby d4_110) (fun _ _ => ⟨rfl, e517, (by decide : 3 + 0 ≤ _), (by decide : 513 + 0 ≤ _)⟩)
    dsimp only [Pt.U, Pt.locs, Pt.cells, Pt.slots] at X521 l521 y521 z521 st521 hQ521
    subst l521 y521 z521
    obtain ⟨rfl, N521q, e521⟩ := hQ521
    have N521 := Fr.app N508 N521q
    have f524 := (((((p1_8.keep K466 nin0).other W471 (Or.inr (slot_ne (Or.inl (own_at hw 11 rfl)) (Or.inl (own_at hw 29 rfl)) (by decide) (t := (.array .byte)) (t' := (.array .byte)) (by decide) (by decide)))).other W484 (Or.inl (Nat.ne_of_lt (Nat.lt_of_lt_of_le E_r0.lt p1_1)))).other W496 (Or.inl (Nat.ne_of_lt (Nat.lt_of_lt_of_le E_r0.lt p1_1)))).other W508 (Or.inl (Nat.ne_of_lt (Nat.lt_of_lt_of_le E_r0.lt p1_1))))
    obtain ⟨T525, X525, e525, st525⟩ := getF X521 hx hZ hown (host := "") (Or.inl (own_at hw 10 rfl)) Via.refl e521 f524 (g := (mkF m 119 #[rv r0, iv 1, iv 0, iv 0, iv 0, iv 0, iv 1] [(.ref r0)])) rfl rfl (hb hby d4_119)
    obtain ⟨T526, X526, e526, st526⟩ := getF X525 hx hZ hown (host := "") (Or.inl (own_at hw 10 rfl)) Via.refl e525 f524 (g := (mkF m 125 #[rv r0, iv 1, iv 0, iv 0, iv 0, iv 0, iv 1] [(.ref r0), (.int 0), (.ref bA)])) rfl rfl (hb hby d4_125)
    have f527 := (((((f467.keep K466 nin0).other W471 ne_bA_r0).other W484 (Nat.ne_of_lt (Nat.lt_of_lt_of_le V_bA.lt p1_1))).other W496 (Nat.ne_of_lt (Nat.lt_of_lt_of_le V_bA.lt p1_1))).other W508 (Nat.ne_of_lt (Nat.lt_of_lt_of_le V_bA.lt p1_1)))
    have f528 := ((((((E_bA.keep K1).keep K466).wr W471).wr W484).wr W496).wr W508)
    obtain ⟨T529, h529, L529, X529, e529, N529, K529, Vr529, st529⟩ := cpA X526 hx hZ hown (own_at hw 34 rfl) (own_at hw 37 rfl) (own_at hw 35 rfl) (own_at hw 36 rfl) e526 f527 f527 (us := [(.int x0)]) (Or.inl ⟨rfl, rfl⟩) (by decide) (by decide) (by decide) (by decide) (by decide) rfl (Nat.le_of_ble_eq_true rfl) N521 ge_bA (g := (mkF m 131 #[rv r0, iv 1, iv 0, iv 0, iv 0, iv 0, iv 1] [(.int 1), (.int 0), (.ref bA), (.int 0), (.ref bA)])) rfl (by rw [hml]; rfl) rfl (hb hby d4_131) (by decide) (W := 0) (Nat.le_refl _) (by decide)
    have pl529 := (allS (P := fun x => ∃ cell : Cell, h508[x]? = some cell ∧ cell.vm.isStatics = false) (own_ns f528) all0)
    have V529 : Arv Z h529 bA kB .byte (4096 : Int32) [(.int x0), (.int x1), (.int x2)] (.int 0) := Vr529
    have f530 := (f516.keep K529 (ninS ne_r0_bA nin0))
    obtain ⟨T531, X531, e531, st531⟩ := getF X529 hx hZ hown (host := "") (Or.inl (own_at hw 13 rfl)) Via.refl e529 f530 (g := (mkF m 135 #[rv r0, iv 1, iv 0, iv 0, iv 0, iv 0, iv 1] [(.ref r0)])) rfl rfl (hb hby d4_135)
    have f532 := (f518.keep K529 (ninS ne_sA_bA nin0))
    obtain ⟨cl_z533, Ar_z533, q_z533, S_z533, N_z533, H_z533, G_z533⟩ := id f532
    have hin534 : ¬ ((0 : Int32) < 0 ∨ cl_z533.slots.size ≤ ((0 : Int32)).toNatClampNeg) := inb_of S_z533 ⟨by decide, by decide⟩
    obtain ⟨T535, h535, X535, e535, W535, st535⟩ := stI X531 hx hZ e531 Ar_z533 (j := (0 : Int32)) hin534 (g := (mkF m 143 #[rv r0, iv 1, iv ((0 : Int32) + (1 : Int32)), iv 0, iv 0, iv 0, iv 1] [(.int 0), (.int 0), (.ref sA)])) rfl rfl (hb hby d4_143)
    have V535 : Arv Z h535 sA kS .int (256 : Int32) [(.int 0), (.int 1), (.int 2)] (.int 0) := Arv.set Ar_z533 q_z533 S_z533 N_z533 H_z533 G_z533 rfl W535 0 rfl (Nat.le_of_ble_eq_true rfl)
    have N535 := Fr.snoc X535 N529 ge_sA
    have f536 := ((f509.keep K529 (ninS ne_r0_bA nin0)).other W535 (Or.inl ne_r0_sA))
    obtain ⟨T537, X537, e537, st537⟩ := getF X535 hx hZ hown (host := "") (Or.inl (own_at hw 30 rfl)) Via.refl e535 f536 (g := (mkF m 81 #[rv r0, iv 1, iv ((0 : Int32) + (1 : Int32)), iv 1, iv ((0 : Int32) + (1 : Int32)), iv 0, iv 1] [(.ref r0), (.int 1)])) rfl rfl (hb hby d4_81)
    have f538 := ((f512.keep K529 (ninS ne_r0_bA nin0)).other W535 (Or.inl ne_r0_sA))
    obtain ⟨T539, X539, e539, st539⟩ := getF X537 hx hZ hown (host := "") (Or.inl (own_at hw 17 rfl)) Via.refl e537 f538 (g := (mkF m 88 #[rv r0, iv 1, iv ((0 : Int32) + (1 : Int32)), iv 1, iv ((0 : Int32) + (1 : Int32)), iv 0, iv 1] [(.ref r0)])) rfl rfl (hb hby d4_88)
    have f540 := ((V508.keep K529 (ninS (Ne.symm (Nat.ne_of_lt (Nat.lt_of_lt_of_le V_bA.lt p1_1))) nin0)).other W535 (Ne.symm (Nat.ne_of_lt (Nat.lt_of_lt_of_le V_sA.lt p1_1))))
    obtain ⟨cl_z541, Ar_z541, q_z541, S_z541, N_z541, H_z541, G_z541⟩ := id f540
    have hin542 : ¬ ((1 : Int32) < 0 ∨ cl_z541.slots.size ≤ ((1 : Int32)).toNatClampNeg) := inb_of S_z541 ⟨by decide, by decide⟩
    obtain ⟨T543, X543, e543, st543⟩ := getF X539 hx hZ hown (host := "") (Or.inl (own_at hw 30 rfl)) Via.refl e539 f536 (g := (mkF m 81 #[rv r0, iv 1, iv ((0 : Int32) + (1 : Int32)), iv 1, iv (((0 : Int32) + (1 : Int32)) + (1 : Int32)), iv 0, iv 1] [(.ref r0), (.int 2)])) rfl rfl (hb hby d4_81)
    obtain ⟨T544, X544, e544, st544⟩ := getF X543 hx hZ hown (host := "") (Or.inl (own_at hw 17 rfl)) Via.refl e543 f538 (g := (mkF m 88 #[rv r0, iv 1, iv ((0 : Int32) + (1 : Int32)), iv 1, iv (((0 : Int32) + (1 : Int32)) + (1 : Int32)), iv 0, iv 1] [(.ref r0)])) rfl rfl (hb hby d4_88)
    have hin545 : ¬ ((2 : Int32) < 0 ∨ cl_z541.slots.size ≤ ((2 : Int32)).toNatClampNeg) := inb_of S_z541 ⟨by decide, by decide⟩
    obtain ⟨T546, X546, e546, st546⟩ := getF X544 hx hZ hown (host := "") (Or.inl (own_at hw 30 rfl)) Via.refl e544 f536 (g := (mkF m 81 #[rv r0, iv 1, iv ((0 : Int32) + (1 : Int32)), iv 1, iv ((((0 : Int32) + (1 : Int32)) + (1 : Int32)) + (1 : Int32)), iv 0, iv 1] [(.ref r0), (.int 3)])) rfl rfl (hb hby d4_81)
    have f547 := ((f522.keep K529).wr W535)
    obtain ⟨T548, h548, X548, e548, W548, st548⟩ := putF X546 hx hZ hown (host := "") (Or.inl (own_at hw 30 rfl)) Via.refl e546 f536 f547 (Or.inl (own_at hw 31 rfl)) (own_at hw 1 rfl) (ty := .int) (by decide) rfl rfl (g := (mkF m 157 #[rv r0, iv 1, iv ((0 : Int32) + (1 : Int32)), iv 1, iv ((((0 : Int32) + (1 : Int32)) + (1 : Int32)) + (1 : Int32)), iv 0, iv 1] [(.int 1), (.ref r0)])) rfl rfl (hb hby d4_157)
    have Fw548 : Fld Z h548 r0 cS0 "count" "I" (.int 1) := f536.same W548
    have N548 := Fr.snoc X548 N535 ge_r0
    have f549 := (f547.wr W548)
    have f550 := (((f523.keep K529 (ninS ne_r0_bA nin0)).other W535 (Or.inl ne_r0_sA)).other W548 (Or.inr (slot_ne (Or.inl (own_at hw 33 rfl)) (Or.inl (own_at hw 31 rfl)) (by decide) (t := .int) (t' := .int) (by decide) (by decide))))
    obtain ⟨T551, h551, X551, e551, W551, st551⟩ := putF X548 hx hZ hown (host := "") (Or.inl (own_at hw 32 rfl)) Via.refl e548 f550 f549 (Or.inl (own_at hw 33 rfl)) (own_at hw 1 rfl) (ty := .int) (by decide) rfl rfl (g := (mkF m 162 #[rv r0, iv 1, iv ((0 : Int32) + (1 : Int32)), iv 1, iv ((((0 : Int32) + (1 : Int32)) + (1 : Int32)) + (1 : Int32)), iv 0, iv 1] [(.int 1), (.ref r0)])) rfl rfl (hb hby d4_162)
    have Fw551 : Fld Z h551 r0 cS0 "used" "I" (.int 1) := f550.same W551
    have N551 := Fr.snoc X551 N548 ge_r0
    have f552 := (f549.wr W551)
    have f553 := (((((((((p1_5.keep K466 nin0).other W471 (Or.inr (slot_ne (Or.inr (own_at hw 20 rfl)) (Or.inl (own_at hw 29 rfl)) (by decide) (t := .int) (t' := (.array .byte)) (by decide) (by decide)))).other W484 (Or.inl (Nat.ne_of_lt (Nat.lt_of_lt_of_le E_r0.lt p1_1)))).other W496 (Or.inl (Nat.ne_of_lt (Nat.lt_of_lt_of_le E_r0.lt p1_1)))).other W508 (Or.inl (Nat.ne_of_lt (Nat.lt_of_lt_of_le E_r0.lt p1_1)))).keep K529 (ninS ne_r0_bA nin0)).other W535 (Or.inl ne_r0_sA)).other W548 (Or.inr (slot_ne (Or.inr (own_at hw 20 rfl)) (Or.inl (own_at hw 31 rfl)) (by decide) (t := .int) (t' := .int) (by decide) (by decide)))).other W551 (Or.inr (slot_ne (Or.inr (own_at hw 20 rfl)) (Or.inl (own_at hw 33 rfl)) (by decide) (t := .int) (t' := .int) (by decide) (by decide))))
    have f554 := (((((((((p1_6.keep K466 nin0).other W471 (Or.inr (slot_ne (Or.inr (own_at hw 22 rfl)) (Or.inl (own_at hw 29 rfl)) (by decide) (t := .int) (t' := (.array .byte)) (by decide) (by decide)))).other W484 (Or.inl (Nat.ne_of_lt (Nat.lt_of_lt_of_le E_r0.lt p1_1)))).other W496 (Or.inl (Nat.ne_of_lt (Nat.lt_of_lt_of_le E_r0.lt p1_1)))).other W508 (Or.inl (Nat.ne_of_lt (Nat.lt_of_lt_of_le E_r0.lt p1_1)))).keep K529 (ninS ne_r0_bA nin0)).other W535 (Or.inl ne_r0_sA)).other W548 (Or.inr (slot_ne (Or.inr (own_at hw 22 rfl)) (Or.inl (own_at hw 31 rfl)) (by decide) (t := .int) (t' := .int) (by decide) (by decide)))).other W551 (Or.inr (slot_ne (Or.inr (own_at hw 22 rfl)) (Or.inl (own_at hw 33 rfl)) (by decide) (t := .int) (t' := .int) (by decide) (by decide))))
    have f555 := (Fw548.other W551 (Or.inr (slot_ne (Or.inl (own_at hw 31 rfl)) (Or.inl (own_at hw 33 rfl)) (by decide) (t := .int) (t' := .int) (by decide) (by decide))))
    have f556 := (((((((Fw471.other W484 (Or.inl (Nat.ne_of_lt (Nat.lt_of_lt_of_le E_r0.lt p1_1)))).other W496 (Or.inl (Nat.ne_of_lt (Nat.lt_of_lt_of_le E_r0.lt p1_1)))).other W508 (Or.inl (Nat.ne_of_lt (Nat.lt_of_lt_of_le E_r0.lt p1_1)))).keep K529 (ninS ne_r0_bA nin0)).other W535 (Or.inl ne_r0_sA)).other W548 (Or.inr (slot_ne (Or.inl (own_at hw 29 rfl)) (Or.inl (own_at hw 31 rfl)) (by decide) (t := (.array .byte)) (t' := .int) (by decide) (by decide)))).other W551 (Or.inr (slot_ne (Or.inl (own_at hw 29 rfl)) (Or.inl (own_at hw 33 rfl)) (by decide) (t := (.array .byte)) (t' := .int) (by decide) (by decide))))
    have f557 := ((((f524.keep K529 (ninS ne_r0_bA nin0)).other W535 (Or.inl ne_r0_sA)).other W548 (Or.inr (slot_ne (Or.inl (own_at hw 11 rfl)) (Or.inl (own_at hw 31 rfl)) (by decide) (t := (.array .byte)) (t' := .int) (by decide) (by decide)))).other W551 (Or.inr (slot_ne (Or.inl (own_at hw 11 rfl)) (Or.inl (own_at hw 33 rfl)) (by decide) (t := (.array .byte)) (t' := .int) (by decide) (by decide))))
    have f558 := (((V529.other W535 ne_bA_sA).other W548 ne_bA_r0).other W551 ne_bA_r0)
    have f559 := ((((f528.keep K529).wr W535).wr W548).wr W551)
    have f560 := (((f530.other W535 (Or.inl ne_r0_sA)).other W548 (Or.inr (slot_ne (Or.inl (own_at hw 14 rfl)) (Or.inl (own_at hw 31 rfl)) (by decide) (t := (.array .int)) (t' := .int) (by decide) (by decide)))).other W551 (Or.inr (slot_ne (Or.inl (own_at hw 14 rfl)) (Or.inl (own_at hw 33 rfl)) (by decide) (t := (.array .int)) (t' := .int) (by decide) (by decide))))
    have f561 := ((V535.other W548 ne_sA_r0).other W551 ne_sA_r0)
    have f562 := ((((((((((E_sA.keep K1).keep K466).wr W471).wr W484).wr W496).wr W508).keep K529).wr W535).wr W548).wr W551)
    have f563 := (((((f501.other W508 (Or.inl (Nat.ne_of_lt (Nat.lt_of_lt_of_le E_r0.lt p1_1)))).keep K529 (ninS ne_r0_bA nin0)).other W535 (Or.inl ne_r0_sA)).other W548 (Or.inr (slot_ne (Or.inl (own_at hw 16 rfl)) (Or.inl (own_at hw 31 rfl)) (by decide) (t := (.array .int)) (t' := .int) (by decide) (by decide)))).other W551 (Or.inr (slot_ne (Or.inl (own_at hw 16 rfl)) (Or.inl (own_at hw 33 rfl)) (by decide) (t := (.array .int)) (t' := .int) (by decide) (by decide))))
    have f564 := ((f538.other W548 (Or.inr (slot_ne (Or.inl (own_at hw 18 rfl)) (Or.inl (own_at hw 31 rfl)) (by decide) (t := (.array .int)) (t' := .int) (by decide) (by decide)))).other W551 (Or.inr (slot_ne (Or.inl (own_at hw 18 rfl)) (Or.inl (own_at hw 33 rfl)) (by decide) (t := (.array .int)) (t' := .int) (by decide) (by decide))))
    have f565 := ((((((((p466_1.other W471 (Ne.symm (Nat.ne_of_lt (Nat.lt_of_lt_of_le f465.lt p466_0)))).other W484 (Ne.symm (Nat.ne_of_lt (Nat.lt_of_lt_of_le p1_14.lt p466_0)))).other W496 (Ne.symm (Nat.ne_of_lt (Nat.lt_of_lt_of_le p1_14.lt p466_0)))).other W508 (Ne.symm (Nat.ne_of_lt (Nat.lt_of_lt_of_le p1_14.lt p466_0)))).keep K529 (ninS (Ne.symm (Nat.ne_of_lt (Nat.lt_of_lt_of_le f467.lt p466_0))) nin0)).other W535 (Ne.symm (Nat.ne_of_lt (Nat.lt_of_lt_of_le f459.lt p466_0)))).other W548 (Ne.symm (Nat.ne_of_lt (Nat.lt_of_lt_of_le f465.lt p466_0)))).other W551 (Ne.symm (Nat.ne_of_lt (Nat.lt_of_lt_of_le f465.lt p466_0))))
    have f566 := ((((((((p466_2.wr W471).wr W484).wr W496).wr W508).keep K529).wr W535).wr W548).wr W551)
    obtain ⟨fs, hr, hrun, hended, hW, hsame⟩ := X551.leave (v := none) (fun _ => rfl)
    refine ⟨_, _, k2 _ ?_, hrun, hended, _, _, rfl, ?_, ⟨_, rfl⟩, hW, hsame.mono (by decide) (by decide)⟩
    · refine st1.trans ?_
      refine XS.aloadN X1.here hx rfl (hb hby d4_4) rfl rfl ?_
      refine st453 _ ?_
      refine XS.iconst X453.here hx rfl (hb hby d4_8) ?_
      refine XS.idiv X453.here hx rfl (hb hby d4_9) rfl (by decide) ?_
      refine XS.istoreN X453.here hx rfl (hb hby d4_10) rfl (l' := #[rv r0, iv 1, .unset, .unset, .unset, .unset, .unset]) rfl ?_
      refine XS.aloadN X453.here hx rfl (hb hby d4_11) rfl rfl ?_
      refine XS.aloadN X453.here hx rfl (hb hby d4_12) rfl rfl ?_
      refine st454 _ ?_
      refine XS.aloadN X454.here hx rfl (hb hby d4_16) rfl rfl ?_
      refine st455 _ ?_
      refine XS.aloadN X455.here hx rfl (hb hby d4_20) rfl rfl ?_
      refine st456 _ ?_
      refine XS.iloadN X456.here hx rfl (hb hby d4_24) rfl ?_
      refine X456.iaload hx (j := (1 : Int32)) (v := (.int 2)) (by rw [e456]; exact Ar_z457.1) (State.isArrayOf_alike hZ.alike Ar_z457.2.1) Ar_z457.2.2 hin458 (Has.at H_z457 hin458 rfl) (g := (mkF m 25 #[rv r0, iv 1, .unset, .unset, .unset, .unset, .unset] [(.int 1), (.ref oA_1), (.ref sA), (.ref bA), (.ref r0)])) rfl rfl (hb hby d4_25) _ ?_
      refine X456.iaload hx (j := (2 : Int32)) (v := (.int 2)) (by rw [e456]; exact Ar_z460.1) (State.isArrayOf_alike hZ.alike Ar_z460.2.1) Ar_z460.2.2 hin461 (Has.at H_z460 hin461 rfl) (g := (mkF m 26 #[rv r0, iv 1, .unset, .unset, .unset, .unset, .unset] [(.int 2), (.ref sA), (.ref bA), (.ref r0)])) rfl rfl (hb hby d4_26) _ ?_
      refine XS.aloadN X456.here hx rfl (hb hby d4_27) rfl rfl ?_
      refine XS.aloadN X456.here hx rfl (hb hby d4_28) rfl rfl ?_
      refine st462 _ ?_
      refine XS.iloadN X462.here hx rfl (hb hby d4_32) rfl ?_
      refine X462.iaload hx (j := (1 : Int32)) (v := (.int 2)) (by rw [e462]; exact Ar_z457.1) (State.isArrayOf_alike hZ.alike Ar_z457.2.1) Ar_z457.2.2 hin463 (Has.at H_z457 hin463 rfl) (g := (mkF m 33 #[rv r0, iv 1, .unset, .unset, .unset, .unset, .unset] [(.int 1), (.ref oA_1), (.ref r0), (.int 2), (.ref bA), (.ref r0)])) rfl rfl (hb hby d4_33) _ ?_
      refine st464.trans ?_
      refine st466 _ ?_
      refine st471 _ ?_
      refine XS.iconst X471.here hx rfl (hb hby d4_43) ?_
      refine XS.istoreN X471.here hx rfl (hb hby d4_44) rfl (l' := #[rv r0, iv 1, iv 0, .unset, .unset, .unset, .unset]) rfl ?_
      refine XS.iloadN X471.here hx rfl (hb hby d4_45) rfl ?_
      refine XS.aloadN X471.here hx rfl (hb hby d4_46) rfl rfl ?_
      refine st473 _ ?_
      refine XS.icmpNo X473.here hx rfl (hb hby d4_50) rfl (tlt (by decide : (0 : Int32) < (3 : Int32))).2.1 ?_
      refine XS.aloadN X473.here hx rfl (hb hby d4_53) rfl rfl ?_
      refine st475 _ ?_
      refine XS.aloadN X475.here hx rfl (hb hby d4_57) rfl rfl ?_
      refine st477 _ ?_
      refine XS.iloadN X477.here hx rfl (hb hby d4_61) rfl ?_
      refine X477.iaload hx (j := (0 : Int32)) (v := (.int 0)) (by rw [e477]; exact Ar_z479.1) (State.isArrayOf_alike hZ.alike Ar_z479.2.1) Ar_z479.2.2 hin480 (Has.at H_z479 hin480 rfl) (g := (mkF m 62 #[rv r0, iv 1, iv 0, .unset, .unset, .unset, .unset] [(.int 0), (.ref oA_1), (.ref cA_1)])) rfl rfl (hb hby d4_62) _ ?_
      refine XS.iloadN X477.here hx rfl (hb hby d4_63) rfl ?_
      refine st484 _ ?_
      refine XS.iinc X484.here hx rfl (hb hby d4_65) rfl (l' := #[rv r0, iv 1, iv ((0 : Int32) + (1 : Int32)), .unset, .unset, .unset, .unset]) rfl ?_
      refine XS.goto X484.here hx rfl (pc0 := 68) (pc' := 45) rfl (hb hby d4_68) (by decide) (by decide) ?_
      show OwnS p e below T484 (mkF m 45 #[rv r0, iv 1, iv ((0 : Int32) + (1 : Int32)), .unset, .unset, .unset, .unset] []) _
      refine XS.iloadN X484.here hx rfl (hb hby d4_45) rfl ?_
      refine XS.aloadN X484.here hx rfl (hb hby d4_46) rfl rfl ?_
      refine st486 _ ?_
      refine XS.icmpNo X486.here hx rfl (hb hby d4_50) rfl (tlt (by decide : (1 : Int32) < (3 : Int32))).2.1 ?_
      refine XS.aloadN X486.here hx rfl (hb hby d4_53) rfl rfl ?_
      refine st488 _ ?_
      refine XS.aloadN X488.here hx rfl (hb hby d4_57) rfl rfl ?_
      refine st490 _ ?_
      refine XS.iloadN X490.here hx rfl (hb hby d4_61) rfl ?_
      refine X490.iaload hx (j := (1 : Int32)) (v := (.int 2)) (by rw [e490]; exact Ar_z492.1) (State.isArrayOf_alike hZ.alike Ar_z492.2.1) Ar_z492.2.2 hin493 (Has.at H_z492 hin493 rfl) (g := (mkF m 62 #[rv r0, iv 1, iv ((0 : Int32) + (1 : Int32)), .unset, .unset, .unset, .unset] [(.int 1), (.ref oA_1), (.ref cA_1)])) rfl rfl (hb hby d4_62) _ ?_
      refine XS.iloadN X490.here hx rfl (hb hby d4_63) rfl ?_
      refine st496 _ ?_
      refine XS.iinc X496.here hx rfl (hb hby d4_65) rfl (l' := #[rv r0, iv 1, iv (((0 : Int32) + (1 : Int32)) + (1 : Int32)), .unset, .unset, .unset, .unset]) rfl ?_
      refine XS.goto X496.here hx rfl (pc0 := 68) (pc' := 45) rfl (hb hby d4_68) (by decide) (by decide) ?_
      refine XS.iloadN X496.here hx rfl (hb hby d4_45) rfl ?_
      refine XS.aloadN X496.here hx rfl (hb hby d4_46) rfl rfl ?_
      refine st498 _ ?_
      refine XS.icmpNo X498.here hx rfl (hb hby d4_50) rfl (tlt (by decide : (2 : Int32) < (3 : Int32))).2.1 ?_
      refine XS.aloadN X498.here hx rfl (hb hby d4_53) rfl rfl ?_
      refine st500 _ ?_
      refine XS.aloadN X500.here hx rfl (hb hby d4_57) rfl rfl ?_
      refine st502 _ ?_
      refine XS.iloadN X502.here hx rfl (hb hby d4_61) rfl ?_
      refine X502.iaload hx (j := (2 : Int32)) (v := (.int 1)) (by rw [e502]; exact Ar_z504.1) (State.isArrayOf_alike hZ.alike Ar_z504.2.1) Ar_z504.2.2 hin505 (Has.at H_z504 hin505 rfl) (g := (mkF m 62 #[rv r0, iv 1, iv (((0 : Int32) + (1 : Int32)) + (1 : Int32)), .unset, .unset, .unset, .unset] [(.int 2), (.ref oA_1), (.ref cA_1)])) rfl rfl (hb hby d4_62) _ ?_
      refine XS.iloadN X502.here hx rfl (hb hby d4_63) rfl ?_
      refine st508 _ ?_
      refine XS.iinc X508.here hx rfl (hb hby d4_65) rfl (l' := #[rv r0, iv 1, iv ((((0 : Int32) + (1 : Int32)) + (1 : Int32)) + (1 : Int32)), .unset, .unset, .unset, .unset]) rfl ?_
      refine XS.goto X508.here hx rfl (pc0 := 68) (pc' := 45) rfl (hb hby d4_68) (by decide) (by decide) ?_
      refine XS.iloadN X508.here hx rfl (hb hby d4_45) rfl ?_
      refine XS.aloadN X508.here hx rfl (hb hby d4_46) rfl rfl ?_
      refine st510 _ ?_
      refine XS.icmpYes X510.here hx rfl (pc0 := 50) (pc' := 71) rfl (hb hby d4_50) rfl (flt (by decide : ¬ ((3 : Int32) < (3 : Int32)))).2.1 (by decide) (by decide) ?_
      refine XS.iconst X510.here hx rfl (hb hby d4_71) ?_
      refine XS.istoreN X510.here hx rfl (hb hby d4_72) rfl (l' := #[rv r0, iv 1, iv 0, .unset, .unset, .unset, .unset]) rfl ?_
      refine XS.iconst X510.here hx rfl (hb hby d4_73) ?_
      refine XS.istoreN X510.here hx rfl (hb hby d4_74) rfl (l' := #[rv r0, iv 1, iv 0, iv 0, .unset, .unset, .unset]) rfl ?_
      refine XS.iconst X510.here hx rfl (hb hby d4_75) ?_
      refine XS.istore X510.here hx rfl (hb hby d4_76) rfl (l' := #[rv r0, iv 1, iv 0, iv 0, iv 0, .unset, .unset]) rfl ?_
      refine XS.iload X510.here hx rfl (hb hby d4_78) rfl ?_
      refine XS.aloadN X510.here hx rfl (hb hby d4_80) rfl rfl ?_
      show OwnS p e below T510 (mkF m 81 #[rv r0, iv 1, iv 0, iv 0, iv 0, .unset, .unset] [(.ref r0), (.int 0)]) _
      refine st511 _ ?_
      refine XS.icmpNo X511.here hx rfl (hb hby d4_84) rfl (tlt (by decide : (0 : Int32) < (3 : Int32))).2.1 ?_
      refine XS.aloadN X511.here hx rfl (hb hby d4_87) rfl rfl ?_
      refine st513 _ ?_
      refine XS.iload X513.here hx rfl (hb hby d4_91) rfl ?_
      refine X513.iaload hx (j := (0 : Int32)) (v := (.int 0)) (by rw [e513]; exact Ar_z514.1) (State.isArrayOf_alike hZ.alike Ar_z514.2.1) Ar_z514.2.2 hin515 (Has.at H_z514 hin515 rfl) (g := (mkF m 93 #[rv r0, iv 1, iv 0, iv 0, iv 0, .unset, .unset] [(.int 0), (.ref cA_1)])) rfl rfl (hb hby d4_93) _ ?_
      refine XS.iloadN X513.here hx rfl (hb hby d4_94) rfl ?_
      refine XS.icmpNo X513.here hx rfl (hb hby d4_95) rfl (tlt (by decide : (0 : Int32) < (1 : Int32))).2.1 ?_
      refine XS.aloadN X513.here hx rfl (hb hby d4_98) rfl rfl ?_
      refine st517 _ ?_
      refine XS.iload X517.here hx rfl (hb hby d4_102) rfl ?_
      refine X517.iaload hx (j := (0 : Int32)) (v := (.int 0)) (by rw [e517]; exact Ar_z519.1) (State.isArrayOf_alike hZ.alike Ar_z519.2.1) Ar_z519.2.2 hin520 (Has.at H_z519 hin520 rfl) (g := (mkF m 104 #[rv r0, iv 1, iv 0, iv 0, iv 0, .unset, .unset] [(.int 0), (.ref sA)])) rfl rfl (hb hby d4_104) _ ?_
      refine XS.istore X517.here hx rfl (hb hby d4_105) rfl (l' := #[rv r0, iv 1, iv 0, iv 0, iv 0, iv 0, .unset]) rfl ?_
      refine XS.aloadN X517.here hx rfl (hb hby d4_107) rfl rfl ?_
      refine XS.iload X517.here hx rfl (hb hby d4_108) rfl ?_
      refine st521.trans ?_
      refine XS.iload X521.here hx rfl (hb hby d4_113) rfl ?_
      refine XS.isub X521.here hx rfl (hb hby d4_115) rfl ?_
      refine XS.istore X521.here hx rfl (hb hby d4_116) rfl (l' := #[rv r0, iv 1, iv 0, iv 0, iv 0, iv 0, iv 1]) rfl ?_
      refine XS.aloadN X521.here hx rfl (hb hby d4_118) rfl rfl ?_
      refine st525 _ ?_
      refine XS.iload X525.here hx rfl (hb hby d4_122) rfl ?_
      refine XS.aloadN X525.here hx rfl (hb hby d4_124) rfl rfl ?_
      refine st526 _ ?_
      refine XS.iloadN X526.here hx rfl (hb hby d4_128) rfl ?_
      refine XS.iload X526.here hx rfl (hb hby d4_129) rfl ?_
      refine st529 _ ?_
      refine XS.aloadN X529.here hx rfl (hb hby d4_134) rfl rfl ?_
      refine st531 _ ?_
      refine XS.iloadN X531.here hx rfl (hb hby d4_138) rfl ?_
      refine XS.iinc X531.here hx rfl (hb hby d4_139) rfl (l' := #[rv r0, iv 1, iv ((0 : Int32) + (1 : Int32)), iv 0, iv 0, iv 0, iv 1]) rfl ?_
      refine XS.iloadN X531.here hx rfl (hb hby d4_142) rfl ?_
      refine st535 _ ?_
      refine XS.iloadN X535.here hx rfl (hb hby d4_144) rfl ?_
      refine XS.iload X535.here hx rfl (hb hby d4_145) rfl ?_
      refine XS.iadd X535.here hx rfl (hb hby d4_147) rfl ?_
      refine XS.istoreN X535.here hx rfl (hb hby d4_148) rfl (l' := #[rv r0, iv 1, iv ((0 : Int32) + (1 : Int32)), iv 1, iv 0, iv 0, iv 1]) rfl ?_
      refine XS.iinc X535.here hx rfl (hb hby d4_149) rfl (l' := #[rv r0, iv 1, iv ((0 : Int32) + (1 : Int32)), iv 1, iv ((0 : Int32) + (1 : Int32)), iv 0, iv 1]) rfl ?_
      refine XS.goto X535.here hx rfl (pc0 := 152) (pc' := 78) rfl (hb hby d4_152) (by decide) (by decide) ?_
      refine XS.iload X535.here hx rfl (hb hby d4_78) rfl ?_
      show OwnS p e below T535 (mkF m 80 #[rv r0, iv 1, iv ((0 : Int32) + (1 : Int32)), iv 1, iv ((0 : Int32) + (1 : Int32)), iv 0, iv 1] [(.int 1)]) _
      refine XS.aloadN X535.here hx rfl (hb hby d4_80) rfl rfl ?_
      refine st537 _ ?_
      refine XS.icmpNo X537.here hx rfl (hb hby d4_84) rfl (tlt (by decide : (1 : Int32) < (3 : Int32))).2.1 ?_
      refine XS.aloadN X537.here hx rfl (hb hby d4_87) rfl rfl ?_
      refine st539 _ ?_
      refine XS.iload X539.here hx rfl (hb hby d4_91) rfl ?_
      refine X539.iaload hx (j := (1 : Int32)) (v := (.int 2)) (by rw [e539]; exact Ar_z541.1) (State.isArrayOf_alike hZ.alike Ar_z541.2.1) Ar_z541.2.2 hin542 (Has.at H_z541 hin542 rfl) (g := (mkF m 93 #[rv r0, iv 1, iv ((0 : Int32) + (1 : Int32)), iv 1, iv ((0 : Int32) + (1 : Int32)), iv 0, iv 1] [(.int 1), (.ref cA_1)])) rfl rfl (hb hby d4_93) _ ?_
      refine XS.iloadN X539.here hx rfl (hb hby d4_94) rfl ?_
      refine XS.icmpYes X539.here hx rfl (pc0 := 95) (pc' := 149) rfl (hb hby d4_95) rfl (flt (by decide : ¬ ((2 : Int32) < (1 : Int32)))).2.1 (by decide) (by decide) ?_
      refine XS.iinc X539.here hx rfl (hb hby d4_149) rfl (l' := #[rv r0, iv 1, iv ((0 : Int32) + (1 : Int32)), iv 1, iv (((0 : Int32) + (1 : Int32)) + (1 : Int32)), iv 0, iv 1]) rfl ?_
      refine XS.goto X539.here hx rfl (pc0 := 152) (pc' := 78) rfl (hb hby d4_152) (by decide) (by decide) ?_
      refine XS.iload X539.here hx rfl (hb hby d4_78) rfl ?_
      refine XS.aloadN X539.here hx rfl (hb hby d4_80) rfl rfl ?_
      refine st543 _ ?_
      refine XS.icmpNo X543.here hx rfl (hb hby d4_84) rfl (tlt (by decide : (2 : Int32) < (3 : Int32))).2.1 ?_
      refine XS.aloadN X543.here hx rfl (hb hby d4_87) rfl rfl ?_
      refine st544 _ ?_
      refine XS.iload X544.here hx rfl (hb hby d4_91) rfl ?_
      refine X544.iaload hx (j := (2 : Int32)) (v := (.int 1)) (by rw [e544]; exact Ar_z541.1) (State.isArrayOf_alike hZ.alike Ar_z541.2.1) Ar_z541.2.2 hin545 (Has.at H_z541 hin545 rfl) (g := (mkF m 93 #[rv r0, iv 1, iv ((0 : Int32) + (1 : Int32)), iv 1, iv (((0 : Int32) + (1 : Int32)) + (1 : Int32)), iv 0, iv 1] [(.int 2), (.ref cA_1)])) rfl rfl (hb hby d4_93) _ ?_
      refine XS.iloadN X544.here hx rfl (hb hby d4_94) rfl ?_
      refine XS.icmpYes X544.here hx rfl (pc0 := 95) (pc' := 149) rfl (hb hby d4_95) rfl (flt (by decide : ¬ ((1 : Int32) < (1 : Int32)))).2.1 (by decide) (by decide) ?_
      refine XS.iinc X544.here hx rfl (hb hby d4_149) rfl (l' := #[rv r0, iv 1, iv ((0 : Int32) + (1 : Int32)), iv 1, iv ((((0 : Int32) + (1 : Int32)) + (1 : Int32)) + (1 : Int32)), iv 0, iv 1]) rfl ?_
      refine XS.goto X544.here hx rfl (pc0 := 152) (pc' := 78) rfl (hb hby d4_152) (by decide) (by decide) ?_
      refine XS.iload X544.here hx rfl (hb hby d4_78) rfl ?_
      refine XS.aloadN X544.here hx rfl (hb hby d4_80) rfl rfl ?_
      refine st546 _ ?_
      refine XS.icmpYes X546.here hx rfl (pc0 := 84) (pc' := 155) rfl (hb hby d4_84) rfl (flt (by decide : ¬ ((3 : Int32) < (3 : Int32)))).2.1 (by decide) (by decide) ?_
      refine XS.aloadN X546.here hx rfl (hb hby d4_155) rfl rfl ?_
      refine XS.iloadN X546.here hx rfl (hb hby d4_156) rfl ?_
      refine st548 _ ?_
      refine XS.aloadN X548.here hx rfl (hb hby d4_160) rfl rfl ?_
      refine XS.iloadN X548.here hx rfl (hb hby d4_161) rfl ?_
      refine st551 _ ?_
      exact X551.returnOut hx Bd.returns (hb hby d4_165) hr
    · show Q_4 Z r0 bA kB sA kS oZ kZ cZ x0 x1 x2 h0 n0 _ T551.heap _
      rw [e551]
      exact ⟨ar_466, oA_1, cA_1, kk_466, x2, x0, rfl, N551, (((((((((((Keep.refl h0 [r0, bA, sA]).trans K1 (allS (Or.inl (List.mem_of_getElem? (i := 0) rfl)) all0)).trans K466 all0).wr W471 (Or.inl (List.mem_of_getElem? (i := 0) rfl))).wr W484 (Or.inr sz_cA_1)).wr W496 (Or.inr sz_cA_1)).wr W508 (Or.inr sz_cA_1)).trans K529 (allS (Or.inl (List.mem_of_getElem? (i := 1) rfl)) all0)).wr W535 (Or.inl (List.mem_of_getElem? (i := 2) rfl))).wr W548 (Or.inl (List.mem_of_getElem? (i := 0) rfl))).wr W551 (Or.inl (List.mem_of_getElem? (i := 0) rfl))), sz_ar_466, f552, f553, f554, f555, Fw551, f556, f557, f558, f559, f560, f561, f562, f563, f564, f565, f566⟩
  · have pl1 := (allS (P := fun x => ∃ cell : Cell, h0[x]? = some cell ∧ cell.vm.isStatics = false) (own_ns E_r0) all0)
    have g_oA_1 : n0 ≤ oA_1 := Nat.le_trans Z0 p1_0
    have sz_oA_1 : h0.size ≤ oA_1 := Nat.le_trans (Keep.refl h0 []).1 p1_0
    have g_cA_1 : n0 ≤ cA_1 := Nat.le_trans Z0 p1_1
    have sz_cA_1 : h0.size ≤ cA_1 := Nat.le_trans (Keep.refl h0 []).1 p1_1
    have N1 := Fr.app N0 N1q
    obtain ⟨T567, X567, e567, st567⟩ := getF X1 hx hZ hown (host := "") (Or.inl (own_at hw 30 rfl)) Via.refl rfl p1_3 (g := (mkF m 5 #[rv r0, .unset, .unset, .unset, .unset, .unset, .unset] [(.ref r0)])) rfl rfl (hb hby d4_5)
    obtain ⟨T568, X568, e568, st568⟩ := getF X567 hx hZ hown (host := "") (Or.inl (own_at hw 10 rfl)) Via.refl e567 p1_8 (g := (mkF m 13 #[rv r0, iv 1, .unset, .unset, .unset, .unset, .unset] [(.ref r0), (.ref r0)])) rfl rfl (hb hby d4_13)
    obtain ⟨T569, X569, e569, st569⟩ := getF X568 hx hZ hown (host := "") (Or.inl (own_at hw 13 rfl)) Via.refl e568 p1_9 (g := (mkF m 17 #[rv r0, iv 1, .unset, .unset, .unset, .unset, .unset] [(.ref r0), (.ref bA), (.ref r0)])) rfl rfl (hb hby d4_17)
    obtain ⟨T570, X570, e570, st570⟩ := getF X569 hx hZ hown (host := "") (Or.inl (own_at hw 15 rfl)) Via.refl e569 p1_10 (g := (mkF m 21 #[rv r0, iv 1, .unset, .unset, .unset, .unset, .unset] [(.ref r0), (.ref sA), (.ref bA), (.ref r0)])) rfl rfl (hb hby d4_21)
    obtain ⟨cl_z571, Ar_z571, q_z571, S_z571, N_z571, H_z571, G_z571⟩ := id p1_11
    have hin572 : ¬ ((1 : Int32) < 0 ∨ cl_z571.slots.size ≤ ((1 : Int32)).toNatClampNeg) := inb_of S_z571 ⟨by decide, by decide⟩
    have f573 := (V_sA.keep K1 (ninS ne_sA_r0 nin0))
    obtain ⟨cl_z574, Ar_z574, q_z574, S_z574, N_z574, H_z574, G_z574⟩ := id f573
    have hin575 : ¬ ((1 : Int32) < 0 ∨ cl_z574.slots.size ≤ ((1 : Int32)).toNatClampNeg) := inb_of S_z574 ⟨by decide, by decide⟩
    obtain ⟨T576, X576, e576, st576⟩ := getF X570 hx hZ hown (host := "") (Or.inl (own_at hw 15 rfl)) Via.refl e570 p1_10 (g := (mkF m 29 #[rv r0, iv 1, .unset, .unset, .unset, .unset, .unset] [(.ref r0), (.ref r0), (.int 1), (.ref bA), (.ref r0)])) rfl rfl (hb hby d4_29)
    have hin577 : ¬ ((1 : Int32) < 0 ∨ cl_z571.slots.size ≤ ((1 : Int32)).toNatClampNeg) := inb_of S_z571 ⟨by decide, by decide⟩
    have f579 := (E_r0.keep K1)
    obtain ⟨cq578, q578, q578'⟩ := f579.cell
    obtain ⟨_, _, ⟨T578, L578, j578, i578⟩, -, X578, ⟨Lc578, hQ578, l578, y578, z578⟩, st578⟩ := X576.privateBack hx (y := (⟨cS0, "end", "(I)I"⟩ : MethodName)) hown (mvT hZ (own_at hw 59 rfl)) (mvT hZ (own_at hw 60 rfl)) (own_selpriv (by decide) (mvT hZ (own_at hw 1 rfl)) (mvP hZ (own_at hw 61 rfl)) (mvT hZ (own_at hw 60 rfl))) (Cond.privateMethod_at (mvP hZ (own_at hw 61 rfl) (args := #[]))) (mvT hZ (own_at hw 62 rfl)) (by decide) (backOf (W := 3) (rm9_1 l Z a0 hw [] r0 sA kS T1.heap n0 (Nat.le_trans Z0 K1.1) f579 p1_3 p1_4 p1_9 f573) hZ (own_at hw 62 rfl) (own_at hw 2 rfl) (by decide) (by decide)) (g := (mkF m 34 #[rv r0, iv 1, .unset, .unset, .unset, .unset, .unset] [(.int 1), (.ref r0), (.int 1), (.ref bA), (.ref r0)])) rfl (by rw [hml]; rfl) (Steps.refl _) (a := r0) (by rw [e576]; exact q578) q578' (argsL := [(.int 1)]) (rest := [(.int 1), (.ref bA), (.ref r0)]) (lenOf pd_5 rfl) rfl (Nat.le_refl _) (hb hby d4_34) (fun _ _ => ⟨rfl, e576, (by decide : 2 + 0 ≤ _), (by decide : 512 + 0 ≤ _)⟩)
    dsimp only [Pt.U, Pt.locs, Pt.cells, Pt.slots] at X578 l578 y578 z578 st578 hQ578
    subst l578 y578 z578
    obtain ⟨rfl, N578q, e578⟩ := hQ578
    have N578 := Fr.app N1 N578q
    have f581 := (V_bA.keep K1 (ninS ne_bA_r0 nin0))
    obtain ⟨_, _, ⟨T580, L580, j580, i580⟩, -, X580, ⟨Lc580, hQ580, l580, y580, z580⟩, st580⟩ := Jvm.LawKit.callS X578 hx (y := (⟨cS1, "copyOfRange", "([BII)[B"⟩ : MethodName)) hown (mvT hZ (own_at hw 75 rfl)) (mvT hZ (own_at hw 76 rfl)) (mvT hZ (own_at hw 65 rfl)) (mvT hZ (own_at hw 77 rfl)) (by decide) (backOf (W := 1) (rm13_1 l Z a0 hw [] bA kB x0 x1 x2 T1.heap n0 (Nat.le_trans Z0 K1.1) f581) hZ (own_at hw 77 rfl) (own_at hw 65 rfl) (by decide) (by decide)) (g := (mkF m 37 #[rv r0, iv 1, .unset, .unset, .unset, .unset, .unset] [(.int 2), (.int 1), (.ref bA), (.ref r0)])) rfl (by rw [hml]; rfl) (argsL := [(.ref bA), (.int 1), (.int 2)]) (rest := [(.ref r0)]) (lenOf pd_8 rfl) rfl (Nat.le_refl _) (hb hby d4_37) (fun _ _ => ⟨rfl, e578, (by decide : 2 + 1 ≤ _), (by decide : 512 + 1 ≤ _)⟩)
    dsimp only [Pt.U, Pt.locs, Pt.cells, Pt.slots] at X580 l580 y580 z580 st580 hQ580
    subst l580 y580 z580
    have f582 := (V_oZ.keep K1 (ninS ne_oZ_r0 nin0))
    obtain ⟨ar_580, kk_580, rfl, N580q, K580, p580_0, p580_1, p580_2⟩ := hQ580
    have g_ar_580 : n0 ≤ ar_580 := Nat.le_trans (Nat.le_trans Z0 K1.1) p580_0
    have sz_ar_580 : h0.size ≤ ar_580 := Nat.le_trans ((Keep.refl h0 [r0]).trans K1 (allS (Or.inl (List.mem_of_getElem? (i := 0) rfl)) all0)).1 p580_0
    have N580 := Fr.app N578 N580q
    have f583 := (f579.keep K580)
    have f584 := (p1_7.keep K580 nin0)
    obtain ⟨T585, h585, X585, e585, W585, st585⟩ := putF X580 hx hZ hown (host := "") (Or.inl (own_at hw 28 rfl)) Via.refl rfl f584 f583 (Or.inl (own_at hw 29 rfl)) (own_at hw 1 rfl) (ty := (.array .byte)) (by decide) rfl rfl (g := (mkF m 40 #[rv r0, iv 1, .unset, .unset, .unset, .unset, .unset] [(.ref ar_580), (.ref r0)])) rfl rfl (hb hby d4_40)
    have Fw585 : Fld Z h585 r0 cS0 "limit" "[B" (.ref ar_580) := f584.same W585
    have N585 := Fr.snoc X585 N580 ge_r0
    have f586 := ((p1_3.keep K580 nin0).other W585 (Or.inr (slot_ne (Or.inl (own_at hw 31 rfl)) (Or.inl (own_at hw 29 rfl)) (by decide) (t := .int) (t' := (.array .byte)) (by decide) (by decide))))
    obtain ⟨T587, X587, e587, st587⟩ := getF X585 hx hZ hown (host := "") (Or.inl (own_at hw 30 rfl)) Via.refl e585 f586 (g := (mkF m 47 #[rv r0, iv 1, iv 0, .unset, .unset, .unset, .unset] [(.ref r0), (.int 0)])) rfl rfl (hb hby d4_47)
    have f588 := ((p1_13.keep K580 nin0).other W585 (Or.inr (slot_ne (Or.inl (own_at hw 18 rfl)) (Or.inl (own_at hw 29 rfl)) (by decide) (t := (.array .int)) (t' := (.array .byte)) (by decide) (by decide))))
    obtain ⟨T589, X589, e589, st589⟩ := getF X587 hx hZ hown (host := "") (Or.inl (own_at hw 17 rfl)) Via.refl e587 f588 (g := (mkF m 54 #[rv r0, iv 1, iv 0, .unset, .unset, .unset, .unset] [(.ref r0)])) rfl rfl (hb hby d4_54)
    have f590 := ((p1_10.keep K580 nin0).other W585 (Or.inr (slot_ne (Or.inl (own_at hw 16 rfl)) (Or.inl (own_at hw 29 rfl)) (by decide) (t := (.array .int)) (t' := (.array .byte)) (by decide) (by decide))))
    obtain ⟨T591, X591, e591, st591⟩ := getF X589 hx hZ hown (host := "") (Or.inl (own_at hw 15 rfl)) Via.refl e589 f590 (g := (mkF m 58 #[rv r0, iv 1, iv 0, .unset, .unset, .unset, .unset] [(.ref r0), (.ref cA_1)])) rfl rfl (hb hby d4_58)
    have f592 := ((p1_11.keep K580 nin0).other W585 (Ne.symm (Nat.ne_of_lt (Nat.lt_of_lt_of_le E_r0.lt p1_0))))
    obtain ⟨cl_z593, Ar_z593, q_z593, S_z593, N_z593, H_z593, G_z593⟩ := id f592
    have hin594 : ¬ ((0 : Int32) < 0 ∨ cl_z593.slots.size ≤ ((0 : Int32)).toNatClampNeg) := inb_of S_z593 ⟨by decide, by decide⟩
    have f595 := ((p1_14.keep K580 nin0).other W585 (Ne.symm (Nat.ne_of_lt (Nat.lt_of_lt_of_le E_r0.lt p1_1))))
    obtain ⟨cl_z596, Ar_z596, q_z596, S_z596, N_z596, H_z596, G_z596⟩ := id f595
    have hin597 : ¬ ((0 : Int32) < 0 ∨ cl_z596.slots.size ≤ ((0 : Int32)).toNatClampNeg) := inb_of S_z596 ⟨by decide, by decide⟩
    obtain ⟨T598, h598, X598, e598, W598, st598⟩ := stI X591 hx hZ e591 Ar_z596 (j := (0 : Int32)) hin597 (g := (mkF m 64 #[rv r0, iv 1, iv 0, .unset, .unset, .unset, .unset] [(.int 0), (.int 0), (.ref cA_1)])) rfl rfl (hb hby d4_64)
    have V598 : Arv Z h598 cA_1 kC_1 .int (256 : Int32) [(.int 0), (.int 1), (.int 2)] (.int 0) := Arv.set Ar_z596 q_z596 S_z596 N_z596 H_z596 G_z596 rfl W598 0 rfl (Nat.le_of_ble_eq_true rfl)
    have N598 := Fr.snoc X598 N585 g_cA_1
    have f599 := (f586.other W598 (Or.inl (Nat.ne_of_lt (Nat.lt_of_lt_of_le E_r0.lt p1_1))))
    obtain ⟨T600, X600, e600, st600⟩ := getF X598 hx hZ hown (host := "") (Or.inl (own_at hw 30 rfl)) Via.refl e598 f599 (g := (mkF m 47 #[rv r0, iv 1, iv ((0 : Int32) + (1 : Int32)), .unset, .unset, .unset, .unset] [(.ref r0), (.int 1)])) rfl rfl (hb hby d4_47)
    have f601 := (f588.other W598 (Or.inl (Nat.ne_of_lt (Nat.lt_of_lt_of_le E_r0.lt p1_1))))
    obtain ⟨T602, X602, e602, st602⟩ := getF X600 hx hZ hown (host := "") (Or.inl (own_at hw 17 rfl)) Via.refl e600 f601 (g := (mkF m 54 #[rv r0, iv 1, iv ((0 : Int32) + (1 : Int32)), .unset, .unset, .unset, .unset] [(.ref r0)])) rfl rfl (hb hby d4_54)
    have f603 := (f590.other W598 (Or.inl (Nat.ne_of_lt (Nat.lt_of_lt_of_le E_r0.lt p1_1))))
    obtain ⟨T604, X604, e604, st604⟩ := getF X602 hx hZ hown (host := "") (Or.inl (own_at hw 15 rfl)) Via.refl e602 f603 (g := (mkF m 58 #[rv r0, iv 1, iv ((0 : Int32) + (1 : Int32)), .unset, .unset, .unset, .unset] [(.ref r0), (.ref cA_1)])) rfl rfl (hb hby d4_58)
    have f605 := (f592.other W598 p1_2)
    obtain ⟨cl_z606, Ar_z606, q_z606, S_z606, N_z606, H_z606, G_z606⟩ := id f605
    have hin607 : ¬ ((1 : Int32) < 0 ∨ cl_z606.slots.size ≤ ((1 : Int32)).toNatClampNeg) := inb_of S_z606 ⟨by decide, by decide⟩
    obtain ⟨cl_z608, Ar_z608, q_z608, S_z608, N_z608, H_z608, G_z608⟩ := id V598
    have hin609 : ¬ ((1 : Int32) < 0 ∨ cl_z608.slots.size ≤ ((1 : Int32)).toNatClampNeg) := inb_of S_z608 ⟨by decide, by decide⟩
    obtain ⟨T610, h610, X610, e610, W610, st610⟩ := stI X604 hx hZ e604 Ar_z608 (j := (1 : Int32)) hin609 (g := (mkF m 64 #[rv r0, iv 1, iv ((0 : Int32) + (1 : Int32)), .unset, .unset, .unset, .unset] [(.int 1), (.int 1), (.ref cA_1)])) rfl rfl (hb hby d4_64)
    have V610 : Arv Z h610 cA_1 kC_1 .int (256 : Int32) [(.int 0), (.int 1), (.int 2)] (.int 0) := Arv.set Ar_z608 q_z608 S_z608 N_z608 H_z608 G_z608 rfl W610 1 rfl (Nat.le_of_ble_eq_true rfl)
    have N610 := Fr.snoc X610 N598 g_cA_1
    have f611 := (f599.other W610 (Or.inl (Nat.ne_of_lt (Nat.lt_of_lt_of_le E_r0.lt p1_1))))
    obtain ⟨T612, X612, e612, st612⟩ := getF X610 hx hZ hown (host := "") (Or.inl (own_at hw 30 rfl)) Via.refl e610 f611 (g := (mkF m 47 #[rv r0, iv 1, iv (((0 : Int32) + (1 : Int32)) + (1 : Int32)), .unset, .unset, .unset, .unset] [(.ref r0), (.int 2)])) rfl rfl (hb hby d4_47)
    have f613 := (f601.other W610 (Or.inl (Nat.ne_of_lt (Nat.lt_of_lt_of_le E_r0.lt p1_1))))
    obtain ⟨T614, X614, e614, st614⟩ := getF X612 hx hZ hown (host := "") (Or.inl (own_at hw 17 rfl)) Via.refl e612 f613 (g := (mkF m 54 #[rv r0, iv 1, iv (((0 : Int32) + (1 : Int32)) + (1 : Int32)), .unset, .unset, .unset, .unset] [(.ref r0)])) rfl rfl (hb hby d4_54)
    have f615 := (f603.other W610 (Or.inl (Nat.ne_of_lt (Nat.lt_of_lt_of_le E_r0.lt p1_1))))
    obtain ⟨T616, X616, e616, st616⟩ := getF X614 hx hZ hown (host := "") (Or.inl (own_at hw 15 rfl)) Via.refl e614 f615 (g := (mkF m 58 #[rv r0, iv 1, iv (((0 : Int32) + (1 : Int32)) + (1 : Int32)), .unset, .unset, .unset, .unset] [(.ref r0), (.ref cA_1)])) rfl rfl (hb hby d4_58)
    have f617 := (f605.other W610 p1_2)
    obtain ⟨cl_z618, Ar_z618, q_z618, S_z618, N_z618, H_z618, G_z618⟩ := id f617
    have hin619 : ¬ ((2 : Int32) < 0 ∨ cl_z618.slots.size ≤ ((2 : Int32)).toNatClampNeg) := inb_of S_z618 ⟨by decide, by decide⟩
    obtain ⟨cl_z620, Ar_z620, q_z620, S_z620, N_z620, H_z620, G_z620⟩ := id V610
    have hin621 : ¬ ((2 : Int32) < 0 ∨ cl_z620.slots.size ≤ ((2 : Int32)).toNatClampNeg) := inb_of S_z620 ⟨by decide, by decide⟩
    obtain ⟨T622, h622, X622, e622, W622, st622⟩ := stI X616 hx hZ e616 Ar_z620 (j := (2 : Int32)) hin621 (g := (mkF m 64 #[rv r0, iv 1, iv (((0 : Int32) + (1 : Int32)) + (1 : Int32)), .unset, .unset, .unset, .unset] [(.int 2), (.int 2), (.ref cA_1)])) rfl rfl (hb hby d4_64)
    have V622 : Arv Z h622 cA_1 kC_1 .int (256 : Int32) [(.int 0), (.int 1), (.int 2)] (.int 0) := Arv.set Ar_z620 q_z620 S_z620 N_z620 H_z620 G_z620 rfl W622 2 rfl (Nat.le_of_ble_eq_true rfl)
    have N622 := Fr.snoc X622 N610 g_cA_1
    have f623 := (f611.other W622 (Or.inl (Nat.ne_of_lt (Nat.lt_of_lt_of_le E_r0.lt p1_1))))
    obtain ⟨T624, X624, e624, st624⟩ := getF X622 hx hZ hown (host := "") (Or.inl (own_at hw 30 rfl)) Via.refl e622 f623 (g := (mkF m 47 #[rv r0, iv 1, iv ((((0 : Int32) + (1 : Int32)) + (1 : Int32)) + (1 : Int32)), .unset, .unset, .unset, .unset] [(.ref r0), (.int 3)])) rfl rfl (hb hby d4_47)
    obtain ⟨T625, X625, e625, st625⟩ := getF X624 hx hZ hown (host := "") (Or.inl (own_at hw 30 rfl)) Via.refl e624 f623 (g := (mkF m 81 #[rv r0, iv 1, iv 0, iv 0, iv 0, .unset, .unset] [(.ref r0), (.int 0)])) rfl rfl (hb hby d4_81)
    have f626 := (f613.other W622 (Or.inl (Nat.ne_of_lt (Nat.lt_of_lt_of_le E_r0.lt p1_1))))
    obtain ⟨T627, X627, e627, st627⟩ := getF X625 hx hZ hown (host := "") (Or.inl (own_at hw 17 rfl)) Via.refl e625 f626 (g := (mkF m 88 #[rv r0, iv 1, iv 0, iv 0, iv 0, .unset, .unset] [(.ref r0)])) rfl rfl (hb hby d4_88)
    obtain ⟨cl_z628, Ar_z628, q_z628, S_z628, N_z628, H_z628, G_z628⟩ := id V622
    have hin629 : ¬ ((0 : Int32) < 0 ∨ cl_z628.slots.size ≤ ((0 : Int32)).toNatClampNeg) := inb_of S_z628 ⟨by decide, by decide⟩
    have f630 := (((((p1_9.keep K580 nin0).other W585 (Or.inr (slot_ne (Or.inl (own_at hw 14 rfl)) (Or.inl (own_at hw 29 rfl)) (by decide) (t := (.array .int)) (t' := (.array .byte)) (by decide) (by decide)))).other W598 (Or.inl (Nat.ne_of_lt (Nat.lt_of_lt_of_le E_r0.lt p1_1)))).other W610 (Or.inl (Nat.ne_of_lt (Nat.lt_of_lt_of_le E_r0.lt p1_1)))).other W622 (Or.inl (Nat.ne_of_lt (Nat.lt_of_lt_of_le E_r0.lt p1_1))))
    obtain ⟨T631, X631, e631, st631⟩ := getF X627 hx hZ hown (host := "") (Or.inl (own_at hw 13 rfl)) Via.refl e627 f630 (g := (mkF m 99 #[rv r0, iv 1, iv 0, iv 0, iv 0, .unset, .unset] [(.ref r0)])) rfl rfl (hb hby d4_99)
    have f632 := (((((f573.keep K580 nin0).other W585 ne_sA_r0).other W598 (Nat.ne_of_lt (Nat.lt_of_lt_of_le V_sA.lt p1_1))).other W610 (Nat.ne_of_lt (Nat.lt_of_lt_of_le V_sA.lt p1_1))).other W622 (Nat.ne_of_lt (Nat.lt_of_lt_of_le V_sA.lt p1_1)))
    obtain ⟨cl_z633, Ar_z633, q_z633, S_z633, N_z633, H_z633, G_z633⟩ := id f632
    have hin634 : ¬ ((0 : Int32) < 0 ∨ cl_z633.slots.size ≤ ((0 : Int32)).toNatClampNeg) := inb_of S_z633 ⟨by decide, by decide⟩
    have f636 := ((((f583.wr W585).wr W598).wr W610).wr W622)
    have f637 := (((((p1_4.keep K580 nin0).other W585 (Or.inr (slot_ne (Or.inl (own_at hw 33 rfl)) (Or.inl (own_at hw 29 rfl)) (by decide) (t := .int) (t' := (.array .byte)) (by decide) (by decide)))).other W598 (Or.inl (Nat.ne_of_lt (Nat.lt_of_lt_of_le E_r0.lt p1_1)))).other W610 (Or.inl (Nat.ne_of_lt (Nat.lt_of_lt_of_le E_r0.lt p1_1)))).other W622 (Or.inl (Nat.ne_of_lt (Nat.lt_of_lt_of_le E_r0.lt p1_1))))
    obtain ⟨cq635, q635, q635'⟩ := f636.cell
    obtain ⟨_, _, ⟨T635, L635, j635, i635⟩, -, X635, ⟨Lc635, hQ635, l635, y635, z635⟩, st635⟩ := X631.privateBack hx (y := (⟨cS0, "end", "(I)I"⟩ : MethodName)) hown (mvT hZ (own_at hw 59 rfl)) (mvT hZ (own_at hw 60 rfl)) (own_selpriv (by decide) (mvT hZ (own_at hw 1 rfl)) (mvP hZ (own_at hw 61 rfl)) (mvT hZ (own_at hw 60 rfl))) (Cond.privateMethod_at (mvP hZ (own_at hw 61 rfl) (args := #[]))) (mvT hZ (own_at hw 62 rfl)) (by decide) (backOf (W := 0) (rm9_0 l Z a0 hw [] r0 sA kS h622 n0 (Nat.le_trans (Nat.le_trans (Nat.le_trans (Nat.le_trans (Nat.le_trans (Nat.le_trans Z0 K1.1) K580.1) (Keep.of_wr W585).1) (Keep.of_wr W598).1) (Keep.of_wr W610).1) (Keep.of_wr W622).1) f636 f623 f637 f630 f632) hZ (own_at hw 62 rfl) (own_at hw 2 rfl) (by decide) (by decide)) (g := (mkF m 110 #[rv r0, iv 1, iv 0, iv 0, iv 0, iv 0, .unset] [(.int 0), (.ref r0)])) rfl (by rw [hml]; rfl) (Steps.refl _) (a := r0) (by rw [e631]; exact q635) q635' (argsL := [(.int 0)]) (rest := []) (lenOf pd_5 rfl) rfl (Nat.le_refl _) (hb hby d4_110) (fun _ _ => ⟨rfl, e631, (by decide : 3 + 0 ≤ _), (by decide : 513 + 0 ≤ _)⟩)
    dsimp only [Pt.U, Pt.locs, Pt.cells, Pt.slots] at X635 l635 y635 z635 st635 hQ635
    subst l635 y635 z635
    obtain ⟨rfl, N635q, e635⟩ := hQ635
    have N635 := Fr.app N622 N635q
    have f638 := (((((p1_8.keep K580 nin0).other W585 (Or.inr (slot_ne (Or.inl (own_at hw 11 rfl)) (Or.inl (own_at hw 29 rfl)) (by decide) (t := (.array .byte)) (t' := (.array .byte)) (by decide) (by decide)))).other W598 (Or.inl (Nat.ne_of_lt (Nat.lt_of_lt_of_le E_r0.lt p1_1)))).other W610 (Or.inl (Nat.ne_of_lt (Nat.lt_of_lt_of_le E_r0.lt p1_1)))).other W622 (Or.inl (Nat.ne_of_lt (Nat.lt_of_lt_of_le E_r0.lt p1_1))))
    obtain ⟨T639, X639, e639, st639⟩ := getF X635 hx hZ hown (host := "") (Or.inl (own_at hw 10 rfl)) Via.refl e635 f638 (g := (mkF m 119 #[rv r0, iv 1, iv 0, iv 0, iv 0, iv 0, iv 1] [(.ref r0)])) rfl rfl (hb hby d4_119)
    obtain ⟨T640, X640, e640, st640⟩ := getF X639 hx hZ hown (host := "") (Or.inl (own_at hw 10 rfl)) Via.refl e639 f638 (g := (mkF m 125 #[rv r0, iv 1, iv 0, iv 0, iv 0, iv 0, iv 1] [(.ref r0), (.int 0), (.ref bA)])) rfl rfl (hb hby d4_125)
    have f641 := (((((f581.keep K580 nin0).other W585 ne_bA_r0).other W598 (Nat.ne_of_lt (Nat.lt_of_lt_of_le V_bA.lt p1_1))).other W610 (Nat.ne_of_lt (Nat.lt_of_lt_of_le V_bA.lt p1_1))).other W622 (Nat.ne_of_lt (Nat.lt_of_lt_of_le V_bA.lt p1_1)))
    have f642 := ((((((E_bA.keep K1).keep K580).wr W585).wr W598).wr W610).wr W622)
    obtain ⟨T643, h643, L643, X643, e643, N643, K643, Vr643, st643⟩ := cpA X640 hx hZ hown (own_at hw 34 rfl) (own_at hw 37 rfl) (own_at hw 35 rfl) (own_at hw 36 rfl) e640 f641 f641 (us := [(.int x0)]) (Or.inl ⟨rfl, rfl⟩) (by decide) (by decide) (by decide) (by decide) (by decide) rfl (Nat.le_of_ble_eq_true rfl) N635 ge_bA (g := (mkF m 131 #[rv r0, iv 1, iv 0, iv 0, iv 0, iv 0, iv 1] [(.int 1), (.int 0), (.ref bA), (.int 0), (.ref bA)])) rfl (by rw [hml]; rfl) rfl (hb hby d4_131) (by decide) (W := 0) (Nat.le_refl _) (by decide)
    have pl643 := (allS (P := fun x => ∃ cell : Cell, h622[x]? = some cell ∧ cell.vm.isStatics = false) (own_ns f642) all0)
    have V643 : Arv Z h643 bA kB .byte (4096 : Int32) [(.int x0), (.int x1), (.int x2)] (.int 0) := Vr643
    have f644 := (f630.keep K643 (ninS ne_r0_bA nin0))
    obtain ⟨T645, X645, e645, st645⟩ := getF X643 hx hZ hown (host := "") (Or.inl (own_at hw 13 rfl)) Via.refl e643 f644 (g := (mkF m 135 #[rv r0, iv 1, iv 0, iv 0, iv 0, iv 0, iv 1] [(.ref r0)])) rfl rfl (hb hby d4_135)
    have f646 := (f632.keep K643 (ninS ne_sA_bA nin0))
    obtain ⟨cl_z647, Ar_z647, q_z647, S_z647, N_z647, H_z647, G_z647⟩ := id f646
    have hin648 : ¬ ((0 : Int32) < 0 ∨ cl_z647.slots.size ≤ ((0 : Int32)).toNatClampNeg) := inb_of S_z647 ⟨by decide, by decide⟩
    obtain ⟨T649, h649, X649, e649, W649, st649⟩ := stI X645 hx hZ e645 Ar_z647 (j := (0 : Int32)) hin648 (g := (mkF m 143 #[rv r0, iv 1, iv ((0 : Int32) + (1 : Int32)), iv 0, iv 0, iv 0, iv 1] [(.int 0), (.int 0), (.ref sA)])) rfl rfl (hb hby d4_143)
    have V649 : Arv Z h649 sA kS .int (256 : Int32) [(.int 0), (.int 1), (.int 2)] (.int 0) := Arv.set Ar_z647 q_z647 S_z647 N_z647 H_z647 G_z647 rfl W649 0 rfl (Nat.le_of_ble_eq_true rfl)
    have N649 := Fr.snoc X649 N643 ge_sA
    have f650 := ((f623.keep K643 (ninS ne_r0_bA nin0)).other W649 (Or.inl ne_r0_sA))
    obtain ⟨T651, X651, e651, st651⟩ := getF X649 hx hZ hown (host := "") (Or.inl (own_at hw 30 rfl)) Via.refl e649 f650 (g := (mkF m 81 #[rv r0, iv 1, iv ((0 : Int32) + (1 : Int32)), iv 1, iv ((0 : Int32) + (1 : Int32)), iv 0, iv 1] [(.ref r0), (.int 1)])) rfl rfl (hb hby d4_81)
    have f652 := ((f626.keep K643 (ninS ne_r0_bA nin0)).other W649 (Or.inl ne_r0_sA))
    obtain ⟨T653, X653, e653, st653⟩ := getF X651 hx hZ hown (host := "") (Or.inl (own_at hw 17 rfl)) Via.refl e651 f652 (g := (mkF m 88 #[rv r0, iv 1, iv ((0 : Int32) + (1 : Int32)), iv 1, iv ((0 : Int32) + (1 : Int32)), iv 0, iv 1] [(.ref r0)])) rfl rfl (hb hby d4_88)
    have f654 := ((V622.keep K643 (ninS (Ne.symm (Nat.ne_of_lt (Nat.lt_of_lt_of_le V_bA.lt p1_1))) nin0)).other W649 (Ne.symm (Nat.ne_of_lt (Nat.lt_of_lt_of_le V_sA.lt p1_1))))
    obtain ⟨cl_z655, Ar_z655, q_z655, S_z655, N_z655, H_z655, G_z655⟩ := id f654
    have hin656 : ¬ ((1 : Int32) < 0 ∨ cl_z655.slots.size ≤ ((1 : Int32)).toNatClampNeg) := inb_of S_z655 ⟨by decide, by decide⟩
    obtain ⟨T657, X657, e657, st657⟩ := getF X653 hx hZ hown (host := "") (Or.inl (own_at hw 30 rfl)) Via.refl e653 f650 (g := (mkF m 81 #[rv r0, iv 1, iv ((0 : Int32) + (1 : Int32)), iv 1, iv (((0 : Int32) + (1 : Int32)) + (1 : Int32)), iv 0, iv 1] [(.ref r0), (.int 2)])) rfl rfl (hb hby d4_81)
    obtain ⟨T658, X658, e658, st658⟩ := getF X657 hx hZ hown (host := "") (Or.inl (own_at hw 17 rfl)) Via.refl e657 f652 (g := (mkF m 88 #[rv r0, iv 1, iv ((0 : Int32) + (1 : Int32)), iv 1, iv (((0 : Int32) + (1 : Int32)) + (1 : Int32)), iv 0, iv 1] [(.ref r0)])) rfl rfl (hb hby d4_88)
    have hin659 : ¬ ((2 : Int32) < 0 ∨ cl_z655.slots.size ≤ ((2 : Int32)).toNatClampNeg) := inb_of S_z655 ⟨by decide, by decide⟩
    obtain ⟨T660, X660, e660, st660⟩ := getF X658 hx hZ hown (host := "") (Or.inl (own_at hw 30 rfl)) Via.refl e658 f650 (g := (mkF m 81 #[rv r0, iv 1, iv ((0 : Int32) + (1 : Int32)), iv 1, iv ((((0 : Int32) + (1 : Int32)) + (1 : Int32)) + (1 : Int32)), iv 0, iv 1] [(.ref r0), (.int 3)])) rfl rfl (hb hby d4_81)
    have f661 := ((f636.keep K643).wr W649)
    obtain ⟨T662, h662, X662, e662, W662, st662⟩ := putF X660 hx hZ hown (host := "") (Or.inl (own_at hw 30 rfl)) Via.refl e660 f650 f661 (Or.inl (own_at hw 31 rfl)) (own_at hw 1 rfl) (ty := .int) (by decide) rfl rfl (g := (mkF m 157 #[rv r0, iv 1, iv ((0 : Int32) + (1 : Int32)), iv 1, iv ((((0 : Int32) + (1 : Int32)) + (1 : Int32)) + (1 : Int32)), iv 0, iv 1] [(.int 1), (.ref r0)])) rfl rfl (hb hby d4_157)
    have Fw662 : Fld Z h662 r0 cS0 "count" "I" (.int 1) := f650.same W662
    have N662 := Fr.snoc X662 N649 ge_r0
    have f663 := (f661.wr W662)
    have f664 := (((f637.keep K643 (ninS ne_r0_bA nin0)).other W649 (Or.inl ne_r0_sA)).other W662 (Or.inr (slot_ne (Or.inl (own_at hw 33 rfl)) (Or.inl (own_at hw 31 rfl)) (by decide) (t := .int) (t' := .int) (by decide) (by decide))))
    obtain ⟨T665, h665, X665, e665, W665, st665⟩ := putF X662 hx hZ hown (host := "") (Or.inl (own_at hw 32 rfl)) Via.refl e662 f664 f663 (Or.inl (own_at hw 33 rfl)) (own_at hw 1 rfl) (ty := .int) (by decide) rfl rfl (g := (mkF m 162 #[rv r0, iv 1, iv ((0 : Int32) + (1 : Int32)), iv 1, iv ((((0 : Int32) + (1 : Int32)) + (1 : Int32)) + (1 : Int32)), iv 0, iv 1] [(.int 1), (.ref r0)])) rfl rfl (hb hby d4_162)
    have Fw665 : Fld Z h665 r0 cS0 "used" "I" (.int 1) := f664.same W665
    have N665 := Fr.snoc X665 N662 ge_r0
    have f666 := (f663.wr W665)
    have f667 := (((((((((p1_5.keep K580 nin0).other W585 (Or.inr (slot_ne (Or.inr (own_at hw 20 rfl)) (Or.inl (own_at hw 29 rfl)) (by decide) (t := .int) (t' := (.array .byte)) (by decide) (by decide)))).other W598 (Or.inl (Nat.ne_of_lt (Nat.lt_of_lt_of_le E_r0.lt p1_1)))).other W610 (Or.inl (Nat.ne_of_lt (Nat.lt_of_lt_of_le E_r0.lt p1_1)))).other W622 (Or.inl (Nat.ne_of_lt (Nat.lt_of_lt_of_le E_r0.lt p1_1)))).keep K643 (ninS ne_r0_bA nin0)).other W649 (Or.inl ne_r0_sA)).other W662 (Or.inr (slot_ne (Or.inr (own_at hw 20 rfl)) (Or.inl (own_at hw 31 rfl)) (by decide) (t := .int) (t' := .int) (by decide) (by decide)))).other W665 (Or.inr (slot_ne (Or.inr (own_at hw 20 rfl)) (Or.inl (own_at hw 33 rfl)) (by decide) (t := .int) (t' := .int) (by decide) (by decide))))
    have f668 := (((((((((p1_6.keep K580 nin0).other W585 (Or.inr (slot_ne (Or.inr (own_at hw 22 rfl)) (Or.inl (own_at hw 29 rfl)) (by decide) (t := .int) (t' := (.array .byte)) (by decide) (by decide)))).other W598 (Or.inl (Nat.ne_of_lt (Nat.lt_of_lt_of_le E_r0.lt p1_1)))).other W610 (Or.inl (Nat.ne_of_lt (Nat.lt_of_lt_of_le E_r0.lt p1_1)))).other W622 (Or.inl (Nat.ne_of_lt (Nat.lt_of_lt_of_le E_r0.lt p1_1)))).keep K643 (ninS ne_r0_bA nin0)).other W649 (Or.inl ne_r0_sA)).other W662 (Or.inr (slot_ne (Or.inr (own_at hw 22 rfl)) (Or.inl (own_at hw 31 rfl)) (by decide) (t := .int) (t' := .int) (by decide) (by decide)))).other W665 (Or.inr (slot_ne (Or.inr (own_at hw 22 rfl)) (Or.inl (own_at hw 33 rfl)) (by decide) (t := .int) (t' := .int) (by decide) (by decide))))
    have f669 := (Fw662.other W665 (Or.inr (slot_ne (Or.inl (own_at hw 31 rfl)) (Or.inl (own_at hw 33 rfl)) (by decide) (t := .int) (t' := .int) (by decide) (by decide))))
    have f670 := (((((((Fw585.other W598 (Or.inl (Nat.ne_of_lt (Nat.lt_of_lt_of_le E_r0.lt p1_1)))).other W610 (Or.inl (Nat.ne_of_lt (Nat.lt_of_lt_of_le E_r0.lt p1_1)))).other W622 (Or.inl (Nat.ne_of_lt (Nat.lt_of_lt_of_le E_r0.lt p1_1)))).keep K643 (ninS ne_r0_bA nin0)).other W649 (Or.inl ne_r0_sA)).other W662 (Or.inr (slot_ne (Or.inl (own_at hw 29 rfl)) (Or.inl (own_at hw 31 rfl)) (by decide) (t := (.array .byte)) (t' := .int) (by decide) (by decide)))).other W665 (Or.inr (slot_ne (Or.inl (own_at hw 29 rfl)) (Or.inl (own_at hw 33 rfl)) (by decide) (t := (.array .byte)) (t' := .int) (by decide) (by decide))))
    have f671 := ((((f638.keep K643 (ninS ne_r0_bA nin0)).other W649 (Or.inl ne_r0_sA)).other W662 (Or.inr (slot_ne (Or.inl (own_at hw 11 rfl)) (Or.inl (own_at hw 31 rfl)) (by decide) (t := (.array .byte)) (t' := .int) (by decide) (by decide)))).other W665 (Or.inr (slot_ne (Or.inl (own_at hw 11 rfl)) (Or.inl (own_at hw 33 rfl)) (by decide) (t := (.array .byte)) (t' := .int) (by decide) (by decide))))
    have f672 := (((V643.other W649 ne_bA_sA).other W662 ne_bA_r0).other W665 ne_bA_r0)
    have f673 := ((((f642.keep K643).wr W649).wr W662).wr W665)
    have f674 := (((f644.other W649 (Or.inl ne_r0_sA)).other W662 (Or.inr (slot_ne (Or.inl (own_at hw 14 rfl)) (Or.inl (own_at hw 31 rfl)) (by decide) (t := (.array .int)) (t' := .int) (by decide) (by decide)))).other W665 (Or.inr (slot_ne (Or.inl (own_at hw 14 rfl)) (Or.inl (own_at hw 33 rfl)) (by decide) (t := (.array .int)) (t' := .int) (by decide) (by decide))))
    have f675 := ((V649.other W662 ne_sA_r0).other W665 ne_sA_r0)
    have f676 := ((((((((((E_sA.keep K1).keep K580).wr W585).wr W598).wr W610).wr W622).keep K643).wr W649).wr W662).wr W665)
    have f677 := (((((f615.other W622 (Or.inl (Nat.ne_of_lt (Nat.lt_of_lt_of_le E_r0.lt p1_1)))).keep K643 (ninS ne_r0_bA nin0)).other W649 (Or.inl ne_r0_sA)).other W662 (Or.inr (slot_ne (Or.inl (own_at hw 16 rfl)) (Or.inl (own_at hw 31 rfl)) (by decide) (t := (.array .int)) (t' := .int) (by decide) (by decide)))).other W665 (Or.inr (slot_ne (Or.inl (own_at hw 16 rfl)) (Or.inl (own_at hw 33 rfl)) (by decide) (t := (.array .int)) (t' := .int) (by decide) (by decide))))
    have f678 := ((f652.other W662 (Or.inr (slot_ne (Or.inl (own_at hw 18 rfl)) (Or.inl (own_at hw 31 rfl)) (by decide) (t := (.array .int)) (t' := .int) (by decide) (by decide)))).other W665 (Or.inr (slot_ne (Or.inl (own_at hw 18 rfl)) (Or.inl (own_at hw 33 rfl)) (by decide) (t := (.array .int)) (t' := .int) (by decide) (by decide))))
    have f679 := ((((((((p580_1.other W585 (Ne.symm (Nat.ne_of_lt (Nat.lt_of_lt_of_le f579.lt p580_0)))).other W598 (Ne.symm (Nat.ne_of_lt (Nat.lt_of_lt_of_le p1_14.lt p580_0)))).other W610 (Ne.symm (Nat.ne_of_lt (Nat.lt_of_lt_of_le p1_14.lt p580_0)))).other W622 (Ne.symm (Nat.ne_of_lt (Nat.lt_of_lt_of_le p1_14.lt p580_0)))).keep K643 (ninS (Ne.symm (Nat.ne_of_lt (Nat.lt_of_lt_of_le f581.lt p580_0))) nin0)).other W649 (Ne.symm (Nat.ne_of_lt (Nat.lt_of_lt_of_le f573.lt p580_0)))).other W662 (Ne.symm (Nat.ne_of_lt (Nat.lt_of_lt_of_le f579.lt p580_0)))).other W665 (Ne.symm (Nat.ne_of_lt (Nat.lt_of_lt_of_le f579.lt p580_0))))
    have f680 := ((((((((p580_2.wr W585).wr W598).wr W610).wr W622).keep K643).wr W649).wr W662).wr W665)
    obtain ⟨fs, hr, hrun, hended, hW, hsame⟩ := X665.leave (v := none) (fun _ => rfl)
    refine ⟨_, _, k2 _ ?_, hrun, hended, _, _, rfl, ?_, ⟨_, rfl⟩, hW, hsame.mono (by decide) (by decide)⟩
    · refine st1.trans ?_
      refine XS.aloadN X1.here hx rfl (hb hby d4_4) rfl rfl ?_
      refine st567 _ ?_
      refine XS.iconst X567.here hx rfl (hb hby d4_8) ?_
      refine XS.idiv X567.here hx rfl (hb hby d4_9) rfl (by decide) ?_
      refine XS.istoreN X567.here hx rfl (hb hby d4_10) rfl (l' := #[rv r0, iv 1, .unset, .unset, .unset, .unset, .unset]) rfl ?_
      refine XS.aloadN X567.here hx rfl (hb hby d4_11) rfl rfl ?_
      refine XS.aloadN X567.here hx rfl (hb hby d4_12) rfl rfl ?_
      refine st568 _ ?_
      refine XS.aloadN X568.here hx rfl (hb hby d4_16) rfl rfl ?_
      refine st569 _ ?_
      refine XS.aloadN X569.here hx rfl (hb hby d4_20) rfl rfl ?_
      refine st570 _ ?_
      refine XS.iloadN X570.here hx rfl (hb hby d4_24) rfl ?_
      refine X570.iaload hx (j := (1 : Int32)) (v := (.int 1)) (by rw [e570]; exact Ar_z571.1) (State.isArrayOf_alike hZ.alike Ar_z571.2.1) Ar_z571.2.2 hin572 (Has.at H_z571 hin572 rfl) (g := (mkF m 25 #[rv r0, iv 1, .unset, .unset, .unset, .unset, .unset] [(.int 1), (.ref oA_1), (.ref sA), (.ref bA), (.ref r0)])) rfl rfl (hb hby d4_25) _ ?_
      refine X570.iaload hx (j := (1 : Int32)) (v := (.int 1)) (by rw [e570]; exact Ar_z574.1) (State.isArrayOf_alike hZ.alike Ar_z574.2.1) Ar_z574.2.2 hin575 (Has.at H_z574 hin575 rfl) (g := (mkF m 26 #[rv r0, iv 1, .unset, .unset, .unset, .unset, .unset] [(.int 1), (.ref sA), (.ref bA), (.ref r0)])) rfl rfl (hb hby d4_26) _ ?_
      refine XS.aloadN X570.here hx rfl (hb hby d4_27) rfl rfl ?_
      refine XS.aloadN X570.here hx rfl (hb hby d4_28) rfl rfl ?_
      refine st576 _ ?_
      refine XS.iloadN X576.here hx rfl (hb hby d4_32) rfl ?_
      refine X576.iaload hx (j := (1 : Int32)) (v := (.int 1)) (by rw [e576]; exact Ar_z571.1) (State.isArrayOf_alike hZ.alike Ar_z571.2.1) Ar_z571.2.2 hin577 (Has.at H_z571 hin577 rfl) (g := (mkF m 33 #[rv r0, iv 1, .unset, .unset, .unset, .unset, .unset] [(.int 1), (.ref oA_1), (.ref r0), (.int 1), (.ref bA), (.ref r0)])) rfl rfl (hb hby d4_33) _ ?_
      refine st578.trans ?_
      refine st580 _ ?_
      refine st585 _ ?_
      refine XS.iconst X585.here hx rfl (hb hby d4_43) ?_
      refine XS.istoreN X585.here hx rfl (hb hby d4_44) rfl (l' := #[rv r0, iv 1, iv 0, .unset, .unset, .unset, .unset]) rfl ?_
      refine XS.iloadN X585.here hx rfl (hb hby d4_45) rfl ?_
      refine XS.aloadN X585.here hx rfl (hb hby d4_46) rfl rfl ?_
      refine st587 _ ?_
      refine XS.icmpNo X587.here hx rfl (hb hby d4_50) rfl (tlt (by decide : (0 : Int32) < (3 : Int32))).2.1 ?_
      refine XS.aloadN X587.here hx rfl (hb hby d4_53) rfl rfl ?_
      refine st589 _ ?_
      refine XS.aloadN X589.here hx rfl (hb hby d4_57) rfl rfl ?_
      refine st591 _ ?_
      refine XS.iloadN X591.here hx rfl (hb hby d4_61) rfl ?_
      refine X591.iaload hx (j := (0 : Int32)) (v := (.int 0)) (by rw [e591]; exact Ar_z593.1) (State.isArrayOf_alike hZ.alike Ar_z593.2.1) Ar_z593.2.2 hin594 (Has.at H_z593 hin594 rfl) (g := (mkF m 62 #[rv r0, iv 1, iv 0, .unset, .unset, .unset, .unset] [(.int 0), (.ref oA_1), (.ref cA_1)])) rfl rfl (hb hby d4_62) _ ?_
      refine XS.iloadN X591.here hx rfl (hb hby d4_63) rfl ?_
      refine st598 _ ?_
      refine XS.iinc X598.here hx rfl (hb hby d4_65) rfl (l' := #[rv r0, iv 1, iv ((0 : Int32) + (1 : Int32)), .unset, .unset, .unset, .unset]) rfl ?_
      refine XS.goto X598.here hx rfl (pc0 := 68) (pc' := 45) rfl (hb hby d4_68) (by decide) (by decide) ?_
      show OwnS p e below T598 (mkF m 45 #[rv r0, iv 1, iv ((0 : Int32) + (1 : Int32)), .unset, .unset, .unset, .unset] []) _
      refine XS.iloadN X598.here hx rfl (hb hby d4_45) rfl ?_
      refine XS.aloadN X598.here hx rfl (hb hby d4_46) rfl rfl ?_
      refine st600 _ ?_
      refine XS.icmpNo X600.here hx rfl (hb hby d4_50) rfl (tlt (by decide : (1 : Int32) < (3 : Int32))).2.1 ?_
      refine XS.aloadN X600.here hx rfl (hb hby d4_53) rfl rfl ?_
      refine st602 _ ?_
      refine XS.aloadN X602.here hx rfl (hb hby d4_57) rfl rfl ?_
      refine st604 _ ?_
      refine XS.iloadN X604.here hx rfl (hb hby d4_61) rfl ?_
      refine X604.iaload hx (j := (1 : Int32)) (v := (.int 1)) (by rw [e604]; exact Ar_z606.1) (State.isArrayOf_alike hZ.alike Ar_z606.2.1) Ar_z606.2.2 hin607 (Has.at H_z606 hin607 rfl) (g := (mkF m 62 #[rv r0, iv 1, iv ((0 : Int32) + (1 : Int32)), .unset, .unset, .unset, .unset] [(.int 1), (.ref oA_1), (.ref cA_1)])) rfl rfl (hb hby d4_62) _ ?_
      refine XS.iloadN X604.here hx rfl (hb hby d4_63) rfl ?_
      refine st610 _ ?_
      refine XS.iinc X610.here hx rfl (hb hby d4_65) rfl (l' := #[rv r0, iv 1, iv (((0 : Int32) + (1 : Int32)) + (1 : Int32)), .unset, .unset, .unset, .unset]) rfl ?_
      refine XS.goto X610.here hx rfl (pc0 := 68) (pc' := 45) rfl (hb hby d4_68) (by decide) (by decide) ?_
      refine XS.iloadN X610.here hx rfl (hb hby d4_45) rfl ?_
      refine XS.aloadN X610.here hx rfl (hb hby d4_46) rfl rfl ?_
      refine st612 _ ?_
      refine XS.icmpNo X612.here hx rfl (hb hby d4_50) rfl (tlt (by decide : (2 : Int32) < (3 : Int32))).2.1 ?_
      refine XS.aloadN X612.here hx rfl (hb hby d4_53) rfl rfl ?_
      refine st614 _ ?_
      refine XS.aloadN X614.here hx rfl (hb hby d4_57) rfl rfl ?_
      refine st616 _ ?_
      refine XS.iloadN X616.here hx rfl (hb hby d4_61) rfl ?_
      refine X616.iaload hx (j := (2 : Int32)) (v := (.int 2)) (by rw [e616]; exact Ar_z618.1) (State.isArrayOf_alike hZ.alike Ar_z618.2.1) Ar_z618.2.2 hin619 (Has.at H_z618 hin619 rfl) (g := (mkF m 62 #[rv r0, iv 1, iv (((0 : Int32) + (1 : Int32)) + (1 : Int32)), .unset, .unset, .unset, .unset] [(.int 2), (.ref oA_1), (.ref cA_1)])) rfl rfl (hb hby d4_62) _ ?_
      refine XS.iloadN X616.here hx rfl (hb hby d4_63) rfl ?_
      refine st622 _ ?_
      refine XS.iinc X622.here hx rfl (hb hby d4_65) rfl (l' := #[rv r0, iv 1, iv ((((0 : Int32) + (1 : Int32)) + (1 : Int32)) + (1 : Int32)), .unset, .unset, .unset, .unset]) rfl ?_
      refine XS.goto X622.here hx rfl (pc0 := 68) (pc' := 45) rfl (hb hby d4_68) (by decide) (by decide) ?_
      refine XS.iloadN X622.here hx rfl (hb hby d4_45) rfl ?_
      refine XS.aloadN X622.here hx rfl (hb hby d4_46) rfl rfl ?_
      refine st624 _ ?_
      refine XS.icmpYes X624.here hx rfl (pc0 := 50) (pc' := 71) rfl (hb hby d4_50) rfl (flt (by decide : ¬ ((3 : Int32) < (3 : Int32)))).2.1 (by decide) (by decide) ?_
      refine XS.iconst X624.here hx rfl (hb hby d4_71) ?_
      refine XS.istoreN X624.here hx rfl (hb hby d4_72) rfl (l' := #[rv r0, iv 1, iv 0, .unset, .unset, .unset, .unset]) rfl ?_
      refine XS.iconst X624.here hx rfl (hb hby d4_73) ?_
      refine XS.istoreN X624.here hx rfl (hb hby d4_74) rfl (l' := #[rv r0, iv 1, iv 0, iv 0, .unset, .unset, .unset]) rfl ?_
      refine XS.iconst X624.here hx rfl (hb hby d4_75) ?_
      refine XS.istore X624.here hx rfl (hb hby d4_76) rfl (l' := #[rv r0, iv 1, iv 0, iv 0, iv 0, .unset, .unset]) rfl ?_
      refine XS.iload X624.here hx rfl (hb hby d4_78) rfl ?_
      refine XS.aloadN X624.here hx rfl (hb hby d4_80) rfl rfl ?_
      show OwnS p e below T624 (mkF m 81 #[rv r0, iv 1, iv 0, iv 0, iv 0, .unset, .unset] [(.ref r0), (.int 0)]) _
      refine st625 _ ?_
      refine XS.icmpNo X625.here hx rfl (hb hby d4_84) rfl (tlt (by decide : (0 : Int32) < (3 : Int32))).2.1 ?_
      refine XS.aloadN X625.here hx rfl (hb hby d4_87) rfl rfl ?_
      refine st627 _ ?_
      refine XS.iload X627.here hx rfl (hb hby d4_91) rfl ?_
      refine X627.iaload hx (j := (0 : Int32)) (v := (.int 0)) (by rw [e627]; exact Ar_z628.1) (State.isArrayOf_alike hZ.alike Ar_z628.2.1) Ar_z628.2.2 hin629 (Has.at H_z628 hin629 rfl) (g := (mkF m 93 #[rv r0, iv 1, iv 0, iv 0, iv 0, .unset, .unset] [(.int 0), (.ref cA_1)])) rfl rfl (hb hby d4_93) _ ?_
      refine XS.iloadN X627.here hx rfl (hb hby d4_94) rfl ?_
      refine XS.icmpNo X627.here hx rfl (hb hby d4_95) rfl (tlt (by decide : (0 : Int32) < (1 : Int32))).2.1 ?_
      refine XS.aloadN X627.here hx rfl (hb hby d4_98) rfl rfl ?_
      refine st631 _ ?_
      refine XS.iload X631.here hx rfl (hb hby d4_102) rfl ?_
      refine X631.iaload hx (j := (0 : Int32)) (v := (.int 0)) (by rw [e631]; exact Ar_z633.1) (State.isArrayOf_alike hZ.alike Ar_z633.2.1) Ar_z633.2.2 hin634 (Has.at H_z633 hin634 rfl) (g := (mkF m 104 #[rv r0, iv 1, iv 0, iv 0, iv 0, .unset, .unset] [(.int 0), (.ref sA)])) rfl rfl (hb hby d4_104) _ ?_
      refine XS.istore X631.here hx rfl (hb hby d4_105) rfl (l' := #[rv r0, iv 1, iv 0, iv 0, iv 0, iv 0, .unset]) rfl ?_
      refine XS.aloadN X631.here hx rfl (hb hby d4_107) rfl rfl ?_
      refine XS.iload X631.here hx rfl (hb hby d4_108) rfl ?_
      refine st635.trans ?_
      refine XS.iload X635.here hx rfl (hb hby d4_113) rfl ?_
      refine XS.isub X635.here hx rfl (hb hby d4_115) rfl ?_
      refine XS.istore X635.here hx rfl (hb hby d4_116) rfl (l' := #[rv r0, iv 1, iv 0, iv 0, iv 0, iv 0, iv 1]) rfl ?_
      refine XS.aloadN X635.here hx rfl (hb hby d4_118) rfl rfl ?_
      refine st639 _ ?_
      refine XS.iload X639.here hx rfl (hb hby d4_122) rfl ?_
      refine XS.aloadN X639.here hx rfl (hb hby d4_124) rfl rfl ?_
      refine st640 _ ?_
      refine XS.iloadN X640.here hx rfl (hb hby d4_128) rfl ?_
      refine XS.iload X640.here hx rfl (hb hby d4_129) rfl ?_
      refine st643 _ ?_
      refine XS.aloadN X643.here hx rfl (hb hby d4_134) rfl rfl ?_
      refine st645 _ ?_
      refine XS.iloadN X645.here hx rfl (hb hby d4_138) rfl ?_
      refine XS.iinc X645.here hx rfl (hb hby d4_139) rfl (l' := #[rv r0, iv 1, iv ((0 : Int32) + (1 : Int32)), iv 0, iv 0, iv 0, iv 1]) rfl ?_
      refine XS.iloadN X645.here hx rfl (hb hby d4_142) rfl ?_
      refine st649 _ ?_
      refine XS.iloadN X649.here hx rfl (hb hby d4_144) rfl ?_
      refine XS.iload X649.here hx rfl (hb hby d4_145) rfl ?_
      refine XS.iadd X649.here hx rfl (hb hby d4_147) rfl ?_
      refine XS.istoreN X649.here hx rfl (hb hby d4_148) rfl (l' := #[rv r0, iv 1, iv ((0 : Int32) + (1 : Int32)), iv 1, iv 0, iv 0, iv 1]) rfl ?_
      refine XS.iinc X649.here hx rfl (hb hby d4_149) rfl (l' := #[rv r0, iv 1, iv ((0 : Int32) + (1 : Int32)), iv 1, iv ((0 : Int32) + (1 : Int32)), iv 0, iv 1]) rfl ?_
      refine XS.goto X649.here hx rfl (pc0 := 152) (pc' := 78) rfl (hb hby d4_152) (by decide) (by decide) ?_
      refine XS.iload X649.here hx rfl (hb hby d4_78) rfl ?_
      show OwnS p e below T649 (mkF m 80 #[rv r0, iv 1, iv ((0 : Int32) + (1 : Int32)), iv 1, iv ((0 : Int32) + (1 : Int32)), iv 0, iv 1] [(.int 1)]) _
      refine XS.aloadN X649.here hx rfl (hb hby d4_80) rfl rfl ?_
      refine st651 _ ?_
      refine XS.icmpNo X651.here hx rfl (hb hby d4_84) rfl (tlt (by decide : (1 : Int32) < (3 : Int32))).2.1 ?_
      refine XS.aloadN X651.here hx rfl (hb hby d4_87) rfl rfl ?_
      refine st653 _ ?_
      refine XS.iload X653.here hx rfl (hb hby d4_91) rfl ?_
      refine X653.iaload hx (j := (1 : Int32)) (v := (.int 1)) (by rw [e653]; exact Ar_z655.1) (State.isArrayOf_alike hZ.alike Ar_z655.2.1) Ar_z655.2.2 hin656 (Has.at H_z655 hin656 rfl) (g := (mkF m 93 #[rv r0, iv 1, iv ((0 : Int32) + (1 : Int32)), iv 1, iv ((0 : Int32) + (1 : Int32)), iv 0, iv 1] [(.int 1), (.ref cA_1)])) rfl rfl (hb hby d4_93) _ ?_
      refine XS.iloadN X653.here hx rfl (hb hby d4_94) rfl ?_
      refine XS.icmpYes X653.here hx rfl (pc0 := 95) (pc' := 149) rfl (hb hby d4_95) rfl (flt (by decide : ¬ ((1 : Int32) < (1 : Int32)))).2.1 (by decide) (by decide) ?_
      refine XS.iinc X653.here hx rfl (hb hby d4_149) rfl (l' := #[rv r0, iv 1, iv ((0 : Int32) + (1 : Int32)), iv 1, iv (((0 : Int32) + (1 : Int32)) + (1 : Int32)), iv 0, iv 1]) rfl ?_
      refine XS.goto X653.here hx rfl (pc0 := 152) (pc' := 78) rfl (hb hby d4_152) (by decide) (by decide) ?_
      refine XS.iload X653.here hx rfl (hb hby d4_78) rfl ?_
      refine XS.aloadN X653.here hx rfl (hb hby d4_80) rfl rfl ?_
      refine st657 _ ?_
      refine XS.icmpNo X657.here hx rfl (hb hby d4_84) rfl (tlt (by decide : (2 : Int32) < (3 : Int32))).2.1 ?_
      refine XS.aloadN X657.here hx rfl (hb hby d4_87) rfl rfl ?_
      refine st658 _ ?_
      refine XS.iload X658.here hx rfl (hb hby d4_91) rfl ?_
      refine X658.iaload hx (j := (2 : Int32)) (v := (.int 2)) (by rw [e658]; exact Ar_z655.1) (State.isArrayOf_alike hZ.alike Ar_z655.2.1) Ar_z655.2.2 hin659 (Has.at H_z655 hin659 rfl) (g := (mkF m 93 #[rv r0, iv 1, iv ((0 : Int32) + (1 : Int32)), iv 1, iv (((0 : Int32) + (1 : Int32)) + (1 : Int32)), iv 0, iv 1] [(.int 2), (.ref cA_1)])) rfl rfl (hb hby d4_93) _ ?_
      refine XS.iloadN X658.here hx rfl (hb hby d4_94) rfl ?_
      refine XS.icmpYes X658.here hx rfl (pc0 := 95) (pc' := 149) rfl (hb hby d4_95) rfl (flt (by decide : ¬ ((2 : Int32) < (1 : Int32)))).2.1 (by decide) (by decide) ?_
      refine XS.iinc X658.here hx rfl (hb hby d4_149) rfl (l' := #[rv r0, iv 1, iv ((0 : Int32) + (1 : Int32)), iv 1, iv ((((0 : Int32) + (1 : Int32)) + (1 : Int32)) + (1 : Int32)), iv 0, iv 1]) rfl ?_
      refine XS.goto X658.here hx rfl (pc0 := 152) (pc' := 78) rfl (hb hby d4_152) (by decide) (by decide) ?_
      refine XS.iload X658.here hx rfl (hb hby d4_78) rfl ?_
      refine XS.aloadN X658.here hx rfl (hb hby d4_80) rfl rfl ?_
      refine st660 _ ?_
      refine XS.icmpYes X660.here hx rfl (pc0 := 84) (pc' := 155) rfl (hb hby d4_84) rfl (flt (by decide : ¬ ((3 : Int32) < (3 : Int32)))).2.1 (by decide) (by decide) ?_
      refine XS.aloadN X660.here hx rfl (hb hby d4_155) rfl rfl ?_
      refine XS.iloadN X660.here hx rfl (hb hby d4_156) rfl ?_
      refine st662 _ ?_
      refine XS.aloadN X662.here hx rfl (hb hby d4_160) rfl rfl ?_
      refine XS.iloadN X662.here hx rfl (hb hby d4_161) rfl ?_
      refine st665 _ ?_
      exact X665.returnOut hx Bd.returns (hb hby d4_165) hr
    · show Q_4 Z r0 bA kB sA kS oZ kZ cZ x0 x1 x2 h0 n0 _ T665.heap _
      rw [e665]
      exact ⟨ar_580, oA_1, cA_1, kk_580, x1, x0, rfl, N665, (((((((((((Keep.refl h0 [r0, bA, sA]).trans K1 (allS (Or.inl (List.mem_of_getElem? (i := 0) rfl)) all0)).trans K580 all0).wr W585 (Or.inl (List.mem_of_getElem? (i := 0) rfl))).wr W598 (Or.inr sz_cA_1)).wr W610 (Or.inr sz_cA_1)).wr W622 (Or.inr sz_cA_1)).trans K643 (allS (Or.inl (List.mem_of_getElem? (i := 1) rfl)) all0)).wr W649 (Or.inl (List.mem_of_getElem? (i := 2) rfl))).wr W662 (Or.inl (List.mem_of_getElem? (i := 0) rfl))).wr W665 (Or.inl (List.mem_of_getElem? (i := 0) rfl))), sz_ar_580, f666, f667, f668, f669, Fw665, f670, f671, f672, f673, f674, f675, f676, f677, f678, f679, f680⟩
theorem d3_65 : decode prog_6_method_3_code 65 = .ok (.aload_n 0, 1) := by decide +kernel
theorem d3_66 : decode prog_6_method_3_code 66 = .ok (.invokevirtual 45, 3) := by decide +kernel
theorem d3_69 : decode prog_6_method_3_code 69 = .ok (.aload_n 1, 1) := by decide +kernel
theorem d3_70 : decode prog_6_method_3_code 70 = .ok (.iload_n 2, 1) := by decide +kernel
theorem d3_71 : decode prog_6_method_3_code 71 = .ok (.iload_n 3, 1) := by decide +kernel
theorem d3_72 : decode prog_6_method_3_code 72 = .ok (.aload_n 0, 1) := by decide +kernel
theorem d3_73 : decode prog_6_method_3_code 73 = .ok (.getfield 36, 3) := by decide +kernel
theorem d3_76 : decode prog_6_method_3_code 76 = .ok (.iconst 0, 1) := by decide +kernel
theorem d3_77 : decode prog_6_method_3_code 77 = .ok (.aload_n 0, 1) := by decide +kernel
theorem d3_78 : decode prog_6_method_3_code 78 = .ok (.getfield 36, 3) := by decide +kernel
theorem d3_81 : decode prog_6_method_3_code 81 = .ok (.arraylength, 1) := by decide +kernel
theorem d3_82 : decode prog_6_method_3_code 82 = .ok (.invokestatic 39, 3) := by decide +kernel
theorem d3_85 : decode prog_6_method_3_code 85 = .ok (.ifCond .lt (-53), 3) := by decide +kernel
theorem d3_88 : decode prog_6_method_3_code 88 = .ok (.return_, 1) := by decide +kernel
def Q_3_full (Z : State) (r0 : Addr) (r1 : Addr) (bA : Addr) (kB : ClassId) (sA : Addr) (kS : ClassId) (kN : ClassId) (oZ : Addr) (kZ : ClassId) (cZ : Addr) (x0 : Int32) (x1 : Int32) (x2 : Int32) (y : Int32) (h0 : Heap) (n0 : Nat) (v : Option Value) (h : Heap) (L : List Loc) : Prop := ∃ lim : Addr, ∃ oN : Addr, ∃ cN : Addr, ∃ e0 : Int32, ∃ e1 : Int32, ∃ e2 : Int32, ∃ t0 : Int32, ∃ t1 : Int32, ∃ t2 : Int32, ∃ cn : Int32, ∃ us : Int32, v = none ∧ Fr n0 L ∧ Keep h0 h [r0, bA, sA] ∧ Exa Z h r0 cS0 ∧ Fld Z h r0 cS0 "maxNames" "I" (.int 3) ∧ Fld Z h r0 cS0 "maxBytes" "I" (.int 3) ∧ Fld Z h r0 cS0 "count" "I" (.int cn) ∧ Fld Z h r0 cS0 "used" "I" (.int us) ∧ Fld Z h r0 cS0 "limit" "[B" (.ref lim) ∧ Fld Z h r0 cS0 "bytes" "[B" (.ref bA) ∧ Arv Z h bA kB .byte (4096 : Int32) [(.int e0), (.int e1), (.int e2)] (.int 0) ∧ Exa Z h bA "[B" ∧ Fld Z h r0 cS0 "starts" "[I" (.ref sA) ∧ Arv Z h sA kS .int (256 : Int32) [(.int t0), (.int t1), (.int t2)] (.int 0) ∧ Exa Z h sA "[I" ∧ Fld Z h r0 cS0 "order" "[I" (.ref oN) ∧ Fld Z h r0 cS0 "scratch" "[I" (.ref cN)
set_option maxRecDepth 65536 in
set_option maxHeartbeats 40000000 in
theorem rm3_full (l : Launch) (Z : State) (a0 : Array Value) (hw : ∀ d ∈ tables_1, d.before a0 Z = true) (ws : List Jvm.Cond) (r0 : Addr) (r1 : Addr) (bA : Addr) (kB : ClassId) (sA : Addr) (kS : ClassId) (kN : ClassId) (oZ : Addr) (kZ : ClassId) (cZ : Addr) (x0 : Int32) (x1 : Int32) (x2 : Int32) (y : Int32) (h0 : Heap) (n0 : Nat) (Z0 : n0 ≤ h0.size) (E_r0 : Exa Z h0 r0 cS0) (F_maxNames_r0 : Fld Z h0 r0 cS0 "maxNames" "I" (.int 3)) (F_maxBytes_r0 : Fld Z h0 r0 cS0 "maxBytes" "I" (.int 3)) (F_count_r0 : Fld Z h0 r0 cS0 "count" "I" (.int 3)) (F_used_r0 : Fld Z h0 r0 cS0 "used" "I" (.int 3)) (F_bytes_r0 : Fld Z h0 r0 cS0 "bytes" "[B" (.ref bA)) (V_bA : Arv Z h0 bA kB .byte (4096 : Int32) [(.int x0), (.int x1), (.int x2)] (.int 0)) (E_bA : Exa Z h0 bA "[B") (F_starts_r0 : Fld Z h0 r0 cS0 "starts" "[I" (.ref sA)) (V_sA : Arv Z h0 sA kS .int (256 : Int32) [(.int 0), (.int 1), (.int 2)] (.int 0)) (E_sA : Exa Z h0 sA "[I") (F_limit_r0 : Fld Z h0 r0 cS0 "limit" "[B" .null) (F_order_r0 : Fld Z h0 r0 cS0 "order" "[I" (.ref oZ)) (V_oZ : Arv Z h0 oZ kZ .int (0 : Int32) [] (.int 0)) (F_scratch_r0 : Fld Z h0 r0 cS0 "scratch" "[I" (.ref cZ)) (V_r1 : Arv Z h0 r1 kN .byte (1 : Int32) [(.int y)] (.int 0)) (E_r1 : Exa Z h0 r1 "[B") (ge_r0 : n0 ≤ r0) (ne_sA_r0 : sA ≠ r0) (ne_bA_r0 : bA ≠ r0) (ne_oZ_r0 : oZ ≠ r0) (ge_bA : n0 ≤ bA) (ne_r0_bA : r0 ≠ bA) (ne_sA_bA : sA ≠ bA) (ge_sA : n0 ≤ sA) (ne_r0_sA : r0 ≠ sA) (ne_bA_sA : bA ≠ sA) (ne_r1_sA : r1 ≠ sA) (ne_r1_bA : r1 ≠ bA) (ne_r1_r0 : r1 ≠ r0) :
    MetFree l (⟨cS0, "offer", "([BII)V"⟩ : MethodName) (head1 (Jvm.Cond.code (⟨cS0, "offer", "([BII)V"⟩ : MethodName) prog_6_method_3_code 5 none :: ws) ({ frames := 7, cells := 3, slots := 513, locals := 110 } : Room)) (fun a U => a = #[(.ref r0), (.ref r1), (.int 0), (.int 1)] ∧ Z.Warmed39 U.vm ∧ U.heap = h0) (fun _ _ _ _ _ => True) (fun _ U o U' => ∃ v L, o = .returned v ∧ Q_3_full Z r0 r1 bA kB sA kS kN oZ kZ cZ x0 x1 x2 y h0 n0 v U'.heap L ∧ FrameEnd U o U' L ({ frames := 7, cells := 3, slots := 513, locals := 110 } : Room).cells ({ frames := 7, cells := 3, slots := 513, locals := 110 } : Room).slots) := by
  refine MetFree.of_bodySF (plainFor_of_name pn_com_example_measurewright_measurewright_cli_NameBatch) hisR ?_
  intro p e s m args below meth c s₁ Bd hml0 hP hK
  obtain ⟨rfl, hZ, hh⟩ := hP
  have hx := Bd.exec
  have hby := Bd.bytes
  have hml : c.maxLocals = 5 := hml0
  have hown : s.vm.findClass cS0 = some m.cls := findClass_of_methodNamed Bd.named
  have hnm := (name_of_methodNamed Bd.named Bd.method).1
  have X0 : Stand p l e ({ frames := 7, cells := 3, slots := 513, locals := 110 } : Room) s m #[(.ref r0), (.ref r1), (.int 0), (.int 1)] below meth c s₁ [] 0 0 := Stand.of_body Bd
  have e0 : s₁.heap = h0 := by rw [← hh, Bd.state]; rfl
  have N0 := Fr.nil n0
  have k0 : ∀ t, OwnS p e below s₁ (mkF m 0 #[rv r0, rv r1, iv 0, iv 1, .unset] []) t → OwnS p e below s₁ (entryFrame m #[(.ref r0), (.ref r1), (.int 0), (.int 1)] 5) t := fun t k => castTop (ef_3 m r0 r1 (0 : Int32) (1 : Int32)) k
  obtain ⟨T1, X1, e1, st1⟩ := getF X0 hx hZ hown (host := "") (Or.inl (own_at hw 28 rfl)) Via.refl e0 F_limit_r0 (g := (mkF m 6 #[rv r0, rv r1, iv 0, iv 1, iv 1] [(.ref r0)])) rfl rfl (hb hby d3_6)
  obtain ⟨T2, X2, e2, st2⟩ := getF X1 hx hZ hown (host := "") (Or.inl (own_at hw 30 rfl)) Via.refl e1 F_count_r0 (g := (mkF m 33 #[rv r0, rv r1, iv 0, iv 1, iv 1] [(.ref r0)])) rfl rfl (hb hby d3_33)
  obtain ⟨T3, X3, e3, st3⟩ := getF X2 hx hZ hown (host := "") (Or.inl (own_at hw 30 rfl)) Via.refl e2 F_count_r0 (g := (mkF m 41 #[rv r0, rv r1, iv 0, iv 1, iv 1] [(.ref r0)])) rfl rfl (hb hby d3_41)
  obtain ⟨T4, X4, e4, st4⟩ := getF X3 hx hZ hown (host := "") (Or.inl (own_at hw 19 rfl)) Via.refl e3 F_maxNames_r0 (g := (mkF m 45 #[rv r0, rv r1, iv 0, iv 1, iv 1] [(.ref r0), (.int 3)])) rfl rfl (hb hby d3_45)
  obtain ⟨cq5, q5, q5'⟩ := E_r0.cell
  obtain ⟨_, _, ⟨T5, L5, j5, i5⟩, -, X5, ⟨Lc5, hQ5, l5, y5, z5⟩, st5⟩ := X4.privateBack hx (y := (⟨cS0, "halve", "()V"⟩ : MethodName)) hown (mvT hZ (own_at hw 38 rfl)) (mvT hZ (own_at hw 39 rfl)) (own_selpriv (by decide) (mvT hZ (own_at hw 1 rfl)) (mvP hZ (own_at hw 40 rfl)) (mvT hZ (own_at hw 39 rfl))) (Cond.privateMethod_at (mvP hZ (own_at hw 40 rfl) (args := #[]))) (mvT hZ (own_at hw 41 rfl)) (by decide) (backOf (W := 0) (rm4 l Z a0 hw [] r0 bA kB sA kS oZ kZ cZ x0 x1 x2 h0 n0 Z0 E_r0 F_maxNames_r0 F_maxBytes_r0 F_count_r0 F_used_r0 F_bytes_r0 V_bA E_bA F_starts_r0 V_sA E_sA F_limit_r0 F_order_r0 V_oZ F_scratch_r0 ge_r0 ne_sA_r0 ne_bA_r0 ne_oZ_r0 ge_bA ne_r0_bA ne_sA_bA ge_sA ne_r0_sA ne_bA_sA) hZ (own_at hw 41 rfl) (own_at hw 2 rfl) (by decide) (by decide)) (g := (mkF m 66 #[rv r0, rv r1, iv 0, iv 1, iv 1] [(.ref r0)])) rfl (by rw [hml]; rfl) (Steps.refl _) (a := r0) (by rw [e4]; exact q5) q5' (argsL := []) (rest := []) (lenOf pd_9 rfl) rfl (Nat.le_refl _) (hb hby d3_66) (fun _ _ => ⟨rfl, e4, (by decide : 0 + 3 ≤ _), (by decide : 0 + 513 ≤ _)⟩)
  dsimp only [Pt.U, Pt.locs, Pt.cells, Pt.slots] at X5 l5 y5 z5 st5 hQ5
  subst l5 y5 z5
  obtain ⟨lim_5, oN_5, cN_5, kL_5, lb_5, e0_5, rfl, N5q, K5, p5_0, p5_1, p5_2, p5_3, p5_4, p5_5, p5_6, p5_7, p5_8, p5_9, p5_10, p5_11, p5_12, p5_13, p5_14, p5_15, p5_16⟩ := hQ5
  have pl5 := (allS (P := fun x => ∃ cell : Cell, h0[x]? = some cell ∧ cell.vm.isStatics = false) (own_ns E_r0) (allS (P := fun x => ∃ cell : Cell, h0[x]? = some cell ∧ cell.vm.isStatics = false) (own_ns E_bA) (allS (P := fun x => ∃ cell : Cell, h0[x]? = some cell ∧ cell.vm.isStatics = false) (own_ns E_sA) all0)))
  have g_lim_5 : n0 ≤ lim_5 := Nat.le_trans Z0 p5_0
  have sz_lim_5 : h0.size ≤ lim_5 := Nat.le_trans (Keep.refl h0 []).1 p5_0
  have N5 := Fr.app N0 N5q
  obtain ⟨T6, X6, e6, st6⟩ := getF X5 hx hZ hown (host := "") (Or.inl (own_at hw 28 rfl)) Via.refl rfl p5_6 (g := (mkF m 73 #[rv r0, rv r1, iv 0, iv 1, iv 1] [(.ref r0), (.int 1), (.int 0), (.ref r1)])) rfl rfl (hb hby d3_73)
  obtain ⟨T7, X7, e7, st7⟩ := getF X6 hx hZ hown (host := "") (Or.inl (own_at hw 28 rfl)) Via.refl e6 p5_6 (g := (mkF m 78 #[rv r0, rv r1, iv 0, iv 1, iv 1] [(.ref r0), (.int 0), (.ref lim_5), (.int 1), (.int 0), (.ref r1)])) rfl rfl (hb hby d3_78)
  obtain ⟨cl_z8, Ar_z8, q_z8, S_z8, N_z8, H_z8, G_z8⟩ := id p5_15
  have f10 := (V_r1.keep K5 (ninS ne_r1_r0 (ninS ne_r1_bA (ninS ne_r1_sA nin0))))
  obtain ⟨_, _, ⟨T9, L9, j9, i9⟩, -, X9, ⟨Lc9, hQ9, l9, y9, z9⟩, st9⟩ := Jvm.LawKit.callS X7 hx (y := (⟨cS1, "compareUnsigned", "([BII[BII)I"⟩ : MethodName)) hown (mvT hZ (own_at hw 63 rfl)) (mvT hZ (own_at hw 64 rfl)) (mvT hZ (own_at hw 65 rfl)) (mvT hZ (own_at hw 66 rfl)) (by decide) (backOf (W := 0) (rm10_d l Z a0 hw [] r1 lim_5 kN kL_5 y lb_5 T5.heap n0 (Nat.le_trans Z0 K5.1) f10 p5_15) hZ (own_at hw 66 rfl) (own_at hw 65 rfl) (by decide) (by decide)) (g := (mkF m 82 #[rv r0, rv r1, iv 0, iv 1, iv 1] [(.int 1), (.int 0), (.ref lim_5), (.int 1), (.int 0), (.ref r1)])) rfl (by rw [hml]; rfl) (argsL := [(.ref r1), (.int 0), (.int 1), (.ref lim_5), (.int 0), (.int 1)]) (rest := []) (lenOf pd_6 rfl) rfl (Nat.le_refl _) (hb hby d3_82) (fun _ _ => ⟨rfl, e7, (by decide : 3 + 0 ≤ _), (by decide : 513 + 0 ≤ _)⟩)
  dsimp only [Pt.U, Pt.locs, Pt.cells, Pt.slots] at X9 l9 y9 z9 st9 hQ9
  subst l9 y9 z9
  obtain ⟨rr_9, rfl, N9q, e9, -⟩ := hQ9
  have N9 := Fr.app N5 N9q
  have k12 : ∀ t, OwnS p e below T9 (mkF m 85 #[rv r0, rv r1, iv 0, iv 1, iv 1] [(.int rr_9)]) t → OwnS p e below s₁ (entryFrame m #[(.ref r0), (.ref r1), (.int 0), (.int 1)] 5) t := fun t q => by
    refine k0 t ?_
    show OwnS p e below s₁ (mkF m 0 #[rv r0, rv r1, iv 0, iv 1, .unset] []) _
    refine XS.iloadN X0.here hx rfl (hb hby d3_0) rfl ?_
    refine XS.iloadN X0.here hx rfl (hb hby d3_1) rfl ?_
    refine XS.isub X0.here hx rfl (hb hby d3_2) rfl ?_
    refine XS.istore X0.here hx rfl (hb hby d3_3) rfl (l' := #[rv r0, rv r1, iv 0, iv 1, iv 1]) rfl ?_
    refine XS.aloadN X0.here hx rfl (hb hby d3_5) rfl rfl ?_
    refine st1 _ ?_
    refine XS.ifnullYes X1.here hx rfl (pc0 := 9) (pc' := 32) rfl (hb hby d3_9) rfl (by decide) (by decide) ?_
    refine XS.aloadN X1.here hx rfl (hb hby d3_32) rfl rfl ?_
    refine st2 _ ?_
    refine XS.iconst X2.here hx rfl (hb hby d3_36) ?_
    refine XS.icmpNo X2.here hx rfl (hb hby d3_37) rfl (tlt (by decide : (1 : Int32) < (3 : Int32))).2.2.2 ?_
    refine XS.aloadN X2.here hx rfl (hb hby d3_40) rfl rfl ?_
    refine st3 _ ?_
    refine XS.aloadN X3.here hx rfl (hb hby d3_44) rfl rfl ?_
    refine st4 _ ?_
    refine XS.icmpYes X4.here hx rfl (pc0 := 48) (pc' := 65) rfl (hb hby d3_48) rfl (teq (by decide : (3 : Int32) = (3 : Int32))).1 (by decide) (by decide) ?_
    refine XS.aloadN X4.here hx rfl (hb hby d3_65) rfl rfl ?_
    refine st5.trans ?_
    refine XS.aloadN X5.here hx rfl (hb hby d3_69) rfl rfl ?_
    refine XS.iloadN X5.here hx rfl (hb hby d3_70) rfl ?_
    refine XS.iloadN X5.here hx rfl (hb hby d3_71) rfl ?_
    refine XS.aloadN X5.here hx rfl (hb hby d3_72) rfl rfl ?_
    refine st6 _ ?_
    refine XS.iconst X6.here hx rfl (hb hby d3_76) ?_
    refine XS.aloadN X6.here hx rfl (hb hby d3_77) rfl rfl ?_
    refine st7 _ ?_
    refine X7.arraylength hx (by rw [e7]; exact Ar_z8.1) (State.isArrayOf_alike hZ.alike Ar_z8.2.1) (g := (mkF m 81 #[rv r0, rv r1, iv 0, iv 1, iv 1] [(.ref lim_5), (.int 0), (.ref lim_5), (.int 1), (.int 0), (.ref r1)])) rfl rfl (hb hby d3_81) _ ?_
    rw [len_of S_z8 N_z8]
    refine st9 _ ?_
    exact q
  by_cases hc85_11 : rr_9 < (0 : Int32)
  · obtain ⟨T13, X13, e13, st13⟩ := getF X9 hx hZ hown (host := "") (Or.inl (own_at hw 30 rfl)) Via.refl e9 p5_4 (g := (mkF m 33 #[rv r0, rv r1, iv 0, iv 1, iv 1] [(.ref r0)])) rfl rfl (hb hby d3_33)
    obtain ⟨T14, X14, e14, st14⟩ := getF X13 hx hZ hown (host := "") (Or.inl (own_at hw 30 rfl)) Via.refl e13 p5_4 (g := (mkF m 90 #[rv r0, rv r1, iv 0, iv 1, iv 1] [(.ref r0)])) rfl rfl (hb hby d3_90)
    obtain ⟨T15, X15, e15, st15⟩ := getF X14 hx hZ hown (host := "") (Or.inl (own_at hw 13 rfl)) Via.refl e14 p5_10 (g := (mkF m 94 #[rv r0, rv r1, iv 0, iv 1, iv 1] [(.ref r0), (.int 1)])) rfl rfl (hb hby d3_94)
    obtain ⟨cl_z16, Ar_z16, q_z16, S_z16, N_z16, H_z16, G_z16⟩ := id p5_11
    obtain ⟨T17, X17, e17, st17⟩ := getF X15 hx hZ hown (host := "") (Or.inl (own_at hw 32 rfl)) Via.refl e15 p5_5 (g := (mkF m 126 #[rv r0, rv r1, iv 0, iv 1, iv 1] [(.ref r0)])) rfl rfl (hb hby d3_126)
    obtain ⟨T18, X18, e18, st18⟩ := getF X17 hx hZ hown (host := "") (Or.inl (own_at hw 10 rfl)) Via.refl e17 p5_7 (g := (mkF m 133 #[rv r0, rv r1, iv 0, iv 1, iv 1] [(.ref r0), (.int 2)])) rfl rfl (hb hby d3_133)
    obtain ⟨cl_z19, Ar_z19, q_z19, S_z19, N_z19, H_z19, G_z19⟩ := id p5_8
    obtain ⟨T20, X20, e20, st20⟩ := getF X18 hx hZ hown (host := "") (Or.inl (own_at hw 10 rfl)) Via.refl e18 p5_7 (g := (mkF m 178 #[rv r0, rv r1, iv 0, iv 1, iv 1] [(.ref r0), (.int 0), (.ref r1)])) rfl rfl (hb hby d3_178)
    obtain ⟨T21, X21, e21, st21⟩ := getF X20 hx hZ hown (host := "") (Or.inl (own_at hw 32 rfl)) Via.refl e20 p5_5 (g := (mkF m 182 #[rv r0, rv r1, iv 0, iv 1, iv 1] [(.ref r0), (.ref bA), (.int 0), (.ref r1)])) rfl rfl (hb hby d3_182)
    obtain ⟨T22, h22, L22, X22, e22, N22, K22, Vr22, st22⟩ := cpA X21 hx hZ hown (own_at hw 34 rfl) (own_at hw 37 rfl) (own_at hw 35 rfl) (own_at hw 36 rfl) e21 f10 p5_8 (us := [(.int y)]) (Or.inl ⟨rfl, rfl⟩) (by decide) (by decide) (by decide) (by decide) (by decide) rfl (Nat.le_of_ble_eq_true rfl) N9 ge_bA (g := (mkF m 187 #[rv r0, rv r1, iv 0, iv 1, iv 1] [(.int 1), (.int 1), (.ref bA), (.int 0), (.ref r1)])) rfl (by rw [hml]; rfl) rfl (hb hby d3_187) (by decide) (W := 0) (Nat.le_refl _) (by decide)
    have pl22 := (allS (P := fun x => ∃ cell : Cell, T5.heap[x]? = some cell ∧ cell.vm.isStatics = false) (own_ns p5_9) all0)
    have V22 : Arv Z h22 bA kB .byte (4096 : Int32) [(.int e0_5), (.int y), (.int x2)] (.int 0) := Vr22
    have f23 := (p5_10.keep K22 (ninS ne_r0_bA nin0))
    obtain ⟨T24, X24, e24, st24⟩ := getF X22 hx hZ hown (host := "") (Or.inl (own_at hw 13 rfl)) Via.refl e22 f23 (g := (mkF m 191 #[rv r0, rv r1, iv 0, iv 1, iv 1] [(.ref r0)])) rfl rfl (hb hby d3_191)
    have f25 := (p5_4.keep K22 (ninS ne_r0_bA nin0))
    obtain ⟨T26, X26, e26, st26⟩ := getF X24 hx hZ hown (host := "") (Or.inl (own_at hw 30 rfl)) Via.refl e24 f25 (g := (mkF m 196 #[rv r0, rv r1, iv 0, iv 1, iv 1] [(.ref r0), (.ref r0), (.ref sA)])) rfl rfl (hb hby d3_196)
    have f27 := (p5_1.keep K22)
    obtain ⟨T28, h28, X28, e28, W28, st28⟩ := putF X26 hx hZ hown (host := "") (Or.inl (own_at hw 30 rfl)) Via.refl e26 f25 f27 (Or.inl (own_at hw 31 rfl)) (own_at hw 1 rfl) (ty := .int) (by decide) rfl rfl (g := (mkF m 202 #[rv r0, rv r1, iv 0, iv 1, iv 1] [(.int 2), (.ref r0), (.int 1), (.ref sA)])) rfl rfl (hb hby d3_202)
    have Fw28 : Fld Z h28 r0 cS0 "count" "I" (.int 2) := f25.same W28
    have N28 := Fr.snoc X28 N22 ge_r0
    have f29 := ((p5_5.keep K22 (ninS ne_r0_bA nin0)).other W28 (Or.inr (slot_ne (Or.inl (own_at hw 33 rfl)) (Or.inl (own_at hw 31 rfl)) (by decide) (t := .int) (t' := .int) (by decide) (by decide))))
    obtain ⟨T30, X30, e30, st30⟩ := getF X28 hx hZ hown (host := "") (Or.inl (own_at hw 32 rfl)) Via.refl e28 f29 (g := (mkF m 206 #[rv r0, rv r1, iv 0, iv 1, iv 1] [(.ref r0), (.int 1), (.ref sA)])) rfl rfl (hb hby d3_206)
    have f31 := ((p5_11.keep K22 (ninS ne_sA_bA nin0)).other W28 ne_sA_r0)
    obtain ⟨cl_z32, Ar_z32, q_z32, S_z32, N_z32, H_z32, G_z32⟩ := id f31
    have hin33 : ¬ ((1 : Int32) < 0 ∨ cl_z32.slots.size ≤ ((1 : Int32)).toNatClampNeg) := inb_of S_z32 ⟨by decide, by decide⟩
    obtain ⟨T34, h34, X34, e34, W34, st34⟩ := stI X30 hx hZ e30 Ar_z32 (j := (1 : Int32)) hin33 (g := (mkF m 209 #[rv r0, rv r1, iv 0, iv 1, iv 1] [(.int 1), (.int 1), (.ref sA)])) rfl rfl (hb hby d3_209)
    have V34 : Arv Z h34 sA kS .int (256 : Int32) [(.int 0), (.int 1), (.int 2)] (.int 0) := Arv.set Ar_z32 q_z32 S_z32 N_z32 H_z32 G_z32 rfl W34 1 rfl (Nat.le_of_ble_eq_true rfl)
    have N34 := Fr.snoc X34 N28 ge_sA
    have f35 := (f29.other W34 (Or.inl ne_r0_sA))
    obtain ⟨T36, X36, e36, st36⟩ := getF X34 hx hZ hown (host := "") (Or.inl (own_at hw 32 rfl)) Via.refl e34 f35 (g := (mkF m 212 #[rv r0, rv r1, iv 0, iv 1, iv 1] [(.ref r0), (.ref r0)])) rfl rfl (hb hby d3_212)
    have f37 := ((f27.wr W28).wr W34)
    obtain ⟨T38, h38, X38, e38, W38, st38⟩ := putF X36 hx hZ hown (host := "") (Or.inl (own_at hw 32 rfl)) Via.refl e36 f35 f37 (Or.inl (own_at hw 33 rfl)) (own_at hw 1 rfl) (ty := .int) (by decide) rfl rfl (g := (mkF m 218 #[rv r0, rv r1, iv 0, iv 1, iv 1] [(.int 2), (.ref r0)])) rfl rfl (hb hby d3_218)
    have Fw38 : Fld Z h38 r0 cS0 "used" "I" (.int 2) := f35.same W38
    have N38 := Fr.snoc X38 N34 ge_r0
    have f39 := (f37.wr W38)
    have f40 := ((((p5_2.keep K22 (ninS ne_r0_bA nin0)).other W28 (Or.inr (slot_ne (Or.inr (own_at hw 20 rfl)) (Or.inl (own_at hw 31 rfl)) (by decide) (t := .int) (t' := .int) (by decide) (by decide)))).other W34 (Or.inl ne_r0_sA)).other W38 (Or.inr (slot_ne (Or.inr (own_at hw 20 rfl)) (Or.inl (own_at hw 33 rfl)) (by decide) (t := .int) (t' := .int) (by decide) (by decide))))
    have f41 := ((((p5_3.keep K22 (ninS ne_r0_bA nin0)).other W28 (Or.inr (slot_ne (Or.inr (own_at hw 22 rfl)) (Or.inl (own_at hw 31 rfl)) (by decide) (t := .int) (t' := .int) (by decide) (by decide)))).other W34 (Or.inl ne_r0_sA)).other W38 (Or.inr (slot_ne (Or.inr (own_at hw 22 rfl)) (Or.inl (own_at hw 33 rfl)) (by decide) (t := .int) (t' := .int) (by decide) (by decide))))
    have f42 := ((Fw28.other W34 (Or.inl ne_r0_sA)).other W38 (Or.inr (slot_ne (Or.inl (own_at hw 31 rfl)) (Or.inl (own_at hw 33 rfl)) (by decide) (t := .int) (t' := .int) (by decide) (by decide))))
    have f43 := ((((p5_6.keep K22 (ninS ne_r0_bA nin0)).other W28 (Or.inr (slot_ne (Or.inl (own_at hw 29 rfl)) (Or.inl (own_at hw 31 rfl)) (by decide) (t := (.array .byte)) (t' := .int) (by decide) (by decide)))).other W34 (Or.inl ne_r0_sA)).other W38 (Or.inr (slot_ne (Or.inl (own_at hw 29 rfl)) (Or.inl (own_at hw 33 rfl)) (by decide) (t := (.array .byte)) (t' := .int) (by decide) (by decide))))
    have f44 := ((((p5_7.keep K22 (ninS ne_r0_bA nin0)).other W28 (Or.inr (slot_ne (Or.inl (own_at hw 11 rfl)) (Or.inl (own_at hw 31 rfl)) (by decide) (t := (.array .byte)) (t' := .int) (by decide) (by decide)))).other W34 (Or.inl ne_r0_sA)).other W38 (Or.inr (slot_ne (Or.inl (own_at hw 11 rfl)) (Or.inl (own_at hw 33 rfl)) (by decide) (t := (.array .byte)) (t' := .int) (by decide) (by decide))))
    have f45 := (((V22.other W28 ne_bA_r0).other W34 ne_bA_sA).other W38 ne_bA_r0)
    have f46 := ((((p5_9.keep K22).wr W28).wr W34).wr W38)
    have f47 := (((f23.other W28 (Or.inr (slot_ne (Or.inl (own_at hw 14 rfl)) (Or.inl (own_at hw 31 rfl)) (by decide) (t := (.array .int)) (t' := .int) (by decide) (by decide)))).other W34 (Or.inl ne_r0_sA)).other W38 (Or.inr (slot_ne (Or.inl (own_at hw 14 rfl)) (Or.inl (own_at hw 33 rfl)) (by decide) (t := (.array .int)) (t' := .int) (by decide) (by decide))))
    have f48 := (V34.other W38 ne_sA_r0)
    have f49 := ((((p5_12.keep K22).wr W28).wr W34).wr W38)
    have f50 := ((((p5_13.keep K22 (ninS ne_r0_bA nin0)).other W28 (Or.inr (slot_ne (Or.inl (own_at hw 16 rfl)) (Or.inl (own_at hw 31 rfl)) (by decide) (t := (.array .int)) (t' := .int) (by decide) (by decide)))).other W34 (Or.inl ne_r0_sA)).other W38 (Or.inr (slot_ne (Or.inl (own_at hw 16 rfl)) (Or.inl (own_at hw 33 rfl)) (by decide) (t := (.array .int)) (t' := .int) (by decide) (by decide))))
    have f51 := ((((p5_14.keep K22 (ninS ne_r0_bA nin0)).other W28 (Or.inr (slot_ne (Or.inl (own_at hw 18 rfl)) (Or.inl (own_at hw 31 rfl)) (by decide) (t := (.array .int)) (t' := .int) (by decide) (by decide)))).other W34 (Or.inl ne_r0_sA)).other W38 (Or.inr (slot_ne (Or.inl (own_at hw 18 rfl)) (Or.inl (own_at hw 33 rfl)) (by decide) (t := (.array .int)) (t' := .int) (by decide) (by decide))))
    obtain ⟨fs, hr, hrun, hended, hW, hsame⟩ := X38.leave (v := none) (fun _ => rfl)
    refine ⟨_, _, k12 _ ?_, hrun, hended, _, _, rfl, ?_, ⟨_, rfl⟩, hW, hsame.mono (by decide) (by decide)⟩
    · refine XS.ifYes X9.here hx rfl (pc0 := 85) (pc' := 32) rfl (hb hby d3_85) rfl ((if0 _ _).trans (tlt hc85_11).1) (by decide) (by decide) ?_
      refine XS.aloadN X9.here hx rfl (hb hby d3_32) rfl rfl ?_
      refine st13 _ ?_
      refine XS.iconst X13.here hx rfl (hb hby d3_36) ?_
      refine XS.icmpYes X13.here hx rfl (pc0 := 37) (pc' := 89) rfl (hb hby d3_37) rfl (flt (by decide : ¬ ((1 : Int32) < (1 : Int32)))).2.2.2 (by decide) (by decide) ?_
      refine XS.aloadN X13.here hx rfl (hb hby d3_89) rfl rfl ?_
      refine st14 _ ?_
      refine XS.aloadN X14.here hx rfl (hb hby d3_93) rfl rfl ?_
      refine st15 _ ?_
      refine X15.arraylength hx (by rw [e15]; exact Ar_z16.1) (State.isArrayOf_alike hZ.alike Ar_z16.2.1) (g := (mkF m 97 #[rv r0, rv r1, iv 0, iv 1, iv 1] [(.ref sA), (.int 1)])) rfl rfl (hb hby d3_97) _ ?_
      rw [len_of S_z16 N_z16]
      refine XS.icmpYes X15.here hx rfl (pc0 := 98) (pc' := 125) rfl (hb hby d3_98) rfl (feq (by decide : ¬ ((1 : Int32) = (256 : Int32)))).2 (by decide) (by decide) ?_
      refine XS.aloadN X15.here hx rfl (hb hby d3_125) rfl rfl ?_
      refine st17 _ ?_
      refine XS.iload X17.here hx rfl (hb hby d3_129) rfl ?_
      refine XS.iadd X17.here hx rfl (hb hby d3_131) rfl ?_
      refine XS.aloadN X17.here hx rfl (hb hby d3_132) rfl rfl ?_
      refine st18 _ ?_
      refine X18.arraylength hx (by rw [e18]; exact Ar_z19.1) (State.isArrayOf_alike hZ.alike Ar_z19.2.1) (g := (mkF m 136 #[rv r0, rv r1, iv 0, iv 1, iv 1] [(.ref bA), (.int 2)])) rfl rfl (hb hby d3_136) _ ?_
      rw [len_of S_z19 N_z19]
      refine XS.icmpYes X18.here hx rfl (pc0 := 137) (pc' := 175) rfl (hb hby d3_137) rfl (flt (by decide : ¬ ((4096 : Int32) < (2 : Int32)))).2.2.2 (by decide) (by decide) ?_
      refine XS.aloadN X18.here hx rfl (hb hby d3_175) rfl rfl ?_
      refine XS.iloadN X18.here hx rfl (hb hby d3_176) rfl ?_
      refine XS.aloadN X18.here hx rfl (hb hby d3_177) rfl rfl ?_
      refine st20 _ ?_
      refine XS.aloadN X20.here hx rfl (hb hby d3_181) rfl rfl ?_
      refine st21 _ ?_
      refine XS.iload X21.here hx rfl (hb hby d3_185) rfl ?_
      refine st22 _ ?_
      refine XS.aloadN X22.here hx rfl (hb hby d3_190) rfl rfl ?_
      refine st24 _ ?_
      refine XS.aloadN X24.here hx rfl (hb hby d3_194) rfl rfl ?_
      refine XS.dup X24.here hx rfl (hb hby d3_195) rfl rfl ?_
      refine st26 _ ?_
      refine XS.dupX1 X26.here hx rfl (hb hby d3_199) rfl rfl rfl ?_
      refine XS.iconst X26.here hx rfl (hb hby d3_200) ?_
      refine XS.iadd X26.here hx rfl (hb hby d3_201) rfl ?_
      refine st28 _ ?_
      refine XS.aloadN X28.here hx rfl (hb hby d3_205) rfl rfl ?_
      refine st30 _ ?_
      show OwnS p e below T30 (mkF m 209 #[rv r0, rv r1, iv 0, iv 1, iv 1] [(.int 1), (.int 1), (.ref sA)]) _
      refine st34 _ ?_
      refine XS.aloadN X34.here hx rfl (hb hby d3_210) rfl rfl ?_
      refine XS.dup X34.here hx rfl (hb hby d3_211) rfl rfl ?_
      refine st36 _ ?_
      refine XS.iload X36.here hx rfl (hb hby d3_215) rfl ?_
      refine XS.iadd X36.here hx rfl (hb hby d3_217) rfl ?_
      refine st38 _ ?_
      exact X38.returnOut hx Bd.returns (hb hby d3_221) hr
    · show Q_3_full Z r0 r1 bA kB sA kS kN oZ kZ cZ x0 x1 x2 y h0 n0 _ T38.heap _
      rw [e38]
      exact ⟨lim_5, oN_5, cN_5, e0_5, y, x2, (0 : Int32), (1 : Int32), (2 : Int32), (2 : Int32), (2 : Int32), rfl, N38, ((((((Keep.refl h0 [r0, bA, sA]).trans K5 (allS (Or.inl (List.mem_of_getElem? (i := 0) rfl)) (allS (Or.inl (List.mem_of_getElem? (i := 1) rfl)) (allS (Or.inl (List.mem_of_getElem? (i := 2) rfl)) all0)))).trans K22 (allS (Or.inl (List.mem_of_getElem? (i := 1) rfl)) all0)).wr W28 (Or.inl (List.mem_of_getElem? (i := 0) rfl))).wr W34 (Or.inl (List.mem_of_getElem? (i := 2) rfl))).wr W38 (Or.inl (List.mem_of_getElem? (i := 0) rfl))), f39, f40, f41, f42, Fw38, f43, f44, f45, f46, f47, f48, f49, f50, f51⟩
  · obtain ⟨fs, hr, hrun, hended, hW, hsame⟩ := X9.leave (v := none) (fun _ => rfl)
    refine ⟨_, _, k12 _ ?_, hrun, hended, _, _, rfl, ?_, ⟨_, rfl⟩, hW, hsame.mono (by decide) (by decide)⟩
    · refine XS.ifNo X9.here hx rfl (hb hby d3_85) rfl ((if0 _ _).trans (flt hc85_11).1) ?_
      exact X9.returnOut hx Bd.returns (hb hby d3_88) hr
    · show Q_3_full Z r0 r1 bA kB sA kS kN oZ kZ cZ x0 x1 x2 y h0 n0 _ T9.heap _
      rw [e9]
      exact ⟨lim_5, oN_5, cN_5, e0_5, x1, x2, (0 : Int32), (1 : Int32), (2 : Int32), (1 : Int32), (1 : Int32), rfl, N9, ((Keep.refl h0 [r0, bA, sA]).trans K5 (allS (Or.inl (List.mem_of_getElem? (i := 0) rfl)) (allS (Or.inl (List.mem_of_getElem? (i := 1) rfl)) (allS (Or.inl (List.mem_of_getElem? (i := 2) rfl)) all0)))), p5_1, p5_2, p5_3, p5_4, p5_5, p5_6, p5_7, p5_8, p5_9, p5_10, p5_11, p5_12, p5_13, p5_14⟩
theorem pd_10 : parseMethodDescriptor "([BII)V" = some ⟨[(.array .byte), .int, .int], none⟩ := by decide +kernel
theorem pd_11 : parseMethodDescriptor "()Z" = some ⟨[], some .boolean⟩ := by decide +kernel
theorem pd_12 : parseMethodDescriptor "()I" = some ⟨[], some .int⟩ := by decide +kernel
theorem pn_com_example_measurewright_measurewright_cli_NameBatchClearPinLaw : plainName "com/example/measurewright/measurewright/cli/NameBatchClearPinLaw" = true := by first | (simp [plainName, overriddenIn]; done) | decide +kernel
theorem ef_0 (m : MethodId) (x0 : Int32) (x1 : Int32) : entryFrame m #[(.int x0), (.int x1)] maxLocals = mkF m 0 #[.val (.int x0), .val (.int x1), .unset, .unset, .unset, .unset] [] := by first | (simp [entryFrame, mkF, argsToLocals, Value.category, maxLocals]; done) | rfl
def Q_0 (Z : State) (p0 : Int32) (p1 : Int32) (h0 : Heap) (n0 : Nat) (v : Option Value) (h : Heap) (L : List Loc) : Prop := v = some (.int 1) ∧ Fr n0 L ∧ True
set_option maxRecDepth 65536 in
set_option maxHeartbeats 40000000 in
theorem rm0 (l : Launch) (Z : State) (a0 : Array Value) (hw : ∀ d ∈ tables_1, d.before a0 Z = true) (ws : List Jvm.Cond) (p0 : Int32) (p1 : Int32) (h0 : Heap) (n0 : Nat) (Z0 : n0 ≤ h0.size) :
    MetFree l x (head1 (Jvm.Cond.code x code maxLocals ret :: ws) room_1) (fun a U => a = #[(.int p0), (.int p1)] ∧ Z.Warmed39 U.vm ∧ U.heap = h0) (fun _ _ _ _ _ => True) (fun _ U o U' => ∃ v L, o = .returned v ∧ Q_0 Z p0 p1 h0 n0 v U'.heap L ∧ FrameEnd U o U' L room_1.cells room_1.slots) := by
  refine MetFree.of_bodySF (plainFor_of_name pn_com_example_measurewright_measurewright_cli_NameBatchClearPinLaw) hisR ?_
  intro p e s m args below meth c s₁ Bd hml0 hP hK
  obtain ⟨rfl, hZ, hh⟩ := hP
  have hx := Bd.exec
  have hby := Bd.bytes
  have hml : c.maxLocals = 6 := hml0
  have hown : s.vm.findClass "com/example/measurewright/measurewright/cli/NameBatchClearPinLaw" = some m.cls := findClass_of_methodNamed Bd.named
  have hnm := (name_of_methodNamed Bd.named Bd.method).1
  have X0 : Stand p l e room_1 s m #[(.int p0), (.int p1)] below meth c s₁ [] 0 0 := Stand.of_body Bd
  have e0 : s₁.heap = h0 := by rw [← hh, Bd.state]; rfl
  have N0 := Fr.nil n0
  have k0 : ∀ t, OwnS p e below s₁ (mkF m 0 #[iv p0, iv p1, .unset, .unset, .unset, .unset] []) t → OwnS p e below s₁ (entryFrame m #[(.int p0), (.int p1)] maxLocals) t := fun t k => castTop (ef_0 m p0 p1) k
  obtain ⟨T1, h1, X1, e1, E1, A1, D1, -, st1⟩ := newO X0 hx hZ hown (own_at hw 0 rfl) (own_at hw 1 rfl) (own_at hw 2 rfl) e0 (g := (mkF m 0 #[iv p0, iv p1, .unset, .unset, .unset, .unset] [])) rfl (hb hby at_0) (by decide) (by decide)
  obtain ⟨b1, g1⟩ : ∃ z, z = h0.size := ⟨_, rfl⟩
  rw [← g1] at A1 D1 st1
  have g_b1 : n0 ≤ b1 := Nat.le_trans Z0 (Nat.le_of_eq g1.symm)
  have sz_b1 : h0.size ≤ b1 := Nat.le_trans (Keep.refl h0 []).1 (Nat.le_of_eq g1.symm)
  have F_bytes_b1 : Fld Z h1 b1 cS0 "bytes" "[B" .null := D1 (Or.inl (own_at hw 11 rfl)) (ty := (.array .byte)) (by decide)
  have F_starts_b1 : Fld Z h1 b1 cS0 "starts" "[I" .null := D1 (Or.inl (own_at hw 14 rfl)) (ty := (.array .int)) (by decide)
  have F_order_b1 : Fld Z h1 b1 cS0 "order" "[I" .null := D1 (Or.inl (own_at hw 16 rfl)) (ty := (.array .int)) (by decide)
  have F_scratch_b1 : Fld Z h1 b1 cS0 "scratch" "[I" .null := D1 (Or.inl (own_at hw 18 rfl)) (ty := (.array .int)) (by decide)
  have F_maxNames_b1 : Fld Z h1 b1 cS0 "maxNames" "I" (.int 0) := D1 (Or.inr (own_at hw 20 rfl)) (ty := .int) (by decide)
  have F_maxBytes_b1 : Fld Z h1 b1 cS0 "maxBytes" "I" (.int 0) := D1 (Or.inr (own_at hw 22 rfl)) (ty := .int) (by decide)
  have F_limit_b1 : Fld Z h1 b1 cS0 "limit" "[B" .null := D1 (Or.inl (own_at hw 29 rfl)) (ty := (.array .byte)) (by decide)
  have F_count_b1 : Fld Z h1 b1 cS0 "count" "I" (.int 0) := D1 (Or.inl (own_at hw 31 rfl)) (ty := .int) (by decide)
  have F_used_b1 : Fld Z h1 b1 cS0 "used" "I" (.int 0) := D1 (Or.inl (own_at hw 33 rfl)) (ty := .int) (by decide)
  obtain ⟨_, _, ⟨T2, L2, j2, i2⟩, -, X2, ⟨Lc2, hQ2, l2, y2, z2⟩, st2⟩ := X1.specialBack hx (y := (⟨cS0, "<init>", "(II)V"⟩ : MethodName)) rfl hown (mvT hZ (own_at hw 3 rfl)) (mvT hZ (own_at hw 4 rfl)) (mvT hZ (own_at hw 5 rfl)) (by decide) (backOf (W := 1) (rm1 l Z a0 hw [] b1 (3 : Int32) (3 : Int32) .null .null .null .null (.int 0) (.int 0) h1 n0 (Nat.le_trans Z0 E1.1) A1 F_limit_b1 F_count_b1 F_used_b1 F_bytes_b1 g_b1 F_starts_b1 F_order_b1 F_scratch_b1 F_maxNames_b1 F_maxBytes_b1) hZ (own_at hw 5 rfl) (own_at hw 2 rfl) (by decide) (by decide)) (g := (mkF m 6 #[iv p0, iv p1, .unset, .unset, .unset, .unset] [(.int 3), (.int 3), (.ref b1), (.ref b1)])) rfl (by rw [hml]; rfl) (Steps.refl _) (a := b1) (argsL := [(.int 3), (.int 3)]) (rest := [(.ref b1)]) (lenOf pd_7 rfl) rfl (Nat.le_refl _) (hb hby at_6) (fun _ _ => ⟨rfl, e1, (by decide : 1 + 4 ≤ _), (by decide : 9 + 4352 ≤ _)⟩)
  dsimp only [Pt.U, Pt.locs, Pt.cells, Pt.slots] at X2 l2 y2 z2 st2 hQ2
  subst l2 y2 z2
  obtain ⟨bA_2, sA_2, oA_2, cA_2, kB_2, kS_2, kO_2, kC_2, rfl, N2q, K2, p2_0, p2_1, p2_2, p2_3, p2_4, p2_5, p2_6, p2_7, p2_8, p2_9, p2_10, p2_11, p2_12, p2_13, p2_14, p2_15, p2_16, p2_17, p2_18, p2_19, p2_20⟩ := hQ2
  have pl2 := (allS (P := fun x => ∃ cell : Cell, h1[x]? = some cell ∧ cell.vm.isStatics = false) (own_ns A1) all0)
  have g_bA_2 : n0 ≤ bA_2 := Nat.le_trans (Nat.le_trans Z0 E1.1) p2_0
  have sz_bA_2 : h0.size ≤ bA_2 := Nat.le_trans ((Keep.refl h0 []).ext E1).1 p2_0
  have g_sA_2 : n0 ≤ sA_2 := Nat.le_trans (Nat.le_trans Z0 E1.1) p2_1
  have sz_sA_2 : h0.size ≤ sA_2 := Nat.le_trans ((Keep.refl h0 []).ext E1).1 p2_1
  have g_oA_2 : n0 ≤ oA_2 := Nat.le_trans (Nat.le_trans Z0 E1.1) p2_2
  have sz_oA_2 : h0.size ≤ oA_2 := Nat.le_trans ((Keep.refl h0 []).ext E1).1 p2_2
  have N2 := Fr.app N0 N2q
  obtain ⟨T3, h3, k3, X3, e3, E3, A3, EA3, st3⟩ := newPE X2 hx hZ (own_at hw 9 rfl) rfl (g := (mkF m 12 #[iv p0, iv p1, rv b1, .unset, .unset, .unset] [(.int 1), (.ref b1)])) rfl (hb hby at_12) rfl (by decide) (cap := 1) (by decide) (by decide) (by decide) (by decide) (ad := "[B") (by decide)
  obtain ⟨b3, g3⟩ : ∃ z, z = T2.heap.size := ⟨_, rfl⟩
  rw [← g3] at A3 EA3 st3
  have g_b3 : n0 ≤ b3 := Nat.le_trans (Nat.le_trans (Nat.le_trans Z0 E1.1) K2.1) (Nat.le_of_eq g3.symm)
  have sz_b3 : h0.size ≤ b3 := Nat.le_trans (((Keep.refl h0 []).ext E1).trans K2 (allS (Or.inr sz_b1) all0)).1 (Nat.le_of_eq g3.symm)
  have V_b3 : Arv Z h3 b3 k3 .byte (1 : Int32) [(.int 0)] (.int 0) := (Arv.new A3 (by decide)).pad (pad_rep [] (.int 0) 1)
  obtain ⟨cl_z4, Ar_z4, q_z4, S_z4, N_z4, H_z4, G_z4⟩ := id V_b3
  have hin5 : ¬ ((0 : Int32) < 0 ∨ cl_z4.slots.size ≤ ((0 : Int32)).toNatClampNeg) := inb_of S_z4 ⟨by decide, by decide⟩
  obtain ⟨T6, h6, X6, e6, W6, st6⟩ := stB X3 hx hZ e3 Ar_z4 (j := (0 : Int32)) hin5 (g := (mkF m 18 #[iv p0, iv p1, rv b1, .unset, .unset, .unset] [(.int (p0.toInt8.toInt32)), (.int 0), (.ref b3), (.ref b3), (.ref b1)])) rfl rfl (hb hby at_18)
  have V6 : Arv Z h6 b3 k3 .byte (1 : Int32) [(.int ((p0.toInt8.toInt32).toInt8.toInt32))] (.int 0) := Arv.set Ar_z4 q_z4 S_z4 N_z4 H_z4 G_z4 (fits_nar_byte _) W6 0 rfl (Nat.le_of_ble_eq_true rfl)
  have N6 := Fr.snoc X6 N2 g_b3
  have f8 := ((p2_6.ext E3).wr W6)
  have f9 := ((p2_7.ext E3).other W6 (Or.inl (Nat.ne_of_lt (Nat.lt_of_lt_of_le p2_6.lt (Nat.le_of_eq g3.symm)))))
  have f10 := ((p2_8.ext E3).other W6 (Or.inl (Nat.ne_of_lt (Nat.lt_of_lt_of_le p2_6.lt (Nat.le_of_eq g3.symm)))))
  have f11 := ((p2_9.ext E3).other W6 (Or.inl (Nat.ne_of_lt (Nat.lt_of_lt_of_le p2_6.lt (Nat.le_of_eq g3.symm)))))
  have f12 := ((p2_10.ext E3).other W6 (Or.inl (Nat.ne_of_lt (Nat.lt_of_lt_of_le p2_6.lt (Nat.le_of_eq g3.symm)))))
  have f13 := ((p2_11.ext E3).other W6 (Or.inl (Nat.ne_of_lt (Nat.lt_of_lt_of_le p2_6.lt (Nat.le_of_eq g3.symm)))))
  have f14 := ((p2_12.ext E3).other W6 (Or.inl (Nat.ne_of_lt (Nat.lt_of_lt_of_le p2_6.lt (Nat.le_of_eq g3.symm)))))
  have f15 := ((p2_13.ext E3).other W6 (Nat.ne_of_lt (Nat.lt_of_lt_of_le p2_13.lt (Nat.le_of_eq g3.symm))))
  have f16 := ((p2_14.ext E3).wr W6)
  have f17 := ((p2_15.ext E3).other W6 (Or.inl (Nat.ne_of_lt (Nat.lt_of_lt_of_le p2_6.lt (Nat.le_of_eq g3.symm)))))
  have f18 := ((p2_16.ext E3).other W6 (Nat.ne_of_lt (Nat.lt_of_lt_of_le p2_16.lt (Nat.le_of_eq g3.symm))))
  have f19 := ((p2_17.ext E3).wr W6)
  have f20 := ((p2_18.ext E3).other W6 (Or.inl (Nat.ne_of_lt (Nat.lt_of_lt_of_le p2_6.lt (Nat.le_of_eq g3.symm)))))
  have f21 := ((p2_20.ext E3).other W6 (Or.inl (Nat.ne_of_lt (Nat.lt_of_lt_of_le p2_6.lt (Nat.le_of_eq g3.symm)))))
  have f22 := (EA3.wr W6)
  obtain ⟨cq7, kq7, q7a, q7b, q7c⟩ := isOf hZ e6 f8
  obtain ⟨_, _, ⟨T7, L7, j7, i7⟩, -, X7, ⟨Lc7, hQ7, l7, y7, z7⟩, st7⟩ := X6.virtualBack hx (y := (⟨cS0, "offer", "([BII)V"⟩ : MethodName)) (z := (⟨cS0, "offer", "([BII)V"⟩ : MethodName)) hown (mvT hZ (own_at hw 23 rfl)) (mvT hZ (own_at hw 24 rfl)) (notFace_of_selects (args := #[]) (mvT hZ (own_at hw 26 rfl))) (mvT hZ (own_at hw 26 rfl)) (mvT hZ (own_at hw 25 rfl)) (by decide) (backOf (W := 0) (rm3_0 l Z a0 hw [] b1 b3 bA_2 kB_2 sA_2 kS_2 oA_2 cA_2 k3 (0 : Int32) (0 : Int32) (0 : Int32) (0 : Int32) (0 : Int32) (0 : Int32) ((p0.toInt8.toInt32).toInt8.toInt32) h6 n0 (Nat.le_trans (Nat.le_trans (Nat.le_trans (Nat.le_trans Z0 E1.1) K2.1) E3.1) (Keep.of_wr W6).1) f8 f9 f10 f11 f12 f13 f14 f15 f16 f17 f18 f19 f20 f21 V6 f22 g_bA_2 (Nat.ne_of_lt (Nat.lt_of_lt_of_le A1.lt p2_0)) g_b1 (Ne.symm p2_3) (Ne.symm (Nat.ne_of_lt (Nat.lt_of_lt_of_le A1.lt p2_1))) g_sA_2 (Nat.ne_of_lt (Nat.lt_of_lt_of_le A1.lt p2_1)) (Ne.symm (Nat.ne_of_lt (Nat.lt_of_lt_of_le A1.lt p2_0))) p2_3) hZ (own_at hw 27 rfl) (own_at hw 2 rfl) (by decide) (by decide)) q7a q7c (g := (mkF m 21 #[iv p0, iv p1, rv b1, .unset, .unset, .unset] [(.int 1), (.int 0), (.ref b3), (.ref b1)])) rfl (by rw [hml]; rfl) (Steps.refl _) (argsL := [(.ref b3), (.int 0), (.int 1)]) (rest := []) (lenOf pd_10 rfl) rfl (Nat.le_refl _) (hb hby at_21) (fun _ _ => ⟨rfl, e6, (by decide : 6 + 0 ≤ _), (by decide : 4362 + 0 ≤ _)⟩)
  dsimp only [Pt.U, Pt.locs, Pt.cells, Pt.slots] at X7 l7 y7 z7 st7 hQ7
  subst l7 y7 z7
  have f23 := ((p2_19.ext E3).other W6 (Nat.ne_of_lt (Nat.lt_of_lt_of_le p2_19.lt (Nat.le_of_eq g3.symm))))
  obtain ⟨rfl, N7q, K7, p7_0, p7_1, p7_2, p7_3, p7_4, p7_5, p7_6, p7_7, p7_8, p7_9, p7_10, p7_11, p7_12, p7_13⟩ := hQ7
  have pl7 := (allS (P := fun x => ∃ cell : Cell, h6[x]? = some cell ∧ cell.vm.isStatics = false) (own_ns f8) (allS (P := fun x => ∃ cell : Cell, h6[x]? = some cell ∧ cell.vm.isStatics = false) (own_ns f16) (allS (P := fun x => ∃ cell : Cell, h6[x]? = some cell ∧ cell.vm.isStatics = false) (own_ns f19) all0)))
  have N7 := Fr.app N6 N7q
  have f24 := (f23.keep K7 (ninS (Ne.symm (Nat.ne_of_lt (Nat.lt_of_lt_of_le A1.lt p2_2))) (ninS p2_4 (ninS p2_5 nin0))))
  have f25 := (f22.keep K7)
  obtain ⟨T26, h26, k26, X26, e26, E26, A26, EA26, st26⟩ := newPE X7 hx hZ (own_at hw 9 rfl) rfl (g := (mkF m 26 #[iv p0, iv p1, rv b1, .unset, .unset, .unset] [(.int 1), (.ref b1)])) rfl (hb hby at_26) rfl (by decide) (cap := 1) (by decide) (by decide) (by decide) (by decide) (ad := "[B") (by decide)
  obtain ⟨b26, g26⟩ : ∃ z, z = T7.heap.size := ⟨_, rfl⟩
  rw [← g26] at A26 EA26 st26
  have g_b26 : n0 ≤ b26 := Nat.le_trans (Nat.le_trans (Nat.le_trans (Nat.le_trans (Nat.le_trans (Nat.le_trans Z0 E1.1) K2.1) E3.1) (Keep.of_wr W6).1) K7.1) (Nat.le_of_eq g26.symm)
  have sz_b26 : h0.size ≤ b26 := Nat.le_trans ((((((Keep.refl h0 []).ext E1).trans K2 (allS (Or.inr sz_b1) all0)).ext E3).wr W6 (Or.inr sz_b3)).trans K7 (allS (Or.inr sz_b1) (allS (Or.inr sz_bA_2) (allS (Or.inr sz_sA_2) all0)))).1 (Nat.le_of_eq g26.symm)
  have V_b26 : Arv Z h26 b26 k26 .byte (1 : Int32) [(.int 0)] (.int 0) := (Arv.new A26 (by decide)).pad (pad_rep [] (.int 0) 1)
  obtain ⟨cl_z27, Ar_z27, q_z27, S_z27, N_z27, H_z27, G_z27⟩ := id V_b26
  have hin28 : ¬ ((0 : Int32) < 0 ∨ cl_z27.slots.size ≤ ((0 : Int32)).toNatClampNeg) := inb_of S_z27 ⟨by decide, by decide⟩
  obtain ⟨T29, h29, X29, e29, W29, st29⟩ := stB X26 hx hZ e26 Ar_z27 (j := (0 : Int32)) hin28 (g := (mkF m 35 #[iv p0, iv p1, rv b1, .unset, .unset, .unset] [(.int (((p0.toUInt32 >>> ((8 : Int32) &&& 31).toUInt32).toInt32).toInt8.toInt32)), (.int 0), (.ref b26), (.ref b26), (.ref b1)])) rfl rfl (hb hby at_35)
  have V29 : Arv Z h29 b26 k26 .byte (1 : Int32) [(.int ((((p0.toUInt32 >>> ((8 : Int32) &&& 31).toUInt32).toInt32).toInt8.toInt32).toInt8.toInt32))] (.int 0) := Arv.set Ar_z27 q_z27 S_z27 N_z27 H_z27 G_z27 (fits_nar_byte _) W29 0 rfl (Nat.le_of_ble_eq_true rfl)
  have N29 := Fr.snoc X29 N7 g_b26
  have f31 := ((p7_0.ext E26).wr W29)
  have f32 := ((p7_1.ext E26).other W29 (Or.inl (Nat.ne_of_lt (Nat.lt_of_lt_of_le p7_0.lt (Nat.le_of_eq g26.symm)))))
  have f33 := ((p7_2.ext E26).other W29 (Or.inl (Nat.ne_of_lt (Nat.lt_of_lt_of_le p7_0.lt (Nat.le_of_eq g26.symm)))))
  have f34 := ((p7_3.ext E26).other W29 (Or.inl (Nat.ne_of_lt (Nat.lt_of_lt_of_le p7_0.lt (Nat.le_of_eq g26.symm)))))
  have f35 := ((p7_4.ext E26).other W29 (Or.inl (Nat.ne_of_lt (Nat.lt_of_lt_of_le p7_0.lt (Nat.le_of_eq g26.symm)))))
  have f36 := ((p7_5.ext E26).other W29 (Or.inl (Nat.ne_of_lt (Nat.lt_of_lt_of_le p7_0.lt (Nat.le_of_eq g26.symm)))))
  have f37 := ((p7_6.ext E26).other W29 (Or.inl (Nat.ne_of_lt (Nat.lt_of_lt_of_le p7_0.lt (Nat.le_of_eq g26.symm)))))
  have f38 := ((p7_7.ext E26).other W29 (Nat.ne_of_lt (Nat.lt_of_lt_of_le p7_8.lt (Nat.le_of_eq g26.symm))))
  have f39 := ((p7_8.ext E26).wr W29)
  have f40 := ((p7_9.ext E26).other W29 (Or.inl (Nat.ne_of_lt (Nat.lt_of_lt_of_le p7_0.lt (Nat.le_of_eq g26.symm)))))
  have f41 := ((p7_10.ext E26).other W29 (Nat.ne_of_lt (Nat.lt_of_lt_of_le p7_11.lt (Nat.le_of_eq g26.symm))))
  have f42 := ((p7_11.ext E26).wr W29)
  have f43 := ((p7_12.ext E26).other W29 (Or.inl (Nat.ne_of_lt (Nat.lt_of_lt_of_le p7_0.lt (Nat.le_of_eq g26.symm)))))
  have f44 := ((p7_13.ext E26).other W29 (Or.inl (Nat.ne_of_lt (Nat.lt_of_lt_of_le p7_0.lt (Nat.le_of_eq g26.symm)))))
  have f45 := (EA26.wr W29)
  obtain ⟨cq30, kq30, q30a, q30b, q30c⟩ := isOf hZ e29 f31
  obtain ⟨_, _, ⟨T30, L30, j30, i30⟩, -, X30, ⟨Lc30, hQ30, l30, y30, z30⟩, st30⟩ := X29.virtualBack hx (y := (⟨cS0, "offer", "([BII)V"⟩ : MethodName)) (z := (⟨cS0, "offer", "([BII)V"⟩ : MethodName)) hown (mvT hZ (own_at hw 23 rfl)) (mvT hZ (own_at hw 24 rfl)) (notFace_of_selects (args := #[]) (mvT hZ (own_at hw 26 rfl))) (mvT hZ (own_at hw 26 rfl)) (mvT hZ (own_at hw 25 rfl)) (by decide) (backOf (W := 0) (rm3_1 l Z a0 hw [] b1 b26 bA_2 kB_2 sA_2 kS_2 oA_2 cA_2 k26 ((p0.toInt8.toInt32).toInt8.toInt32) (0 : Int32) (0 : Int32) (0 : Int32) (0 : Int32) (0 : Int32) ((((p0.toUInt32 >>> ((8 : Int32) &&& 31).toUInt32).toInt32).toInt8.toInt32).toInt8.toInt32) h29 n0 (Nat.le_trans (Nat.le_trans (Nat.le_trans (Nat.le_trans (Nat.le_trans (Nat.le_trans (Nat.le_trans Z0 E1.1) K2.1) E3.1) (Keep.of_wr W6).1) K7.1) E26.1) (Keep.of_wr W29).1) f31 f32 f33 f34 f35 f36 f37 f38 f39 f40 f41 f42 f43 f44 V29 f45 g_bA_2 (Nat.ne_of_lt (Nat.lt_of_lt_of_le A1.lt p2_0)) g_b1 (Ne.symm p2_3) (Ne.symm (Nat.ne_of_lt (Nat.lt_of_lt_of_le A1.lt p2_1))) g_sA_2 (Nat.ne_of_lt (Nat.lt_of_lt_of_le A1.lt p2_1)) (Ne.symm (Nat.ne_of_lt (Nat.lt_of_lt_of_le A1.lt p2_0))) p2_3) hZ (own_at hw 27 rfl) (own_at hw 2 rfl) (by decide) (by decide)) q30a q30c (g := (mkF m 38 #[iv p0, iv p1, rv b1, .unset, .unset, .unset] [(.int 1), (.int 0), (.ref b26), (.ref b1)])) rfl (by rw [hml]; rfl) (Steps.refl _) (argsL := [(.ref b26), (.int 0), (.int 1)]) (rest := []) (lenOf pd_10 rfl) rfl (Nat.le_refl _) (hb hby at_38) (fun _ _ => ⟨rfl, e29, (by decide : 7 + 0 ≤ _), (by decide : 4363 + 0 ≤ _)⟩)
  dsimp only [Pt.U, Pt.locs, Pt.cells, Pt.slots] at X30 l30 y30 z30 st30 hQ30
  subst l30 y30 z30
  have f46 := ((f24.ext E26).other W29 (Nat.ne_of_lt (Nat.lt_of_lt_of_le f24.lt (Nat.le_of_eq g26.symm))))
  have f47 := ((f25.ext E26).wr W29)
  obtain ⟨rfl, N30q, K30, p30_0, p30_1, p30_2, p30_3, p30_4, p30_5, p30_6, p30_7, p30_8, p30_9, p30_10, p30_11, p30_12, p30_13⟩ := hQ30
  have pl30 := (allS (P := fun x => ∃ cell : Cell, h29[x]? = some cell ∧ cell.vm.isStatics = false) (own_ns f31) (allS (P := fun x => ∃ cell : Cell, h29[x]? = some cell ∧ cell.vm.isStatics = false) (own_ns f39) (allS (P := fun x => ∃ cell : Cell, h29[x]? = some cell ∧ cell.vm.isStatics = false) (own_ns f42) all0)))
  have N30 := Fr.app N29 N30q
  have f48 := (f46.keep K30 (ninS (Ne.symm (Nat.ne_of_lt (Nat.lt_of_lt_of_le A1.lt p2_2))) (ninS p2_4 (ninS p2_5 nin0))))
  have f49 := (f47.keep K30)
  have f50 := (f45.keep K30)
  obtain ⟨T51, h51, k51, X51, e51, E51, A51, EA51, st51⟩ := newPE X30 hx hZ (own_at hw 9 rfl) rfl (g := (mkF m 43 #[iv p0, iv p1, rv b1, .unset, .unset, .unset] [(.int 1), (.ref b1)])) rfl (hb hby at_43) rfl (by decide) (cap := 1) (by decide) (by decide) (by decide) (by decide) (ad := "[B") (by decide)
  obtain ⟨b51, g51⟩ : ∃ z, z = T30.heap.size := ⟨_, rfl⟩
  rw [← g51] at A51 EA51 st51
  have g_b51 : n0 ≤ b51 := Nat.le_trans (Nat.le_trans (Nat.le_trans (Nat.le_trans (Nat.le_trans (Nat.le_trans (Nat.le_trans (Nat.le_trans (Nat.le_trans Z0 E1.1) K2.1) E3.1) (Keep.of_wr W6).1) K7.1) E26.1) (Keep.of_wr W29).1) K30.1) (Nat.le_of_eq g51.symm)
  have sz_b51 : h0.size ≤ b51 := Nat.le_trans (((((((((Keep.refl h0 []).ext E1).trans K2 (allS (Or.inr sz_b1) all0)).ext E3).wr W6 (Or.inr sz_b3)).trans K7 (allS (Or.inr sz_b1) (allS (Or.inr sz_bA_2) (allS (Or.inr sz_sA_2) all0)))).ext E26).wr W29 (Or.inr sz_b26)).trans K30 (allS (Or.inr sz_b1) (allS (Or.inr sz_bA_2) (allS (Or.inr sz_sA_2) all0)))).1 (Nat.le_of_eq g51.symm)
  have V_b51 : Arv Z h51 b51 k51 .byte (1 : Int32) [(.int 0)] (.int 0) := (Arv.new A51 (by decide)).pad (pad_rep [] (.int 0) 1)
  obtain ⟨cl_z52, Ar_z52, q_z52, S_z52, N_z52, H_z52, G_z52⟩ := id V_b51
  have hin53 : ¬ ((0 : Int32) < 0 ∨ cl_z52.slots.size ≤ ((0 : Int32)).toNatClampNeg) := inb_of S_z52 ⟨by decide, by decide⟩
  obtain ⟨T54, h54, X54, e54, W54, st54⟩ := stB X51 hx hZ e51 Ar_z52 (j := (0 : Int32)) hin53 (g := (mkF m 52 #[iv p0, iv p1, rv b1, .unset, .unset, .unset] [(.int (((p0.toUInt32 >>> ((16 : Int32) &&& 31).toUInt32).toInt32).toInt8.toInt32)), (.int 0), (.ref b51), (.ref b51), (.ref b1)])) rfl rfl (hb hby at_52)
  have V54 : Arv Z h54 b51 k51 .byte (1 : Int32) [(.int ((((p0.toUInt32 >>> ((16 : Int32) &&& 31).toUInt32).toInt32).toInt8.toInt32).toInt8.toInt32))] (.int 0) := Arv.set Ar_z52 q_z52 S_z52 N_z52 H_z52 G_z52 (fits_nar_byte _) W54 0 rfl (Nat.le_of_ble_eq_true rfl)
  have N54 := Fr.snoc X54 N30 g_b51
  have f56 := ((p30_0.ext E51).wr W54)
  have f57 := ((p30_1.ext E51).other W54 (Or.inl (Nat.ne_of_lt (Nat.lt_of_lt_of_le p30_0.lt (Nat.le_of_eq g51.symm)))))
  have f58 := ((p30_2.ext E51).other W54 (Or.inl (Nat.ne_of_lt (Nat.lt_of_lt_of_le p30_0.lt (Nat.le_of_eq g51.symm)))))
  have f59 := ((p30_3.ext E51).other W54 (Or.inl (Nat.ne_of_lt (Nat.lt_of_lt_of_le p30_0.lt (Nat.le_of_eq g51.symm)))))
  have f60 := ((p30_4.ext E51).other W54 (Or.inl (Nat.ne_of_lt (Nat.lt_of_lt_of_le p30_0.lt (Nat.le_of_eq g51.symm)))))
  have f61 := ((p30_5.ext E51).other W54 (Or.inl (Nat.ne_of_lt (Nat.lt_of_lt_of_le p30_0.lt (Nat.le_of_eq g51.symm)))))
  have f62 := ((p30_6.ext E51).other W54 (Or.inl (Nat.ne_of_lt (Nat.lt_of_lt_of_le p30_0.lt (Nat.le_of_eq g51.symm)))))
  have f63 := ((p30_7.ext E51).other W54 (Nat.ne_of_lt (Nat.lt_of_lt_of_le p30_8.lt (Nat.le_of_eq g51.symm))))
  have f64 := ((p30_8.ext E51).wr W54)
  have f65 := ((p30_9.ext E51).other W54 (Or.inl (Nat.ne_of_lt (Nat.lt_of_lt_of_le p30_0.lt (Nat.le_of_eq g51.symm)))))
  have f66 := ((p30_10.ext E51).other W54 (Nat.ne_of_lt (Nat.lt_of_lt_of_le p30_11.lt (Nat.le_of_eq g51.symm))))
  have f67 := ((p30_11.ext E51).wr W54)
  have f68 := ((p30_12.ext E51).other W54 (Or.inl (Nat.ne_of_lt (Nat.lt_of_lt_of_le p30_0.lt (Nat.le_of_eq g51.symm)))))
  have f69 := ((p30_13.ext E51).other W54 (Or.inl (Nat.ne_of_lt (Nat.lt_of_lt_of_le p30_0.lt (Nat.le_of_eq g51.symm)))))
  have f70 := (EA51.wr W54)
  obtain ⟨cq55, kq55, q55a, q55b, q55c⟩ := isOf hZ e54 f56
  obtain ⟨_, _, ⟨T55, L55, j55, i55⟩, -, X55, ⟨Lc55, hQ55, l55, y55, z55⟩, st55⟩ := X54.virtualBack hx (y := (⟨cS0, "offer", "([BII)V"⟩ : MethodName)) (z := (⟨cS0, "offer", "([BII)V"⟩ : MethodName)) hown (mvT hZ (own_at hw 23 rfl)) (mvT hZ (own_at hw 24 rfl)) (notFace_of_selects (args := #[]) (mvT hZ (own_at hw 26 rfl))) (mvT hZ (own_at hw 26 rfl)) (mvT hZ (own_at hw 25 rfl)) (by decide) (backOf (W := 0) (rm3_2 l Z a0 hw [] b1 b51 bA_2 kB_2 sA_2 kS_2 oA_2 cA_2 k51 ((p0.toInt8.toInt32).toInt8.toInt32) ((((p0.toUInt32 >>> ((8 : Int32) &&& 31).toUInt32).toInt32).toInt8.toInt32).toInt8.toInt32) (0 : Int32) (0 : Int32) (1 : Int32) (0 : Int32) ((((p0.toUInt32 >>> ((16 : Int32) &&& 31).toUInt32).toInt32).toInt8.toInt32).toInt8.toInt32) h54 n0 (Nat.le_trans (Nat.le_trans (Nat.le_trans (Nat.le_trans (Nat.le_trans (Nat.le_trans (Nat.le_trans (Nat.le_trans (Nat.le_trans (Nat.le_trans Z0 E1.1) K2.1) E3.1) (Keep.of_wr W6).1) K7.1) E26.1) (Keep.of_wr W29).1) K30.1) E51.1) (Keep.of_wr W54).1) f56 f57 f58 f59 f60 f61 f62 f63 f64 f65 f66 f67 f68 f69 V54 f70 g_bA_2 (Nat.ne_of_lt (Nat.lt_of_lt_of_le A1.lt p2_0)) g_b1 (Ne.symm p2_3) (Ne.symm (Nat.ne_of_lt (Nat.lt_of_lt_of_le A1.lt p2_1))) g_sA_2 (Nat.ne_of_lt (Nat.lt_of_lt_of_le A1.lt p2_1)) (Ne.symm (Nat.ne_of_lt (Nat.lt_of_lt_of_le A1.lt p2_0))) p2_3) hZ (own_at hw 27 rfl) (own_at hw 2 rfl) (by decide) (by decide)) q55a q55c (g := (mkF m 55 #[iv p0, iv p1, rv b1, .unset, .unset, .unset] [(.int 1), (.int 0), (.ref b51), (.ref b1)])) rfl (by rw [hml]; rfl) (Steps.refl _) (argsL := [(.ref b51), (.int 0), (.int 1)]) (rest := []) (lenOf pd_10 rfl) rfl (Nat.le_refl _) (hb hby at_55) (fun _ _ => ⟨rfl, e54, (by decide : 8 + 0 ≤ _), (by decide : 4364 + 0 ≤ _)⟩)
  dsimp only [Pt.U, Pt.locs, Pt.cells, Pt.slots] at X55 l55 y55 z55 st55 hQ55
  subst l55 y55 z55
  have f71 := ((f48.ext E51).other W54 (Nat.ne_of_lt (Nat.lt_of_lt_of_le f48.lt (Nat.le_of_eq g51.symm))))
  have f72 := ((f49.ext E51).wr W54)
  have f73 := ((f50.ext E51).wr W54)
  obtain ⟨rfl, N55q, K55, p55_0, p55_1, p55_2, p55_3, p55_4, p55_5, p55_6, p55_7, p55_8, p55_9, p55_10, p55_11, p55_12, p55_13⟩ := hQ55
  have pl55 := (allS (P := fun x => ∃ cell : Cell, h54[x]? = some cell ∧ cell.vm.isStatics = false) (own_ns f56) (allS (P := fun x => ∃ cell : Cell, h54[x]? = some cell ∧ cell.vm.isStatics = false) (own_ns f64) (allS (P := fun x => ∃ cell : Cell, h54[x]? = some cell ∧ cell.vm.isStatics = false) (own_ns f67) all0)))
  have N55 := Fr.app N54 N55q
  have f74 := (f71.keep K55 (ninS (Ne.symm (Nat.ne_of_lt (Nat.lt_of_lt_of_le A1.lt p2_2))) (ninS p2_4 (ninS p2_5 nin0))))
  have f75 := (f72.keep K55)
  have f76 := (f73.keep K55)
  have f77 := (f70.keep K55)
  obtain ⟨T78, h78, k78, X78, e78, E78, A78, EA78, st78⟩ := newPE X55 hx hZ (own_at hw 9 rfl) rfl (g := (mkF m 60 #[iv p0, iv p1, rv b1, .unset, .unset, .unset] [(.int 1), (.ref b1)])) rfl (hb hby at_60) rfl (by decide) (cap := 1) (by decide) (by decide) (by decide) (by decide) (ad := "[B") (by decide)
  obtain ⟨b78, g78⟩ : ∃ z, z = T55.heap.size := ⟨_, rfl⟩
  rw [← g78] at A78 EA78 st78
  have g_b78 : n0 ≤ b78 := Nat.le_trans (Nat.le_trans (Nat.le_trans (Nat.le_trans (Nat.le_trans (Nat.le_trans (Nat.le_trans (Nat.le_trans (Nat.le_trans (Nat.le_trans (Nat.le_trans (Nat.le_trans Z0 E1.1) K2.1) E3.1) (Keep.of_wr W6).1) K7.1) E26.1) (Keep.of_wr W29).1) K30.1) E51.1) (Keep.of_wr W54).1) K55.1) (Nat.le_of_eq g78.symm)
  have sz_b78 : h0.size ≤ b78 := Nat.le_trans ((((((((((((Keep.refl h0 []).ext E1).trans K2 (allS (Or.inr sz_b1) all0)).ext E3).wr W6 (Or.inr sz_b3)).trans K7 (allS (Or.inr sz_b1) (allS (Or.inr sz_bA_2) (allS (Or.inr sz_sA_2) all0)))).ext E26).wr W29 (Or.inr sz_b26)).trans K30 (allS (Or.inr sz_b1) (allS (Or.inr sz_bA_2) (allS (Or.inr sz_sA_2) all0)))).ext E51).wr W54 (Or.inr sz_b51)).trans K55 (allS (Or.inr sz_b1) (allS (Or.inr sz_bA_2) (allS (Or.inr sz_sA_2) all0)))).1 (Nat.le_of_eq g78.symm)
  have V_b78 : Arv Z h78 b78 k78 .byte (1 : Int32) [(.int 0)] (.int 0) := (Arv.new A78 (by decide)).pad (pad_rep [] (.int 0) 1)
  obtain ⟨cl_z79, Ar_z79, q_z79, S_z79, N_z79, H_z79, G_z79⟩ := id V_b78
  have hin80 : ¬ ((0 : Int32) < 0 ∨ cl_z79.slots.size ≤ ((0 : Int32)).toNatClampNeg) := inb_of S_z79 ⟨by decide, by decide⟩
  obtain ⟨T81, h81, X81, e81, W81, st81⟩ := stB X78 hx hZ e78 Ar_z79 (j := (0 : Int32)) hin80 (g := (mkF m 69 #[iv p0, iv p1, rv b1, .unset, .unset, .unset] [(.int (((p0.toUInt32 >>> ((24 : Int32) &&& 31).toUInt32).toInt32).toInt8.toInt32)), (.int 0), (.ref b78), (.ref b78), (.ref b1)])) rfl rfl (hb hby at_69)
  have V81 : Arv Z h81 b78 k78 .byte (1 : Int32) [(.int ((((p0.toUInt32 >>> ((24 : Int32) &&& 31).toUInt32).toInt32).toInt8.toInt32).toInt8.toInt32))] (.int 0) := Arv.set Ar_z79 q_z79 S_z79 N_z79 H_z79 G_z79 (fits_nar_byte _) W81 0 rfl (Nat.le_of_ble_eq_true rfl)
  have N81 := Fr.snoc X81 N55 g_b78
  have f83 := ((p55_0.ext E78).wr W81)
  have f84 := ((p55_1.ext E78).other W81 (Or.inl (Nat.ne_of_lt (Nat.lt_of_lt_of_le p55_0.lt (Nat.le_of_eq g78.symm)))))
  have f85 := ((p55_2.ext E78).other W81 (Or.inl (Nat.ne_of_lt (Nat.lt_of_lt_of_le p55_0.lt (Nat.le_of_eq g78.symm)))))
  have f86 := ((p55_3.ext E78).other W81 (Or.inl (Nat.ne_of_lt (Nat.lt_of_lt_of_le p55_0.lt (Nat.le_of_eq g78.symm)))))
  have f87 := ((p55_4.ext E78).other W81 (Or.inl (Nat.ne_of_lt (Nat.lt_of_lt_of_le p55_0.lt (Nat.le_of_eq g78.symm)))))
  have f88 := ((p55_6.ext E78).other W81 (Or.inl (Nat.ne_of_lt (Nat.lt_of_lt_of_le p55_0.lt (Nat.le_of_eq g78.symm)))))
  have f89 := ((p55_7.ext E78).other W81 (Nat.ne_of_lt (Nat.lt_of_lt_of_le p55_8.lt (Nat.le_of_eq g78.symm))))
  have f90 := ((p55_8.ext E78).wr W81)
  have f91 := ((p55_9.ext E78).other W81 (Or.inl (Nat.ne_of_lt (Nat.lt_of_lt_of_le p55_0.lt (Nat.le_of_eq g78.symm)))))
  have f92 := ((p55_10.ext E78).other W81 (Nat.ne_of_lt (Nat.lt_of_lt_of_le p55_11.lt (Nat.le_of_eq g78.symm))))
  have f93 := ((p55_11.ext E78).wr W81)
  have f94 := ((p55_5.ext E78).other W81 (Or.inl (Nat.ne_of_lt (Nat.lt_of_lt_of_le p55_0.lt (Nat.le_of_eq g78.symm)))))
  have f95 := ((p55_12.ext E78).other W81 (Or.inl (Nat.ne_of_lt (Nat.lt_of_lt_of_le p55_0.lt (Nat.le_of_eq g78.symm)))))
  have f96 := ((f74.ext E78).other W81 (Nat.ne_of_lt (Nat.lt_of_lt_of_le f74.lt (Nat.le_of_eq g78.symm))))
  have f97 := ((p55_13.ext E78).other W81 (Or.inl (Nat.ne_of_lt (Nat.lt_of_lt_of_le p55_0.lt (Nat.le_of_eq g78.symm)))))
  have f98 := (EA78.wr W81)
  obtain ⟨cq82, kq82, q82a, q82b, q82c⟩ := isOf hZ e81 f83
  obtain ⟨_, _, ⟨T82, L82, j82, i82⟩, -, X82, ⟨Lc82, hQ82, l82, y82, z82⟩, st82⟩ := X81.virtualBack hx (y := (⟨cS0, "offer", "([BII)V"⟩ : MethodName)) (z := (⟨cS0, "offer", "([BII)V"⟩ : MethodName)) hown (mvT hZ (own_at hw 23 rfl)) (mvT hZ (own_at hw 24 rfl)) (notFace_of_selects (args := #[]) (mvT hZ (own_at hw 26 rfl))) (mvT hZ (own_at hw 26 rfl)) (mvT hZ (own_at hw 25 rfl)) (by decide) (backOf (W := 0) (rm3_full l Z a0 hw [] b1 b78 bA_2 kB_2 sA_2 kS_2 k78 oA_2 kO_2 cA_2 ((p0.toInt8.toInt32).toInt8.toInt32) ((((p0.toUInt32 >>> ((8 : Int32) &&& 31).toUInt32).toInt32).toInt8.toInt32).toInt8.toInt32) ((((p0.toUInt32 >>> ((16 : Int32) &&& 31).toUInt32).toInt32).toInt8.toInt32).toInt8.toInt32) ((((p0.toUInt32 >>> ((24 : Int32) &&& 31).toUInt32).toInt32).toInt8.toInt32).toInt8.toInt32) h81 n0 (Nat.le_trans (Nat.le_trans (Nat.le_trans (Nat.le_trans (Nat.le_trans (Nat.le_trans (Nat.le_trans (Nat.le_trans (Nat.le_trans (Nat.le_trans (Nat.le_trans (Nat.le_trans (Nat.le_trans Z0 E1.1) K2.1) E3.1) (Keep.of_wr W6).1) K7.1) E26.1) (Keep.of_wr W29).1) K30.1) E51.1) (Keep.of_wr W54).1) K55.1) E78.1) (Keep.of_wr W81).1) f83 f84 f85 f86 f87 f88 f89 f90 f91 f92 f93 f94 f95 f96 f97 V81 f98 g_b1 (Ne.symm (Nat.ne_of_lt (Nat.lt_of_lt_of_le A1.lt p2_1))) (Ne.symm (Nat.ne_of_lt (Nat.lt_of_lt_of_le A1.lt p2_0))) (Ne.symm (Nat.ne_of_lt (Nat.lt_of_lt_of_le A1.lt p2_2))) g_bA_2 (Nat.ne_of_lt (Nat.lt_of_lt_of_le A1.lt p2_0)) (Ne.symm p2_3) g_sA_2 (Nat.ne_of_lt (Nat.lt_of_lt_of_le A1.lt p2_1)) p2_3 (Ne.symm (Nat.ne_of_lt (Nat.lt_of_lt_of_le p55_11.lt (Nat.le_of_eq g78.symm)))) (Ne.symm (Nat.ne_of_lt (Nat.lt_of_lt_of_le p55_8.lt (Nat.le_of_eq g78.symm)))) (Ne.symm (Nat.ne_of_lt (Nat.lt_of_lt_of_le p55_0.lt (Nat.le_of_eq g78.symm))))) hZ (own_at hw 27 rfl) (own_at hw 2 rfl) (by decide) (by decide)) q82a q82c (g := (mkF m 72 #[iv p0, iv p1, rv b1, .unset, .unset, .unset] [(.int 1), (.int 0), (.ref b78), (.ref b1)])) rfl (by rw [hml]; rfl) (Steps.refl _) (argsL := [(.ref b78), (.int 0), (.int 1)]) (rest := []) (lenOf pd_10 rfl) rfl (Nat.le_refl _) (hb hby at_72) (fun _ _ => ⟨rfl, e81, (by decide : 9 + 3 ≤ _), (by decide : 4365 + 513 ≤ _)⟩)
  dsimp only [Pt.U, Pt.locs, Pt.cells, Pt.slots] at X82 l82 y82 z82 st82 hQ82
  subst l82 y82 z82
  have f99 := ((f75.ext E78).wr W81)
  have f100 := ((f76.ext E78).wr W81)
  have f101 := ((f77.ext E78).wr W81)
  obtain ⟨lim_82, oN_82, cN_82, e0_82, e1_82, e2_82, t0_82, t1_82, t2_82, cn_82, us_82, rfl, N82q, K82, p82_0, p82_1, p82_2, p82_3, p82_4, p82_5, p82_6, p82_7, p82_8, p82_9, p82_10, p82_11, p82_12, p82_13⟩ := hQ82
  have pl82 := (allS (P := fun x => ∃ cell : Cell, h81[x]? = some cell ∧ cell.vm.isStatics = false) (own_ns f83) (allS (P := fun x => ∃ cell : Cell, h81[x]? = some cell ∧ cell.vm.isStatics = false) (own_ns f90) (allS (P := fun x => ∃ cell : Cell, h81[x]? = some cell ∧ cell.vm.isStatics = false) (own_ns f93) all0)))
  have N82 := Fr.app N81 N82q
  obtain ⟨cq102, kq102, q102a, q102b, q102c⟩ := isOf hZ rfl p82_0
  obtain ⟨_, _, ⟨T102, L102, j102, i102⟩, -, X102, ⟨Lc102, hQ102, l102, y102, z102⟩, st102⟩ := X82.virtualBack hx (y := (⟨cS0, "letAnyGo", "()Z"⟩ : MethodName)) (z := (⟨cS0, "letAnyGo", "()Z"⟩ : MethodName)) hown (mvT hZ (own_at hw 85 rfl)) (mvT hZ (own_at hw 86 rfl)) (notFace_of_selects (args := #[]) (mvT hZ (own_at hw 88 rfl))) (mvT hZ (own_at hw 88 rfl)) (mvT hZ (own_at hw 87 rfl)) (by decide) (backOf (W := 0) (rm16_y l Z a0 hw [] b1 lim_82 T82.heap n0 (Nat.le_trans (Nat.le_trans (Nat.le_trans (Nat.le_trans (Nat.le_trans (Nat.le_trans (Nat.le_trans (Nat.le_trans (Nat.le_trans (Nat.le_trans (Nat.le_trans (Nat.le_trans (Nat.le_trans (Nat.le_trans Z0 E1.1) K2.1) E3.1) (Keep.of_wr W6).1) K7.1) E26.1) (Keep.of_wr W29).1) K30.1) E51.1) (Keep.of_wr W54).1) K55.1) E78.1) (Keep.of_wr W81).1) K82.1) p82_5) hZ (own_at hw 89 rfl) (own_at hw 2 rfl) (by decide) (by decide)) q102a q102c (g := (mkF m 76 #[iv p0, iv p1, rv b1, .unset, .unset, .unset] [(.ref b1)])) rfl (by rw [hml]; rfl) (Steps.refl _) (argsL := []) (rest := []) (lenOf pd_11 rfl) rfl (Nat.le_refl _) (hb hby at_76) (fun _ _ => ⟨rfl, rfl, (by decide : 12 + 0 ≤ _), (by decide : 4878 + 0 ≤ _)⟩)
  dsimp only [Pt.U, Pt.locs, Pt.cells, Pt.slots] at X102 l102 y102 z102 st102 hQ102
  subst l102 y102 z102
  obtain ⟨rfl, N102q, e102⟩ := hQ102
  have N102 := Fr.app N82 N102q
  obtain ⟨cq103, kq103, q103a, q103b, q103c⟩ := isOf hZ e102 p82_0
  obtain ⟨_, _, ⟨T103, L103, j103, i103⟩, -, X103, ⟨Lc103, hQ103, l103, y103, z103⟩, st103⟩ := X102.virtualBack hx (y := (⟨cS0, "clear", "()V"⟩ : MethodName)) (z := (⟨cS0, "clear", "()V"⟩ : MethodName)) hown (mvT hZ (own_at hw 90 rfl)) (mvT hZ (own_at hw 91 rfl)) (notFace_of_selects (args := #[]) (mvT hZ (own_at hw 93 rfl))) (mvT hZ (own_at hw 93 rfl)) (mvT hZ (own_at hw 92 rfl)) (by decide) (backOf (W := 0) (rm17 l Z a0 hw [] b1 (3 : Int32) (3 : Int32) bA_2 sA_2 oN_82 cN_82 (.int cn_82) (.int us_82) (.ref lim_82) T82.heap n0 (Nat.le_trans (Nat.le_trans (Nat.le_trans (Nat.le_trans (Nat.le_trans (Nat.le_trans (Nat.le_trans (Nat.le_trans (Nat.le_trans (Nat.le_trans (Nat.le_trans (Nat.le_trans (Nat.le_trans (Nat.le_trans Z0 E1.1) K2.1) E3.1) (Keep.of_wr W6).1) K7.1) E26.1) (Keep.of_wr W29).1) K30.1) E51.1) (Keep.of_wr W54).1) K55.1) E78.1) (Keep.of_wr W81).1) K82.1) p82_0 p82_1 p82_2 p82_6 p82_9 p82_12 p82_13 p82_3 g_b1 p82_4 p82_5) hZ (own_at hw 94 rfl) (own_at hw 2 rfl) (by decide) (by decide)) q103a q103c (g := (mkF m 81 #[iv p0, iv p1, rv b1, iv 1, .unset, .unset] [(.ref b1)])) rfl (by rw [hml]; rfl) (Steps.refl _) (argsL := []) (rest := []) (lenOf pd_9 rfl) rfl (Nat.le_refl _) (hb hby at_81) (fun _ _ => ⟨rfl, e102, (by decide : 12 + 0 ≤ _), (by decide : 4878 + 0 ≤ _)⟩)
  dsimp only [Pt.U, Pt.locs, Pt.cells, Pt.slots] at X103 l103 y103 z103 st103 hQ103
  subst l103 y103 z103
  have f104 := (f96.keep K82 (ninS (Ne.symm (Nat.ne_of_lt (Nat.lt_of_lt_of_le A1.lt p2_2))) (ninS p2_4 (ninS p2_5 nin0))))
  have f105 := (f99.keep K82)
  have f106 := (f100.keep K82)
  have f107 := (f101.keep K82)
  have f108 := (f98.keep K82)
  obtain ⟨rfl, N103q, K103, p103_0, p103_1, p103_2, p103_3, p103_4, p103_5, p103_6, p103_7, p103_8⟩ := hQ103
  have pl103 := (allS (P := fun x => ∃ cell : Cell, T82.heap[x]? = some cell ∧ cell.vm.isStatics = false) (own_ns p82_0) all0)
  have N103 := Fr.app N102 N103q
  have f110 := (p82_0.keep K103)
  obtain ⟨cq109, kq109, q109a, q109b, q109c⟩ := isOf hZ rfl f110
  obtain ⟨_, _, ⟨T109, L109, j109, i109⟩, -, X109, ⟨Lc109, hQ109, l109, y109, z109⟩, st109⟩ := X103.virtualBack hx (y := (⟨cS0, "count", "()I"⟩ : MethodName)) (z := (⟨cS0, "count", "()I"⟩ : MethodName)) hown (mvT hZ (own_at hw 95 rfl)) (mvT hZ (own_at hw 96 rfl)) (notFace_of_selects (args := #[]) (mvT hZ (own_at hw 98 rfl))) (mvT hZ (own_at hw 98 rfl)) (mvT hZ (own_at hw 97 rfl)) (by decide) (backOf (W := 0) (rm18 l Z a0 hw [] b1 (0 : Int32) T103.heap n0 (Nat.le_trans (Nat.le_trans (Nat.le_trans (Nat.le_trans (Nat.le_trans (Nat.le_trans (Nat.le_trans (Nat.le_trans (Nat.le_trans (Nat.le_trans (Nat.le_trans (Nat.le_trans (Nat.le_trans (Nat.le_trans (Nat.le_trans Z0 E1.1) K2.1) E3.1) (Keep.of_wr W6).1) K7.1) E26.1) (Keep.of_wr W29).1) K30.1) E51.1) (Keep.of_wr W54).1) K55.1) E78.1) (Keep.of_wr W81).1) K82.1) K103.1) p103_0) hZ (own_at hw 99 rfl) (own_at hw 2 rfl) (by decide) (by decide)) q109a q109c (g := (mkF m 85 #[iv p0, iv p1, rv b1, iv 1, .unset, .unset] [(.ref b1)])) rfl (by rw [hml]; rfl) (Steps.refl _) (argsL := []) (rest := []) (lenOf pd_12 rfl) rfl (Nat.le_refl _) (hb hby at_85) (fun _ _ => ⟨rfl, rfl, (by decide : 12 + 0 ≤ _), (by decide : 4878 + 0 ≤ _)⟩)
  dsimp only [Pt.U, Pt.locs, Pt.cells, Pt.slots] at X109 l109 y109 z109 st109 hQ109
  subst l109 y109 z109
  obtain ⟨rfl, N109q, e109⟩ := hQ109
  have N109 := Fr.app N103 N109q
  obtain ⟨cq111, kq111, q111a, q111b, q111c⟩ := isOf hZ e109 f110
  obtain ⟨_, _, ⟨T111, L111, j111, i111⟩, -, X111, ⟨Lc111, hQ111, l111, y111, z111⟩, st111⟩ := X109.virtualBack hx (y := (⟨cS0, "letAnyGo", "()Z"⟩ : MethodName)) (z := (⟨cS0, "letAnyGo", "()Z"⟩ : MethodName)) hown (mvT hZ (own_at hw 85 rfl)) (mvT hZ (own_at hw 86 rfl)) (notFace_of_selects (args := #[]) (mvT hZ (own_at hw 88 rfl))) (mvT hZ (own_at hw 88 rfl)) (mvT hZ (own_at hw 87 rfl)) (by decide) (backOf (W := 0) (rm16_n l Z a0 hw [] b1 T103.heap n0 (Nat.le_trans (Nat.le_trans (Nat.le_trans (Nat.le_trans (Nat.le_trans (Nat.le_trans (Nat.le_trans (Nat.le_trans (Nat.le_trans (Nat.le_trans (Nat.le_trans (Nat.le_trans (Nat.le_trans (Nat.le_trans (Nat.le_trans Z0 E1.1) K2.1) E3.1) (Keep.of_wr W6).1) K7.1) E26.1) (Keep.of_wr W29).1) K30.1) E51.1) (Keep.of_wr W54).1) K55.1) E78.1) (Keep.of_wr W81).1) K82.1) K103.1) p103_2) hZ (own_at hw 89 rfl) (own_at hw 2 rfl) (by decide) (by decide)) q111a q111c (g := (mkF m 91 #[iv p0, iv p1, rv b1, iv 1, iv 0, .unset] [(.ref b1)])) rfl (by rw [hml]; rfl) (Steps.refl _) (argsL := []) (rest := []) (lenOf pd_11 rfl) rfl (Nat.le_refl _) (hb hby at_91) (fun _ _ => ⟨rfl, e109, (by decide : 12 + 0 ≤ _), (by decide : 4878 + 0 ≤ _)⟩)
  dsimp only [Pt.U, Pt.locs, Pt.cells, Pt.slots] at X111 l111 y111 z111 st111 hQ111
  subst l111 y111 z111
  obtain ⟨rfl, N111q, e111⟩ := hQ111
  have N111 := Fr.app N109 N111q
  have f112 := (p82_8.keep K103)
  have f113 := (p82_11.keep K103)
  have f114 := (f104.keep K103 (ninS (Ne.symm (Nat.ne_of_lt (Nat.lt_of_lt_of_le A1.lt p2_2))) nin0))
  have f115 := (f105.keep K103)
  have f116 := (f106.keep K103)
  have f117 := (f107.keep K103)
  have f118 := (f108.keep K103)
  obtain ⟨T119, h119, k119, X119, e119, E119, A119, EA119, st119⟩ := newPE X111 hx hZ (own_at hw 9 rfl) e111 (g := (mkF m 98 #[iv p0, iv p1, rv b1, iv 1, iv 0, iv 0] [(.int 1), (.ref b1)])) rfl (hb hby at_98) rfl (by decide) (cap := 1) (by decide) (by decide) (by decide) (by decide) (ad := "[B") (by decide)
  obtain ⟨b119, g119⟩ : ∃ z, z = T103.heap.size := ⟨_, rfl⟩
  rw [← g119] at A119 EA119 st119
  have g_b119 : n0 ≤ b119 := Nat.le_trans (Nat.le_trans (Nat.le_trans (Nat.le_trans (Nat.le_trans (Nat.le_trans (Nat.le_trans (Nat.le_trans (Nat.le_trans (Nat.le_trans (Nat.le_trans (Nat.le_trans (Nat.le_trans (Nat.le_trans (Nat.le_trans (Nat.le_trans Z0 E1.1) K2.1) E3.1) (Keep.of_wr W6).1) K7.1) E26.1) (Keep.of_wr W29).1) K30.1) E51.1) (Keep.of_wr W54).1) K55.1) E78.1) (Keep.of_wr W81).1) K82.1) K103.1) (Nat.le_of_eq g119.symm)
  have sz_b119 : h0.size ≤ b119 := Nat.le_trans ((((((((((((((((Keep.refl h0 []).ext E1).trans K2 (allS (Or.inr sz_b1) all0)).ext E3).wr W6 (Or.inr sz_b3)).trans K7 (allS (Or.inr sz_b1) (allS (Or.inr sz_bA_2) (allS (Or.inr sz_sA_2) all0)))).ext E26).wr W29 (Or.inr sz_b26)).trans K30 (allS (Or.inr sz_b1) (allS (Or.inr sz_bA_2) (allS (Or.inr sz_sA_2) all0)))).ext E51).wr W54 (Or.inr sz_b51)).trans K55 (allS (Or.inr sz_b1) (allS (Or.inr sz_bA_2) (allS (Or.inr sz_sA_2) all0)))).ext E78).wr W81 (Or.inr sz_b78)).trans K82 (allS (Or.inr sz_b1) (allS (Or.inr sz_bA_2) (allS (Or.inr sz_sA_2) all0)))).trans K103 (allS (Or.inr sz_b1) all0)).1 (Nat.le_of_eq g119.symm)
  have V_b119 : Arv Z h119 b119 k119 .byte (1 : Int32) [(.int 0)] (.int 0) := (Arv.new A119 (by decide)).pad (pad_rep [] (.int 0) 1)
  obtain ⟨cl_z120, Ar_z120, q_z120, S_z120, N_z120, H_z120, G_z120⟩ := id V_b119
  have hin121 : ¬ ((0 : Int32) < 0 ∨ cl_z120.slots.size ≤ ((0 : Int32)).toNatClampNeg) := inb_of S_z120 ⟨by decide, by decide⟩
  obtain ⟨T122, h122, X122, e122, W122, st122⟩ := stB X119 hx hZ e119 Ar_z120 (j := (0 : Int32)) hin121 (g := (mkF m 104 #[iv p0, iv p1, rv b1, iv 1, iv 0, iv 0] [(.int (p1.toInt8.toInt32)), (.int 0), (.ref b119), (.ref b119), (.ref b1)])) rfl rfl (hb hby at_104)
  have V122 : Arv Z h122 b119 k119 .byte (1 : Int32) [(.int ((p1.toInt8.toInt32).toInt8.toInt32))] (.int 0) := Arv.set Ar_z120 q_z120 S_z120 N_z120 H_z120 G_z120 (fits_nar_byte _) W122 0 rfl (Nat.le_of_ble_eq_true rfl)
  have N122 := Fr.snoc X122 N111 g_b119
  have f124 := ((f110.ext E119).wr W122)
  have f125 := ((p103_3.ext E119).other W122 (Or.inl (Nat.ne_of_lt (Nat.lt_of_lt_of_le f110.lt (Nat.le_of_eq g119.symm)))))
  have f126 := ((p103_4.ext E119).other W122 (Or.inl (Nat.ne_of_lt (Nat.lt_of_lt_of_le f110.lt (Nat.le_of_eq g119.symm)))))
  have f127 := ((p103_0.ext E119).other W122 (Or.inl (Nat.ne_of_lt (Nat.lt_of_lt_of_le f110.lt (Nat.le_of_eq g119.symm)))))
  have f128 := ((p103_1.ext E119).other W122 (Or.inl (Nat.ne_of_lt (Nat.lt_of_lt_of_le f110.lt (Nat.le_of_eq g119.symm)))))
  have f129 := ((p103_2.ext E119).other W122 (Or.inl (Nat.ne_of_lt (Nat.lt_of_lt_of_le f110.lt (Nat.le_of_eq g119.symm)))))
  have f130 := ((p103_5.ext E119).other W122 (Or.inl (Nat.ne_of_lt (Nat.lt_of_lt_of_le f110.lt (Nat.le_of_eq g119.symm)))))
  have f131 := (((p82_7.keep K103 (ninS (Ne.symm (Nat.ne_of_lt (Nat.lt_of_lt_of_le A1.lt p2_0))) nin0)).ext E119).other W122 (Nat.ne_of_lt (Nat.lt_of_lt_of_le f112.lt (Nat.le_of_eq g119.symm))))
  have f132 := ((f112.ext E119).wr W122)
  have f133 := ((p103_6.ext E119).other W122 (Or.inl (Nat.ne_of_lt (Nat.lt_of_lt_of_le f110.lt (Nat.le_of_eq g119.symm)))))
  have f134 := (((p82_10.keep K103 (ninS (Ne.symm (Nat.ne_of_lt (Nat.lt_of_lt_of_le A1.lt p2_1))) nin0)).ext E119).other W122 (Nat.ne_of_lt (Nat.lt_of_lt_of_le f113.lt (Nat.le_of_eq g119.symm))))
  have f135 := ((f113.ext E119).wr W122)
  have f136 := ((p103_7.ext E119).other W122 (Or.inl (Nat.ne_of_lt (Nat.lt_of_lt_of_le f110.lt (Nat.le_of_eq g119.symm)))))
  have f137 := ((p103_8.ext E119).other W122 (Or.inl (Nat.ne_of_lt (Nat.lt_of_lt_of_le f110.lt (Nat.le_of_eq g119.symm)))))
  have f138 := (EA119.wr W122)
  obtain ⟨cq123, kq123, q123a, q123b, q123c⟩ := isOf hZ e122 f124
  obtain ⟨_, _, ⟨T123, L123, j123, i123⟩, -, X123, ⟨Lc123, hQ123, l123, y123, z123⟩, st123⟩ := X122.virtualBack hx (y := (⟨cS0, "offer", "([BII)V"⟩ : MethodName)) (z := (⟨cS0, "offer", "([BII)V"⟩ : MethodName)) hown (mvT hZ (own_at hw 23 rfl)) (mvT hZ (own_at hw 24 rfl)) (notFace_of_selects (args := #[]) (mvT hZ (own_at hw 26 rfl))) (mvT hZ (own_at hw 26 rfl)) (mvT hZ (own_at hw 25 rfl)) (by decide) (backOf (W := 0) (rm3_0 l Z a0 hw [] b1 b119 bA_2 kB_2 sA_2 kS_2 oN_82 cN_82 k119 e0_82 e1_82 e2_82 t0_82 t1_82 t2_82 ((p1.toInt8.toInt32).toInt8.toInt32) h122 n0 (Nat.le_trans (Nat.le_trans (Nat.le_trans (Nat.le_trans (Nat.le_trans (Nat.le_trans (Nat.le_trans (Nat.le_trans (Nat.le_trans (Nat.le_trans (Nat.le_trans (Nat.le_trans (Nat.le_trans (Nat.le_trans (Nat.le_trans (Nat.le_trans (Nat.le_trans Z0 E1.1) K2.1) E3.1) (Keep.of_wr W6).1) K7.1) E26.1) (Keep.of_wr W29).1) K30.1) E51.1) (Keep.of_wr W54).1) K55.1) E78.1) (Keep.of_wr W81).1) K82.1) K103.1) E119.1) (Keep.of_wr W122).1) f124 f125 f126 f127 f128 f129 f130 f131 f132 f133 f134 f135 f136 f137 V122 f138 g_bA_2 (Nat.ne_of_lt (Nat.lt_of_lt_of_le A1.lt p2_0)) g_b1 (Ne.symm p2_3) (Ne.symm (Nat.ne_of_lt (Nat.lt_of_lt_of_le A1.lt p2_1))) g_sA_2 (Nat.ne_of_lt (Nat.lt_of_lt_of_le A1.lt p2_1)) (Ne.symm (Nat.ne_of_lt (Nat.lt_of_lt_of_le A1.lt p2_0))) p2_3) hZ (own_at hw 27 rfl) (own_at hw 2 rfl) (by decide) (by decide)) q123a q123c (g := (mkF m 107 #[iv p0, iv p1, rv b1, iv 1, iv 0, iv 0] [(.int 1), (.int 0), (.ref b119), (.ref b1)])) rfl (by rw [hml]; rfl) (Steps.refl _) (argsL := [(.ref b119), (.int 0), (.int 1)]) (rest := []) (lenOf pd_10 rfl) rfl (Nat.le_refl _) (hb hby at_107) (fun _ _ => ⟨rfl, e122, (by decide : 13 + 0 ≤ _), (by decide : 4879 + 0 ≤ _)⟩)
  dsimp only [Pt.U, Pt.locs, Pt.cells, Pt.slots] at X123 l123 y123 z123 st123 hQ123
  subst l123 y123 z123
  have f139 := ((f114.ext E119).other W122 (Nat.ne_of_lt (Nat.lt_of_lt_of_le f114.lt (Nat.le_of_eq g119.symm))))
  have f140 := ((f115.ext E119).wr W122)
  have f141 := ((f116.ext E119).wr W122)
  have f142 := ((f117.ext E119).wr W122)
  have f143 := ((f118.ext E119).wr W122)
  obtain ⟨rfl, N123q, K123, p123_0, p123_1, p123_2, p123_3, p123_4, p123_5, p123_6, p123_7, p123_8, p123_9, p123_10, p123_11, p123_12, p123_13⟩ := hQ123
  have pl123 := (allS (P := fun x => ∃ cell : Cell, h122[x]? = some cell ∧ cell.vm.isStatics = false) (own_ns f124) (allS (P := fun x => ∃ cell : Cell, h122[x]? = some cell ∧ cell.vm.isStatics = false) (own_ns f132) (allS (P := fun x => ∃ cell : Cell, h122[x]? = some cell ∧ cell.vm.isStatics = false) (own_ns f135) all0)))
  have N123 := Fr.app N122 N123q
  have f144 := (f139.keep K123 (ninS (Ne.symm (Nat.ne_of_lt (Nat.lt_of_lt_of_le A1.lt p2_2))) (ninS p2_4 (ninS p2_5 nin0))))
  have f145 := (f140.keep K123)
  have f146 := (f141.keep K123)
  have f147 := (f142.keep K123)
  have f148 := (f143.keep K123)
  have f149 := (f138.keep K123)
  obtain ⟨T150, h150, k150, X150, e150, E150, A150, EA150, st150⟩ := newPE X123 hx hZ (own_at hw 9 rfl) rfl (g := (mkF m 112 #[iv p0, iv p1, rv b1, iv 1, iv 0, iv 0] [(.int 1), (.ref b1)])) rfl (hb hby at_112) rfl (by decide) (cap := 1) (by decide) (by decide) (by decide) (by decide) (ad := "[B") (by decide)
  obtain ⟨b150, g150⟩ : ∃ z, z = T123.heap.size := ⟨_, rfl⟩
  rw [← g150] at A150 EA150 st150
  have g_b150 : n0 ≤ b150 := Nat.le_trans (Nat.le_trans (Nat.le_trans (Nat.le_trans (Nat.le_trans (Nat.le_trans (Nat.le_trans (Nat.le_trans (Nat.le_trans (Nat.le_trans (Nat.le_trans (Nat.le_trans (Nat.le_trans (Nat.le_trans (Nat.le_trans (Nat.le_trans (Nat.le_trans (Nat.le_trans (Nat.le_trans Z0 E1.1) K2.1) E3.1) (Keep.of_wr W6).1) K7.1) E26.1) (Keep.of_wr W29).1) K30.1) E51.1) (Keep.of_wr W54).1) K55.1) E78.1) (Keep.of_wr W81).1) K82.1) K103.1) E119.1) (Keep.of_wr W122).1) K123.1) (Nat.le_of_eq g150.symm)
  have sz_b150 : h0.size ≤ b150 := Nat.le_trans (((((((((((((((((((Keep.refl h0 []).ext E1).trans K2 (allS (Or.inr sz_b1) all0)).ext E3).wr W6 (Or.inr sz_b3)).trans K7 (allS (Or.inr sz_b1) (allS (Or.inr sz_bA_2) (allS (Or.inr sz_sA_2) all0)))).ext E26).wr W29 (Or.inr sz_b26)).trans K30 (allS (Or.inr sz_b1) (allS (Or.inr sz_bA_2) (allS (Or.inr sz_sA_2) all0)))).ext E51).wr W54 (Or.inr sz_b51)).trans K55 (allS (Or.inr sz_b1) (allS (Or.inr sz_bA_2) (allS (Or.inr sz_sA_2) all0)))).ext E78).wr W81 (Or.inr sz_b78)).trans K82 (allS (Or.inr sz_b1) (allS (Or.inr sz_bA_2) (allS (Or.inr sz_sA_2) all0)))).trans K103 (allS (Or.inr sz_b1) all0)).ext E119).wr W122 (Or.inr sz_b119)).trans K123 (allS (Or.inr sz_b1) (allS (Or.inr sz_bA_2) (allS (Or.inr sz_sA_2) all0)))).1 (Nat.le_of_eq g150.symm)
  have V_b150 : Arv Z h150 b150 k150 .byte (1 : Int32) [(.int 0)] (.int 0) := (Arv.new A150 (by decide)).pad (pad_rep [] (.int 0) 1)
  obtain ⟨cl_z151, Ar_z151, q_z151, S_z151, N_z151, H_z151, G_z151⟩ := id V_b150
  have hin152 : ¬ ((0 : Int32) < 0 ∨ cl_z151.slots.size ≤ ((0 : Int32)).toNatClampNeg) := inb_of S_z151 ⟨by decide, by decide⟩
  obtain ⟨T153, h153, X153, e153, W153, st153⟩ := stB X150 hx hZ e150 Ar_z151 (j := (0 : Int32)) hin152 (g := (mkF m 121 #[iv p0, iv p1, rv b1, iv 1, iv 0, iv 0] [(.int (((p1.toUInt32 >>> ((8 : Int32) &&& 31).toUInt32).toInt32).toInt8.toInt32)), (.int 0), (.ref b150), (.ref b150), (.ref b1)])) rfl rfl (hb hby at_121)
  have V153 : Arv Z h153 b150 k150 .byte (1 : Int32) [(.int ((((p1.toUInt32 >>> ((8 : Int32) &&& 31).toUInt32).toInt32).toInt8.toInt32).toInt8.toInt32))] (.int 0) := Arv.set Ar_z151 q_z151 S_z151 N_z151 H_z151 G_z151 (fits_nar_byte _) W153 0 rfl (Nat.le_of_ble_eq_true rfl)
  have N153 := Fr.snoc X153 N123 g_b150
  have f155 := ((p123_0.ext E150).wr W153)
  have f156 := ((p123_1.ext E150).other W153 (Or.inl (Nat.ne_of_lt (Nat.lt_of_lt_of_le p123_0.lt (Nat.le_of_eq g150.symm)))))
  have f157 := ((p123_2.ext E150).other W153 (Or.inl (Nat.ne_of_lt (Nat.lt_of_lt_of_le p123_0.lt (Nat.le_of_eq g150.symm)))))
  have f158 := ((p123_3.ext E150).other W153 (Or.inl (Nat.ne_of_lt (Nat.lt_of_lt_of_le p123_0.lt (Nat.le_of_eq g150.symm)))))
  have f159 := ((p123_4.ext E150).other W153 (Or.inl (Nat.ne_of_lt (Nat.lt_of_lt_of_le p123_0.lt (Nat.le_of_eq g150.symm)))))
  have f160 := ((p123_5.ext E150).other W153 (Or.inl (Nat.ne_of_lt (Nat.lt_of_lt_of_le p123_0.lt (Nat.le_of_eq g150.symm)))))
  have f161 := ((p123_6.ext E150).other W153 (Or.inl (Nat.ne_of_lt (Nat.lt_of_lt_of_le p123_0.lt (Nat.le_of_eq g150.symm)))))
  have f162 := ((p123_7.ext E150).other W153 (Nat.ne_of_lt (Nat.lt_of_lt_of_le p123_8.lt (Nat.le_of_eq g150.symm))))
  have f163 := ((p123_8.ext E150).wr W153)
  have f164 := ((p123_9.ext E150).other W153 (Or.inl (Nat.ne_of_lt (Nat.lt_of_lt_of_le p123_0.lt (Nat.le_of_eq g150.symm)))))
  have f165 := ((p123_10.ext E150).other W153 (Nat.ne_of_lt (Nat.lt_of_lt_of_le p123_11.lt (Nat.le_of_eq g150.symm))))
  have f166 := ((p123_11.ext E150).wr W153)
  have f167 := ((p123_12.ext E150).other W153 (Or.inl (Nat.ne_of_lt (Nat.lt_of_lt_of_le p123_0.lt (Nat.le_of_eq g150.symm)))))
  have f168 := ((p123_13.ext E150).other W153 (Or.inl (Nat.ne_of_lt (Nat.lt_of_lt_of_le p123_0.lt (Nat.le_of_eq g150.symm)))))
  have f169 := (EA150.wr W153)
  obtain ⟨cq154, kq154, q154a, q154b, q154c⟩ := isOf hZ e153 f155
  obtain ⟨_, _, ⟨T154, L154, j154, i154⟩, -, X154, ⟨Lc154, hQ154, l154, y154, z154⟩, st154⟩ := X153.virtualBack hx (y := (⟨cS0, "offer", "([BII)V"⟩ : MethodName)) (z := (⟨cS0, "offer", "([BII)V"⟩ : MethodName)) hown (mvT hZ (own_at hw 23 rfl)) (mvT hZ (own_at hw 24 rfl)) (notFace_of_selects (args := #[]) (mvT hZ (own_at hw 26 rfl))) (mvT hZ (own_at hw 26 rfl)) (mvT hZ (own_at hw 25 rfl)) (by decide) (backOf (W := 0) (rm3_1 l Z a0 hw [] b1 b150 bA_2 kB_2 sA_2 kS_2 oN_82 cN_82 k150 ((p1.toInt8.toInt32).toInt8.toInt32) e1_82 e2_82 (0 : Int32) t1_82 t2_82 ((((p1.toUInt32 >>> ((8 : Int32) &&& 31).toUInt32).toInt32).toInt8.toInt32).toInt8.toInt32) h153 n0 (Nat.le_trans (Nat.le_trans (Nat.le_trans (Nat.le_trans (Nat.le_trans (Nat.le_trans (Nat.le_trans (Nat.le_trans (Nat.le_trans (Nat.le_trans (Nat.le_trans (Nat.le_trans (Nat.le_trans (Nat.le_trans (Nat.le_trans (Nat.le_trans (Nat.le_trans (Nat.le_trans (Nat.le_trans (Nat.le_trans Z0 E1.1) K2.1) E3.1) (Keep.of_wr W6).1) K7.1) E26.1) (Keep.of_wr W29).1) K30.1) E51.1) (Keep.of_wr W54).1) K55.1) E78.1) (Keep.of_wr W81).1) K82.1) K103.1) E119.1) (Keep.of_wr W122).1) K123.1) E150.1) (Keep.of_wr W153).1) f155 f156 f157 f158 f159 f160 f161 f162 f163 f164 f165 f166 f167 f168 V153 f169 g_bA_2 (Nat.ne_of_lt (Nat.lt_of_lt_of_le A1.lt p2_0)) g_b1 (Ne.symm p2_3) (Ne.symm (Nat.ne_of_lt (Nat.lt_of_lt_of_le A1.lt p2_1))) g_sA_2 (Nat.ne_of_lt (Nat.lt_of_lt_of_le A1.lt p2_1)) (Ne.symm (Nat.ne_of_lt (Nat.lt_of_lt_of_le A1.lt p2_0))) p2_3) hZ (own_at hw 27 rfl) (own_at hw 2 rfl) (by decide) (by decide)) q154a q154c (g := (mkF m 124 #[iv p0, iv p1, rv b1, iv 1, iv 0, iv 0] [(.int 1), (.int 0), (.ref b150), (.ref b1)])) rfl (by rw [hml]; rfl) (Steps.refl _) (argsL := [(.ref b150), (.int 0), (.int 1)]) (rest := []) (lenOf pd_10 rfl) rfl (Nat.le_refl _) (hb hby at_124) (fun _ _ => ⟨rfl, e153, (by decide : 14 + 0 ≤ _), (by decide : 4880 + 0 ≤ _)⟩)
  dsimp only [Pt.U, Pt.locs, Pt.cells, Pt.slots] at X154 l154 y154 z154 st154 hQ154
  subst l154 y154 z154
  have f170 := ((f144.ext E150).other W153 (Nat.ne_of_lt (Nat.lt_of_lt_of_le f144.lt (Nat.le_of_eq g150.symm))))
  have f171 := ((f145.ext E150).wr W153)
  have f172 := ((f146.ext E150).wr W153)
  have f173 := ((f147.ext E150).wr W153)
  have f174 := ((f148.ext E150).wr W153)
  have f175 := ((f149.ext E150).wr W153)
  obtain ⟨rfl, N154q, K154, p154_0, p154_1, p154_2, p154_3, p154_4, p154_5, p154_6, p154_7, p154_8, p154_9, p154_10, p154_11, p154_12, p154_13⟩ := hQ154
  have pl154 := (allS (P := fun x => ∃ cell : Cell, h153[x]? = some cell ∧ cell.vm.isStatics = false) (own_ns f155) (allS (P := fun x => ∃ cell : Cell, h153[x]? = some cell ∧ cell.vm.isStatics = false) (own_ns f163) (allS (P := fun x => ∃ cell : Cell, h153[x]? = some cell ∧ cell.vm.isStatics = false) (own_ns f166) all0)))
  have N154 := Fr.app N153 N154q
  have f176 := (f170.keep K154 (ninS (Ne.symm (Nat.ne_of_lt (Nat.lt_of_lt_of_le A1.lt p2_2))) (ninS p2_4 (ninS p2_5 nin0))))
  have f177 := (f171.keep K154)
  have f178 := (f172.keep K154)
  have f179 := (f173.keep K154)
  have f180 := (f174.keep K154)
  have f181 := (f175.keep K154)
  have f182 := (f169.keep K154)
  obtain ⟨T183, h183, k183, X183, e183, E183, A183, EA183, st183⟩ := newPE X154 hx hZ (own_at hw 9 rfl) rfl (g := (mkF m 129 #[iv p0, iv p1, rv b1, iv 1, iv 0, iv 0] [(.int 1), (.ref b1)])) rfl (hb hby at_129) rfl (by decide) (cap := 1) (by decide) (by decide) (by decide) (by decide) (ad := "[B") (by decide)
  obtain ⟨b183, g183⟩ : ∃ z, z = T154.heap.size := ⟨_, rfl⟩
  rw [← g183] at A183 EA183 st183
  have g_b183 : n0 ≤ b183 := Nat.le_trans (Nat.le_trans (Nat.le_trans (Nat.le_trans (Nat.le_trans (Nat.le_trans (Nat.le_trans (Nat.le_trans (Nat.le_trans (Nat.le_trans (Nat.le_trans (Nat.le_trans (Nat.le_trans (Nat.le_trans (Nat.le_trans (Nat.le_trans (Nat.le_trans (Nat.le_trans (Nat.le_trans (Nat.le_trans (Nat.le_trans (Nat.le_trans Z0 E1.1) K2.1) E3.1) (Keep.of_wr W6).1) K7.1) E26.1) (Keep.of_wr W29).1) K30.1) E51.1) (Keep.of_wr W54).1) K55.1) E78.1) (Keep.of_wr W81).1) K82.1) K103.1) E119.1) (Keep.of_wr W122).1) K123.1) E150.1) (Keep.of_wr W153).1) K154.1) (Nat.le_of_eq g183.symm)
  have sz_b183 : h0.size ≤ b183 := Nat.le_trans ((((((((((((((((((((((Keep.refl h0 []).ext E1).trans K2 (allS (Or.inr sz_b1) all0)).ext E3).wr W6 (Or.inr sz_b3)).trans K7 (allS (Or.inr sz_b1) (allS (Or.inr sz_bA_2) (allS (Or.inr sz_sA_2) all0)))).ext E26).wr W29 (Or.inr sz_b26)).trans K30 (allS (Or.inr sz_b1) (allS (Or.inr sz_bA_2) (allS (Or.inr sz_sA_2) all0)))).ext E51).wr W54 (Or.inr sz_b51)).trans K55 (allS (Or.inr sz_b1) (allS (Or.inr sz_bA_2) (allS (Or.inr sz_sA_2) all0)))).ext E78).wr W81 (Or.inr sz_b78)).trans K82 (allS (Or.inr sz_b1) (allS (Or.inr sz_bA_2) (allS (Or.inr sz_sA_2) all0)))).trans K103 (allS (Or.inr sz_b1) all0)).ext E119).wr W122 (Or.inr sz_b119)).trans K123 (allS (Or.inr sz_b1) (allS (Or.inr sz_bA_2) (allS (Or.inr sz_sA_2) all0)))).ext E150).wr W153 (Or.inr sz_b150)).trans K154 (allS (Or.inr sz_b1) (allS (Or.inr sz_bA_2) (allS (Or.inr sz_sA_2) all0)))).1 (Nat.le_of_eq g183.symm)
  have V_b183 : Arv Z h183 b183 k183 .byte (1 : Int32) [(.int 0)] (.int 0) := (Arv.new A183 (by decide)).pad (pad_rep [] (.int 0) 1)
  obtain ⟨cl_z184, Ar_z184, q_z184, S_z184, N_z184, H_z184, G_z184⟩ := id V_b183
  have hin185 : ¬ ((0 : Int32) < 0 ∨ cl_z184.slots.size ≤ ((0 : Int32)).toNatClampNeg) := inb_of S_z184 ⟨by decide, by decide⟩
  obtain ⟨T186, h186, X186, e186, W186, st186⟩ := stB X183 hx hZ e183 Ar_z184 (j := (0 : Int32)) hin185 (g := (mkF m 138 #[iv p0, iv p1, rv b1, iv 1, iv 0, iv 0] [(.int (((p1.toUInt32 >>> ((16 : Int32) &&& 31).toUInt32).toInt32).toInt8.toInt32)), (.int 0), (.ref b183), (.ref b183), (.ref b1)])) rfl rfl (hb hby at_138)
  have V186 : Arv Z h186 b183 k183 .byte (1 : Int32) [(.int ((((p1.toUInt32 >>> ((16 : Int32) &&& 31).toUInt32).toInt32).toInt8.toInt32).toInt8.toInt32))] (.int 0) := Arv.set Ar_z184 q_z184 S_z184 N_z184 H_z184 G_z184 (fits_nar_byte _) W186 0 rfl (Nat.le_of_ble_eq_true rfl)
  have N186 := Fr.snoc X186 N154 g_b183
  have f188 := ((p154_0.ext E183).wr W186)
  have f189 := ((p154_1.ext E183).other W186 (Or.inl (Nat.ne_of_lt (Nat.lt_of_lt_of_le p154_0.lt (Nat.le_of_eq g183.symm)))))
  have f190 := ((p154_2.ext E183).other W186 (Or.inl (Nat.ne_of_lt (Nat.lt_of_lt_of_le p154_0.lt (Nat.le_of_eq g183.symm)))))
  have f191 := ((p154_3.ext E183).other W186 (Or.inl (Nat.ne_of_lt (Nat.lt_of_lt_of_le p154_0.lt (Nat.le_of_eq g183.symm)))))
  have f192 := ((p154_4.ext E183).other W186 (Or.inl (Nat.ne_of_lt (Nat.lt_of_lt_of_le p154_0.lt (Nat.le_of_eq g183.symm)))))
  have f193 := ((p154_5.ext E183).other W186 (Or.inl (Nat.ne_of_lt (Nat.lt_of_lt_of_le p154_0.lt (Nat.le_of_eq g183.symm)))))
  have f194 := ((p154_6.ext E183).other W186 (Or.inl (Nat.ne_of_lt (Nat.lt_of_lt_of_le p154_0.lt (Nat.le_of_eq g183.symm)))))
  have f195 := ((p154_7.ext E183).other W186 (Nat.ne_of_lt (Nat.lt_of_lt_of_le p154_8.lt (Nat.le_of_eq g183.symm))))
  have f196 := ((p154_8.ext E183).wr W186)
  have f197 := ((p154_9.ext E183).other W186 (Or.inl (Nat.ne_of_lt (Nat.lt_of_lt_of_le p154_0.lt (Nat.le_of_eq g183.symm)))))
  have f198 := ((p154_10.ext E183).other W186 (Nat.ne_of_lt (Nat.lt_of_lt_of_le p154_11.lt (Nat.le_of_eq g183.symm))))
  have f199 := ((p154_11.ext E183).wr W186)
  have f200 := ((p154_12.ext E183).other W186 (Or.inl (Nat.ne_of_lt (Nat.lt_of_lt_of_le p154_0.lt (Nat.le_of_eq g183.symm)))))
  have f201 := ((p154_13.ext E183).other W186 (Or.inl (Nat.ne_of_lt (Nat.lt_of_lt_of_le p154_0.lt (Nat.le_of_eq g183.symm)))))
  have f202 := (EA183.wr W186)
  obtain ⟨cq187, kq187, q187a, q187b, q187c⟩ := isOf hZ e186 f188
  obtain ⟨_, _, ⟨T187, L187, j187, i187⟩, -, X187, ⟨Lc187, hQ187, l187, y187, z187⟩, st187⟩ := X186.virtualBack hx (y := (⟨cS0, "offer", "([BII)V"⟩ : MethodName)) (z := (⟨cS0, "offer", "([BII)V"⟩ : MethodName)) hown (mvT hZ (own_at hw 23 rfl)) (mvT hZ (own_at hw 24 rfl)) (notFace_of_selects (args := #[]) (mvT hZ (own_at hw 26 rfl))) (mvT hZ (own_at hw 26 rfl)) (mvT hZ (own_at hw 25 rfl)) (by decide) (backOf (W := 0) (rm3_2 l Z a0 hw [] b1 b183 bA_2 kB_2 sA_2 kS_2 oN_82 cN_82 k183 ((p1.toInt8.toInt32).toInt8.toInt32) ((((p1.toUInt32 >>> ((8 : Int32) &&& 31).toUInt32).toInt32).toInt8.toInt32).toInt8.toInt32) e2_82 (0 : Int32) (1 : Int32) t2_82 ((((p1.toUInt32 >>> ((16 : Int32) &&& 31).toUInt32).toInt32).toInt8.toInt32).toInt8.toInt32) h186 n0 (Nat.le_trans (Nat.le_trans (Nat.le_trans (Nat.le_trans (Nat.le_trans (Nat.le_trans (Nat.le_trans (Nat.le_trans (Nat.le_trans (Nat.le_trans (Nat.le_trans (Nat.le_trans (Nat.le_trans (Nat.le_trans (Nat.le_trans (Nat.le_trans (Nat.le_trans (Nat.le_trans (Nat.le_trans (Nat.le_trans (Nat.le_trans (Nat.le_trans (Nat.le_trans Z0 E1.1) K2.1) E3.1) (Keep.of_wr W6).1) K7.1) E26.1) (Keep.of_wr W29).1) K30.1) E51.1) (Keep.of_wr W54).1) K55.1) E78.1) (Keep.of_wr W81).1) K82.1) K103.1) E119.1) (Keep.of_wr W122).1) K123.1) E150.1) (Keep.of_wr W153).1) K154.1) E183.1) (Keep.of_wr W186).1) f188 f189 f190 f191 f192 f193 f194 f195 f196 f197 f198 f199 f200 f201 V186 f202 g_bA_2 (Nat.ne_of_lt (Nat.lt_of_lt_of_le A1.lt p2_0)) g_b1 (Ne.symm p2_3) (Ne.symm (Nat.ne_of_lt (Nat.lt_of_lt_of_le A1.lt p2_1))) g_sA_2 (Nat.ne_of_lt (Nat.lt_of_lt_of_le A1.lt p2_1)) (Ne.symm (Nat.ne_of_lt (Nat.lt_of_lt_of_le A1.lt p2_0))) p2_3) hZ (own_at hw 27 rfl) (own_at hw 2 rfl) (by decide) (by decide)) q187a q187c (g := (mkF m 141 #[iv p0, iv p1, rv b1, iv 1, iv 0, iv 0] [(.int 1), (.int 0), (.ref b183), (.ref b1)])) rfl (by rw [hml]; rfl) (Steps.refl _) (argsL := [(.ref b183), (.int 0), (.int 1)]) (rest := []) (lenOf pd_10 rfl) rfl (Nat.le_refl _) (hb hby at_141) (fun _ _ => ⟨rfl, e186, (by decide : 15 + 0 ≤ _), (by decide : 4881 + 0 ≤ _)⟩)
  dsimp only [Pt.U, Pt.locs, Pt.cells, Pt.slots] at X187 l187 y187 z187 st187 hQ187
  subst l187 y187 z187
  have f203 := ((f176.ext E183).other W186 (Nat.ne_of_lt (Nat.lt_of_lt_of_le f176.lt (Nat.le_of_eq g183.symm))))
  have f204 := ((f177.ext E183).wr W186)
  have f205 := ((f178.ext E183).wr W186)
  have f206 := ((f179.ext E183).wr W186)
  have f207 := ((f180.ext E183).wr W186)
  have f208 := ((f181.ext E183).wr W186)
  have f209 := ((f182.ext E183).wr W186)
  obtain ⟨rfl, N187q, K187, p187_0, p187_1, p187_2, p187_3, p187_4, p187_5, p187_6, p187_7, p187_8, p187_9, p187_10, p187_11, p187_12, p187_13⟩ := hQ187
  have pl187 := (allS (P := fun x => ∃ cell : Cell, h186[x]? = some cell ∧ cell.vm.isStatics = false) (own_ns f188) (allS (P := fun x => ∃ cell : Cell, h186[x]? = some cell ∧ cell.vm.isStatics = false) (own_ns f196) (allS (P := fun x => ∃ cell : Cell, h186[x]? = some cell ∧ cell.vm.isStatics = false) (own_ns f199) all0)))
  have N187 := Fr.app N186 N187q
  obtain ⟨cq210, kq210, q210a, q210b, q210c⟩ := isOf hZ rfl p187_0
  obtain ⟨_, _, ⟨T210, L210, j210, i210⟩, -, X210, ⟨Lc210, hQ210, l210, y210, z210⟩, st210⟩ := X187.virtualBack hx (y := (⟨cS0, "count", "()I"⟩ : MethodName)) (z := (⟨cS0, "count", "()I"⟩ : MethodName)) hown (mvT hZ (own_at hw 95 rfl)) (mvT hZ (own_at hw 96 rfl)) (notFace_of_selects (args := #[]) (mvT hZ (own_at hw 98 rfl))) (mvT hZ (own_at hw 98 rfl)) (mvT hZ (own_at hw 97 rfl)) (by decide) (backOf (W := 0) (rm18 l Z a0 hw [] b1 (3 : Int32) T187.heap n0 (Nat.le_trans (Nat.le_trans (Nat.le_trans (Nat.le_trans (Nat.le_trans (Nat.le_trans (Nat.le_trans (Nat.le_trans (Nat.le_trans (Nat.le_trans (Nat.le_trans (Nat.le_trans (Nat.le_trans (Nat.le_trans (Nat.le_trans (Nat.le_trans (Nat.le_trans (Nat.le_trans (Nat.le_trans (Nat.le_trans (Nat.le_trans (Nat.le_trans (Nat.le_trans (Nat.le_trans Z0 E1.1) K2.1) E3.1) (Keep.of_wr W6).1) K7.1) E26.1) (Keep.of_wr W29).1) K30.1) E51.1) (Keep.of_wr W54).1) K55.1) E78.1) (Keep.of_wr W81).1) K82.1) K103.1) E119.1) (Keep.of_wr W122).1) K123.1) E150.1) (Keep.of_wr W153).1) K154.1) E183.1) (Keep.of_wr W186).1) K187.1) p187_3) hZ (own_at hw 99 rfl) (own_at hw 2 rfl) (by decide) (by decide)) q210a q210c (g := (mkF m 159 #[iv p0, iv p1, rv b1, iv 1, iv 0, iv 0] [(.ref b1)])) rfl (by rw [hml]; rfl) (Steps.refl _) (argsL := []) (rest := []) (lenOf pd_12 rfl) rfl (Nat.le_refl _) (hb hby at_159) (fun _ _ => ⟨rfl, rfl, (by decide : 15 + 0 ≤ _), (by decide : 4881 + 0 ≤ _)⟩)
  dsimp only [Pt.U, Pt.locs, Pt.cells, Pt.slots] at X210 l210 y210 z210 st210 hQ210
  subst l210 y210 z210
  obtain ⟨rfl, N210q, e210⟩ := hQ210
  have N210 := Fr.app N187 N210q
  obtain ⟨cq211, kq211, q211a, q211b, q211c⟩ := isOf hZ e210 p187_0
  obtain ⟨_, _, ⟨T211, L211, j211, i211⟩, -, X211, ⟨Lc211, hQ211, l211, y211, z211⟩, st211⟩ := X210.virtualBack hx (y := (⟨cS0, "letAnyGo", "()Z"⟩ : MethodName)) (z := (⟨cS0, "letAnyGo", "()Z"⟩ : MethodName)) hown (mvT hZ (own_at hw 85 rfl)) (mvT hZ (own_at hw 86 rfl)) (notFace_of_selects (args := #[]) (mvT hZ (own_at hw 88 rfl))) (mvT hZ (own_at hw 88 rfl)) (mvT hZ (own_at hw 87 rfl)) (by decide) (backOf (W := 0) (rm16_n l Z a0 hw [] b1 T187.heap n0 (Nat.le_trans (Nat.le_trans (Nat.le_trans (Nat.le_trans (Nat.le_trans (Nat.le_trans (Nat.le_trans (Nat.le_trans (Nat.le_trans (Nat.le_trans (Nat.le_trans (Nat.le_trans (Nat.le_trans (Nat.le_trans (Nat.le_trans (Nat.le_trans (Nat.le_trans (Nat.le_trans (Nat.le_trans (Nat.le_trans (Nat.le_trans (Nat.le_trans (Nat.le_trans (Nat.le_trans Z0 E1.1) K2.1) E3.1) (Keep.of_wr W6).1) K7.1) E26.1) (Keep.of_wr W29).1) K30.1) E51.1) (Keep.of_wr W54).1) K55.1) E78.1) (Keep.of_wr W81).1) K82.1) K103.1) E119.1) (Keep.of_wr W122).1) K123.1) E150.1) (Keep.of_wr W153).1) K154.1) E183.1) (Keep.of_wr W186).1) K187.1) p187_5) hZ (own_at hw 89 rfl) (own_at hw 2 rfl) (by decide) (by decide)) q211a q211c (g := (mkF m 167 #[iv p0, iv p1, rv b1, iv 1, iv 0, iv 0] [(.ref b1)])) rfl (by rw [hml]; rfl) (Steps.refl _) (argsL := []) (rest := []) (lenOf pd_11 rfl) rfl (Nat.le_refl _) (hb hby at_167) (fun _ _ => ⟨rfl, e210, (by decide : 15 + 0 ≤ _), (by decide : 4881 + 0 ≤ _)⟩)
  dsimp only [Pt.U, Pt.locs, Pt.cells, Pt.slots] at X211 l211 y211 z211 st211 hQ211
  subst l211 y211 z211
  obtain ⟨rfl, N211q, e211⟩ := hQ211
  have N211 := Fr.app N210 N211q
  obtain ⟨fs, hr, hrun, hended, hW, hsame⟩ := X211.leave (v := some (.int 1)) (fun h => by rw [Bd.returns] at h; cases h)
  refine ⟨_, _, k0 _ ?_, hrun, hended, _, _, rfl, ?_, ⟨_, rfl⟩, hW, hsame.mono (by decide) (by decide)⟩
  · show OwnS p e below s₁ (mkF m 0 #[iv p0, iv p1, .unset, .unset, .unset, .unset] []) _
    refine st1 _ ?_
    refine XS.dup X1.here hx rfl (hb hby at_3) rfl rfl ?_
    refine XS.iconst X1.here hx rfl (hb hby at_4) ?_
    refine XS.iconst X1.here hx rfl (hb hby at_5) ?_
    refine st2.trans ?_
    refine XS.astoreN X2.here hx rfl (hb hby at_9) rfl rfl (l' := #[iv p0, iv p1, rv b1, .unset, .unset, .unset]) rfl ?_
    refine XS.aloadN X2.here hx rfl (hb hby at_10) rfl rfl ?_
    refine XS.iconst X2.here hx rfl (hb hby at_11) ?_
    refine st3 _ ?_
    refine XS.dup X3.here hx rfl (hb hby at_14) rfl rfl ?_
    refine XS.iconst X3.here hx rfl (hb hby at_15) ?_
    refine XS.iloadN X3.here hx rfl (hb hby at_16) rfl ?_
    refine XS.i2b X3.here hx rfl (hb hby at_17) rfl ?_
    refine st6 _ ?_
    refine XS.iconst X6.here hx rfl (hb hby at_19) ?_
    refine XS.iconst X6.here hx rfl (hb hby at_20) ?_
    refine st7.trans ?_
    refine XS.aloadN X7.here hx rfl (hb hby at_24) rfl rfl ?_
    refine XS.iconst X7.here hx rfl (hb hby at_25) ?_
    refine st26 _ ?_
    refine XS.dup X26.here hx rfl (hb hby at_28) rfl rfl ?_
    refine XS.iconst X26.here hx rfl (hb hby at_29) ?_
    refine XS.iloadN X26.here hx rfl (hb hby at_30) rfl ?_
    refine XS.bipush X26.here hx rfl (hb hby at_31) ?_
    refine XS.iushr X26.here hx rfl (hb hby at_33) rfl ?_
    refine XS.i2b X26.here hx rfl (hb hby at_34) rfl ?_
    refine st29 _ ?_
    refine XS.iconst X29.here hx rfl (hb hby at_36) ?_
    refine XS.iconst X29.here hx rfl (hb hby at_37) ?_
    refine st30.trans ?_
    refine XS.aloadN X30.here hx rfl (hb hby at_41) rfl rfl ?_
    refine XS.iconst X30.here hx rfl (hb hby at_42) ?_
    refine st51 _ ?_
    refine XS.dup X51.here hx rfl (hb hby at_45) rfl rfl ?_
    refine XS.iconst X51.here hx rfl (hb hby at_46) ?_
    refine XS.iloadN X51.here hx rfl (hb hby at_47) rfl ?_
    refine XS.bipush X51.here hx rfl (hb hby at_48) ?_
    refine XS.iushr X51.here hx rfl (hb hby at_50) rfl ?_
    refine XS.i2b X51.here hx rfl (hb hby at_51) rfl ?_
    refine st54 _ ?_
    show OwnS p e below T54 (mkF m 53 #[iv p0, iv p1, rv b1, .unset, .unset, .unset] [(.ref b51), (.ref b1)]) _
    refine XS.iconst X54.here hx rfl (hb hby at_53) ?_
    refine XS.iconst X54.here hx rfl (hb hby at_54) ?_
    refine st55.trans ?_
    refine XS.aloadN X55.here hx rfl (hb hby at_58) rfl rfl ?_
    refine XS.iconst X55.here hx rfl (hb hby at_59) ?_
    refine st78 _ ?_
    refine XS.dup X78.here hx rfl (hb hby at_62) rfl rfl ?_
    refine XS.iconst X78.here hx rfl (hb hby at_63) ?_
    refine XS.iloadN X78.here hx rfl (hb hby at_64) rfl ?_
    refine XS.bipush X78.here hx rfl (hb hby at_65) ?_
    refine XS.iushr X78.here hx rfl (hb hby at_67) rfl ?_
    refine XS.i2b X78.here hx rfl (hb hby at_68) rfl ?_
    refine st81 _ ?_
    refine XS.iconst X81.here hx rfl (hb hby at_70) ?_
    refine XS.iconst X81.here hx rfl (hb hby at_71) ?_
    refine st82.trans ?_
    refine XS.aloadN X82.here hx rfl (hb hby at_75) rfl rfl ?_
    refine st102.trans ?_
    refine XS.istoreN X102.here hx rfl (hb hby at_79) rfl (l' := #[iv p0, iv p1, rv b1, iv 1, .unset, .unset]) rfl ?_
    refine XS.aloadN X102.here hx rfl (hb hby at_80) rfl rfl ?_
    refine st103.trans ?_
    refine XS.aloadN X103.here hx rfl (hb hby at_84) rfl rfl ?_
    refine st109.trans ?_
    refine XS.istore X109.here hx rfl (hb hby at_88) rfl (l' := #[iv p0, iv p1, rv b1, iv 1, iv 0, .unset]) rfl ?_
    refine XS.aloadN X109.here hx rfl (hb hby at_90) rfl rfl ?_
    refine st111.trans ?_
    refine XS.istore X111.here hx rfl (hb hby at_94) rfl (l' := #[iv p0, iv p1, rv b1, iv 1, iv 0, iv 0]) rfl ?_
    refine XS.aloadN X111.here hx rfl (hb hby at_96) rfl rfl ?_
    refine XS.iconst X111.here hx rfl (hb hby at_97) ?_
    refine st119 _ ?_
    refine XS.dup X119.here hx rfl (hb hby at_100) rfl rfl ?_
    refine XS.iconst X119.here hx rfl (hb hby at_101) ?_
    refine XS.iloadN X119.here hx rfl (hb hby at_102) rfl ?_
    refine XS.i2b X119.here hx rfl (hb hby at_103) rfl ?_
    refine st122 _ ?_
    refine XS.iconst X122.here hx rfl (hb hby at_105) ?_
    refine XS.iconst X122.here hx rfl (hb hby at_106) ?_
    refine st123.trans ?_
    refine XS.aloadN X123.here hx rfl (hb hby at_110) rfl rfl ?_
    refine XS.iconst X123.here hx rfl (hb hby at_111) ?_
    show OwnS p e below T123 (mkF m 112 #[iv p0, iv p1, rv b1, iv 1, iv 0, iv 0] [(.int 1), (.ref b1)]) _
    refine st150 _ ?_
    refine XS.dup X150.here hx rfl (hb hby at_114) rfl rfl ?_
    refine XS.iconst X150.here hx rfl (hb hby at_115) ?_
    refine XS.iloadN X150.here hx rfl (hb hby at_116) rfl ?_
    refine XS.bipush X150.here hx rfl (hb hby at_117) ?_
    refine XS.iushr X150.here hx rfl (hb hby at_119) rfl ?_
    refine XS.i2b X150.here hx rfl (hb hby at_120) rfl ?_
    refine st153 _ ?_
    refine XS.iconst X153.here hx rfl (hb hby at_122) ?_
    refine XS.iconst X153.here hx rfl (hb hby at_123) ?_
    refine st154.trans ?_
    refine XS.aloadN X154.here hx rfl (hb hby at_127) rfl rfl ?_
    refine XS.iconst X154.here hx rfl (hb hby at_128) ?_
    refine st183 _ ?_
    refine XS.dup X183.here hx rfl (hb hby at_131) rfl rfl ?_
    refine XS.iconst X183.here hx rfl (hb hby at_132) ?_
    refine XS.iloadN X183.here hx rfl (hb hby at_133) rfl ?_
    refine XS.bipush X183.here hx rfl (hb hby at_134) ?_
    refine XS.iushr X183.here hx rfl (hb hby at_136) rfl ?_
    refine XS.i2b X183.here hx rfl (hb hby at_137) rfl ?_
    refine st186 _ ?_
    refine XS.iconst X186.here hx rfl (hb hby at_139) ?_
    refine XS.iconst X186.here hx rfl (hb hby at_140) ?_
    refine st187.trans ?_
    refine XS.iloadN X187.here hx rfl (hb hby at_144) rfl ?_
    refine XS.ifNo X187.here hx rfl (hb hby at_145) rfl ((if0 _ _).trans (feq (by decide : ¬ ((1 : Int32) = (0 : Int32)))).1) ?_
    refine XS.iload X187.here hx rfl (hb hby at_148) rfl ?_
    refine XS.ifNo X187.here hx rfl (hb hby at_150) rfl ((if0 _ _).trans (teq (by decide : (0 : Int32) = (0 : Int32))).2) ?_
    refine XS.iload X187.here hx rfl (hb hby at_153) rfl ?_
    refine XS.ifNo X187.here hx rfl (hb hby at_155) rfl ((if0 _ _).trans (teq (by decide : (0 : Int32) = (0 : Int32))).2) ?_
    refine XS.aloadN X187.here hx rfl (hb hby at_158) rfl rfl ?_
    refine st210.trans ?_
    refine XS.iconst X210.here hx rfl (hb hby at_162) ?_
    refine XS.icmpNo X210.here hx rfl (hb hby at_163) rfl (teq (by decide : (3 : Int32) = (3 : Int32))).2 ?_
    refine XS.aloadN X210.here hx rfl (hb hby at_166) rfl rfl ?_
    refine st211.trans ?_
    refine XS.ifNo X211.here hx rfl (hb hby at_170) rfl ((if0 _ _).trans (teq (by decide : (0 : Int32) = (0 : Int32))).2) ?_
    refine XS.iconst X211.here hx rfl (hb hby at_173) ?_
    refine XS.goto X211.here hx rfl (pc0 := 174) (pc' := 178) rfl (hb hby at_174) (by decide) (by decide) ?_
    exact retN X211 hx (t := .boolean) Bd.returns (by simp) (hb hby at_178) hr
  · show Q_0 Z p0 p1 h0 n0 _ T211.heap _
    rw [e211]
    exact ⟨rfl, N211, trivial⟩
set_option maxRecDepth 65536 in
set_option maxHeartbeats 40000000 in
theorem comes_1 {Post : Tables → Env → Array Value → State → Outcome → State → Prop} (hpost : ∀ tb e args s v u, (limb_1_1.after args s (.returned v) u = true ∧ limb_1_2.after args s (.returned v) u = true ∧ True) → FrameEnd s (.returned v) u (Jvm.fieldLocs frame_1_writes args s ++ Jvm.arrayLocs frame_1_arrays args s ++ Jvm.staticLocs frame_1_statics s) 40 9856 → Post tb e args s (.returned v) u) :
    ArmFor flags0 classFile x code maxLocals ret World_1 tables_1 room_1 Calls_1 rest_1 Pre_1 Post := by
  intro l hfl _ _ p e ha hc hk s m args below hf hA hF happ hP
  obtain ⟨hcalls, hrest, hpre⟩ := hP
  obtain ⟨-, -, -, hnamed, -, -, -, hat⟩ := (Spec.applies_iff hf).mp happ
  obtain ⟨hg, hn⟩ := and_e (Cond.before_iff.mp (show (Jvm.Cond.and given_1 narrow_1).before args s = true from hpre))
  have hw := fun d (hd : d ∈ tables_1) => atoms_spec (ws := Jvm.Cond.code x code maxLocals ret :: tables_1) hat d (List.mem_cons_of_mem _ hd)
  have hfit : Fit s := fun {y c} hc i hi => by
    obtain ⟨ha, rfl⟩ := Array.getElem?_eq_some_iff.mp hc
    have q := List.all_eq_true.mp ((Array.all_eq_true_iff_forall_mem.mp hF) _ (Array.getElem_mem ha)) i (List.mem_range.mpr hi)
    simpa [Array.getElem?_eq_getElem hi] using q
  obtain ⟨cj1, cj2⟩ := and_e hg
  obtain ⟨cj3, cj4⟩ := and_e cj2
  obtain ⟨w0, w1, rfl⟩ : ∃ w0 w1 : Value, args = #[w0, w1] := by
    have hs : args.size = 2 := by simpa [Cond.value, given_1] using cj1
    obtain ⟨L⟩ := args
    match L, hs with
    | [w0, w1], _ => exact ⟨w0, w1, rfl⟩
  obtain ⟨i0, ei0⟩ := is_v cj3
  obtain rfl : w0 = (.int i0) := Option.some.inj ei0
  obtain ⟨i1, ei1⟩ := is_v cj4
  obtain rfl : w1 = (.int i1) := Option.some.inj ei1
  obtain ⟨n, o, h1, h2, h3, _, L, rfl, ⟨rfl, N, -⟩, hq⟩ := rm0 l s _ hw tables_1 i0 i1 s.heap s.heap.size (Nat.le_refl _)  p e ha hc hk s m _ below hf ((Spec.applies_iff_loose hf).mp happ).1 ⟨rfl, State.Warmed39.refl s, rfl⟩ trivial
  refine ⟨n, _, h1, h2, h3, hpost _ _ _ _ _ _ ⟨Cond.after_iff.mpr rfl, Cond.after_iff.mpr (eq_i res_at (Term.int_eval (1)) rfl), trivial⟩ ⟨hq.1, hq.2.1, (hq.2.2.sift fun y hy => Or.inr (N y hy)).mono (by decide) (by decide)⟩⟩
theorem main_1_1 : Claimed_1_1 := comes_1 fun _ _ _ _ _ _ h hF => ⟨h.1, hF⟩
theorem main_1_2 : Claimed_1_2 := comes_1 fun _ _ _ _ _ _ h hF => ⟨h.2.1, hF⟩
end Jvm.Pilot.@@N@@
namespace Jvm.Pilot.@@N@@
open Jvm Jvm.ClassFile Sem Op Lib Jvm.Free Jvm.Stand Jvm.Pilot.@@N@@.Jvm.D
/-! MADE BY PROGRAM (witnessworld.py) out of the Statement's table words and the real class files: 17 classes; the members and pool entries that the words name. The judged class is class 1, her method 1. -/
namespace start1
open Jvm.ClassFile
def u (s : String) : CpInfo := .utf8 (stringToUtf16 s)
/-- a pool by its gaps: so many unusable entries, then the entry; so many at the end -/
def gap : Nat → List CpInfo → List CpInfo
  | 0, r => r
  | n + 1, r => .unusable :: gap n r
def poolList (es : List (Nat × CpInfo)) (last : Nat) : List CpInfo := es.foldr (fun e r => gap e.1 (e.2 :: r)) (gap last [])
def pool (es : List (Nat × CpInfo)) (last : Nat) : Array CpInfo := ⟨poolList es last⟩
def fileOf (pool : Array CpInfo) (this : Nat) (attrs : Array Attribute := #[]) (ms : Array MethodInfo := #[]) (fl : Nat := 33) (sup : Nat := 0) (ifs : Array Nat := #[]) (fds : Array FieldInfo := #[]) : ClassFile where
  minorVersion := 0
  majorVersion := 65
  constantPool := pool
  accessFlags := fl
  thisClass := this
  superClass := sup
  interfaces := ifs
  fields := fds
  methods := ms
  attributes := attrs
def plain (name : String) (sup : Option ClassId) : Class where
  name := name
  kind := .ordinary
  loader := none
  accessFlags := 33
  super := sup
  interfaces := #[]
  cf := none
  fields := #[]
  methods := #[]
  instanceTypes := #[]
  staticTypes := #[]
  resolved := #[]
  callSites := []
  init := .initialized
  statics := none
  mirror := none

def pool0 : Array CpInfo := pool [(5, u "<init>"), (0, u "()V"), (1, .class_ 10), (1, u "java/lang/Object")] 113

def k0c0 : Code := { maxStack := 0, maxLocals := 1, code := object_method_1_code, exceptionTable := #[], attributes := #[] }
def k0m0 : Method := { name := "<init>", desc := "()V", sig := { parameters := [], returnType := none }, accessFlags := 1, code := some k0c0 }
/-- java/lang/Object -/
def k0 : Class := { plain "java/lang/Object" none with
  accessFlags := 33
  interfaces := #[]
  cf := some (fileOf pool0 8 #[] #[{ accessFlags := 1, nameIndex := 5, descriptorIndex := 6, attributes := #[] }] 33 0 #[] #[])
  fields := #[]
  methods := #[k0m0]
  instanceTypes := #[]
  staticTypes := #[]
  resolved := Array.replicate 124 none
  statics := none }

def pool1 : Array CpInfo := pool [(2, .class_ 4), (1, u "java/lang/Object"), (0, u "<init>"), (0, u "()V"), (0, .class_ 8), (0, u "com/example/measurewright/measurewright/cli/NameBatch"), (0, .methodref 7 10), (0, .nameAndType 5 11), (0, u "(II)V"), (0, .methodref 7 13), (0, .nameAndType 14 15), (0, u "offer"), (0, u "([BII)V"), (0, .methodref 7 17), (0, .nameAndType 18 19), (0, u "letAnyGo"), (0, u "()Z"), (0, .methodref 7 21), (0, .nameAndType 22 6), (0, u "clear"), (0, .methodref 7 24), (0, .nameAndType 25 26), (0, u "count"), (0, u "()I"), (0, .class_ 28), (0, u "com/example/measurewright/measurewright/cli/NameBatchClearPinLaw"), (2, u "law"), (0, u "(II)Z")] 3

def k1m0 : Method := { name := "<init>", desc := "()V", sig := { parameters := [], returnType := none }, accessFlags := 1, code := none }
def k1c1 : Code := { maxStack := 6, maxLocals := 6, code := code, exceptionTable := #[], attributes := #[] }
def k1m1 : Method := { name := "law", desc := "(II)Z", sig := { parameters := [.int, .int], returnType := some .boolean }, accessFlags := 9, code := some k1c1 }
/-- com/example/measurewright/measurewright/cli/NameBatchClearPinLaw -/
def k1 : Class := { plain "com/example/measurewright/measurewright/cli/NameBatchClearPinLaw" (some 0) with
  accessFlags := 49
  interfaces := #[]
  cf := some (fileOf pool1 27 #[] #[{ accessFlags := 1, nameIndex := 5, descriptorIndex := 6, attributes := #[] }, { accessFlags := 9, nameIndex := 31, descriptorIndex := 32, attributes := #[] }] 49 2 #[] #[])
  fields := #[]
  methods := #[k1m0, k1m1]
  instanceTypes := #[]
  staticTypes := #[]
  resolved := Array.replicate 36 none
  statics := none }

def pool2 : Array CpInfo := pool [(1, .methodref 2 3), (0, .class_ 4), (0, .nameAndType 5 6), (0, u "java/lang/Object"), (0, u "<init>"), (0, u "()V"), (0, .fieldref 8 9), (0, .class_ 10), (0, .nameAndType 11 12), (0, u "com/example/measurewright/measurewright/cli/NameBatch"), (0, u "bytes"), (0, u "[B"), (0, .fieldref 8 14), (0, .nameAndType 15 16), (0, u "starts"), (0, u "[I"), (0, .fieldref 8 18), (0, .nameAndType 19 16), (0, u "order"), (0, .fieldref 8 21), (0, .nameAndType 22 16), (0, u "scratch"), (0, .fieldref 8 24), (0, .nameAndType 25 26), (0, u "maxNames"), (0, u "I"), (0, .fieldref 8 28), (0, .nameAndType 29 26), (0, u "maxBytes"), (0, .fieldref 8 31), (0, .nameAndType 32 26), (0, u "count"), (0, .fieldref 8 34), (0, .nameAndType 35 26), (0, u "used"), (0, .fieldref 8 37), (0, .nameAndType 38 12), (0, u "limit"), (0, .methodref 40 41), (0, .class_ 42), (0, .nameAndType 43 44), (0, u "java/util/Arrays"), (0, u "compareUnsigned"), (0, u "([BII[BII)I"), (0, .methodref 8 46), (0, .nameAndType 47 6), (0, u "halve"), (0, .methodref 49 50), (0, .class_ 51), (0, .nameAndType 52 53), (0, u "java/lang/Math"), (0, u "min"), (0, u "(II)I"), (10, .methodref 65 66), (0, .class_ 67), (0, .nameAndType 68 69), (0, u "java/lang/System"), (0, u "arraycopy"), (0, u "(Ljava/lang/Object;ILjava/lang/Object;II)V"), (0, .methodref 8 71), (0, .nameAndType 72 73), (0, u "merge"), (0, u "(III)V"), (0, .methodref 8 75), (0, .nameAndType 76 77), (0, u "end"), (0, u "(I)I"), (0, .methodref 40 79), (0, .nameAndType 80 81), (0, u "copyOfRange"), (0, u "([BII)[B"), (0, .methodref 8 83), (0, .nameAndType 84 6), (0, u "sort"), (0, .methodref 8 86), (0, .nameAndType 87 53), (0, u "compare"), (0, u "(II)V"), (2, u "clear"), (0, u "offer"), (0, u "([BII)V"), (1, u "letAnyGo"), (0, u "()Z"), (0, u "()I")] 4

def k2c0 : Code := { maxStack := 2, maxLocals := 3, code := prog_6_method_1_code, exceptionTable := #[], attributes := #[] }
def k2m0 : Method := { name := "<init>", desc := "(II)V", sig := { parameters := [.int, .int], returnType := none }, accessFlags := 0, code := some k2c0 }
def k2c1 : Code := { maxStack := 2, maxLocals := 1, code := prog_6_method_2_code, exceptionTable := #[], attributes := #[] }
def k2m1 : Method := { name := "clear", desc := "()V", sig := { parameters := [], returnType := none }, accessFlags := 0, code := some k2c1 }
def k2c2 : Code := { maxStack := 6, maxLocals := 5, code := prog_6_method_3_code, exceptionTable := #[], attributes := #[] }
def k2m2 : Method := { name := "offer", desc := "([BII)V", sig := { parameters := [(.array .byte), .int, .int], returnType := none }, accessFlags := 0, code := some k2c2 }
def k2c3 : Code := { maxStack := 1, maxLocals := 1, code := prog_6_method_4_code, exceptionTable := #[], attributes := #[] }
def k2m3 : Method := { name := "letAnyGo", desc := "()Z", sig := { parameters := [], returnType := some .boolean }, accessFlags := 0, code := some k2c3 }
def k2c4 : Code := { maxStack := 1, maxLocals := 1, code := prog_6_method_5_code, exceptionTable := #[], attributes := #[] }
def k2m4 : Method := { name := "count", desc := "()I", sig := { parameters := [], returnType := some .int }, accessFlags := 0, code := some k2c4 }
def k2c5 : Code := { maxStack := 6, maxLocals := 3, code := prog_6_method_6_code, exceptionTable := #[], attributes := #[] }
def k2m5 : Method := { name := "sort", desc := "()V", sig := { parameters := [], returnType := none }, accessFlags := 0, code := some k2c5 }
def k2c6 : Code := { maxStack := 6, maxLocals := 7, code := prog_6_method_8_code, exceptionTable := #[], attributes := #[] }
def k2m6 : Method := { name := "halve", desc := "()V", sig := { parameters := [], returnType := none }, accessFlags := 2, code := some k2c6 }
def k2c7 : Code := { maxStack := 6, maxLocals := 7, code := prog_6_method_9_code, exceptionTable := #[], attributes := #[] }
def k2m7 : Method := { name := "merge", desc := "(III)V", sig := { parameters := [.int, .int, .int], returnType := none }, accessFlags := 2, code := some k2c7 }
def k2c8 : Code := { maxStack := 7, maxLocals := 3, code := prog_6_method_10_code, exceptionTable := #[], attributes := #[] }
def k2m8 : Method := { name := "compare", desc := "(II)I", sig := { parameters := [.int, .int], returnType := some .int }, accessFlags := 2, code := some k2c8 }
def k2c9 : Code := { maxStack := 3, maxLocals := 2, code := prog_6_method_11_code, exceptionTable := #[], attributes := #[] }
def k2m9 : Method := { name := "end", desc := "(I)I", sig := { parameters := [.int], returnType := some .int }, accessFlags := 2, code := some k2c9 }
/-- com/example/measurewright/measurewright/cli/NameBatch -/
def k2 : Class := { plain "com/example/measurewright/measurewright/cli/NameBatch" (some 0) with
  accessFlags := 48
  interfaces := #[]
  cf := some (fileOf pool2 8 #[] #[{ accessFlags := 0, nameIndex := 5, descriptorIndex := 88, attributes := #[] }, { accessFlags := 0, nameIndex := 91, descriptorIndex := 6, attributes := #[] }, { accessFlags := 0, nameIndex := 92, descriptorIndex := 93, attributes := #[] }, { accessFlags := 0, nameIndex := 95, descriptorIndex := 96, attributes := #[] }, { accessFlags := 0, nameIndex := 32, descriptorIndex := 97, attributes := #[] }, { accessFlags := 0, nameIndex := 84, descriptorIndex := 6, attributes := #[] }, { accessFlags := 2, nameIndex := 47, descriptorIndex := 6, attributes := #[] }, { accessFlags := 2, nameIndex := 72, descriptorIndex := 73, attributes := #[] }, { accessFlags := 2, nameIndex := 87, descriptorIndex := 53, attributes := #[] }, { accessFlags := 2, nameIndex := 76, descriptorIndex := 77, attributes := #[] }] 48 2 #[] #[{ accessFlags := 18, nameIndex := 25, descriptorIndex := 26, attributes := #[] }, { accessFlags := 18, nameIndex := 29, descriptorIndex := 26, attributes := #[] }, { accessFlags := 2, nameIndex := 11, descriptorIndex := 12, attributes := #[] }, { accessFlags := 2, nameIndex := 15, descriptorIndex := 16, attributes := #[] }, { accessFlags := 2, nameIndex := 32, descriptorIndex := 26, attributes := #[] }, { accessFlags := 2, nameIndex := 35, descriptorIndex := 26, attributes := #[] }, { accessFlags := 2, nameIndex := 19, descriptorIndex := 16, attributes := #[] }, { accessFlags := 2, nameIndex := 22, descriptorIndex := 16, attributes := #[] }, { accessFlags := 2, nameIndex := 38, descriptorIndex := 12, attributes := #[] }])
  fields := #[{ name := "maxNames", type := .int, accessFlags := 18, slot := 0, constantValue := 0 }, { name := "maxBytes", type := .int, accessFlags := 18, slot := 1, constantValue := 0 }, { name := "bytes", type := (.array .byte), accessFlags := 2, slot := 2, constantValue := 0 }, { name := "starts", type := (.array .int), accessFlags := 2, slot := 3, constantValue := 0 }, { name := "count", type := .int, accessFlags := 2, slot := 4, constantValue := 0 }, { name := "used", type := .int, accessFlags := 2, slot := 5, constantValue := 0 }, { name := "order", type := (.array .int), accessFlags := 2, slot := 6, constantValue := 0 }, { name := "scratch", type := (.array .int), accessFlags := 2, slot := 7, constantValue := 0 }, { name := "limit", type := (.array .byte), accessFlags := 2, slot := 8, constantValue := 0 }]
  methods := #[k2m0, k2m1, k2m2, k2m3, k2m4, k2m5, k2m6, k2m7, k2m8, k2m9]
  instanceTypes := #[.int, .int, (.array .byte), (.array .int), .int, .int, (.array .int), (.array .int), (.array .byte)]
  staticTypes := #[]
  resolved := Array.replicate 102 none
  statics := none }

def pool3 : Array CpInfo := pool [(2, .class_ 4), (1, u "java/lang/Object"), (0, u "<init>"), (0, u "()V"), (1, .class_ 10), (1, u "java/lang/System"), (0, u "allowSecurityManager"), (0, u "I"), (16, u "cons"), (0, u "Ljava/io/Console;"), (77, .class_ 110), (1, u "java/lang/System$CallersHolder"), (43, u "initialErrStream"), (0, u "Ljava/io/PrintStream;"), (19, u "security"), (0, u "Ljava/lang/SecurityManager;"), (31, .class_ 209), (0, u "java/lang/System$1"), (7, u "props"), (0, u "Ljava/util/Properties;"), (2, u "lineSeparator"), (0, u "Ljava/lang/String;"), (96, .class_ 321), (1, u "java/lang/System$LoggerFinder"), (5, .class_ 328), (0, u "java/lang/System$Logger"), (67, u "err"), (2, u "out"), (91, u "notSupportedJnuEncoding"), (15, u "in"), (17, u "initialIn"), (0, u "Ljava/io/InputStream;"), (35, u "bootLayer"), (0, u "Ljava/lang/ModuleLayer;"), (99, .class_ 664), (0, u "java/lang/System$2"), (9, u "NEVER"), (2, u "MAYBE"), (49, u "arraycopy"), (0, u "(Ljava/lang/Object;ILjava/lang/Object;II)V"), (72, .class_ 802), (0, u "java/lang/System$Logger$Level")] 31

def k3m0 : Method := { name := "<init>", desc := "()V", sig := { parameters := [], returnType := none }, accessFlags := 2, code := none }
def k3m1 : Method := { name := "arraycopy", desc := "(Ljava/lang/Object;ILjava/lang/Object;II)V", sig := { parameters := [(.object "java/lang/Object"), .int, (.object "java/lang/Object"), .int, .int], returnType := none }, accessFlags := 265, code := none }
/-- java/lang/System -/
def k3 : Class := { plain "java/lang/System" (some 0) with
  accessFlags := 49
  interfaces := #[]
  cf := some (fileOf pool3 8 #[.nestMembers #[319, 327, 801, 108, 663, 208]] #[{ accessFlags := 2, nameIndex := 5, descriptorIndex := 6, attributes := #[] }, { accessFlags := 265, nameIndex := 727, descriptorIndex := 728, attributes := #[] }] 49 2 #[] #[{ accessFlags := 25, nameIndex := 507, descriptorIndex := 526, attributes := #[] }, { accessFlags := 25, nameIndex := 399, descriptorIndex := 155, attributes := #[] }, { accessFlags := 25, nameIndex := 396, descriptorIndex := 155, attributes := #[] }, { accessFlags := 10, nameIndex := 525, descriptorIndex := 526, attributes := #[] }, { accessFlags := 26, nameIndex := 674, descriptorIndex := 12, attributes := #[] }, { accessFlags := 26, nameIndex := 677, descriptorIndex := 12, attributes := #[] }, { accessFlags := 10, nameIndex := 11, descriptorIndex := 12, attributes := #[] }, { accessFlags := 74, nameIndex := 175, descriptorIndex := 176, attributes := #[] }, { accessFlags := 10, nameIndex := 491, descriptorIndex := 222, attributes := #[] }, { accessFlags := 74, nameIndex := 29, descriptorIndex := 30, attributes := #[] }, { accessFlags := 74, nameIndex := 154, descriptorIndex := 155, attributes := #[] }, { accessFlags := 10, nameIndex := 217, descriptorIndex := 218, attributes := #[] }, { accessFlags := 10, nameIndex := 221, descriptorIndex := 222, attributes := #[] }, { accessFlags := 8, nameIndex := 562, descriptorIndex := 563, attributes := #[] }])
  fields := #[{ name := "in", type := (.object "java/io/InputStream"), accessFlags := 25, slot := 0, constantValue := 0 }, { name := "out", type := (.object "java/io/PrintStream"), accessFlags := 25, slot := 1, constantValue := 0 }, { name := "err", type := (.object "java/io/PrintStream"), accessFlags := 25, slot := 2, constantValue := 0 }, { name := "initialIn", type := (.object "java/io/InputStream"), accessFlags := 10, slot := 3, constantValue := 0 }, { name := "NEVER", type := .int, accessFlags := 26, slot := 4, constantValue := 0 }, { name := "MAYBE", type := .int, accessFlags := 26, slot := 5, constantValue := 0 }, { name := "allowSecurityManager", type := .int, accessFlags := 10, slot := 6, constantValue := 0 }, { name := "security", type := (.object "java/lang/SecurityManager"), accessFlags := 74, slot := 7, constantValue := 0 }, { name := "notSupportedJnuEncoding", type := (.object "java/lang/String"), accessFlags := 10, slot := 8, constantValue := 0 }, { name := "cons", type := (.object "java/io/Console"), accessFlags := 74, slot := 9, constantValue := 0 }, { name := "initialErrStream", type := (.object "java/io/PrintStream"), accessFlags := 74, slot := 10, constantValue := 0 }, { name := "props", type := (.object "java/util/Properties"), accessFlags := 10, slot := 11, constantValue := 0 }, { name := "lineSeparator", type := (.object "java/lang/String"), accessFlags := 10, slot := 12, constantValue := 0 }, { name := "bootLayer", type := (.object "java/lang/ModuleLayer"), accessFlags := 8, slot := 13, constantValue := 0 }]
  methods := #[k3m0, k3m1]
  instanceTypes := #[]
  staticTypes := #[(.object "java/io/InputStream"), (.object "java/io/PrintStream"), (.object "java/io/PrintStream"), (.object "java/io/InputStream"), .int, .int, .int, (.object "java/lang/SecurityManager"), (.object "java/lang/String"), (.object "java/io/Console"), (.object "java/io/PrintStream"), (.object "java/util/Properties"), (.object "java/lang/String"), (.object "java/lang/ModuleLayer")]
  resolved := Array.replicate 834 none
  statics := none }

def pool4 : Array CpInfo := pool [(1, .class_ 2), (0, u "java/lang/Math"), (1, .class_ 6), (1, u "java/lang/Object"), (0, u "<init>"), (0, u "()V"), (89, .class_ 100), (1, u "java/lang/Math$RandomNumberGeneratorHolder"), (71, u "negativeZeroFloatBits"), (0, u "J"), (2, u "negativeZeroDoubleBits"), (24, u "min"), (43, u "$assertionsDisabled"), (0, u "Z"), (88, u "(II)I"), (2, u "twoToTheDoubleScaleDown"), (0, u "D"), (4, u "twoToTheDoubleScaleUp"), (9, u "E"), (3, u "PI"), (2, u "TAU"), (2, u "DEGREES_TO_RADIANS"), (0, u "RADIANS_TO_DEGREES")] 94

def k4m0 : Method := { name := "<init>", desc := "()V", sig := { parameters := [], returnType := none }, accessFlags := 2, code := none }
def k4c1 : Code := { maxStack := 2, maxLocals := 2, code := jdk_29_method_69_code, exceptionTable := #[], attributes := #[] }
def k4m1 : Method := { name := "min", desc := "(II)I", sig := { parameters := [.int, .int], returnType := some .int }, accessFlags := 9, code := some k4c1 }
/-- java/lang/Math -/
def k4 : Class := { plain "java/lang/Math" (some 0) with
  accessFlags := 49
  interfaces := #[]
  cf := some (fileOf pool4 1 #[.nestMembers #[98]] #[{ accessFlags := 2, nameIndex := 7, descriptorIndex := 8, attributes := #[] }, { accessFlags := 9, nameIndex := 201, descriptorIndex := 335, attributes := #[] }] 49 4 #[] #[{ accessFlags := 25, nameIndex := 354, descriptorIndex := 339, attributes := #[] }, { accessFlags := 25, nameIndex := 358, descriptorIndex := 339, attributes := #[] }, { accessFlags := 25, nameIndex := 361, descriptorIndex := 339, attributes := #[] }, { accessFlags := 26, nameIndex := 364, descriptorIndex := 339, attributes := #[] }, { accessFlags := 26, nameIndex := 365, descriptorIndex := 339, attributes := #[] }, { accessFlags := 26, nameIndex := 172, descriptorIndex := 173, attributes := #[] }, { accessFlags := 26, nameIndex := 176, descriptorIndex := 173, attributes := #[] }, { accessFlags := 8, nameIndex := 344, descriptorIndex := 339, attributes := #[] }, { accessFlags := 8, nameIndex := 338, descriptorIndex := 339, attributes := #[] }, { accessFlags := 4120, nameIndex := 245, descriptorIndex := 246, attributes := #[] }])
  fields := #[{ name := "E", type := .double, accessFlags := 25, slot := 0, constantValue := 0 }, { name := "PI", type := .double, accessFlags := 25, slot := 1, constantValue := 0 }, { name := "TAU", type := .double, accessFlags := 25, slot := 2, constantValue := 0 }, { name := "DEGREES_TO_RADIANS", type := .double, accessFlags := 26, slot := 3, constantValue := 0 }, { name := "RADIANS_TO_DEGREES", type := .double, accessFlags := 26, slot := 4, constantValue := 0 }, { name := "negativeZeroFloatBits", type := .long, accessFlags := 26, slot := 5, constantValue := 0 }, { name := "negativeZeroDoubleBits", type := .long, accessFlags := 26, slot := 6, constantValue := 0 }, { name := "twoToTheDoubleScaleUp", type := .double, accessFlags := 8, slot := 7, constantValue := 0 }, { name := "twoToTheDoubleScaleDown", type := .double, accessFlags := 8, slot := 8, constantValue := 0 }, { name := "$assertionsDisabled", type := .boolean, accessFlags := 4120, slot := 9, constantValue := 0 }]
  methods := #[k4m0, k4m1]
  instanceTypes := #[]
  staticTypes := #[.double, .double, .double, .double, .double, .long, .long, .double, .double, .boolean]
  resolved := Array.replicate 460 none
  statics := none }

def pool5 : Array CpInfo := pool [(2, .class_ 4), (1, u "java/lang/Object"), (0, u "<init>"), (0, u "()V"), (6, .methodref 14 15), (0, .class_ 16), (0, .nameAndType 17 18), (0, u "java/util/Arrays"), (0, u "rangeCheck"), (0, u "(III)V"), (55, .class_ 76), (1, u "java/util/Arrays$NaturalOrder"), (36, .class_ 115), (1, u "java/util/Arrays$LegacyMergeSort"), (1, u "Z"), (21, u "copyOfRange"), (10, .methodref 151 152), (0, .class_ 153), (0, .nameAndType 154 155), (0, u "java/lang/System"), (0, u "arraycopy"), (0, u "(Ljava/lang/Object;ILjava/lang/Object;II)V"), (90, .class_ 248), (1, u "jdk/internal/util/ArraysSupport"), (0, u "mismatch"), (25, .methodref 246 276), (0, .nameAndType 249 277), (0, u "([BI[BII)I"), (26, .methodref 305 306), (0, .class_ 307), (0, .nameAndType 308 309), (0, u "java/lang/Math"), (0, u "min"), (0, u "(II)I"), (29, .methodref 14 340), (0, .nameAndType 341 342), (0, u "copyOfRangeByte"), (0, u "([BII)[B"), (0, .methodref 14 344), (0, .nameAndType 345 346), (0, u "checkLength"), (0, u "(II)V"), (28, .class_ 376), (0, u "java/util/Arrays$ArrayList"), (18, .class_ 397), (1, u "java/lang/Byte"), (47, u "$assertionsDisabled"), (239, u "(BB)I"), (0, .methodref 395 687), (0, .nameAndType 688 685), (0, u "compareUnsigned"), (26, u "MIN_ARRAY_SORT_GRAN"), (0, u "I"), (2, u "INSERTIONSORT_THRESHOLD"), (217, u "([BII[BII)I"), (37, .class_ 976), (0, u "java/util/Arrays$ArrayItr")] 52

def k5m0 : Method := { name := "<init>", desc := "()V", sig := { parameters := [], returnType := none }, accessFlags := 2, code := none }
def k5c1 : Code := { maxStack := 4, maxLocals := 3, code := jdk_65_method_30_code, exceptionTable := #[], attributes := #[] }
def k5m1 : Method := { name := "rangeCheck", desc := "(III)V", sig := { parameters := [.int, .int, .int], returnType := none }, accessFlags := 8, code := some k5c1 }
def k5c2 : Code := { maxStack := 4, maxLocals := 2, code := jdk_65_method_131_code, exceptionTable := #[], attributes := #[] }
def k5m2 : Method := { name := "checkLength", desc := "(II)V", sig := { parameters := [.int, .int], returnType := none }, accessFlags := 10, code := some k5c2 }
def k5c3 : Code := { maxStack := 3, maxLocals := 3, code := jdk_65_method_132_code, exceptionTable := #[], attributes := #[] }
def k5m3 : Method := { name := "copyOfRange", desc := "([BII)[B", sig := { parameters := [(.array .byte), .int, .int], returnType := some (.array .byte) }, accessFlags := 9, code := some k5c3 }
def k5c4 : Code := { maxStack := 6, maxLocals := 5, code := jdk_65_method_133_code, exceptionTable := #[], attributes := #[] }
def k5m4 : Method := { name := "copyOfRangeByte", desc := "([BII)[B", sig := { parameters := [(.array .byte), .int, .int], returnType := some (.array .byte) }, accessFlags := 10, code := some k5c4 }
def k5c5 : Code := { maxStack := 6, maxLocals := 9, code := jdk_65_method_202_code, exceptionTable := #[], attributes := #[] }
def k5m5 : Method := { name := "compareUnsigned", desc := "([BII[BII)I", sig := { parameters := [(.array .byte), .int, .int, (.array .byte), .int, .int], returnType := some .int }, accessFlags := 9, code := some k5c5 }
/-- java/util/Arrays -/
def k5 : Class := { plain "java/util/Arrays" (some 0) with
  accessFlags := 49
  interfaces := #[]
  cf := some (fileOf pool5 14 #[.nestMembers #[975, 375, 113, 74]] #[{ accessFlags := 2, nameIndex := 5, descriptorIndex := 6, attributes := #[] }, { accessFlags := 8, nameIndex := 17, descriptorIndex := 18, attributes := #[] }, { accessFlags := 10, nameIndex := 345, descriptorIndex := 346, attributes := #[] }, { accessFlags := 9, nameIndex := 139, descriptorIndex := 342, attributes := #[] }, { accessFlags := 10, nameIndex := 341, descriptorIndex := 342, attributes := #[] }, { accessFlags := 9, nameIndex := 688, descriptorIndex := 937, attributes := #[] }] 49 2 #[] #[{ accessFlags := 26, nameIndex := 715, descriptorIndex := 716, attributes := #[] }, { accessFlags := 26, nameIndex := 719, descriptorIndex := 716, attributes := #[] }, { accessFlags := 4120, nameIndex := 445, descriptorIndex := 117, attributes := #[] }])
  fields := #[{ name := "MIN_ARRAY_SORT_GRAN", type := .int, accessFlags := 26, slot := 0, constantValue := 0 }, { name := "INSERTIONSORT_THRESHOLD", type := .int, accessFlags := 26, slot := 1, constantValue := 0 }, { name := "$assertionsDisabled", type := .boolean, accessFlags := 4120, slot := 2, constantValue := 0 }]
  methods := #[k5m0, k5m1, k5m2, k5m3, k5m4, k5m5]
  instanceTypes := #[]
  staticTypes := #[.int, .int, .boolean]
  resolved := Array.replicate 1029 none
  statics := none }

def pool6 : Array CpInfo := pool [(9, u "<init>"), (6, .class_ 18), (1, u "java/lang/Object"), (0, u "()V"), (1, .class_ 23), (1, u "jdk/internal/util/ArraysSupport"), (0, u "LOG2_ARRAY_LONG_INDEX_SCALE"), (0, u "I"), (2, u "U"), (0, u "Ljdk/internal/misc/Unsafe;"), (8, u "BIG_ENDIAN"), (0, u "Z"), (8, u "LOG2_BYTE_BIT_SIZE"), (4, u "LOG2_ARRAY_INT_INDEX_SCALE"), (54, u "JLA"), (0, u "Ljdk/internal/access/JavaLangAccess;"), (11, u "LOG2_ARRAY_BOOLEAN_INDEX_SCALE"), (9, u "LOG2_ARRAY_BYTE_INDEX_SCALE"), (5, u "LOG2_ARRAY_CHAR_INDEX_SCALE"), (5, u "LOG2_ARRAY_SHORT_INDEX_SCALE"), (5, u "mismatch"), (12, u "LOG2_ARRAY_FLOAT_INDEX_SCALE"), (24, u "LOG2_ARRAY_DOUBLE_INDEX_SCALE"), (89, u "T_BOOLEAN"), (2, u "T_CHAR"), (1, u "T_FLOAT"), (1, u "T_DOUBLE"), (1, u "T_BYTE"), (1, u "T_SHORT"), (1, u "T_INT"), (1, u "T_LONG"), (1, u "SOFT_MAX_ARRAY_LENGTH"), (42, u "([BI[BII)I")] 40

def k6m0 : Method := { name := "<init>", desc := "()V", sig := { parameters := [], returnType := none }, accessFlags := 2, code := none }
def k6c1 : Code := { maxStack := 8, maxLocals := 8, code := jdk_48_method_14_code, exceptionTable := #[], attributes := #[] }
def k6m1 : Method := { name := "mismatch", desc := "([BI[BII)I", sig := { parameters := [(.array .byte), .int, (.array .byte), .int, .int], returnType := some .int }, accessFlags := 9, code := some k6c1 }
/-- jdk/internal/util/ArraysSupport -/
def k6 : Class := { plain "jdk/internal/util/ArraysSupport" (some 0) with
  accessFlags := 33
  interfaces := #[]
  cf := some (fileOf pool6 21 #[] #[{ accessFlags := 2, nameIndex := 9, descriptorIndex := 19, attributes := #[] }, { accessFlags := 9, nameIndex := 149, descriptorIndex := 337, attributes := #[] }] 33 16 #[] #[{ accessFlags := 24, nameIndex := 28, descriptorIndex := 29, attributes := #[] }, { accessFlags := 26, nameIndex := 38, descriptorIndex := 39, attributes := #[] }, { accessFlags := 25, nameIndex := 121, descriptorIndex := 25, attributes := #[] }, { accessFlags := 25, nameIndex := 131, descriptorIndex := 25, attributes := #[] }, { accessFlags := 25, nameIndex := 137, descriptorIndex := 25, attributes := #[] }, { accessFlags := 25, nameIndex := 143, descriptorIndex := 25, attributes := #[] }, { accessFlags := 25, nameIndex := 53, descriptorIndex := 25, attributes := #[] }, { accessFlags := 25, nameIndex := 24, descriptorIndex := 25, attributes := #[] }, { accessFlags := 25, nameIndex := 162, descriptorIndex := 25, attributes := #[] }, { accessFlags := 25, nameIndex := 187, descriptorIndex := 25, attributes := #[] }, { accessFlags := 26, nameIndex := 48, descriptorIndex := 25, attributes := #[] }, { accessFlags := 25, nameIndex := 277, descriptorIndex := 25, attributes := #[] }, { accessFlags := 25, nameIndex := 280, descriptorIndex := 25, attributes := #[] }, { accessFlags := 25, nameIndex := 282, descriptorIndex := 25, attributes := #[] }, { accessFlags := 25, nameIndex := 284, descriptorIndex := 25, attributes := #[] }, { accessFlags := 25, nameIndex := 286, descriptorIndex := 25, attributes := #[] }, { accessFlags := 25, nameIndex := 288, descriptorIndex := 25, attributes := #[] }, { accessFlags := 25, nameIndex := 290, descriptorIndex := 25, attributes := #[] }, { accessFlags := 25, nameIndex := 292, descriptorIndex := 25, attributes := #[] }, { accessFlags := 26, nameIndex := 108, descriptorIndex := 109, attributes := #[] }, { accessFlags := 25, nameIndex := 294, descriptorIndex := 25, attributes := #[] }])
  fields := #[{ name := "U", type := (.object "jdk/internal/misc/Unsafe"), accessFlags := 24, slot := 0, constantValue := 0 }, { name := "BIG_ENDIAN", type := .boolean, accessFlags := 26, slot := 1, constantValue := 0 }, { name := "LOG2_ARRAY_BOOLEAN_INDEX_SCALE", type := .int, accessFlags := 25, slot := 2, constantValue := 0 }, { name := "LOG2_ARRAY_BYTE_INDEX_SCALE", type := .int, accessFlags := 25, slot := 3, constantValue := 0 }, { name := "LOG2_ARRAY_CHAR_INDEX_SCALE", type := .int, accessFlags := 25, slot := 4, constantValue := 0 }, { name := "LOG2_ARRAY_SHORT_INDEX_SCALE", type := .int, accessFlags := 25, slot := 5, constantValue := 0 }, { name := "LOG2_ARRAY_INT_INDEX_SCALE", type := .int, accessFlags := 25, slot := 6, constantValue := 0 }, { name := "LOG2_ARRAY_LONG_INDEX_SCALE", type := .int, accessFlags := 25, slot := 7, constantValue := 0 }, { name := "LOG2_ARRAY_FLOAT_INDEX_SCALE", type := .int, accessFlags := 25, slot := 8, constantValue := 0 }, { name := "LOG2_ARRAY_DOUBLE_INDEX_SCALE", type := .int, accessFlags := 25, slot := 9, constantValue := 0 }, { name := "LOG2_BYTE_BIT_SIZE", type := .int, accessFlags := 26, slot := 10, constantValue := 0 }, { name := "T_BOOLEAN", type := .int, accessFlags := 25, slot := 11, constantValue := 0 }, { name := "T_CHAR", type := .int, accessFlags := 25, slot := 12, constantValue := 0 }, { name := "T_FLOAT", type := .int, accessFlags := 25, slot := 13, constantValue := 0 }, { name := "T_DOUBLE", type := .int, accessFlags := 25, slot := 14, constantValue := 0 }, { name := "T_BYTE", type := .int, accessFlags := 25, slot := 15, constantValue := 0 }, { name := "T_SHORT", type := .int, accessFlags := 25, slot := 16, constantValue := 0 }, { name := "T_INT", type := .int, accessFlags := 25, slot := 17, constantValue := 0 }, { name := "T_LONG", type := .int, accessFlags := 25, slot := 18, constantValue := 0 }, { name := "JLA", type := (.object "jdk/internal/access/JavaLangAccess"), accessFlags := 26, slot := 19, constantValue := 0 }, { name := "SOFT_MAX_ARRAY_LENGTH", type := .int, accessFlags := 25, slot := 20, constantValue := 0 }]
  methods := #[k6m0, k6m1]
  instanceTypes := #[]
  staticTypes := #[(.object "jdk/internal/misc/Unsafe"), .boolean, .int, .int, .int, .int, .int, .int, .int, .int, .int, .int, .int, .int, .int, .int, .int, .int, .int, (.object "jdk/internal/access/JavaLangAccess"), .int]
  resolved := Array.replicate 378 none
  statics := none }

def pool7 : Array CpInfo := pool [(1, .class_ 2), (0, u "java/io/Serializable"), (0, .class_ 4), (0, u "java/lang/Object")] 2

/-- java/io/Serializable -/
def k7 : Class := { plain "java/io/Serializable" (some 0) with
  accessFlags := 1537
  interfaces := #[]
  cf := some (fileOf pool7 1 #[] #[] 1537 3 #[] #[])
  fields := #[]
  methods := #[]
  instanceTypes := #[]
  staticTypes := #[]
  resolved := Array.replicate 7 none
  statics := none }

def pool8 : Array CpInfo := pool [(2, .class_ 4), (1, u "java/lang/Object"), (0, u "<init>"), (0, u "()V"), (1, .class_ 10), (1, u "java/lang/Number"), (2, .class_ 14), (0, u "java/io/Serializable"), (0, u "serialVersionUID"), (0, u "J")] 20

def k8m0 : Method := { name := "<init>", desc := "()V", sig := { parameters := [], returnType := none }, accessFlags := 1, code := none }
/-- java/lang/Number -/
def k8 : Class := { plain "java/lang/Number" (some 0) with
  accessFlags := 1057
  interfaces := #[7]
  cf := some (fileOf pool8 8 #[] #[{ accessFlags := 1, nameIndex := 5, descriptorIndex := 6, attributes := #[] }] 1057 2 #[13] #[{ accessFlags := 26, nameIndex := 15, descriptorIndex := 16, attributes := #[] }])
  fields := #[{ name := "serialVersionUID", type := .long, accessFlags := 26, slot := 0, constantValue := 0 }]
  methods := #[k8m0]
  instanceTypes := #[]
  staticTypes := #[.long]
  resolved := Array.replicate 37 none
  statics := none }

def pool9 : Array CpInfo := pool [(1, .class_ 2), (0, u "java/lang/Comparable"), (0, .class_ 4), (0, u "java/lang/Object")] 7

/-- java/lang/Comparable -/
def k9 : Class := { plain "java/lang/Comparable" (some 0) with
  accessFlags := 1537
  interfaces := #[]
  cf := some (fileOf pool9 1 #[] #[] 1537 3 #[] #[])
  fields := #[]
  methods := #[]
  instanceTypes := #[]
  staticTypes := #[]
  resolved := Array.replicate 12 none
  statics := none }

def pool10 : Array CpInfo := pool [(1, .class_ 2), (0, u "java/lang/constant/Constable"), (0, .class_ 4), (0, u "java/lang/Object")] 6

/-- java/lang/constant/Constable -/
def k10 : Class := { plain "java/lang/constant/Constable" (some 0) with
  accessFlags := 1537
  interfaces := #[]
  cf := some (fileOf pool10 1 #[] #[] 1537 3 #[] #[])
  fields := #[]
  methods := #[]
  instanceTypes := #[]
  staticTypes := #[]
  resolved := Array.replicate 11 none
  statics := none }

def pool11 : Array CpInfo := pool [(1, .class_ 2), (0, u "java/lang/Byte"), (41, .class_ 46), (1, u "java/lang/Byte$ByteCache"), (51, .class_ 99), (0, u "java/lang/Number"), (2, u "value"), (0, u "B"), (3, u "(B)I"), (7, u "(BB)I"), (0, .methodref 1 117), (0, .nameAndType 118 107), (0, u "toUnsignedInt"), (16, u "TYPE"), (0, u "Ljava/lang/Class;"), (0, .class_ 138), (0, u "java/lang/Comparable"), (0, .class_ 140), (0, u "java/lang/constant/Constable"), (0, u "MIN_VALUE"), (2, u "MAX_VALUE"), (3, u "SIZE"), (0, u "I"), (1, u "BYTES"), (1, u "serialVersionUID"), (0, u "J"), (45, u "compareUnsigned")] 12

def k11c0 : Code := { maxStack := 2, maxLocals := 2, code := jdk_2056_method_23_code, exceptionTable := #[], attributes := #[] }
def k11m0 : Method := { name := "compareUnsigned", desc := "(BB)I", sig := { parameters := [.byte, .byte], returnType := some .int }, accessFlags := 9, code := some k11c0 }
def k11c1 : Code := { maxStack := 2, maxLocals := 1, code := jdk_2056_method_24_code, exceptionTable := #[], attributes := #[] }
def k11m1 : Method := { name := "toUnsignedInt", desc := "(B)I", sig := { parameters := [.byte], returnType := some .int }, accessFlags := 9, code := some k11c1 }
/-- java/lang/Byte -/
def k11 : Class := { plain "java/lang/Byte" (some 8) with
  accessFlags := 49
  interfaces := #[9, 10]
  cf := some (fileOf pool11 1 #[.nestMembers #[44]] #[{ accessFlags := 9, nameIndex := 200, descriptorIndex := 115, attributes := #[] }, { accessFlags := 9, nameIndex := 118, descriptorIndex := 107, attributes := #[] }] 49 98 #[137, 139] #[{ accessFlags := 25, nameIndex := 141, descriptorIndex := 103, attributes := #[] }, { accessFlags := 25, nameIndex := 144, descriptorIndex := 103, attributes := #[] }, { accessFlags := 25, nameIndex := 135, descriptorIndex := 136, attributes := #[] }, { accessFlags := 18, nameIndex := 102, descriptorIndex := 103, attributes := #[] }, { accessFlags := 25, nameIndex := 148, descriptorIndex := 149, attributes := #[] }, { accessFlags := 25, nameIndex := 151, descriptorIndex := 149, attributes := #[] }, { accessFlags := 26, nameIndex := 153, descriptorIndex := 154, attributes := #[] }])
  fields := #[{ name := "MIN_VALUE", type := .byte, accessFlags := 25, slot := 0, constantValue := 0 }, { name := "MAX_VALUE", type := .byte, accessFlags := 25, slot := 1, constantValue := 0 }, { name := "TYPE", type := (.object "java/lang/Class"), accessFlags := 25, slot := 2, constantValue := 0 }, { name := "value", type := .byte, accessFlags := 18, slot := 0, constantValue := 0 }, { name := "SIZE", type := .int, accessFlags := 25, slot := 3, constantValue := 0 }, { name := "BYTES", type := .int, accessFlags := 25, slot := 4, constantValue := 0 }, { name := "serialVersionUID", type := .long, accessFlags := 26, slot := 5, constantValue := 0 }]
  methods := #[k11m0, k11m1]
  instanceTypes := #[.byte]
  staticTypes := #[.byte, .byte, (.object "java/lang/Class"), .int, .int, .long]
  resolved := Array.replicate 213 none
  statics := none }

def pool12 : Array CpInfo := pool [(1, u "java/lang/Cloneable"), (0, .class_ 1), (0, u "java/lang/Object"), (0, .class_ 3)] 3

/-- java/lang/Cloneable -/
def k12 : Class := { plain "java/lang/Cloneable" (some 0) with
  accessFlags := 1537
  interfaces := #[]
  cf := some (fileOf pool12 2 #[] #[] 1537 4 #[] #[])
  fields := #[]
  methods := #[]
  instanceTypes := #[]
  staticTypes := #[]
  resolved := Array.replicate 8 none
  statics := none }

/-- the primitive byte -/
def k13 : Class := { plain "byte" none with kind := .primitive 'B', accessFlags := 0x411 }
/-- [B -/
def k14 : Class := { plain "[B" (some 0) with kind := .array 13 .byte, interfaces := #[12, 7], accessFlags := 1041 }

/-- the primitive int -/
def k15 : Class := { plain "int" none with kind := .primitive 'I', accessFlags := 0x411 }
/-- [I -/
def k16 : Class := { plain "[I" (some 0) with kind := .array 15 .int, interfaces := #[12, 7], accessFlags := 1041 }

def heap : Heap := #[]
def classes : Array Class := #[k0, k1, k2, k3, k4, k5, k6, k7, k8, k9, k10, k11, k12, k13, k14, k15, k16]
def interned : List (Array UInt16 × Addr) := []
def slotsUsed : Nat := 0
def theMethod : MethodId := ⟨1, 1⟩
def args0 : Array Value := #[.int 5, .int 6]
def aboutOver (below : List Frame) : State where
  vm := { classes := classes, interned := interned.toArray }
  heap := heap
  slotsUsed := slotsUsed
  threads := #[{ frames := .invoking theMethod args0 :: below }]
def below0 : List Frame := [.native { method := ⟨0, 0⟩, args := #[] }]
def about1 : State := aboutOver below0
def p0 : Program := .bare "" "" ""
def e0 : Env := launch0.env 0 0 0
theorem w_frames : about1.frames = Frame.invoking theMethod args0 :: below0 := rfl
set_option maxRecDepth 65536 in
theorem w_args : argsFit about1.vm theMethod args0 = true := by decide +kernel
set_option maxRecDepth 65536 in
theorem w_heap : heapFits about1 = true := by decide +kernel
set_option maxRecDepth 65536 in
theorem w_runnable : about1.curStatus? = some .runnable := by decide +kernel
set_option maxRecDepth 65536 in
theorem w_alone : about1.alone = true := by decide +kernel
set_option maxRecDepth 65536 in
theorem w_named : about1.methodNamed? x = some theMethod := by decide +kernel
set_option maxRecDepth 65536 in
theorem w_hears : about1.hears theMethod below0 = true := by decide +kernel
set_option maxRecDepth 65536 in
theorem w_ripe : about1.ripe theMethod args0 below0 = true := by decide +kernel
theorem w_running : about1.status = .running := rfl
set_option maxRecDepth 65536 in
theorem w_room : about1.hasRoom e0.platform room_1 = true :=
  launch0.hasRoom_least _ room_1 (by decide +kernel) (by decide +kernel) (by decide +kernel) (by decide +kernel) (by decide +kernel) (by decide +kernel)
theorem allAtoms_all (ts : List Jvm.Cond) (a : Array Jvm.Value) (st : Jvm.State) : (allAtoms ts).before a st = ts.all (fun c => c.before a st) := by
  induction ts with
  | nil => rfl
  | cons c t ih =>
    show (Jvm.Cond.and c (allAtoms t)).before a st = _
    rw [Jvm.Cond.before_and, ih, List.all_cons]
def words1 : List Jvm.Cond := Jvm.Cond.code x code maxLocals ret :: tables_1
/-- a 'code' word, met by the world's own term for the bytes: nothing is compared byte by byte -/
theorem code_word {y : MethodName} {bytes : ByteArray} {mx : Nat} {rt : Option FieldType} {a : Array Value} {s : State} {m : MethodId} {meth : Method} {c : Code} (h1 : s.methodNamed? y = some m) (h2 : s.vm.method? m = some meth) (h3 : meth.code = some c) (h4 : c.code = bytes)
    (h5 : (c.maxLocals == mx && c.exceptionTable.isEmpty && decide (c.maxStack ≤ mostOperands) && decide (meth.sig.returnType = rt) && !meth.locks && decide (parseMethodDescriptor y.desc = some meth.sig)) = true) : (Jvm.Cond.code y bytes mx rt).before a s = true := by
  simp only [Bool.and_eq_true, beq_iff_eq, Bool.not_eq_true', decide_eq_true_eq] at h5
  obtain ⟨⟨⟨⟨⟨g1, g2⟩, g3⟩, g4⟩, g5⟩, g6⟩ := h5
  simp [Cond.before, Cond.holds, Cond.value, h1, h2, h3, h4, g1, g2, g3, g4, g5, g6]
def isCode : Jvm.Cond → Bool
  | .code _ _ _ _ => true
  | _ => false
theorem all_split {L : List Jvm.Cond} {P : Jvm.Cond → Bool} (h1 : L.all (fun c => isCode c || P c) = true) (h2 : ∀ c ∈ L.filter isCode, P c = true) : L.all P = true := by
  refine List.all_eq_true.mpr fun c hc => ?_
  have h := List.all_eq_true.mp h1 c hc
  rcases Bool.eq_false_or_eq_true (isCode c) with hi | hi
  · exact h2 c (List.mem_filter.mpr ⟨hc, hi⟩)
  · simpa [hi] using h
set_option maxRecDepth 65536 in
theorem w_c0 : (Jvm.Cond.code x code maxLocals ret).before args0 about1 = true := code_word (m := ⟨1, 1⟩) (meth := k1m1) (c := k1c1) (by decide +kernel) rfl rfl rfl (by decide +kernel)
set_option maxRecDepth 65536 in
theorem w_c1 : (Jvm.Cond.code ({ cls := "com/example/measurewright/measurewright/cli/NameBatch", name := "<init>", desc := "(II)V" } : Jvm.MethodName) prog_6_method_1_code (3 : Nat) (Option.none : Option Jvm.ClassFile.FieldType)).before args0 about1 = true := code_word (m := ⟨2, 0⟩) (meth := k2m0) (c := k2c0) (by decide +kernel) rfl rfl rfl (by decide +kernel)
set_option maxRecDepth 65536 in
theorem w_c2 : (Jvm.Cond.code ({ cls := "java/lang/Object", name := "<init>", desc := "()V" } : Jvm.MethodName) object_method_1_code (1 : Nat) (Option.none : Option Jvm.ClassFile.FieldType)).before args0 about1 = true := code_word (m := ⟨0, 0⟩) (meth := k0m0) (c := k0c0) (by decide +kernel) rfl rfl rfl (by decide +kernel)
set_option maxRecDepth 65536 in
theorem w_c3 : (Jvm.Cond.code ({ cls := "com/example/measurewright/measurewright/cli/NameBatch", name := "offer", desc := "([BII)V" } : Jvm.MethodName) prog_6_method_3_code (5 : Nat) (Option.none : Option Jvm.ClassFile.FieldType)).before args0 about1 = true := code_word (m := ⟨2, 2⟩) (meth := k2m2) (c := k2c2) (by decide +kernel) rfl rfl rfl (by decide +kernel)
set_option maxRecDepth 65536 in
theorem w_c4 : (Jvm.Cond.code ({ cls := "com/example/measurewright/measurewright/cli/NameBatch", name := "halve", desc := "()V" } : Jvm.MethodName) prog_6_method_8_code (7 : Nat) (Option.none : Option Jvm.ClassFile.FieldType)).before args0 about1 = true := code_word (m := ⟨2, 6⟩) (meth := k2m6) (c := k2c6) (by decide +kernel) rfl rfl rfl (by decide +kernel)
set_option maxRecDepth 65536 in
theorem w_c5 : (Jvm.Cond.code ({ cls := "com/example/measurewright/measurewright/cli/NameBatch", name := "sort", desc := "()V" } : Jvm.MethodName) prog_6_method_6_code (3 : Nat) (Option.none : Option Jvm.ClassFile.FieldType)).before args0 about1 = true := code_word (m := ⟨2, 5⟩) (meth := k2m5) (c := k2c5) (by decide +kernel) rfl rfl rfl (by decide +kernel)
set_option maxRecDepth 65536 in
theorem w_c6 : (Jvm.Cond.code ({ cls := "java/lang/Math", name := "min", desc := "(II)I" } : Jvm.MethodName) jdk_29_method_69_code (2 : Nat) (Option.some Jvm.ClassFile.FieldType.int)).before args0 about1 = true := code_word (m := ⟨4, 1⟩) (meth := k4m1) (c := k4c1) (by decide +kernel) rfl rfl rfl (by decide +kernel)
set_option maxRecDepth 65536 in
theorem w_c7 : (Jvm.Cond.code ({ cls := "com/example/measurewright/measurewright/cli/NameBatch", name := "merge", desc := "(III)V" } : Jvm.MethodName) prog_6_method_9_code (7 : Nat) (Option.none : Option Jvm.ClassFile.FieldType)).before args0 about1 = true := code_word (m := ⟨2, 7⟩) (meth := k2m7) (c := k2c7) (by decide +kernel) rfl rfl rfl (by decide +kernel)
set_option maxRecDepth 65536 in
theorem w_c8 : (Jvm.Cond.code ({ cls := "com/example/measurewright/measurewright/cli/NameBatch", name := "compare", desc := "(II)I" } : Jvm.MethodName) prog_6_method_10_code (3 : Nat) (Option.some Jvm.ClassFile.FieldType.int)).before args0 about1 = true := code_word (m := ⟨2, 8⟩) (meth := k2m8) (c := k2c8) (by decide +kernel) rfl rfl rfl (by decide +kernel)
set_option maxRecDepth 65536 in
theorem w_c9 : (Jvm.Cond.code ({ cls := "com/example/measurewright/measurewright/cli/NameBatch", name := "end", desc := "(I)I" } : Jvm.MethodName) prog_6_method_11_code (2 : Nat) (Option.some Jvm.ClassFile.FieldType.int)).before args0 about1 = true := code_word (m := ⟨2, 9⟩) (meth := k2m9) (c := k2c9) (by decide +kernel) rfl rfl rfl (by decide +kernel)
set_option maxRecDepth 65536 in
theorem w_c10 : (Jvm.Cond.code ({ cls := "java/util/Arrays", name := "compareUnsigned", desc := "([BII[BII)I" } : Jvm.MethodName) jdk_65_method_202_code (9 : Nat) (Option.some Jvm.ClassFile.FieldType.int)).before args0 about1 = true := code_word (m := ⟨5, 5⟩) (meth := k5m5) (c := k5c5) (by decide +kernel) rfl rfl rfl (by decide +kernel)
set_option maxRecDepth 65536 in
theorem w_c11 : (Jvm.Cond.code ({ cls := "java/util/Arrays", name := "rangeCheck", desc := "(III)V" } : Jvm.MethodName) jdk_65_method_30_code (3 : Nat) (Option.none : Option Jvm.ClassFile.FieldType)).before args0 about1 = true := code_word (m := ⟨5, 1⟩) (meth := k5m1) (c := k5c1) (by decide +kernel) rfl rfl rfl (by decide +kernel)
set_option maxRecDepth 65536 in
theorem w_c12 : (Jvm.Cond.code ({ cls := "jdk/internal/util/ArraysSupport", name := "mismatch", desc := "([BI[BII)I" } : Jvm.MethodName) jdk_48_method_14_code (8 : Nat) (Option.some Jvm.ClassFile.FieldType.int)).before args0 about1 = true := code_word (m := ⟨6, 1⟩) (meth := k6m1) (c := k6c1) (by decide +kernel) rfl rfl rfl (by decide +kernel)
set_option maxRecDepth 65536 in
theorem w_c13 : (Jvm.Cond.code ({ cls := "java/util/Arrays", name := "copyOfRange", desc := "([BII)[B" } : Jvm.MethodName) jdk_65_method_132_code (3 : Nat) (Option.some (Jvm.ClassFile.FieldType.array Jvm.ClassFile.FieldType.byte))).before args0 about1 = true := code_word (m := ⟨5, 3⟩) (meth := k5m3) (c := k5c3) (by decide +kernel) rfl rfl rfl (by decide +kernel)
set_option maxRecDepth 65536 in
theorem w_c14 : (Jvm.Cond.code ({ cls := "java/util/Arrays", name := "copyOfRangeByte", desc := "([BII)[B" } : Jvm.MethodName) jdk_65_method_133_code (5 : Nat) (Option.some (Jvm.ClassFile.FieldType.array Jvm.ClassFile.FieldType.byte))).before args0 about1 = true := code_word (m := ⟨5, 4⟩) (meth := k5m4) (c := k5c4) (by decide +kernel) rfl rfl rfl (by decide +kernel)
set_option maxRecDepth 65536 in
theorem w_c15 : (Jvm.Cond.code ({ cls := "java/util/Arrays", name := "checkLength", desc := "(II)V" } : Jvm.MethodName) jdk_65_method_131_code (2 : Nat) (Option.none : Option Jvm.ClassFile.FieldType)).before args0 about1 = true := code_word (m := ⟨5, 2⟩) (meth := k5m2) (c := k5c2) (by decide +kernel) rfl rfl rfl (by decide +kernel)
set_option maxRecDepth 65536 in
theorem w_c16 : (Jvm.Cond.code ({ cls := "com/example/measurewright/measurewright/cli/NameBatch", name := "letAnyGo", desc := "()Z" } : Jvm.MethodName) prog_6_method_4_code (1 : Nat) (Option.some Jvm.ClassFile.FieldType.boolean)).before args0 about1 = true := code_word (m := ⟨2, 3⟩) (meth := k2m3) (c := k2c3) (by decide +kernel) rfl rfl rfl (by decide +kernel)
set_option maxRecDepth 65536 in
theorem w_c17 : (Jvm.Cond.code ({ cls := "com/example/measurewright/measurewright/cli/NameBatch", name := "clear", desc := "()V" } : Jvm.MethodName) prog_6_method_2_code (1 : Nat) (Option.none : Option Jvm.ClassFile.FieldType)).before args0 about1 = true := code_word (m := ⟨2, 1⟩) (meth := k2m1) (c := k2c1) (by decide +kernel) rfl rfl rfl (by decide +kernel)
set_option maxRecDepth 65536 in
theorem w_c18 : (Jvm.Cond.code ({ cls := "com/example/measurewright/measurewright/cli/NameBatch", name := "count", desc := "()I" } : Jvm.MethodName) prog_6_method_5_code (1 : Nat) (Option.some Jvm.ClassFile.FieldType.int)).before args0 about1 = true := code_word (m := ⟨2, 4⟩) (meth := k2m4) (c := k2c4) (by decide +kernel) rfl rfl rfl (by decide +kernel)
set_option maxRecDepth 65536 in
theorem w_c19 : (Jvm.Cond.code ({ cls := "java/lang/Byte", name := "compareUnsigned", desc := "(BB)I" } : Jvm.MethodName) jdk_2056_method_23_code (2 : Nat) (Option.some Jvm.ClassFile.FieldType.int)).before args0 about1 = true := code_word (m := ⟨11, 0⟩) (meth := k11m0) (c := k11c0) (by decide +kernel) rfl rfl rfl (by decide +kernel)
set_option maxRecDepth 65536 in
theorem w_c20 : (Jvm.Cond.code ({ cls := "java/lang/Byte", name := "toUnsignedInt", desc := "(B)I" } : Jvm.MethodName) jdk_2056_method_24_code (1 : Nat) (Option.some Jvm.ClassFile.FieldType.int)).before args0 about1 = true := code_word (m := ⟨11, 1⟩) (meth := k11m1) (c := k11c1) (by decide +kernel) rfl rfl rfl (by decide +kernel)
def codes1 : List Jvm.Cond := [Jvm.Cond.code x code maxLocals ret, Jvm.Cond.code ({ cls := "com/example/measurewright/measurewright/cli/NameBatch", name := "<init>", desc := "(II)V" } : Jvm.MethodName) prog_6_method_1_code (3 : Nat) (Option.none : Option Jvm.ClassFile.FieldType), Jvm.Cond.code ({ cls := "java/lang/Object", name := "<init>", desc := "()V" } : Jvm.MethodName) object_method_1_code (1 : Nat) (Option.none : Option Jvm.ClassFile.FieldType), Jvm.Cond.code ({ cls := "com/example/measurewright/measurewright/cli/NameBatch", name := "offer", desc := "([BII)V" } : Jvm.MethodName) prog_6_method_3_code (5 : Nat) (Option.none : Option Jvm.ClassFile.FieldType), Jvm.Cond.code ({ cls := "com/example/measurewright/measurewright/cli/NameBatch", name := "halve", desc := "()V" } : Jvm.MethodName) prog_6_method_8_code (7 : Nat) (Option.none : Option Jvm.ClassFile.FieldType), Jvm.Cond.code ({ cls := "com/example/measurewright/measurewright/cli/NameBatch", name := "sort", desc := "()V" } : Jvm.MethodName) prog_6_method_6_code (3 : Nat) (Option.none : Option Jvm.ClassFile.FieldType), Jvm.Cond.code ({ cls := "java/lang/Math", name := "min", desc := "(II)I" } : Jvm.MethodName) jdk_29_method_69_code (2 : Nat) (Option.some Jvm.ClassFile.FieldType.int), Jvm.Cond.code ({ cls := "com/example/measurewright/measurewright/cli/NameBatch", name := "merge", desc := "(III)V" } : Jvm.MethodName) prog_6_method_9_code (7 : Nat) (Option.none : Option Jvm.ClassFile.FieldType), Jvm.Cond.code ({ cls := "com/example/measurewright/measurewright/cli/NameBatch", name := "compare", desc := "(II)I" } : Jvm.MethodName) prog_6_method_10_code (3 : Nat) (Option.some Jvm.ClassFile.FieldType.int), Jvm.Cond.code ({ cls := "com/example/measurewright/measurewright/cli/NameBatch", name := "end", desc := "(I)I" } : Jvm.MethodName) prog_6_method_11_code (2 : Nat) (Option.some Jvm.ClassFile.FieldType.int), Jvm.Cond.code ({ cls := "java/util/Arrays", name := "compareUnsigned", desc := "([BII[BII)I" } : Jvm.MethodName) jdk_65_method_202_code (9 : Nat) (Option.some Jvm.ClassFile.FieldType.int), Jvm.Cond.code ({ cls := "java/util/Arrays", name := "rangeCheck", desc := "(III)V" } : Jvm.MethodName) jdk_65_method_30_code (3 : Nat) (Option.none : Option Jvm.ClassFile.FieldType), Jvm.Cond.code ({ cls := "jdk/internal/util/ArraysSupport", name := "mismatch", desc := "([BI[BII)I" } : Jvm.MethodName) jdk_48_method_14_code (8 : Nat) (Option.some Jvm.ClassFile.FieldType.int), Jvm.Cond.code ({ cls := "java/util/Arrays", name := "copyOfRange", desc := "([BII)[B" } : Jvm.MethodName) jdk_65_method_132_code (3 : Nat) (Option.some (Jvm.ClassFile.FieldType.array Jvm.ClassFile.FieldType.byte)), Jvm.Cond.code ({ cls := "java/util/Arrays", name := "copyOfRangeByte", desc := "([BII)[B" } : Jvm.MethodName) jdk_65_method_133_code (5 : Nat) (Option.some (Jvm.ClassFile.FieldType.array Jvm.ClassFile.FieldType.byte)), Jvm.Cond.code ({ cls := "java/util/Arrays", name := "checkLength", desc := "(II)V" } : Jvm.MethodName) jdk_65_method_131_code (2 : Nat) (Option.none : Option Jvm.ClassFile.FieldType), Jvm.Cond.code ({ cls := "com/example/measurewright/measurewright/cli/NameBatch", name := "letAnyGo", desc := "()Z" } : Jvm.MethodName) prog_6_method_4_code (1 : Nat) (Option.some Jvm.ClassFile.FieldType.boolean), Jvm.Cond.code ({ cls := "com/example/measurewright/measurewright/cli/NameBatch", name := "clear", desc := "()V" } : Jvm.MethodName) prog_6_method_2_code (1 : Nat) (Option.none : Option Jvm.ClassFile.FieldType), Jvm.Cond.code ({ cls := "com/example/measurewright/measurewright/cli/NameBatch", name := "count", desc := "()I" } : Jvm.MethodName) prog_6_method_5_code (1 : Nat) (Option.some Jvm.ClassFile.FieldType.int), Jvm.Cond.code ({ cls := "java/lang/Byte", name := "compareUnsigned", desc := "(BB)I" } : Jvm.MethodName) jdk_2056_method_23_code (2 : Nat) (Option.some Jvm.ClassFile.FieldType.int), Jvm.Cond.code ({ cls := "java/lang/Byte", name := "toUnsignedInt", desc := "(B)I" } : Jvm.MethodName) jdk_2056_method_24_code (1 : Nat) (Option.some Jvm.ClassFile.FieldType.int)]
set_option maxRecDepth 65536 in
theorem codes_eq : words1.filter isCode = codes1 := rfl
theorem w_codes : ∀ c ∈ words1.filter isCode, c.before args0 about1 = true := by
  rw [codes_eq]
  intro c hc
  simp only [codes1, List.mem_cons, List.not_mem_nil, or_false] at hc
  rcases hc with rfl | rfl | rfl | rfl | rfl | rfl | rfl | rfl | rfl | rfl | rfl | rfl | rfl | rfl | rfl | rfl | rfl | rfl | rfl | rfl | rfl
  · exact w_c0
  · exact w_c1
  · exact w_c2
  · exact w_c3
  · exact w_c4
  · exact w_c5
  · exact w_c6
  · exact w_c7
  · exact w_c8
  · exact w_c9
  · exact w_c10
  · exact w_c11
  · exact w_c12
  · exact w_c13
  · exact w_c14
  · exact w_c15
  · exact w_c16
  · exact w_c17
  · exact w_c18
  · exact w_c19
  · exact w_c20
set_option maxRecDepth 65536 in
theorem w_t1 : (words1.take 24).all (fun c => isCode c || c.before args0 about1) = true := by decide +kernel
set_option maxRecDepth 65536 in
theorem w_t2 : ((words1.drop 24).take 24).all (fun c => isCode c || c.before args0 about1) = true := by decide +kernel
set_option maxRecDepth 65536 in
theorem w_t3 : (((words1.drop 24).drop 24).take 24).all (fun c => isCode c || c.before args0 about1) = true := by decide +kernel
set_option maxRecDepth 65536 in
theorem w_t4 : ((((words1.drop 24).drop 24).drop 24).take 24).all (fun c => isCode c || c.before args0 about1) = true := by decide +kernel
set_option maxRecDepth 65536 in
theorem w_t5 : ((((words1.drop 24).drop 24).drop 24).drop 24).all (fun c => isCode c || c.before args0 about1) = true := by decide +kernel
theorem w_tables : (allAtoms (Jvm.Cond.code x code maxLocals ret :: tables_1)).before args0 about1 = true := by
  rw [allAtoms_all]
  show words1.all (fun c => c.before args0 about1) = true
  refine all_split ?_ w_codes
  rw [← List.take_append_drop 24 words1, List.all_append, w_t1, ← List.take_append_drop 24 (words1.drop 24), List.all_append, w_t2, ← List.take_append_drop 24 ((words1.drop 24).drop 24), List.all_append, w_t3, ← List.take_append_drop 24 (((words1.drop 24).drop 24).drop 24), List.all_append, w_t4, w_t5]
  rfl
set_option maxRecDepth 65536 in
theorem w_case : (Jvm.Cond.and given_1 narrow_1).before args0 about1 = true := by decide +kernel
theorem w_applies : (headSpec (Jvm.Cond.code x code maxLocals ret :: tables_1) room_1).applies x e0.platform about1 = true :=
  (Spec.applies_iff w_frames).mpr ⟨w_running, w_runnable, w_alone, w_named, w_hears, w_ripe, w_room, w_tables⟩
theorem atStart : AtStart classFile x code maxLocals ret World_1 tables_1 room_1 Calls_1 rest_1 Pre_1 launch0 p0 e0 about1 theMethod args0 below0 :=
  ⟨lists_1, trivial, launch0.admits_env _ _ _, launch0.least_env, fairChoices_fair.cas, fairChoices_fair.clock, w_frames, w_args, w_heap, w_applies, trivial, trivial, w_case⟩
end start1
theorem witness_1 : WitnessClaimed_1 := ⟨start1.p0, start1.e0, start1.about1, start1.theMethod, start1.args0, start1.below0, start1.atStart⟩
end Jvm.Pilot.@@N@@
