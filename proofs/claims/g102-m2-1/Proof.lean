import JvmDerived
import JvmDerived.Pilot.@@N@@Statement
import JvmDerived.Pilot.@@N@@Code
set_option linter.unusedVariables false
set_option linter.unusedSimpArgs false
namespace Jvm.RoadKit
open Sem ClassFile Op Lib Jvm.Stand Jvm.Free Jvm.LawKit
section New
variable {p : Program} {l : Launch} {e : Env} {R : Room} {s : State} {m : MethodId} {args : Array Value} {below : List Frame} {meth : Method} {c : Code} {T : State} {locs : List Loc} {cells slots : Nat}
theorem retI (X : Stand p l e R s m args below meth c T locs cells slots) (hx : p.tables.exec = Jvm.exec) {pc : Nat} {Ls : Array Slot} {z : Int32} {rest : List Value} (hret : meth.sig.returnType = some .int) (hd : decode c.code pc = .ok (.ireturn, 1)) {fs : List Frame}
    (hl : ∀ (f : JFrame) (acts : List Action), f.method = m → f.locked = none → f.entered = [] → (doReturn e (T.setTop f) acts (some (.int z))).1 = T.setFrames fs) : Steps p.tables e below (T.setTop (mkF m pc Ls (.int z :: rest))) (T.setFrames fs) := by
  have hm' : T.vm.method? m = some meth := X.method'
  have hn : narrow .int (.int z) = .int z := rfl
  show Steps p.tables e below (T.setTop { method := m, pc := pc, locals := Ls, stack := _ :: rest, locked := none }) _
  jvm_step X.here [X.here.top, hx, hd, hm', hret, hn]
  first | (intro acts; rw [hl _ acts rfl rfl rfl]) | rw [hl _ _ rfl rfl rfl]
  exact Steps.refl _
theorem retD (X : Stand p l e R s m args below meth c T locs cells slots) (hx : p.tables.exec = Jvm.exec) {pc : Nat} {Ls : Array Slot} {z : UInt64} {rest : List Value} (hret : meth.sig.returnType = some .double) (hd : decode c.code pc = .ok (.dreturn, 1)) {fs : List Frame}
    (hl : ∀ (f : JFrame) (acts : List Action), f.method = m → f.locked = none → f.entered = [] → (doReturn e (T.setTop f) acts (some (.double z))).1 = T.setFrames fs) : Steps p.tables e below (T.setTop (mkF m pc Ls (.double z :: rest))) (T.setFrames fs) := by
  have hm' : T.vm.method? m = some meth := X.method'
  have hn : narrow .double (.double z) = .double z := rfl
  show Steps p.tables e below (T.setTop { method := m, pc := pc, locals := Ls, stack := _ :: rest, locked := none }) _
  jvm_step X.here [X.here.top, hx, hd, hm', hret, hn]
  first | (intro acts; rw [hl _ acts rfl rfl rfl]) | rw [hl _ _ rfl rfl rfl]
  exact Steps.refl _
end New
end Jvm.RoadKit
namespace Jvm.Pilot.@@N@@
open Jvm Jvm.ClassFile Sem Op Lib Jvm.Free Jvm.Stand Jvm.LawKit Jvm.RoadKit Bundle Jvm.Pilot.@@N@@.Jvm.D
abbrev OwnS (p : Program) (e : Env) (below : List Frame) (T : State) (g : JFrame) (t : State) : Prop := Steps p.tables e below (T.setTop g) t
theorem own_selpriv {s : State} {args : Array Value} {y : MethodName} {n : Nat} (hy : y.cls ≠ "java/lang/invoke/MethodHandle" ∧ y.cls ≠ "java/lang/invoke/VarHandle") (hins : (Jvm.Cond.instantiable y.cls n).before args s = true) (hp : (Jvm.Cond.privateMethod y).before args s = true) (hi : (Jvm.Cond.instanceMethod y).before args s = true) : (Jvm.Cond.selects y.cls y y).before args s = true := by
  obtain ⟨c, k, hc, hk, -, hniab, -⟩ := Cond.instantiable_spec hins
  exact selects_self_of_private hc hk (Bool.or_eq_false_iff.mp hniab).1 (Cond.privateMethod_at hp) hi hy
theorem own_irr (x : Int32) : ¬ (x < x) := by rw [Int32.lt_iff_toInt_lt]; omega
theorem own_asymm {x y : Int32} (h : x < y) : ¬ (y < x) := by rw [Int32.lt_iff_toInt_lt] at *; omega
theorem own_ne {x y : Int32} (h : x < y) : ¬ (x = y) := fun q => own_irr x (by rw [← q] at h; exact h)
theorem own_ne' {x y : Int32} (h : x < y) : ¬ (y = x) := fun q => own_irr x (by rw [q] at h; exact h)
theorem own_tri (x y : Int32) : x < y ∨ x = y ∨ y < x := by
  rw [Int32.lt_iff_toInt_lt, Int32.lt_iff_toInt_lt, ← Int32.toInt_inj]; omega
theorem own_ns {Z : State} {h : Heap} {a : Addr} {C : String} (F : Exa Z h a C) : ∃ cell : Cell, h[a]? = some cell ∧ cell.vm.isStatics = false := by
  obtain ⟨cell, k, h1, -, -, h4, -⟩ := F; exact ⟨cell, h1, h4⟩
theorem own_sta_keep {Z : State} {h h' : Heap} {ws : List Addr} {C n d : String} {v : Value} (F : Sta Z h C n d v) (K : Keep h h' ws) (q : ∀ x ∈ ws, ∃ cell : Cell, h[x]? = some cell ∧ cell.vm.isStatics = false) : Sta Z h' C n d v := by
  obtain ⟨cf, i, k, f, st, cell, h1, h2, h3, h4, h5, h6, h7⟩ := F
  refine ⟨cf, i, k, f, st, cell, h1, h2, h3, h4, K.2.1 st cell h5 fun r => ?_, h6, h7⟩
  obtain ⟨c2, g1, g2⟩ := q st r
  cases h5.symm.trans g1
  rw [g2] at h6; cases h6
theorem own_eq_int {args : Array Value} {first s : State} {o : Option Outcome} {idx : List Nat} {t : Term} {k : Int32} (h : (Jvm.Cond.eq t (.int k)).value args first o s idx = some true) : t.eval args first o idx s = some (.int k) := by
  simp only [Cond.value, Term.eval] at h
  cases ht : t.eval args first o idx s with
  | none => simp [ht] at h
  | some x => cases x <;> simp [ht] at h ⊢; exact h
theorem own_mod7 (p : Int32) : (p &&& (2147483647 : Int32)) % (7 : Int32) = (0 : Int32) ∨ (p &&& (2147483647 : Int32)) % (7 : Int32) = (1 : Int32) ∨ (p &&& (2147483647 : Int32)) % (7 : Int32) = (2 : Int32) ∨ (p &&& (2147483647 : Int32)) % (7 : Int32) = (3 : Int32) ∨ (p &&& (2147483647 : Int32)) % (7 : Int32) = (4 : Int32) ∨ (p &&& (2147483647 : Int32)) % (7 : Int32) = (5 : Int32) ∨ (p &&& (2147483647 : Int32)) % (7 : Int32) = (6 : Int32) := by
  have h := (c_irem (p &&& 2147483647) 7 7 rfl).1 (c_and p 2147483647 (by decide)).1
  have h2 : ((p &&& (2147483647 : Int32)) % (7 : Int32)).toInt = 0 ∨ ((p &&& (2147483647 : Int32)) % (7 : Int32)).toInt = 1 ∨ ((p &&& (2147483647 : Int32)) % (7 : Int32)).toInt = 2 ∨ ((p &&& (2147483647 : Int32)) % (7 : Int32)).toInt = 3 ∨ ((p &&& (2147483647 : Int32)) % (7 : Int32)).toInt = 4 ∨ ((p &&& (2147483647 : Int32)) % (7 : Int32)).toInt = 5 ∨ ((p &&& (2147483647 : Int32)) % (7 : Int32)).toInt = 6 := by omega
  rcases h2 with q | q | q | q | q | q | q
  · exact Or.inl (Int32.toInt_inj.mp q)
  · exact Or.inr (Or.inl (Int32.toInt_inj.mp q))
  · exact Or.inr (Or.inr (Or.inl (Int32.toInt_inj.mp q)))
  · exact Or.inr (Or.inr (Or.inr (Or.inl (Int32.toInt_inj.mp q))))
  · exact Or.inr (Or.inr (Or.inr (Or.inr (Or.inl (Int32.toInt_inj.mp q)))))
  · exact Or.inr (Or.inr (Or.inr (Or.inr (Or.inr (Or.inl (Int32.toInt_inj.mp q))))))
  · exact Or.inr (Or.inr (Or.inr (Or.inr (Or.inr (Or.inr ((Int32.toInt_inj.mp q)))))))
def own_Mir (Z : State) (C : String) (m : Addr) : Prop := ∃ (c : ClassId) (k : Class), Z.vm.findClass C = some c ∧ Z.vm.classes[c]? = some k ∧ k.mirror = some m
theorem own_mir {Z s : State} {C : String} {mr : Addr} (hZ : Z.Warmed39 s.vm) (M : own_Mir Z C mr) : ∃ (c : ClassId) (k : Class), s.vm.findClass C = some c ∧ s.vm.classes[c]? = some k ∧ k.mirror = some mr := by
  obtain ⟨c, k, h1, h2, h3⟩ := M
  obtain ⟨k', q, ek⟩ := hZ.alike.2.2 _ _ h2
  exact ⟨c, k', by rw [hZ.alike.findClass]; exact h1, q, by rw [ek]; exact h3⟩
theorem own_len {args : Array Value} {first s : State} {o : Option Outcome} {idx : List Nat} {t : Term} {a : Addr} {cl : Cell} {k : Int32} (h : (Term.length t).eval args first o idx s = some (.int k)) (ht : t.eval args first o idx s = some (.ref a)) (ha : s.arrayAt? a = some cl) : cl.slots.size < 2 ^ 31 ∧ cl.slots.size.toInt32 = k := by
  by_cases hl : cl.slots.size < 2 ^ 31
  · rw [len_f ht ha hl] at h
    injection h with h; injection h with h; exact ⟨hl, h⟩
  · simp [Term.eval, ht, ha, hl] at h
abbrev cS0 : String := "com/example/measurewright/measurewright/cql/Precision"
abbrev cS1 : String := "com/example/measurewright/measurewright/cql/PrecisionCombinedPinLaw"
abbrev cS2 : String := "()Lcom/example/measurewright/measurewright/cql/Precision;"
abbrev cS3 : String := "Lcom/example/measurewright/measurewright/cql/Precision;"
abbrev cS4 : String := "(I)Lcom/example/measurewright/measurewright/cql/Precision;"
abbrev cS5 : String := "java/lang/Enum"
theorem own_at {Z : State} {a0 : Array Value} (hw : ∀ d ∈ tables_1, d.before a0 Z = true) (i : Nat) {d : Jvm.Cond} (h : tables_1[i]? = some d) : d.before a0 Z = true := hw _ (List.mem_of_getElem? h)
theorem d1_0 : decode method_2_code 0 = .ok (.iload_n 0, 1) := by decide +kernel
theorem d1_1 : decode method_2_code 1 = .ok (.ldc 7, 2) := by decide +kernel
theorem d1_3 : decode method_2_code 3 = .ok (.iand, 1) := by decide +kernel
theorem d1_4 : decode method_2_code 4 = .ok (.bipush 7, 2) := by decide +kernel
theorem d1_6 : decode method_2_code 6 = .ok (.irem, 1) := by decide +kernel
theorem d1_7 : decode method_2_code 7 = .ok (.istore_n 1, 1) := by decide +kernel
theorem d1_8 : decode method_2_code 8 = .ok (.iload_n 1, 1) := by decide +kernel
theorem d1_9 : decode method_2_code 9 = .ok (.ifCond .ne 7, 3) := by decide +kernel
theorem d1_12 : decode method_2_code 12 = .ok (.getstatic 8, 3) := by decide +kernel
theorem d1_15 : decode method_2_code 15 = .ok (.areturn, 1) := by decide +kernel
theorem pn_com_example_measurewright_measurewright_cql_PrecisionCombinedPinLaw : plainName cS1 = true := by first | (simp [plainName, overriddenIn]; done) | decide +kernel
theorem ef_1 (m : MethodId) (x0 : Int32) : entryFrame m #[(.int x0)] 2 = mkF m 0 #[.val (.int x0), .unset] [] := by first | (simp [entryFrame, mkF, argsToLocals, Value.category]; done) | rfl
def Q_1_0 (Z : State) (p0 : Int32) (w_YEAR : Addr) (h0 : Heap) (n0 : Nat) (v : Option Value) (h : Heap) (L : List Loc) : Prop := v = some (.ref w_YEAR) ∧ Fr n0 L ∧ h = h0
set_option maxRecDepth 65536 in
set_option maxHeartbeats 40000000 in
theorem rm1_0 (l : Launch) (Z : State) (a0 : Array Value) (hw : ∀ d ∈ tables_1, d.before a0 Z = true) (ws : List Jvm.Cond) (p0 : Int32) (w_YEAR : Addr) (h0 : Heap) (n0 : Nat) (Z0 : n0 ≤ h0.size) (hk : ((p0 &&& (2147483647 : Int32)) % (7 : Int32)) = (0 : Int32)) (S_YEAR : Sta Z h0 cS0 "YEAR" cS3 (.ref w_YEAR)) :
    MetFree l (⟨cS1, "pick", cS4⟩ : MethodName) (head1 (Jvm.Cond.code (⟨cS1, "pick", cS4⟩ : MethodName) method_2_code 2 (some (.object cS0)) :: ws) ({ frames := 0, cells := 0, slots := 0, locals := 0 } : Room)) (fun a U => a = #[(.int p0)] ∧ Z.Warmed39 U.vm ∧ U.heap = h0) (fun _ _ _ _ _ => True) (fun _ U o U' => ∃ v L, o = .returned v ∧ Q_1_0 Z p0 w_YEAR h0 n0 v U'.heap L ∧ FrameEnd U o U' L ({ frames := 0, cells := 0, slots := 0, locals := 0 } : Room).cells ({ frames := 0, cells := 0, slots := 0, locals := 0 } : Room).slots) := by
  refine MetFree.of_bodySF (plainFor_of_name pn_com_example_measurewright_measurewright_cql_PrecisionCombinedPinLaw) hisR ?_
  intro p e s m args below meth c s₁ Bd hml0 hP hK
  obtain ⟨rfl, hZ, hh⟩ := hP
  have hx := Bd.exec
  have hby := Bd.bytes
  have hml : c.maxLocals = 2 := hml0
  have hown : s.vm.findClass cS1 = some m.cls := findClass_of_methodNamed Bd.named
  have hnm := (name_of_methodNamed Bd.named Bd.method).1
  have X0 : Stand p l e ({ frames := 0, cells := 0, slots := 0, locals := 0 } : Room) s m #[(.int p0)] below meth c s₁ [] 0 0 := Stand.of_body Bd
  have e0 : s₁.heap = h0 := by rw [← hh, Bd.state]; rfl
  have N0 := Fr.nil n0
  have k0 : ∀ t, OwnS p e below s₁ (mkF m 0 #[iv p0, .unset] []) t → OwnS p e below s₁ (entryFrame m #[(.int p0)] 2) t := fun t k => castTop (ef_1 m p0) k
  obtain ⟨T1, X1, e1, st1⟩ := getS2 X0 hx hZ hown (host := "") (Or.inl (own_at hw 5 rfl)) Via.refl e0 S_YEAR (g := (mkF m 12 #[iv p0, iv 0] [])) rfl (hb hby d1_12)
  obtain ⟨fs, hr, hrun, hended, hW, hsame⟩ := X1.leave (v := some (.ref w_YEAR)) (fun h => by rw [Bd.returns] at h; cases h)
  refine ⟨_, _, k0 _ ?_, hrun, hended, _, _, rfl, ?_, ⟨_, rfl⟩, hW, hsame.mono (by decide) (by decide)⟩
  · show OwnS p e below s₁ (mkF m 0 #[iv p0, .unset] []) _
    refine XS.iloadN X0.here hx rfl (hb hby d1_0) rfl ?_
    show OwnS p e below s₁ (mkF m 1 #[iv p0, .unset] [(.int p0)]) _
    refine X0.ldcInt hx hown (mvT hZ (own_at hw 4 rfl)) (g := (mkF m 1 #[iv p0, .unset] [(.int p0)])) rfl (hb hby d1_1) _ ?_
    show OwnS p e below s₁ (mkF m 3 #[iv p0, .unset] [(.int 2147483647), (.int p0)]) _
    refine XS.iand X0.here hx rfl (hb hby d1_3) rfl ?_
    show OwnS p e below s₁ (mkF m 4 #[iv p0, .unset] [(.int (p0 &&& (2147483647 : Int32)))]) _
    refine XS.bipush X0.here hx rfl (hb hby d1_4) ?_
    show OwnS p e below s₁ (mkF m 6 #[iv p0, .unset] [(.int 7), (.int (p0 &&& (2147483647 : Int32)))]) _
    refine iremM X0 hx (g := (mkF m 6 #[iv p0, .unset] [(.int 7), (.int (p0 &&& (2147483647 : Int32)))])) rfl (hb hby d1_6) rfl (by decide) ?_
    rw [hk]
    show OwnS p e below s₁ (mkF m 7 #[iv p0, .unset] [(.int 0)]) _
    refine XS.istoreN X0.here hx rfl (hb hby d1_7) rfl (l' := #[iv p0, iv 0]) rfl ?_
    show OwnS p e below s₁ (mkF m 8 #[iv p0, iv 0] []) _
    refine XS.iloadN X0.here hx rfl (hb hby d1_8) rfl ?_
    show OwnS p e below s₁ (mkF m 9 #[iv p0, iv 0] [(.int 0)]) _
    refine XS.ifNo X0.here hx rfl (hb hby d1_9) rfl ((if0 _ _).trans (teq (by decide : (0 : Int32) = (0 : Int32))).2) ?_
    show OwnS p e below s₁ (mkF m 12 #[iv p0, iv 0] []) _
    refine st1 _ ?_
    show OwnS p e below T1 (mkF m 15 #[iv p0, iv 0] [(.ref w_YEAR)]) _
    jvm_step X1.here [X1.here.top, hx, (hb hby d1_15), X1.method', Bd.returns, Value.isRef, FieldType.isReference]
    first | (intro acts; rw [hr _ acts rfl rfl rfl]) | rw [hr _ _ rfl rfl rfl]
    exact Steps.refl _
  · show Q_1_0 Z p0 w_YEAR h0 n0 _ T1.heap _
    rw [e1]
    exact ⟨rfl, N0, rfl⟩
theorem d1_16 : decode method_2_code 16 = .ok (.iload_n 1, 1) := by decide +kernel
theorem d1_17 : decode method_2_code 17 = .ok (.iconst 1, 1) := by decide +kernel
theorem d1_18 : decode method_2_code 18 = .ok (.if_icmp .ne 7, 3) := by decide +kernel
theorem d1_21 : decode method_2_code 21 = .ok (.getstatic 14, 3) := by decide +kernel
theorem d1_24 : decode method_2_code 24 = .ok (.areturn, 1) := by decide +kernel
def Q_1_1 (Z : State) (p0 : Int32) (w_MONTH : Addr) (h0 : Heap) (n0 : Nat) (v : Option Value) (h : Heap) (L : List Loc) : Prop := v = some (.ref w_MONTH) ∧ Fr n0 L ∧ h = h0
set_option maxRecDepth 65536 in
set_option maxHeartbeats 40000000 in
theorem rm1_1 (l : Launch) (Z : State) (a0 : Array Value) (hw : ∀ d ∈ tables_1, d.before a0 Z = true) (ws : List Jvm.Cond) (p0 : Int32) (w_MONTH : Addr) (h0 : Heap) (n0 : Nat) (Z0 : n0 ≤ h0.size) (hk : ((p0 &&& (2147483647 : Int32)) % (7 : Int32)) = (1 : Int32)) (S_MONTH : Sta Z h0 cS0 "MONTH" cS3 (.ref w_MONTH)) :
    MetFree l (⟨cS1, "pick", cS4⟩ : MethodName) (head1 (Jvm.Cond.code (⟨cS1, "pick", cS4⟩ : MethodName) method_2_code 2 (some (.object cS0)) :: ws) ({ frames := 0, cells := 0, slots := 0, locals := 0 } : Room)) (fun a U => a = #[(.int p0)] ∧ Z.Warmed39 U.vm ∧ U.heap = h0) (fun _ _ _ _ _ => True) (fun _ U o U' => ∃ v L, o = .returned v ∧ Q_1_1 Z p0 w_MONTH h0 n0 v U'.heap L ∧ FrameEnd U o U' L ({ frames := 0, cells := 0, slots := 0, locals := 0 } : Room).cells ({ frames := 0, cells := 0, slots := 0, locals := 0 } : Room).slots) := by
  refine MetFree.of_bodySF (plainFor_of_name pn_com_example_measurewright_measurewright_cql_PrecisionCombinedPinLaw) hisR ?_
  intro p e s m args below meth c s₁ Bd hml0 hP hK
  obtain ⟨rfl, hZ, hh⟩ := hP
  have hx := Bd.exec
  have hby := Bd.bytes
  have hml : c.maxLocals = 2 := hml0
  have hown : s.vm.findClass cS1 = some m.cls := findClass_of_methodNamed Bd.named
  have hnm := (name_of_methodNamed Bd.named Bd.method).1
  have X0 : Stand p l e ({ frames := 0, cells := 0, slots := 0, locals := 0 } : Room) s m #[(.int p0)] below meth c s₁ [] 0 0 := Stand.of_body Bd
  have e0 : s₁.heap = h0 := by rw [← hh, Bd.state]; rfl
  have N0 := Fr.nil n0
  have k0 : ∀ t, OwnS p e below s₁ (mkF m 0 #[iv p0, .unset] []) t → OwnS p e below s₁ (entryFrame m #[(.int p0)] 2) t := fun t k => castTop (ef_1 m p0) k
  obtain ⟨T1, X1, e1, st1⟩ := getS2 X0 hx hZ hown (host := "") (Or.inl (own_at hw 53 rfl)) Via.refl e0 S_MONTH (g := (mkF m 21 #[iv p0, iv 1] [])) rfl (hb hby d1_21)
  obtain ⟨fs, hr, hrun, hended, hW, hsame⟩ := X1.leave (v := some (.ref w_MONTH)) (fun h => by rw [Bd.returns] at h; cases h)
  refine ⟨_, _, k0 _ ?_, hrun, hended, _, _, rfl, ?_, ⟨_, rfl⟩, hW, hsame.mono (by decide) (by decide)⟩
  · show OwnS p e below s₁ (mkF m 0 #[iv p0, .unset] []) _
    refine XS.iloadN X0.here hx rfl (hb hby d1_0) rfl ?_
    show OwnS p e below s₁ (mkF m 1 #[iv p0, .unset] [(.int p0)]) _
    refine X0.ldcInt hx hown (mvT hZ (own_at hw 4 rfl)) (g := (mkF m 1 #[iv p0, .unset] [(.int p0)])) rfl (hb hby d1_1) _ ?_
    show OwnS p e below s₁ (mkF m 3 #[iv p0, .unset] [(.int 2147483647), (.int p0)]) _
    refine XS.iand X0.here hx rfl (hb hby d1_3) rfl ?_
    show OwnS p e below s₁ (mkF m 4 #[iv p0, .unset] [(.int (p0 &&& (2147483647 : Int32)))]) _
    refine XS.bipush X0.here hx rfl (hb hby d1_4) ?_
    show OwnS p e below s₁ (mkF m 6 #[iv p0, .unset] [(.int 7), (.int (p0 &&& (2147483647 : Int32)))]) _
    refine iremM X0 hx (g := (mkF m 6 #[iv p0, .unset] [(.int 7), (.int (p0 &&& (2147483647 : Int32)))])) rfl (hb hby d1_6) rfl (by decide) ?_
    rw [hk]
    show OwnS p e below s₁ (mkF m 7 #[iv p0, .unset] [(.int 1)]) _
    refine XS.istoreN X0.here hx rfl (hb hby d1_7) rfl (l' := #[iv p0, iv 1]) rfl ?_
    show OwnS p e below s₁ (mkF m 8 #[iv p0, iv 1] []) _
    refine XS.iloadN X0.here hx rfl (hb hby d1_8) rfl ?_
    show OwnS p e below s₁ (mkF m 9 #[iv p0, iv 1] [(.int 1)]) _
    refine XS.ifYes X0.here hx rfl (pc0 := 9) (pc' := 16) rfl (hb hby d1_9) rfl ((if0 _ _).trans (feq (by decide : ¬ ((1 : Int32) = (0 : Int32)))).2) (by decide) (by decide) ?_
    show OwnS p e below s₁ (mkF m 16 #[iv p0, iv 1] []) _
    refine XS.iloadN X0.here hx rfl (hb hby d1_16) rfl ?_
    show OwnS p e below s₁ (mkF m 17 #[iv p0, iv 1] [(.int 1)]) _
    refine XS.iconst X0.here hx rfl (hb hby d1_17) ?_
    show OwnS p e below s₁ (mkF m 18 #[iv p0, iv 1] [(.int 1), (.int 1)]) _
    refine XS.icmpNo X0.here hx rfl (hb hby d1_18) rfl (teq (by decide : (1 : Int32) = (1 : Int32))).2 ?_
    show OwnS p e below s₁ (mkF m 21 #[iv p0, iv 1] []) _
    refine st1 _ ?_
    show OwnS p e below T1 (mkF m 24 #[iv p0, iv 1] [(.ref w_MONTH)]) _
    jvm_step X1.here [X1.here.top, hx, (hb hby d1_24), X1.method', Bd.returns, Value.isRef, FieldType.isReference]
    first | (intro acts; rw [hr _ acts rfl rfl rfl]) | rw [hr _ _ rfl rfl rfl]
    exact Steps.refl _
  · show Q_1_1 Z p0 w_MONTH h0 n0 _ T1.heap _
    rw [e1]
    exact ⟨rfl, N0, rfl⟩
theorem d1_25 : decode method_2_code 25 = .ok (.iload_n 1, 1) := by decide +kernel
theorem d1_26 : decode method_2_code 26 = .ok (.iconst 2, 1) := by decide +kernel
theorem d1_27 : decode method_2_code 27 = .ok (.if_icmp .ne 7, 3) := by decide +kernel
theorem d1_30 : decode method_2_code 30 = .ok (.getstatic 17, 3) := by decide +kernel
theorem d1_33 : decode method_2_code 33 = .ok (.areturn, 1) := by decide +kernel
def Q_1_2 (Z : State) (p0 : Int32) (w_DAY : Addr) (h0 : Heap) (n0 : Nat) (v : Option Value) (h : Heap) (L : List Loc) : Prop := v = some (.ref w_DAY) ∧ Fr n0 L ∧ h = h0
set_option maxRecDepth 65536 in
set_option maxHeartbeats 40000000 in
theorem rm1_2 (l : Launch) (Z : State) (a0 : Array Value) (hw : ∀ d ∈ tables_1, d.before a0 Z = true) (ws : List Jvm.Cond) (p0 : Int32) (w_DAY : Addr) (h0 : Heap) (n0 : Nat) (Z0 : n0 ≤ h0.size) (hk : ((p0 &&& (2147483647 : Int32)) % (7 : Int32)) = (2 : Int32)) (S_DAY : Sta Z h0 cS0 "DAY" cS3 (.ref w_DAY)) :
    MetFree l (⟨cS1, "pick", cS4⟩ : MethodName) (head1 (Jvm.Cond.code (⟨cS1, "pick", cS4⟩ : MethodName) method_2_code 2 (some (.object cS0)) :: ws) ({ frames := 0, cells := 0, slots := 0, locals := 0 } : Room)) (fun a U => a = #[(.int p0)] ∧ Z.Warmed39 U.vm ∧ U.heap = h0) (fun _ _ _ _ _ => True) (fun _ U o U' => ∃ v L, o = .returned v ∧ Q_1_2 Z p0 w_DAY h0 n0 v U'.heap L ∧ FrameEnd U o U' L ({ frames := 0, cells := 0, slots := 0, locals := 0 } : Room).cells ({ frames := 0, cells := 0, slots := 0, locals := 0 } : Room).slots) := by
  refine MetFree.of_bodySF (plainFor_of_name pn_com_example_measurewright_measurewright_cql_PrecisionCombinedPinLaw) hisR ?_
  intro p e s m args below meth c s₁ Bd hml0 hP hK
  obtain ⟨rfl, hZ, hh⟩ := hP
  have hx := Bd.exec
  have hby := Bd.bytes
  have hml : c.maxLocals = 2 := hml0
  have hown : s.vm.findClass cS1 = some m.cls := findClass_of_methodNamed Bd.named
  have hnm := (name_of_methodNamed Bd.named Bd.method).1
  have X0 : Stand p l e ({ frames := 0, cells := 0, slots := 0, locals := 0 } : Room) s m #[(.int p0)] below meth c s₁ [] 0 0 := Stand.of_body Bd
  have e0 : s₁.heap = h0 := by rw [← hh, Bd.state]; rfl
  have N0 := Fr.nil n0
  have k0 : ∀ t, OwnS p e below s₁ (mkF m 0 #[iv p0, .unset] []) t → OwnS p e below s₁ (entryFrame m #[(.int p0)] 2) t := fun t k => castTop (ef_1 m p0) k
  obtain ⟨T1, X1, e1, st1⟩ := getS2 X0 hx hZ hown (host := "") (Or.inl (own_at hw 51 rfl)) Via.refl e0 S_DAY (g := (mkF m 30 #[iv p0, iv 2] [])) rfl (hb hby d1_30)
  obtain ⟨fs, hr, hrun, hended, hW, hsame⟩ := X1.leave (v := some (.ref w_DAY)) (fun h => by rw [Bd.returns] at h; cases h)
  refine ⟨_, _, k0 _ ?_, hrun, hended, _, _, rfl, ?_, ⟨_, rfl⟩, hW, hsame.mono (by decide) (by decide)⟩
  · show OwnS p e below s₁ (mkF m 0 #[iv p0, .unset] []) _
    refine XS.iloadN X0.here hx rfl (hb hby d1_0) rfl ?_
    show OwnS p e below s₁ (mkF m 1 #[iv p0, .unset] [(.int p0)]) _
    refine X0.ldcInt hx hown (mvT hZ (own_at hw 4 rfl)) (g := (mkF m 1 #[iv p0, .unset] [(.int p0)])) rfl (hb hby d1_1) _ ?_
    show OwnS p e below s₁ (mkF m 3 #[iv p0, .unset] [(.int 2147483647), (.int p0)]) _
    refine XS.iand X0.here hx rfl (hb hby d1_3) rfl ?_
    show OwnS p e below s₁ (mkF m 4 #[iv p0, .unset] [(.int (p0 &&& (2147483647 : Int32)))]) _
    refine XS.bipush X0.here hx rfl (hb hby d1_4) ?_
    show OwnS p e below s₁ (mkF m 6 #[iv p0, .unset] [(.int 7), (.int (p0 &&& (2147483647 : Int32)))]) _
    refine iremM X0 hx (g := (mkF m 6 #[iv p0, .unset] [(.int 7), (.int (p0 &&& (2147483647 : Int32)))])) rfl (hb hby d1_6) rfl (by decide) ?_
    rw [hk]
    show OwnS p e below s₁ (mkF m 7 #[iv p0, .unset] [(.int 2)]) _
    refine XS.istoreN X0.here hx rfl (hb hby d1_7) rfl (l' := #[iv p0, iv 2]) rfl ?_
    show OwnS p e below s₁ (mkF m 8 #[iv p0, iv 2] []) _
    refine XS.iloadN X0.here hx rfl (hb hby d1_8) rfl ?_
    show OwnS p e below s₁ (mkF m 9 #[iv p0, iv 2] [(.int 2)]) _
    refine XS.ifYes X0.here hx rfl (pc0 := 9) (pc' := 16) rfl (hb hby d1_9) rfl ((if0 _ _).trans (feq (by decide : ¬ ((2 : Int32) = (0 : Int32)))).2) (by decide) (by decide) ?_
    show OwnS p e below s₁ (mkF m 16 #[iv p0, iv 2] []) _
    refine XS.iloadN X0.here hx rfl (hb hby d1_16) rfl ?_
    show OwnS p e below s₁ (mkF m 17 #[iv p0, iv 2] [(.int 2)]) _
    refine XS.iconst X0.here hx rfl (hb hby d1_17) ?_
    show OwnS p e below s₁ (mkF m 18 #[iv p0, iv 2] [(.int 1), (.int 2)]) _
    refine XS.icmpYes X0.here hx rfl (pc0 := 18) (pc' := 25) rfl (hb hby d1_18) rfl (feq (by decide : ¬ ((2 : Int32) = (1 : Int32)))).2 (by decide) (by decide) ?_
    show OwnS p e below s₁ (mkF m 25 #[iv p0, iv 2] []) _
    refine XS.iloadN X0.here hx rfl (hb hby d1_25) rfl ?_
    show OwnS p e below s₁ (mkF m 26 #[iv p0, iv 2] [(.int 2)]) _
    refine XS.iconst X0.here hx rfl (hb hby d1_26) ?_
    show OwnS p e below s₁ (mkF m 27 #[iv p0, iv 2] [(.int 2), (.int 2)]) _
    refine XS.icmpNo X0.here hx rfl (hb hby d1_27) rfl (teq (by decide : (2 : Int32) = (2 : Int32))).2 ?_
    show OwnS p e below s₁ (mkF m 30 #[iv p0, iv 2] []) _
    refine st1 _ ?_
    show OwnS p e below T1 (mkF m 33 #[iv p0, iv 2] [(.ref w_DAY)]) _
    jvm_step X1.here [X1.here.top, hx, (hb hby d1_33), X1.method', Bd.returns, Value.isRef, FieldType.isReference]
    first | (intro acts; rw [hr _ acts rfl rfl rfl]) | rw [hr _ _ rfl rfl rfl]
    exact Steps.refl _
  · show Q_1_2 Z p0 w_DAY h0 n0 _ T1.heap _
    rw [e1]
    exact ⟨rfl, N0, rfl⟩
theorem d1_34 : decode method_2_code 34 = .ok (.iload_n 1, 1) := by decide +kernel
theorem d1_35 : decode method_2_code 35 = .ok (.iconst 3, 1) := by decide +kernel
theorem d1_36 : decode method_2_code 36 = .ok (.if_icmp .ne 7, 3) := by decide +kernel
theorem d1_39 : decode method_2_code 39 = .ok (.getstatic 20, 3) := by decide +kernel
theorem d1_42 : decode method_2_code 42 = .ok (.areturn, 1) := by decide +kernel
def Q_1_3 (Z : State) (p0 : Int32) (w_HOUR : Addr) (h0 : Heap) (n0 : Nat) (v : Option Value) (h : Heap) (L : List Loc) : Prop := v = some (.ref w_HOUR) ∧ Fr n0 L ∧ h = h0
set_option maxRecDepth 65536 in
set_option maxHeartbeats 40000000 in
theorem rm1_3 (l : Launch) (Z : State) (a0 : Array Value) (hw : ∀ d ∈ tables_1, d.before a0 Z = true) (ws : List Jvm.Cond) (p0 : Int32) (w_HOUR : Addr) (h0 : Heap) (n0 : Nat) (Z0 : n0 ≤ h0.size) (hk : ((p0 &&& (2147483647 : Int32)) % (7 : Int32)) = (3 : Int32)) (S_HOUR : Sta Z h0 cS0 "HOUR" cS3 (.ref w_HOUR)) :
    MetFree l (⟨cS1, "pick", cS4⟩ : MethodName) (head1 (Jvm.Cond.code (⟨cS1, "pick", cS4⟩ : MethodName) method_2_code 2 (some (.object cS0)) :: ws) ({ frames := 0, cells := 0, slots := 0, locals := 0 } : Room)) (fun a U => a = #[(.int p0)] ∧ Z.Warmed39 U.vm ∧ U.heap = h0) (fun _ _ _ _ _ => True) (fun _ U o U' => ∃ v L, o = .returned v ∧ Q_1_3 Z p0 w_HOUR h0 n0 v U'.heap L ∧ FrameEnd U o U' L ({ frames := 0, cells := 0, slots := 0, locals := 0 } : Room).cells ({ frames := 0, cells := 0, slots := 0, locals := 0 } : Room).slots) := by
  refine MetFree.of_bodySF (plainFor_of_name pn_com_example_measurewright_measurewright_cql_PrecisionCombinedPinLaw) hisR ?_
  intro p e s m args below meth c s₁ Bd hml0 hP hK
  obtain ⟨rfl, hZ, hh⟩ := hP
  have hx := Bd.exec
  have hby := Bd.bytes
  have hml : c.maxLocals = 2 := hml0
  have hown : s.vm.findClass cS1 = some m.cls := findClass_of_methodNamed Bd.named
  have hnm := (name_of_methodNamed Bd.named Bd.method).1
  have X0 : Stand p l e ({ frames := 0, cells := 0, slots := 0, locals := 0 } : Room) s m #[(.int p0)] below meth c s₁ [] 0 0 := Stand.of_body Bd
  have e0 : s₁.heap = h0 := by rw [← hh, Bd.state]; rfl
  have N0 := Fr.nil n0
  have k0 : ∀ t, OwnS p e below s₁ (mkF m 0 #[iv p0, .unset] []) t → OwnS p e below s₁ (entryFrame m #[(.int p0)] 2) t := fun t k => castTop (ef_1 m p0) k
  obtain ⟨T1, X1, e1, st1⟩ := getS2 X0 hx hZ hown (host := "") (Or.inl (own_at hw 44 rfl)) Via.refl e0 S_HOUR (g := (mkF m 39 #[iv p0, iv 3] [])) rfl (hb hby d1_39)
  obtain ⟨fs, hr, hrun, hended, hW, hsame⟩ := X1.leave (v := some (.ref w_HOUR)) (fun h => by rw [Bd.returns] at h; cases h)
  refine ⟨_, _, k0 _ ?_, hrun, hended, _, _, rfl, ?_, ⟨_, rfl⟩, hW, hsame.mono (by decide) (by decide)⟩
  · show OwnS p e below s₁ (mkF m 0 #[iv p0, .unset] []) _
    refine XS.iloadN X0.here hx rfl (hb hby d1_0) rfl ?_
    show OwnS p e below s₁ (mkF m 1 #[iv p0, .unset] [(.int p0)]) _
    refine X0.ldcInt hx hown (mvT hZ (own_at hw 4 rfl)) (g := (mkF m 1 #[iv p0, .unset] [(.int p0)])) rfl (hb hby d1_1) _ ?_
    show OwnS p e below s₁ (mkF m 3 #[iv p0, .unset] [(.int 2147483647), (.int p0)]) _
    refine XS.iand X0.here hx rfl (hb hby d1_3) rfl ?_
    show OwnS p e below s₁ (mkF m 4 #[iv p0, .unset] [(.int (p0 &&& (2147483647 : Int32)))]) _
    refine XS.bipush X0.here hx rfl (hb hby d1_4) ?_
    show OwnS p e below s₁ (mkF m 6 #[iv p0, .unset] [(.int 7), (.int (p0 &&& (2147483647 : Int32)))]) _
    refine iremM X0 hx (g := (mkF m 6 #[iv p0, .unset] [(.int 7), (.int (p0 &&& (2147483647 : Int32)))])) rfl (hb hby d1_6) rfl (by decide) ?_
    rw [hk]
    show OwnS p e below s₁ (mkF m 7 #[iv p0, .unset] [(.int 3)]) _
    refine XS.istoreN X0.here hx rfl (hb hby d1_7) rfl (l' := #[iv p0, iv 3]) rfl ?_
    show OwnS p e below s₁ (mkF m 8 #[iv p0, iv 3] []) _
    refine XS.iloadN X0.here hx rfl (hb hby d1_8) rfl ?_
    show OwnS p e below s₁ (mkF m 9 #[iv p0, iv 3] [(.int 3)]) _
    refine XS.ifYes X0.here hx rfl (pc0 := 9) (pc' := 16) rfl (hb hby d1_9) rfl ((if0 _ _).trans (feq (by decide : ¬ ((3 : Int32) = (0 : Int32)))).2) (by decide) (by decide) ?_
    show OwnS p e below s₁ (mkF m 16 #[iv p0, iv 3] []) _
    refine XS.iloadN X0.here hx rfl (hb hby d1_16) rfl ?_
    show OwnS p e below s₁ (mkF m 17 #[iv p0, iv 3] [(.int 3)]) _
    refine XS.iconst X0.here hx rfl (hb hby d1_17) ?_
    show OwnS p e below s₁ (mkF m 18 #[iv p0, iv 3] [(.int 1), (.int 3)]) _
    refine XS.icmpYes X0.here hx rfl (pc0 := 18) (pc' := 25) rfl (hb hby d1_18) rfl (feq (by decide : ¬ ((3 : Int32) = (1 : Int32)))).2 (by decide) (by decide) ?_
    show OwnS p e below s₁ (mkF m 25 #[iv p0, iv 3] []) _
    refine XS.iloadN X0.here hx rfl (hb hby d1_25) rfl ?_
    show OwnS p e below s₁ (mkF m 26 #[iv p0, iv 3] [(.int 3)]) _
    refine XS.iconst X0.here hx rfl (hb hby d1_26) ?_
    show OwnS p e below s₁ (mkF m 27 #[iv p0, iv 3] [(.int 2), (.int 3)]) _
    refine XS.icmpYes X0.here hx rfl (pc0 := 27) (pc' := 34) rfl (hb hby d1_27) rfl (feq (by decide : ¬ ((3 : Int32) = (2 : Int32)))).2 (by decide) (by decide) ?_
    show OwnS p e below s₁ (mkF m 34 #[iv p0, iv 3] []) _
    refine XS.iloadN X0.here hx rfl (hb hby d1_34) rfl ?_
    show OwnS p e below s₁ (mkF m 35 #[iv p0, iv 3] [(.int 3)]) _
    refine XS.iconst X0.here hx rfl (hb hby d1_35) ?_
    show OwnS p e below s₁ (mkF m 36 #[iv p0, iv 3] [(.int 3), (.int 3)]) _
    refine XS.icmpNo X0.here hx rfl (hb hby d1_36) rfl (teq (by decide : (3 : Int32) = (3 : Int32))).2 ?_
    show OwnS p e below s₁ (mkF m 39 #[iv p0, iv 3] []) _
    refine st1 _ ?_
    show OwnS p e below T1 (mkF m 42 #[iv p0, iv 3] [(.ref w_HOUR)]) _
    jvm_step X1.here [X1.here.top, hx, (hb hby d1_42), X1.method', Bd.returns, Value.isRef, FieldType.isReference]
    first | (intro acts; rw [hr _ acts rfl rfl rfl]) | rw [hr _ _ rfl rfl rfl]
    exact Steps.refl _
  · show Q_1_3 Z p0 w_HOUR h0 n0 _ T1.heap _
    rw [e1]
    exact ⟨rfl, N0, rfl⟩
theorem d1_43 : decode method_2_code 43 = .ok (.iload_n 1, 1) := by decide +kernel
theorem d1_44 : decode method_2_code 44 = .ok (.iconst 4, 1) := by decide +kernel
theorem d1_45 : decode method_2_code 45 = .ok (.if_icmp .ne 7, 3) := by decide +kernel
theorem d1_48 : decode method_2_code 48 = .ok (.getstatic 23, 3) := by decide +kernel
theorem d1_51 : decode method_2_code 51 = .ok (.areturn, 1) := by decide +kernel
def Q_1_4 (Z : State) (p0 : Int32) (w_MINUTE : Addr) (h0 : Heap) (n0 : Nat) (v : Option Value) (h : Heap) (L : List Loc) : Prop := v = some (.ref w_MINUTE) ∧ Fr n0 L ∧ h = h0
set_option maxRecDepth 65536 in
set_option maxHeartbeats 40000000 in
theorem rm1_4 (l : Launch) (Z : State) (a0 : Array Value) (hw : ∀ d ∈ tables_1, d.before a0 Z = true) (ws : List Jvm.Cond) (p0 : Int32) (w_MINUTE : Addr) (h0 : Heap) (n0 : Nat) (Z0 : n0 ≤ h0.size) (hk : ((p0 &&& (2147483647 : Int32)) % (7 : Int32)) = (4 : Int32)) (S_MINUTE : Sta Z h0 cS0 "MINUTE" cS3 (.ref w_MINUTE)) :
    MetFree l (⟨cS1, "pick", cS4⟩ : MethodName) (head1 (Jvm.Cond.code (⟨cS1, "pick", cS4⟩ : MethodName) method_2_code 2 (some (.object cS0)) :: ws) ({ frames := 0, cells := 0, slots := 0, locals := 0 } : Room)) (fun a U => a = #[(.int p0)] ∧ Z.Warmed39 U.vm ∧ U.heap = h0) (fun _ _ _ _ _ => True) (fun _ U o U' => ∃ v L, o = .returned v ∧ Q_1_4 Z p0 w_MINUTE h0 n0 v U'.heap L ∧ FrameEnd U o U' L ({ frames := 0, cells := 0, slots := 0, locals := 0 } : Room).cells ({ frames := 0, cells := 0, slots := 0, locals := 0 } : Room).slots) := by
  refine MetFree.of_bodySF (plainFor_of_name pn_com_example_measurewright_measurewright_cql_PrecisionCombinedPinLaw) hisR ?_
  intro p e s m args below meth c s₁ Bd hml0 hP hK
  obtain ⟨rfl, hZ, hh⟩ := hP
  have hx := Bd.exec
  have hby := Bd.bytes
  have hml : c.maxLocals = 2 := hml0
  have hown : s.vm.findClass cS1 = some m.cls := findClass_of_methodNamed Bd.named
  have hnm := (name_of_methodNamed Bd.named Bd.method).1
  have X0 : Stand p l e ({ frames := 0, cells := 0, slots := 0, locals := 0 } : Room) s m #[(.int p0)] below meth c s₁ [] 0 0 := Stand.of_body Bd
  have e0 : s₁.heap = h0 := by rw [← hh, Bd.state]; rfl
  have N0 := Fr.nil n0
  have k0 : ∀ t, OwnS p e below s₁ (mkF m 0 #[iv p0, .unset] []) t → OwnS p e below s₁ (entryFrame m #[(.int p0)] 2) t := fun t k => castTop (ef_1 m p0) k
  obtain ⟨T1, X1, e1, st1⟩ := getS2 X0 hx hZ hown (host := "") (Or.inl (own_at hw 49 rfl)) Via.refl e0 S_MINUTE (g := (mkF m 48 #[iv p0, iv 4] [])) rfl (hb hby d1_48)
  obtain ⟨fs, hr, hrun, hended, hW, hsame⟩ := X1.leave (v := some (.ref w_MINUTE)) (fun h => by rw [Bd.returns] at h; cases h)
  refine ⟨_, _, k0 _ ?_, hrun, hended, _, _, rfl, ?_, ⟨_, rfl⟩, hW, hsame.mono (by decide) (by decide)⟩
  · show OwnS p e below s₁ (mkF m 0 #[iv p0, .unset] []) _
    refine XS.iloadN X0.here hx rfl (hb hby d1_0) rfl ?_
    show OwnS p e below s₁ (mkF m 1 #[iv p0, .unset] [(.int p0)]) _
    refine X0.ldcInt hx hown (mvT hZ (own_at hw 4 rfl)) (g := (mkF m 1 #[iv p0, .unset] [(.int p0)])) rfl (hb hby d1_1) _ ?_
    show OwnS p e below s₁ (mkF m 3 #[iv p0, .unset] [(.int 2147483647), (.int p0)]) _
    refine XS.iand X0.here hx rfl (hb hby d1_3) rfl ?_
    show OwnS p e below s₁ (mkF m 4 #[iv p0, .unset] [(.int (p0 &&& (2147483647 : Int32)))]) _
    refine XS.bipush X0.here hx rfl (hb hby d1_4) ?_
    show OwnS p e below s₁ (mkF m 6 #[iv p0, .unset] [(.int 7), (.int (p0 &&& (2147483647 : Int32)))]) _
    refine iremM X0 hx (g := (mkF m 6 #[iv p0, .unset] [(.int 7), (.int (p0 &&& (2147483647 : Int32)))])) rfl (hb hby d1_6) rfl (by decide) ?_
    rw [hk]
    show OwnS p e below s₁ (mkF m 7 #[iv p0, .unset] [(.int 4)]) _
    refine XS.istoreN X0.here hx rfl (hb hby d1_7) rfl (l' := #[iv p0, iv 4]) rfl ?_
    show OwnS p e below s₁ (mkF m 8 #[iv p0, iv 4] []) _
    refine XS.iloadN X0.here hx rfl (hb hby d1_8) rfl ?_
    show OwnS p e below s₁ (mkF m 9 #[iv p0, iv 4] [(.int 4)]) _
    refine XS.ifYes X0.here hx rfl (pc0 := 9) (pc' := 16) rfl (hb hby d1_9) rfl ((if0 _ _).trans (feq (by decide : ¬ ((4 : Int32) = (0 : Int32)))).2) (by decide) (by decide) ?_
    show OwnS p e below s₁ (mkF m 16 #[iv p0, iv 4] []) _
    refine XS.iloadN X0.here hx rfl (hb hby d1_16) rfl ?_
    show OwnS p e below s₁ (mkF m 17 #[iv p0, iv 4] [(.int 4)]) _
    refine XS.iconst X0.here hx rfl (hb hby d1_17) ?_
    show OwnS p e below s₁ (mkF m 18 #[iv p0, iv 4] [(.int 1), (.int 4)]) _
    refine XS.icmpYes X0.here hx rfl (pc0 := 18) (pc' := 25) rfl (hb hby d1_18) rfl (feq (by decide : ¬ ((4 : Int32) = (1 : Int32)))).2 (by decide) (by decide) ?_
    show OwnS p e below s₁ (mkF m 25 #[iv p0, iv 4] []) _
    refine XS.iloadN X0.here hx rfl (hb hby d1_25) rfl ?_
    show OwnS p e below s₁ (mkF m 26 #[iv p0, iv 4] [(.int 4)]) _
    refine XS.iconst X0.here hx rfl (hb hby d1_26) ?_
    show OwnS p e below s₁ (mkF m 27 #[iv p0, iv 4] [(.int 2), (.int 4)]) _
    refine XS.icmpYes X0.here hx rfl (pc0 := 27) (pc' := 34) rfl (hb hby d1_27) rfl (feq (by decide : ¬ ((4 : Int32) = (2 : Int32)))).2 (by decide) (by decide) ?_
    show OwnS p e below s₁ (mkF m 34 #[iv p0, iv 4] []) _
    refine XS.iloadN X0.here hx rfl (hb hby d1_34) rfl ?_
    show OwnS p e below s₁ (mkF m 35 #[iv p0, iv 4] [(.int 4)]) _
    refine XS.iconst X0.here hx rfl (hb hby d1_35) ?_
    show OwnS p e below s₁ (mkF m 36 #[iv p0, iv 4] [(.int 3), (.int 4)]) _
    refine XS.icmpYes X0.here hx rfl (pc0 := 36) (pc' := 43) rfl (hb hby d1_36) rfl (feq (by decide : ¬ ((4 : Int32) = (3 : Int32)))).2 (by decide) (by decide) ?_
    show OwnS p e below s₁ (mkF m 43 #[iv p0, iv 4] []) _
    refine XS.iloadN X0.here hx rfl (hb hby d1_43) rfl ?_
    show OwnS p e below s₁ (mkF m 44 #[iv p0, iv 4] [(.int 4)]) _
    refine XS.iconst X0.here hx rfl (hb hby d1_44) ?_
    show OwnS p e below s₁ (mkF m 45 #[iv p0, iv 4] [(.int 4), (.int 4)]) _
    refine XS.icmpNo X0.here hx rfl (hb hby d1_45) rfl (teq (by decide : (4 : Int32) = (4 : Int32))).2 ?_
    show OwnS p e below s₁ (mkF m 48 #[iv p0, iv 4] []) _
    refine st1 _ ?_
    show OwnS p e below T1 (mkF m 51 #[iv p0, iv 4] [(.ref w_MINUTE)]) _
    jvm_step X1.here [X1.here.top, hx, (hb hby d1_51), X1.method', Bd.returns, Value.isRef, FieldType.isReference]
    first | (intro acts; rw [hr _ acts rfl rfl rfl]) | rw [hr _ _ rfl rfl rfl]
    exact Steps.refl _
  · show Q_1_4 Z p0 w_MINUTE h0 n0 _ T1.heap _
    rw [e1]
    exact ⟨rfl, N0, rfl⟩
theorem d1_52 : decode method_2_code 52 = .ok (.iload_n 1, 1) := by decide +kernel
theorem d1_53 : decode method_2_code 53 = .ok (.iconst 5, 1) := by decide +kernel
theorem d1_54 : decode method_2_code 54 = .ok (.if_icmp .ne 7, 3) := by decide +kernel
theorem d1_57 : decode method_2_code 57 = .ok (.getstatic 26, 3) := by decide +kernel
theorem d1_60 : decode method_2_code 60 = .ok (.areturn, 1) := by decide +kernel
def Q_1_5 (Z : State) (p0 : Int32) (w_SECOND : Addr) (h0 : Heap) (n0 : Nat) (v : Option Value) (h : Heap) (L : List Loc) : Prop := v = some (.ref w_SECOND) ∧ Fr n0 L ∧ h = h0
set_option maxRecDepth 65536 in
set_option maxHeartbeats 40000000 in
theorem rm1_5 (l : Launch) (Z : State) (a0 : Array Value) (hw : ∀ d ∈ tables_1, d.before a0 Z = true) (ws : List Jvm.Cond) (p0 : Int32) (w_SECOND : Addr) (h0 : Heap) (n0 : Nat) (Z0 : n0 ≤ h0.size) (hk : ((p0 &&& (2147483647 : Int32)) % (7 : Int32)) = (5 : Int32)) (S_SECOND : Sta Z h0 cS0 "SECOND" cS3 (.ref w_SECOND)) :
    MetFree l (⟨cS1, "pick", cS4⟩ : MethodName) (head1 (Jvm.Cond.code (⟨cS1, "pick", cS4⟩ : MethodName) method_2_code 2 (some (.object cS0)) :: ws) ({ frames := 0, cells := 0, slots := 0, locals := 0 } : Room)) (fun a U => a = #[(.int p0)] ∧ Z.Warmed39 U.vm ∧ U.heap = h0) (fun _ _ _ _ _ => True) (fun _ U o U' => ∃ v L, o = .returned v ∧ Q_1_5 Z p0 w_SECOND h0 n0 v U'.heap L ∧ FrameEnd U o U' L ({ frames := 0, cells := 0, slots := 0, locals := 0 } : Room).cells ({ frames := 0, cells := 0, slots := 0, locals := 0 } : Room).slots) := by
  refine MetFree.of_bodySF (plainFor_of_name pn_com_example_measurewright_measurewright_cql_PrecisionCombinedPinLaw) hisR ?_
  intro p e s m args below meth c s₁ Bd hml0 hP hK
  obtain ⟨rfl, hZ, hh⟩ := hP
  have hx := Bd.exec
  have hby := Bd.bytes
  have hml : c.maxLocals = 2 := hml0
  have hown : s.vm.findClass cS1 = some m.cls := findClass_of_methodNamed Bd.named
  have hnm := (name_of_methodNamed Bd.named Bd.method).1
  have X0 : Stand p l e ({ frames := 0, cells := 0, slots := 0, locals := 0 } : Room) s m #[(.int p0)] below meth c s₁ [] 0 0 := Stand.of_body Bd
  have e0 : s₁.heap = h0 := by rw [← hh, Bd.state]; rfl
  have N0 := Fr.nil n0
  have k0 : ∀ t, OwnS p e below s₁ (mkF m 0 #[iv p0, .unset] []) t → OwnS p e below s₁ (entryFrame m #[(.int p0)] 2) t := fun t k => castTop (ef_1 m p0) k
  obtain ⟨T1, X1, e1, st1⟩ := getS2 X0 hx hZ hown (host := "") (Or.inl (own_at hw 15 rfl)) Via.refl e0 S_SECOND (g := (mkF m 57 #[iv p0, iv 5] [])) rfl (hb hby d1_57)
  obtain ⟨fs, hr, hrun, hended, hW, hsame⟩ := X1.leave (v := some (.ref w_SECOND)) (fun h => by rw [Bd.returns] at h; cases h)
  refine ⟨_, _, k0 _ ?_, hrun, hended, _, _, rfl, ?_, ⟨_, rfl⟩, hW, hsame.mono (by decide) (by decide)⟩
  · show OwnS p e below s₁ (mkF m 0 #[iv p0, .unset] []) _
    refine XS.iloadN X0.here hx rfl (hb hby d1_0) rfl ?_
    show OwnS p e below s₁ (mkF m 1 #[iv p0, .unset] [(.int p0)]) _
    refine X0.ldcInt hx hown (mvT hZ (own_at hw 4 rfl)) (g := (mkF m 1 #[iv p0, .unset] [(.int p0)])) rfl (hb hby d1_1) _ ?_
    show OwnS p e below s₁ (mkF m 3 #[iv p0, .unset] [(.int 2147483647), (.int p0)]) _
    refine XS.iand X0.here hx rfl (hb hby d1_3) rfl ?_
    show OwnS p e below s₁ (mkF m 4 #[iv p0, .unset] [(.int (p0 &&& (2147483647 : Int32)))]) _
    refine XS.bipush X0.here hx rfl (hb hby d1_4) ?_
    show OwnS p e below s₁ (mkF m 6 #[iv p0, .unset] [(.int 7), (.int (p0 &&& (2147483647 : Int32)))]) _
    refine iremM X0 hx (g := (mkF m 6 #[iv p0, .unset] [(.int 7), (.int (p0 &&& (2147483647 : Int32)))])) rfl (hb hby d1_6) rfl (by decide) ?_
    rw [hk]
    show OwnS p e below s₁ (mkF m 7 #[iv p0, .unset] [(.int 5)]) _
    refine XS.istoreN X0.here hx rfl (hb hby d1_7) rfl (l' := #[iv p0, iv 5]) rfl ?_
    show OwnS p e below s₁ (mkF m 8 #[iv p0, iv 5] []) _
    refine XS.iloadN X0.here hx rfl (hb hby d1_8) rfl ?_
    show OwnS p e below s₁ (mkF m 9 #[iv p0, iv 5] [(.int 5)]) _
    refine XS.ifYes X0.here hx rfl (pc0 := 9) (pc' := 16) rfl (hb hby d1_9) rfl ((if0 _ _).trans (feq (by decide : ¬ ((5 : Int32) = (0 : Int32)))).2) (by decide) (by decide) ?_
    show OwnS p e below s₁ (mkF m 16 #[iv p0, iv 5] []) _
    refine XS.iloadN X0.here hx rfl (hb hby d1_16) rfl ?_
    show OwnS p e below s₁ (mkF m 17 #[iv p0, iv 5] [(.int 5)]) _
    refine XS.iconst X0.here hx rfl (hb hby d1_17) ?_
    show OwnS p e below s₁ (mkF m 18 #[iv p0, iv 5] [(.int 1), (.int 5)]) _
    refine XS.icmpYes X0.here hx rfl (pc0 := 18) (pc' := 25) rfl (hb hby d1_18) rfl (feq (by decide : ¬ ((5 : Int32) = (1 : Int32)))).2 (by decide) (by decide) ?_
    show OwnS p e below s₁ (mkF m 25 #[iv p0, iv 5] []) _
    refine XS.iloadN X0.here hx rfl (hb hby d1_25) rfl ?_
    show OwnS p e below s₁ (mkF m 26 #[iv p0, iv 5] [(.int 5)]) _
    refine XS.iconst X0.here hx rfl (hb hby d1_26) ?_
    show OwnS p e below s₁ (mkF m 27 #[iv p0, iv 5] [(.int 2), (.int 5)]) _
    refine XS.icmpYes X0.here hx rfl (pc0 := 27) (pc' := 34) rfl (hb hby d1_27) rfl (feq (by decide : ¬ ((5 : Int32) = (2 : Int32)))).2 (by decide) (by decide) ?_
    show OwnS p e below s₁ (mkF m 34 #[iv p0, iv 5] []) _
    refine XS.iloadN X0.here hx rfl (hb hby d1_34) rfl ?_
    show OwnS p e below s₁ (mkF m 35 #[iv p0, iv 5] [(.int 5)]) _
    refine XS.iconst X0.here hx rfl (hb hby d1_35) ?_
    show OwnS p e below s₁ (mkF m 36 #[iv p0, iv 5] [(.int 3), (.int 5)]) _
    refine XS.icmpYes X0.here hx rfl (pc0 := 36) (pc' := 43) rfl (hb hby d1_36) rfl (feq (by decide : ¬ ((5 : Int32) = (3 : Int32)))).2 (by decide) (by decide) ?_
    show OwnS p e below s₁ (mkF m 43 #[iv p0, iv 5] []) _
    refine XS.iloadN X0.here hx rfl (hb hby d1_43) rfl ?_
    show OwnS p e below s₁ (mkF m 44 #[iv p0, iv 5] [(.int 5)]) _
    refine XS.iconst X0.here hx rfl (hb hby d1_44) ?_
    show OwnS p e below s₁ (mkF m 45 #[iv p0, iv 5] [(.int 4), (.int 5)]) _
    refine XS.icmpYes X0.here hx rfl (pc0 := 45) (pc' := 52) rfl (hb hby d1_45) rfl (feq (by decide : ¬ ((5 : Int32) = (4 : Int32)))).2 (by decide) (by decide) ?_
    show OwnS p e below s₁ (mkF m 52 #[iv p0, iv 5] []) _
    refine XS.iloadN X0.here hx rfl (hb hby d1_52) rfl ?_
    show OwnS p e below s₁ (mkF m 53 #[iv p0, iv 5] [(.int 5)]) _
    refine XS.iconst X0.here hx rfl (hb hby d1_53) ?_
    show OwnS p e below s₁ (mkF m 54 #[iv p0, iv 5] [(.int 5), (.int 5)]) _
    refine XS.icmpNo X0.here hx rfl (hb hby d1_54) rfl (teq (by decide : (5 : Int32) = (5 : Int32))).2 ?_
    show OwnS p e below s₁ (mkF m 57 #[iv p0, iv 5] []) _
    refine st1 _ ?_
    show OwnS p e below T1 (mkF m 60 #[iv p0, iv 5] [(.ref w_SECOND)]) _
    jvm_step X1.here [X1.here.top, hx, (hb hby d1_60), X1.method', Bd.returns, Value.isRef, FieldType.isReference]
    first | (intro acts; rw [hr _ acts rfl rfl rfl]) | rw [hr _ _ rfl rfl rfl]
    exact Steps.refl _
  · show Q_1_5 Z p0 w_SECOND h0 n0 _ T1.heap _
    rw [e1]
    exact ⟨rfl, N0, rfl⟩
theorem d1_61 : decode method_2_code 61 = .ok (.getstatic 29, 3) := by decide +kernel
theorem d1_64 : decode method_2_code 64 = .ok (.areturn, 1) := by decide +kernel
def Q_1_6 (Z : State) (p0 : Int32) (w_MILLISECOND : Addr) (h0 : Heap) (n0 : Nat) (v : Option Value) (h : Heap) (L : List Loc) : Prop := v = some (.ref w_MILLISECOND) ∧ Fr n0 L ∧ h = h0
set_option maxRecDepth 65536 in
set_option maxHeartbeats 40000000 in
theorem rm1_6 (l : Launch) (Z : State) (a0 : Array Value) (hw : ∀ d ∈ tables_1, d.before a0 Z = true) (ws : List Jvm.Cond) (p0 : Int32) (w_MILLISECOND : Addr) (h0 : Heap) (n0 : Nat) (Z0 : n0 ≤ h0.size) (hk : ((p0 &&& (2147483647 : Int32)) % (7 : Int32)) = (6 : Int32)) (S_MILLISECOND : Sta Z h0 cS0 "MILLISECOND" cS3 (.ref w_MILLISECOND)) :
    MetFree l (⟨cS1, "pick", cS4⟩ : MethodName) (head1 (Jvm.Cond.code (⟨cS1, "pick", cS4⟩ : MethodName) method_2_code 2 (some (.object cS0)) :: ws) ({ frames := 0, cells := 0, slots := 0, locals := 0 } : Room)) (fun a U => a = #[(.int p0)] ∧ Z.Warmed39 U.vm ∧ U.heap = h0) (fun _ _ _ _ _ => True) (fun _ U o U' => ∃ v L, o = .returned v ∧ Q_1_6 Z p0 w_MILLISECOND h0 n0 v U'.heap L ∧ FrameEnd U o U' L ({ frames := 0, cells := 0, slots := 0, locals := 0 } : Room).cells ({ frames := 0, cells := 0, slots := 0, locals := 0 } : Room).slots) := by
  refine MetFree.of_bodySF (plainFor_of_name pn_com_example_measurewright_measurewright_cql_PrecisionCombinedPinLaw) hisR ?_
  intro p e s m args below meth c s₁ Bd hml0 hP hK
  obtain ⟨rfl, hZ, hh⟩ := hP
  have hx := Bd.exec
  have hby := Bd.bytes
  have hml : c.maxLocals = 2 := hml0
  have hown : s.vm.findClass cS1 = some m.cls := findClass_of_methodNamed Bd.named
  have hnm := (name_of_methodNamed Bd.named Bd.method).1
  have X0 : Stand p l e ({ frames := 0, cells := 0, slots := 0, locals := 0 } : Room) s m #[(.int p0)] below meth c s₁ [] 0 0 := Stand.of_body Bd
  have e0 : s₁.heap = h0 := by rw [← hh, Bd.state]; rfl
  have N0 := Fr.nil n0
  have k0 : ∀ t, OwnS p e below s₁ (mkF m 0 #[iv p0, .unset] []) t → OwnS p e below s₁ (entryFrame m #[(.int p0)] 2) t := fun t k => castTop (ef_1 m p0) k
  obtain ⟨T1, X1, e1, st1⟩ := getS2 X0 hx hZ hown (host := "") (Or.inl (own_at hw 48 rfl)) Via.refl e0 S_MILLISECOND (g := (mkF m 61 #[iv p0, iv 6] [])) rfl (hb hby d1_61)
  obtain ⟨fs, hr, hrun, hended, hW, hsame⟩ := X1.leave (v := some (.ref w_MILLISECOND)) (fun h => by rw [Bd.returns] at h; cases h)
  refine ⟨_, _, k0 _ ?_, hrun, hended, _, _, rfl, ?_, ⟨_, rfl⟩, hW, hsame.mono (by decide) (by decide)⟩
  · show OwnS p e below s₁ (mkF m 0 #[iv p0, .unset] []) _
    refine XS.iloadN X0.here hx rfl (hb hby d1_0) rfl ?_
    show OwnS p e below s₁ (mkF m 1 #[iv p0, .unset] [(.int p0)]) _
    refine X0.ldcInt hx hown (mvT hZ (own_at hw 4 rfl)) (g := (mkF m 1 #[iv p0, .unset] [(.int p0)])) rfl (hb hby d1_1) _ ?_
    show OwnS p e below s₁ (mkF m 3 #[iv p0, .unset] [(.int 2147483647), (.int p0)]) _
    refine XS.iand X0.here hx rfl (hb hby d1_3) rfl ?_
    show OwnS p e below s₁ (mkF m 4 #[iv p0, .unset] [(.int (p0 &&& (2147483647 : Int32)))]) _
    refine XS.bipush X0.here hx rfl (hb hby d1_4) ?_
    show OwnS p e below s₁ (mkF m 6 #[iv p0, .unset] [(.int 7), (.int (p0 &&& (2147483647 : Int32)))]) _
    refine iremM X0 hx (g := (mkF m 6 #[iv p0, .unset] [(.int 7), (.int (p0 &&& (2147483647 : Int32)))])) rfl (hb hby d1_6) rfl (by decide) ?_
    rw [hk]
    show OwnS p e below s₁ (mkF m 7 #[iv p0, .unset] [(.int 6)]) _
    refine XS.istoreN X0.here hx rfl (hb hby d1_7) rfl (l' := #[iv p0, iv 6]) rfl ?_
    show OwnS p e below s₁ (mkF m 8 #[iv p0, iv 6] []) _
    refine XS.iloadN X0.here hx rfl (hb hby d1_8) rfl ?_
    show OwnS p e below s₁ (mkF m 9 #[iv p0, iv 6] [(.int 6)]) _
    refine XS.ifYes X0.here hx rfl (pc0 := 9) (pc' := 16) rfl (hb hby d1_9) rfl ((if0 _ _).trans (feq (by decide : ¬ ((6 : Int32) = (0 : Int32)))).2) (by decide) (by decide) ?_
    show OwnS p e below s₁ (mkF m 16 #[iv p0, iv 6] []) _
    refine XS.iloadN X0.here hx rfl (hb hby d1_16) rfl ?_
    show OwnS p e below s₁ (mkF m 17 #[iv p0, iv 6] [(.int 6)]) _
    refine XS.iconst X0.here hx rfl (hb hby d1_17) ?_
    show OwnS p e below s₁ (mkF m 18 #[iv p0, iv 6] [(.int 1), (.int 6)]) _
    refine XS.icmpYes X0.here hx rfl (pc0 := 18) (pc' := 25) rfl (hb hby d1_18) rfl (feq (by decide : ¬ ((6 : Int32) = (1 : Int32)))).2 (by decide) (by decide) ?_
    show OwnS p e below s₁ (mkF m 25 #[iv p0, iv 6] []) _
    refine XS.iloadN X0.here hx rfl (hb hby d1_25) rfl ?_
    show OwnS p e below s₁ (mkF m 26 #[iv p0, iv 6] [(.int 6)]) _
    refine XS.iconst X0.here hx rfl (hb hby d1_26) ?_
    show OwnS p e below s₁ (mkF m 27 #[iv p0, iv 6] [(.int 2), (.int 6)]) _
    refine XS.icmpYes X0.here hx rfl (pc0 := 27) (pc' := 34) rfl (hb hby d1_27) rfl (feq (by decide : ¬ ((6 : Int32) = (2 : Int32)))).2 (by decide) (by decide) ?_
    show OwnS p e below s₁ (mkF m 34 #[iv p0, iv 6] []) _
    refine XS.iloadN X0.here hx rfl (hb hby d1_34) rfl ?_
    show OwnS p e below s₁ (mkF m 35 #[iv p0, iv 6] [(.int 6)]) _
    refine XS.iconst X0.here hx rfl (hb hby d1_35) ?_
    show OwnS p e below s₁ (mkF m 36 #[iv p0, iv 6] [(.int 3), (.int 6)]) _
    refine XS.icmpYes X0.here hx rfl (pc0 := 36) (pc' := 43) rfl (hb hby d1_36) rfl (feq (by decide : ¬ ((6 : Int32) = (3 : Int32)))).2 (by decide) (by decide) ?_
    show OwnS p e below s₁ (mkF m 43 #[iv p0, iv 6] []) _
    refine XS.iloadN X0.here hx rfl (hb hby d1_43) rfl ?_
    show OwnS p e below s₁ (mkF m 44 #[iv p0, iv 6] [(.int 6)]) _
    refine XS.iconst X0.here hx rfl (hb hby d1_44) ?_
    show OwnS p e below s₁ (mkF m 45 #[iv p0, iv 6] [(.int 4), (.int 6)]) _
    refine XS.icmpYes X0.here hx rfl (pc0 := 45) (pc' := 52) rfl (hb hby d1_45) rfl (feq (by decide : ¬ ((6 : Int32) = (4 : Int32)))).2 (by decide) (by decide) ?_
    show OwnS p e below s₁ (mkF m 52 #[iv p0, iv 6] []) _
    refine XS.iloadN X0.here hx rfl (hb hby d1_52) rfl ?_
    show OwnS p e below s₁ (mkF m 53 #[iv p0, iv 6] [(.int 6)]) _
    refine XS.iconst X0.here hx rfl (hb hby d1_53) ?_
    show OwnS p e below s₁ (mkF m 54 #[iv p0, iv 6] [(.int 5), (.int 6)]) _
    refine XS.icmpYes X0.here hx rfl (pc0 := 54) (pc' := 61) rfl (hb hby d1_54) rfl (feq (by decide : ¬ ((6 : Int32) = (5 : Int32)))).2 (by decide) (by decide) ?_
    show OwnS p e below s₁ (mkF m 61 #[iv p0, iv 6] []) _
    refine st1 _ ?_
    show OwnS p e below T1 (mkF m 64 #[iv p0, iv 6] [(.ref w_MILLISECOND)]) _
    jvm_step X1.here [X1.here.top, hx, (hb hby d1_64), X1.method', Bd.returns, Value.isRef, FieldType.isReference]
    first | (intro acts; rw [hr _ acts rfl rfl rfl]) | rw [hr _ _ rfl rfl rfl]
    exact Steps.refl _
  · show Q_1_6 Z p0 w_MILLISECOND h0 n0 _ T1.heap _
    rw [e1]
    exact ⟨rfl, N0, rfl⟩
theorem d2_0 : decode prog_97_method_8_code 0 = .ok (.aload_n 0, 1) := by decide +kernel
theorem d2_1 : decode prog_97_method_8_code 1 = .ok (.getstatic 19, 3) := by decide +kernel
theorem d2_4 : decode prog_97_method_8_code 4 = .ok (.if_acmp .ne 9, 3) := by decide +kernel
theorem d2_7 : decode prog_97_method_8_code 7 = .ok (.getstatic 22, 3) := by decide +kernel
theorem d2_10 : decode prog_97_method_8_code 10 = .ok (.goto 4, 3) := by decide +kernel
theorem d2_14 : decode prog_97_method_8_code 14 = .ok (.areturn, 1) := by decide +kernel
theorem pn_com_example_measurewright_measurewright_cql_Precision : plainName cS0 = true := by first | (simp [plainName, overriddenIn]; done) | decide +kernel
theorem ef_2 (m : MethodId) (x0 : Addr) : entryFrame m #[(.ref x0)] 1 = mkF m 0 #[.val (.ref x0)] [] := by first | (simp [entryFrame, mkF, argsToLocals, Value.category]; done) | rfl
def Q_2_s (Z : State) (w_SECOND : Addr) (w_MILLISECOND : Addr) (h0 : Heap) (n0 : Nat) (v : Option Value) (h : Heap) (L : List Loc) : Prop := v = some (.ref w_MILLISECOND) ∧ Fr n0 L ∧ h = h0
set_option maxRecDepth 65536 in
set_option maxHeartbeats 40000000 in
theorem rm2_s (l : Launch) (Z : State) (a0 : Array Value) (hw : ∀ d ∈ tables_1, d.before a0 Z = true) (ws : List Jvm.Cond) (w_SECOND : Addr) (w_MILLISECOND : Addr) (h0 : Heap) (n0 : Nat) (Z0 : n0 ≤ h0.size) (S_SECOND : Sta Z h0 cS0 "SECOND" cS3 (.ref w_SECOND)) (S_MILLISECOND : Sta Z h0 cS0 "MILLISECOND" cS3 (.ref w_MILLISECOND)) :
    MetFree l (⟨cS0, "combined", cS2⟩ : MethodName) (head1 (Jvm.Cond.code (⟨cS0, "combined", cS2⟩ : MethodName) prog_97_method_8_code 1 (some (.object cS0)) :: ws) ({ frames := 0, cells := 0, slots := 0, locals := 0 } : Room)) (fun a U => a = #[(.ref w_SECOND)] ∧ Z.Warmed39 U.vm ∧ U.heap = h0) (fun _ _ _ _ _ => True) (fun _ U o U' => ∃ v L, o = .returned v ∧ Q_2_s Z w_SECOND w_MILLISECOND h0 n0 v U'.heap L ∧ FrameEnd U o U' L ({ frames := 0, cells := 0, slots := 0, locals := 0 } : Room).cells ({ frames := 0, cells := 0, slots := 0, locals := 0 } : Room).slots) := by
  refine MetFree.of_bodySF (plainFor_of_name pn_com_example_measurewright_measurewright_cql_Precision) hisR ?_
  intro p e s m args below meth c s₁ Bd hml0 hP hK
  obtain ⟨rfl, hZ, hh⟩ := hP
  have hx := Bd.exec
  have hby := Bd.bytes
  have hml : c.maxLocals = 1 := hml0
  have hown : s.vm.findClass cS0 = some m.cls := findClass_of_methodNamed Bd.named
  have hnm := (name_of_methodNamed Bd.named Bd.method).1
  have X0 : Stand p l e ({ frames := 0, cells := 0, slots := 0, locals := 0 } : Room) s m #[(.ref w_SECOND)] below meth c s₁ [] 0 0 := Stand.of_body Bd
  have e0 : s₁.heap = h0 := by rw [← hh, Bd.state]; rfl
  have N0 := Fr.nil n0
  have k0 : ∀ t, OwnS p e below s₁ (mkF m 0 #[rv w_SECOND] []) t → OwnS p e below s₁ (entryFrame m #[(.ref w_SECOND)] 1) t := fun t k => castTop (ef_2 m w_SECOND) k
  obtain ⟨T1, X1, e1, st1⟩ := getS2 X0 hx hZ hown (host := "") (Or.inl (own_at hw 13 rfl)) Via.refl e0 S_SECOND (g := (mkF m 1 #[rv w_SECOND] [(.ref w_SECOND)])) rfl (hb hby d2_1)
  obtain ⟨T2, X2, e2, st2⟩ := getS2 X1 hx hZ hown (host := "") (Or.inl (own_at hw 46 rfl)) Via.refl e1 S_MILLISECOND (g := (mkF m 7 #[rv w_SECOND] [])) rfl (hb hby d2_7)
  obtain ⟨fs, hr, hrun, hended, hW, hsame⟩ := X2.leave (v := some (.ref w_MILLISECOND)) (fun h => by rw [Bd.returns] at h; cases h)
  refine ⟨_, _, k0 _ ?_, hrun, hended, _, _, rfl, ?_, ⟨_, rfl⟩, hW, hsame.mono (by decide) (by decide)⟩
  · show OwnS p e below s₁ (mkF m 0 #[rv w_SECOND] []) _
    refine XS.aloadN X0.here hx rfl (hb hby d2_0) rfl rfl ?_
    show OwnS p e below s₁ (mkF m 1 #[rv w_SECOND] [(.ref w_SECOND)]) _
    refine st1 _ ?_
    show OwnS p e below T1 (mkF m 4 #[rv w_SECOND] [(.ref w_SECOND), (.ref w_SECOND)]) _
    refine Jvm.RoadKit.acmp (g := (mkF m 4 #[rv w_SECOND] [(.ref w_SECOND), (.ref w_SECOND)])) X1 hx rfl rfl rfl (pc0 := 4) (pc' := 7) (same := true) rfl (hb hby d2_4) rfl (decide_eq_true rfl) (by decide) (by decide) ?_
    show OwnS p e below T1 (mkF m 7 #[rv w_SECOND] []) _
    refine st2 _ ?_
    show OwnS p e below T2 (mkF m 10 #[rv w_SECOND] [(.ref w_MILLISECOND)]) _
    refine XS.goto X2.here hx rfl (pc0 := 10) (pc' := 14) rfl (hb hby d2_10) (by decide) (by decide) ?_
    show OwnS p e below T2 (mkF m 14 #[rv w_SECOND] [(.ref w_MILLISECOND)]) _
    jvm_step X2.here [X2.here.top, hx, (hb hby d2_14), X2.method', Bd.returns, Value.isRef, FieldType.isReference]
    first | (intro acts; rw [hr _ acts rfl rfl rfl]) | rw [hr _ _ rfl rfl rfl]
    exact Steps.refl _
  · show Q_2_s Z w_SECOND w_MILLISECOND h0 n0 _ T2.heap _
    rw [e2]
    exact ⟨rfl, N0, rfl⟩
theorem d2_13 : decode prog_97_method_8_code 13 = .ok (.aload_n 0, 1) := by decide +kernel
def Q_2_o (Z : State) (r0 : Addr) (w_SECOND : Addr) (h0 : Heap) (n0 : Nat) (v : Option Value) (h : Heap) (L : List Loc) : Prop := v = some (.ref r0) ∧ Fr n0 L ∧ h = h0
set_option maxRecDepth 65536 in
set_option maxHeartbeats 40000000 in
theorem rm2_o (l : Launch) (Z : State) (a0 : Array Value) (hw : ∀ d ∈ tables_1, d.before a0 Z = true) (ws : List Jvm.Cond) (r0 : Addr) (w_SECOND : Addr) (h0 : Heap) (n0 : Nat) (Z0 : n0 ≤ h0.size) (S_SECOND : Sta Z h0 cS0 "SECOND" cS3 (.ref w_SECOND)) (ha4 : ¬ (r0 = w_SECOND)) :
    MetFree l (⟨cS0, "combined", cS2⟩ : MethodName) (head1 (Jvm.Cond.code (⟨cS0, "combined", cS2⟩ : MethodName) prog_97_method_8_code 1 (some (.object cS0)) :: ws) ({ frames := 0, cells := 0, slots := 0, locals := 0 } : Room)) (fun a U => a = #[(.ref r0)] ∧ Z.Warmed39 U.vm ∧ U.heap = h0) (fun _ _ _ _ _ => True) (fun _ U o U' => ∃ v L, o = .returned v ∧ Q_2_o Z r0 w_SECOND h0 n0 v U'.heap L ∧ FrameEnd U o U' L ({ frames := 0, cells := 0, slots := 0, locals := 0 } : Room).cells ({ frames := 0, cells := 0, slots := 0, locals := 0 } : Room).slots) := by
  refine MetFree.of_bodySF (plainFor_of_name pn_com_example_measurewright_measurewright_cql_Precision) hisR ?_
  intro p e s m args below meth c s₁ Bd hml0 hP hK
  obtain ⟨rfl, hZ, hh⟩ := hP
  have hx := Bd.exec
  have hby := Bd.bytes
  have hml : c.maxLocals = 1 := hml0
  have hown : s.vm.findClass cS0 = some m.cls := findClass_of_methodNamed Bd.named
  have hnm := (name_of_methodNamed Bd.named Bd.method).1
  have X0 : Stand p l e ({ frames := 0, cells := 0, slots := 0, locals := 0 } : Room) s m #[(.ref r0)] below meth c s₁ [] 0 0 := Stand.of_body Bd
  have e0 : s₁.heap = h0 := by rw [← hh, Bd.state]; rfl
  have N0 := Fr.nil n0
  have k0 : ∀ t, OwnS p e below s₁ (mkF m 0 #[rv r0] []) t → OwnS p e below s₁ (entryFrame m #[(.ref r0)] 1) t := fun t k => castTop (ef_2 m r0) k
  obtain ⟨T1, X1, e1, st1⟩ := getS2 X0 hx hZ hown (host := "") (Or.inl (own_at hw 13 rfl)) Via.refl e0 S_SECOND (g := (mkF m 1 #[rv r0] [(.ref r0)])) rfl (hb hby d2_1)
  obtain ⟨fs, hr, hrun, hended, hW, hsame⟩ := X1.leave (v := some (.ref r0)) (fun h => by rw [Bd.returns] at h; cases h)
  refine ⟨_, _, k0 _ ?_, hrun, hended, _, _, rfl, ?_, ⟨_, rfl⟩, hW, hsame.mono (by decide) (by decide)⟩
  · show OwnS p e below s₁ (mkF m 0 #[rv r0] []) _
    refine XS.aloadN X0.here hx rfl (hb hby d2_0) rfl rfl ?_
    show OwnS p e below s₁ (mkF m 1 #[rv r0] [(.ref r0)]) _
    refine st1 _ ?_
    show OwnS p e below T1 (mkF m 4 #[rv r0] [(.ref w_SECOND), (.ref r0)]) _
    refine Jvm.RoadKit.acmp (g := (mkF m 4 #[rv r0] [(.ref w_SECOND), (.ref r0)])) X1 hx rfl rfl rfl (pc0 := 4) (pc' := 13) (same := false) rfl (hb hby d2_4) rfl (decide_eq_false fun q => ha4 (Value.ref.inj q)) (by decide) (by decide) ?_
    show OwnS p e below T1 (mkF m 13 #[rv r0] []) _
    refine XS.aloadN X1.here hx rfl (hb hby d2_13) rfl rfl ?_
    show OwnS p e below T1 (mkF m 14 #[rv r0] [(.ref r0)]) _
    jvm_step X1.here [X1.here.top, hx, (hb hby d2_14), X1.method', Bd.returns, Value.isRef, FieldType.isReference]
    first | (intro acts; rw [hr _ acts rfl rfl rfl]) | rw [hr _ _ rfl rfl rfl]
    exact Steps.refl _
  · show Q_2_o Z r0 w_SECOND h0 n0 _ T1.heap _
    rw [e1]
    exact ⟨rfl, N0, rfl⟩
theorem d3_0 : decode jdk_37_method_8_code 0 = .ok (.aload_n 1, 1) := by decide +kernel
theorem d3_1 : decode jdk_37_method_8_code 1 = .ok (.astore_n 2, 1) := by decide +kernel
theorem d3_2 : decode jdk_37_method_8_code 2 = .ok (.aload_n 0, 1) := by decide +kernel
theorem d3_3 : decode jdk_37_method_8_code 3 = .ok (.astore_n 3, 1) := by decide +kernel
theorem d3_4 : decode jdk_37_method_8_code 4 = .ok (.aload_n 3, 1) := by decide +kernel
theorem d3_5 : decode jdk_37_method_8_code 5 = .ok (.invokevirtual 29, 3) := by decide +kernel
theorem d3_8 : decode jdk_37_method_8_code 8 = .ok (.aload_n 2, 1) := by decide +kernel
theorem d3_9 : decode jdk_37_method_8_code 9 = .ok (.invokevirtual 29, 3) := by decide +kernel
theorem d3_12 : decode jdk_37_method_8_code 12 = .ok (.if_acmp .eq 22, 3) := by decide +kernel
theorem d3_34 : decode jdk_37_method_8_code 34 = .ok (.aload_n 3, 1) := by decide +kernel
theorem d3_35 : decode jdk_37_method_8_code 35 = .ok (.getfield 7, 3) := by decide +kernel
theorem d3_38 : decode jdk_37_method_8_code 38 = .ok (.aload_n 2, 1) := by decide +kernel
theorem d3_39 : decode jdk_37_method_8_code 39 = .ok (.getfield 7, 3) := by decide +kernel
theorem d3_42 : decode jdk_37_method_8_code 42 = .ok (.isub, 1) := by decide +kernel
theorem d3_43 : decode jdk_37_method_8_code 43 = .ok (.ireturn, 1) := by decide +kernel
theorem pn_java_lang_Enum : plainName cS5 = true := by first | (simp [plainName, overriddenIn]; done) | decide +kernel
theorem ef_3 (m : MethodId) (x0 : Addr) (x1 : Addr) : entryFrame m #[(.ref x0), (.ref x1)] 4 = mkF m 0 #[.val (.ref x0), .val (.ref x1), .unset, .unset] [] := by first | (simp [entryFrame, mkF, argsToLocals, Value.category]; done) | rfl
def Q_3_t (Z : State) (r0 : Addr) (r1 : Addr) (mir_Precision : Addr) (u_ordinal_r0 : Int32) (u_ordinal_r1 : Int32) (h0 : Heap) (n0 : Nat) (v : Option Value) (h : Heap) (L : List Loc) : Prop := v = some (.int (u_ordinal_r0 - u_ordinal_r1)) ∧ Fr n0 L ∧ h = h0
set_option maxRecDepth 65536 in
set_option maxHeartbeats 40000000 in
theorem rm3_t (l : Launch) (Z : State) (a0 : Array Value) (hw : ∀ d ∈ tables_1, d.before a0 Z = true) (ws : List Jvm.Cond) (r0 : Addr) (r1 : Addr) (mir_Precision : Addr) (u_ordinal_r0 : Int32) (u_ordinal_r1 : Int32) (h0 : Heap) (n0 : Nat) (Z0 : n0 ≤ h0.size) (E_r0 : Exa Z h0 r0 cS0) (E_r1 : Exa Z h0 r1 cS0) (M_mir_Precision : own_Mir Z cS0 mir_Precision) (F_ordinal_r0 : Fld Z h0 r0 cS5 "ordinal" "I" (.int u_ordinal_r0)) (F_ordinal_r1 : Fld Z h0 r1 cS5 "ordinal" "I" (.int u_ordinal_r1)) :
    MetFree l (⟨cS5, "compareTo", "(Ljava/lang/Enum;)I"⟩ : MethodName) (head1 (Jvm.Cond.code (⟨cS5, "compareTo", "(Ljava/lang/Enum;)I"⟩ : MethodName) jdk_37_method_8_code 4 (some .int) :: ws) ({ frames := 1, cells := 0, slots := 0, locals := 15 } : Room)) (fun a U => a = #[(.ref r0), (.ref r1)] ∧ Z.Warmed39 U.vm ∧ U.heap = h0) (fun _ _ _ _ _ => True) (fun _ U o U' => ∃ v L, o = .returned v ∧ Q_3_t Z r0 r1 mir_Precision u_ordinal_r0 u_ordinal_r1 h0 n0 v U'.heap L ∧ FrameEnd U o U' L ({ frames := 1, cells := 0, slots := 0, locals := 15 } : Room).cells ({ frames := 1, cells := 0, slots := 0, locals := 15 } : Room).slots) := by
  refine MetFree.of_bodySF (plainFor_of_name pn_java_lang_Enum) hisR ?_
  intro p e s m args below meth c s₁ Bd hml0 hP hK
  obtain ⟨rfl, hZ, hh⟩ := hP
  have hx := Bd.exec
  have hby := Bd.bytes
  have hml : c.maxLocals = 4 := hml0
  have hown : s.vm.findClass cS5 = some m.cls := findClass_of_methodNamed Bd.named
  have hnm := (name_of_methodNamed Bd.named Bd.method).1
  have X0 : Stand p l e ({ frames := 1, cells := 0, slots := 0, locals := 15 } : Room) s m #[(.ref r0), (.ref r1)] below meth c s₁ [] 0 0 := Stand.of_body Bd
  have e0 : s₁.heap = h0 := by rw [← hh, Bd.state]; rfl
  have N0 := Fr.nil n0
  have k0 : ∀ t, OwnS p e below s₁ (mkF m 0 #[rv r0, rv r1, .unset, .unset] []) t → OwnS p e below s₁ (entryFrame m #[(.ref r0), (.ref r1)] 4) t := fun t k => castTop (ef_3 m r0 r1) k
  obtain ⟨cm1, km1, ma1, mb1, mc1⟩ := own_mir hZ M_mir_Precision
  obtain ⟨cB1, kB1, ia1, ib1, ic1⟩ := isOf hZ e0 E_r0
  have hcb1 : cB1 = cm1 := Option.some.inj (ia1.symm.trans ma1)
  subst hcb1
  obtain ⟨vm1, X1, st1⟩ := X0.getClassOf hx hown (mvT hZ (own_at hw 23 rfl)) (mvT hZ (own_at hw 24 rfl)) (notFace_of_selects (args := #[]) (mvT hZ (own_at hw 26 rfl))) (mvT hZ (own_at hw 26 rfl)) (mvT hZ (own_at hw 25 rfl)) (mvT hZ (own_at hw 27 rfl)) ma1 ic1 mb1 mc1 (g := (mkF m 5 #[rv r0, rv r1, rv r1, rv r0] [(.ref r0)])) rfl (by rw [hml]; rfl) rfl (hb hby d3_5) (by decide) (by show 2 * 0 + 0 + _ ≤ _; decide)
  obtain ⟨T1, hT1⟩ : ∃ T', T' = s₁.setVm vm1 := ⟨_, rfl⟩
  rw [← hT1] at X1 st1
  have e1 : T1.heap = h0 := by rw [hT1]; exact e0
  obtain ⟨cm2, km2, ma2, mb2, mc2⟩ := own_mir hZ M_mir_Precision
  obtain ⟨cB2, kB2, ia2, ib2, ic2⟩ := isOf hZ e1 E_r1
  have hcb2 : cB2 = cm2 := Option.some.inj (ia2.symm.trans ma2)
  subst hcb2
  obtain ⟨vm2, X2, st2⟩ := X1.getClassOf hx hown (mvT hZ (own_at hw 23 rfl)) (mvT hZ (own_at hw 24 rfl)) (notFace_of_selects (args := #[]) (mvT hZ (own_at hw 26 rfl))) (mvT hZ (own_at hw 26 rfl)) (mvT hZ (own_at hw 25 rfl)) (mvT hZ (own_at hw 27 rfl)) ma2 ic2 mb2 mc2 (g := (mkF m 9 #[rv r0, rv r1, rv r1, rv r0] [(.ref r1), (.ref mir_Precision)])) rfl (by rw [hml]; rfl) rfl (hb hby d3_9) (by decide) (by show 2 * 0 + 1 + _ ≤ _; decide)
  obtain ⟨T2, hT2⟩ : ∃ T', T' = T1.setVm vm2 := ⟨_, rfl⟩
  rw [← hT2] at X2 st2
  have e2 : T2.heap = h0 := by rw [hT2]; exact e1
  obtain ⟨T3, X3, e3, st3⟩ := getF X2 hx hZ hown (host := "") (Or.inl (own_at hw 29 rfl)) Via.refl e2 F_ordinal_r0 (g := (mkF m 35 #[rv r0, rv r1, rv r1, rv r0] [(.ref r0)])) rfl rfl (hb hby d3_35)
  obtain ⟨T4, X4, e4, st4⟩ := getF X3 hx hZ hown (host := "") (Or.inl (own_at hw 29 rfl)) Via.refl e3 F_ordinal_r1 (g := (mkF m 39 #[rv r0, rv r1, rv r1, rv r0] [(.ref r1), (.int u_ordinal_r0)])) rfl rfl (hb hby d3_39)
  obtain ⟨fs, hr, hrun, hended, hW, hsame⟩ := X4.leave (v := some (.int (u_ordinal_r0 - u_ordinal_r1))) (fun h => by rw [Bd.returns] at h; cases h)
  refine ⟨_, _, k0 _ ?_, hrun, hended, _, _, rfl, ?_, ⟨_, rfl⟩, hW, hsame.mono (by decide) (by decide)⟩
  · show OwnS p e below s₁ (mkF m 0 #[rv r0, rv r1, .unset, .unset] []) _
    refine XS.aloadN X0.here hx rfl (hb hby d3_0) rfl rfl ?_
    show OwnS p e below s₁ (mkF m 1 #[rv r0, rv r1, .unset, .unset] [(.ref r1)]) _
    refine XS.astoreN X0.here hx rfl (hb hby d3_1) rfl rfl (l' := #[rv r0, rv r1, rv r1, .unset]) rfl ?_
    show OwnS p e below s₁ (mkF m 2 #[rv r0, rv r1, rv r1, .unset] []) _
    refine XS.aloadN X0.here hx rfl (hb hby d3_2) rfl rfl ?_
    show OwnS p e below s₁ (mkF m 3 #[rv r0, rv r1, rv r1, .unset] [(.ref r0)]) _
    refine XS.astoreN X0.here hx rfl (hb hby d3_3) rfl rfl (l' := #[rv r0, rv r1, rv r1, rv r0]) rfl ?_
    show OwnS p e below s₁ (mkF m 4 #[rv r0, rv r1, rv r1, rv r0] []) _
    refine XS.aloadN X0.here hx rfl (hb hby d3_4) rfl rfl ?_
    show OwnS p e below s₁ (mkF m 5 #[rv r0, rv r1, rv r1, rv r0] [(.ref r0)]) _
    refine st1 _ ?_
    show OwnS p e below T1 (mkF m 8 #[rv r0, rv r1, rv r1, rv r0] [(.ref mir_Precision)]) _
    refine XS.aloadN X1.here hx rfl (hb hby d3_8) rfl rfl ?_
    show OwnS p e below T1 (mkF m 9 #[rv r0, rv r1, rv r1, rv r0] [(.ref r1), (.ref mir_Precision)]) _
    refine st2 _ ?_
    show OwnS p e below T2 (mkF m 12 #[rv r0, rv r1, rv r1, rv r0] [(.ref mir_Precision), (.ref mir_Precision)]) _
    refine Jvm.RoadKit.acmp (g := (mkF m 12 #[rv r0, rv r1, rv r1, rv r0] [(.ref mir_Precision), (.ref mir_Precision)])) X2 hx rfl rfl rfl (pc0 := 12) (pc' := 34) (same := true) rfl (hb hby d3_12) rfl (decide_eq_true rfl) (by decide) (by decide) ?_
    show OwnS p e below T2 (mkF m 34 #[rv r0, rv r1, rv r1, rv r0] []) _
    refine XS.aloadN X2.here hx rfl (hb hby d3_34) rfl rfl ?_
    show OwnS p e below T2 (mkF m 35 #[rv r0, rv r1, rv r1, rv r0] [(.ref r0)]) _
    refine st3 _ ?_
    show OwnS p e below T3 (mkF m 38 #[rv r0, rv r1, rv r1, rv r0] [(.int u_ordinal_r0)]) _
    refine XS.aloadN X3.here hx rfl (hb hby d3_38) rfl rfl ?_
    show OwnS p e below T3 (mkF m 39 #[rv r0, rv r1, rv r1, rv r0] [(.ref r1), (.int u_ordinal_r0)]) _
    refine st4 _ ?_
    show OwnS p e below T4 (mkF m 42 #[rv r0, rv r1, rv r1, rv r0] [(.int u_ordinal_r1), (.int u_ordinal_r0)]) _
    refine XS.isub X4.here hx rfl (hb hby d3_42) rfl ?_
    show OwnS p e below T4 (mkF m 43 #[rv r0, rv r1, rv r1, rv r0] [(.int (u_ordinal_r0 - u_ordinal_r1))]) _
    exact retI X4 hx Bd.returns (hb hby d3_43) hr
  · show Q_3_t Z r0 r1 mir_Precision u_ordinal_r0 u_ordinal_r1 h0 n0 _ T4.heap _
    rw [e4]
    exact ⟨rfl, N0, rfl⟩
theorem d5_0 : decode jdk_37_method_2_code 0 = .ok (.aload_n 0, 1) := by decide +kernel
theorem d5_1 : decode jdk_37_method_2_code 1 = .ok (.getfield 7, 3) := by decide +kernel
theorem d5_4 : decode jdk_37_method_2_code 4 = .ok (.ireturn, 1) := by decide +kernel
theorem ef_5 (m : MethodId) (x0 : Addr) : entryFrame m #[(.ref x0)] 1 = mkF m 0 #[.val (.ref x0)] [] := by first | (simp [entryFrame, mkF, argsToLocals, Value.category]; done) | rfl
def Q_5 (Z : State) (r0 : Addr) (u_ordinal_r0 : Int32) (h0 : Heap) (n0 : Nat) (v : Option Value) (h : Heap) (L : List Loc) : Prop := v = some (.int u_ordinal_r0) ∧ Fr n0 L ∧ h = h0
set_option maxRecDepth 65536 in
set_option maxHeartbeats 40000000 in
theorem rm5 (l : Launch) (Z : State) (a0 : Array Value) (hw : ∀ d ∈ tables_1, d.before a0 Z = true) (ws : List Jvm.Cond) (r0 : Addr) (u_ordinal_r0 : Int32) (h0 : Heap) (n0 : Nat) (Z0 : n0 ≤ h0.size) (F_ordinal_r0 : Fld Z h0 r0 cS5 "ordinal" "I" (.int u_ordinal_r0)) :
    MetFree l (⟨cS5, "ordinal", "()I"⟩ : MethodName) (head1 (Jvm.Cond.code (⟨cS5, "ordinal", "()I"⟩ : MethodName) jdk_37_method_2_code 1 (some .int) :: ws) ({ frames := 0, cells := 0, slots := 0, locals := 0 } : Room)) (fun a U => a = #[(.ref r0)] ∧ Z.Warmed39 U.vm ∧ U.heap = h0) (fun _ _ _ _ _ => True) (fun _ U o U' => ∃ v L, o = .returned v ∧ Q_5 Z r0 u_ordinal_r0 h0 n0 v U'.heap L ∧ FrameEnd U o U' L ({ frames := 0, cells := 0, slots := 0, locals := 0 } : Room).cells ({ frames := 0, cells := 0, slots := 0, locals := 0 } : Room).slots) := by
  refine MetFree.of_bodySF (plainFor_of_name pn_java_lang_Enum) hisR ?_
  intro p e s m args below meth c s₁ Bd hml0 hP hK
  obtain ⟨rfl, hZ, hh⟩ := hP
  have hx := Bd.exec
  have hby := Bd.bytes
  have hml : c.maxLocals = 1 := hml0
  have hown : s.vm.findClass cS5 = some m.cls := findClass_of_methodNamed Bd.named
  have hnm := (name_of_methodNamed Bd.named Bd.method).1
  have X0 : Stand p l e ({ frames := 0, cells := 0, slots := 0, locals := 0 } : Room) s m #[(.ref r0)] below meth c s₁ [] 0 0 := Stand.of_body Bd
  have e0 : s₁.heap = h0 := by rw [← hh, Bd.state]; rfl
  have N0 := Fr.nil n0
  have k0 : ∀ t, OwnS p e below s₁ (mkF m 0 #[rv r0] []) t → OwnS p e below s₁ (entryFrame m #[(.ref r0)] 1) t := fun t k => castTop (ef_5 m r0) k
  obtain ⟨T1, X1, e1, st1⟩ := getF X0 hx hZ hown (host := "") (Or.inl (own_at hw 29 rfl)) Via.refl e0 F_ordinal_r0 (g := (mkF m 1 #[rv r0] [(.ref r0)])) rfl rfl (hb hby d5_1)
  obtain ⟨fs, hr, hrun, hended, hW, hsame⟩ := X1.leave (v := some (.int u_ordinal_r0)) (fun h => by rw [Bd.returns] at h; cases h)
  refine ⟨_, _, k0 _ ?_, hrun, hended, _, _, rfl, ?_, ⟨_, rfl⟩, hW, hsame.mono (by decide) (by decide)⟩
  · show OwnS p e below s₁ (mkF m 0 #[rv r0] []) _
    refine XS.aloadN X0.here hx rfl (hb hby d5_0) rfl rfl ?_
    show OwnS p e below s₁ (mkF m 1 #[rv r0] [(.ref r0)]) _
    refine st1 _ ?_
    show OwnS p e below T1 (mkF m 4 #[rv r0] [(.int u_ordinal_r0)]) _
    exact retI X1 hx Bd.returns (hb hby d5_4) hr
  · show Q_5 Z r0 u_ordinal_r0 h0 n0 _ T1.heap _
    rw [e1]
    exact ⟨rfl, N0, rfl⟩
theorem pd_0 : parseMethodDescriptor "()I" = some ⟨[], some .int⟩ := by decide +kernel
theorem d4_0 : decode prog_97_method_6_code 0 = .ok (.getstatic 68, 3) := by decide +kernel
theorem d4_3 : decode prog_97_method_6_code 3 = .ok (.aload_n 0, 1) := by decide +kernel
theorem d4_4 : decode prog_97_method_6_code 4 = .ok (.invokevirtual 64, 3) := by decide +kernel
theorem d4_7 : decode prog_97_method_6_code 7 = .ok (.iaload, 1) := by decide +kernel
theorem d4_8 : decode prog_97_method_6_code 8 = .ok (.ireturn, 1) := by decide +kernel
theorem ef_4 (m : MethodId) (x0 : Addr) : entryFrame m #[(.ref x0)] 1 = mkF m 0 #[.val (.ref x0)] [] := by first | (simp [entryFrame, mkF, argsToLocals, Value.category]; done) | rfl
def Q_4_0 (Z : State) (r0 : Addr) (kD : ClassId) (w_DIGITS : Addr) (h0 : Heap) (n0 : Nat) (v : Option Value) (h : Heap) (L : List Loc) : Prop := v = some (.int 4) ∧ Fr n0 L ∧ h = h0
set_option maxRecDepth 65536 in
set_option maxHeartbeats 40000000 in
theorem rm4_0 (l : Launch) (Z : State) (a0 : Array Value) (hw : ∀ d ∈ tables_1, d.before a0 Z = true) (ws : List Jvm.Cond) (r0 : Addr) (kD : ClassId) (w_DIGITS : Addr) (h0 : Heap) (n0 : Nat) (Z0 : n0 ≤ h0.size) (S_DIGITS : Sta Z h0 cS0 "DIGITS" "[I" (.ref w_DIGITS)) (V_w_DIGITS : Arv Z h0 w_DIGITS kD .int (7 : Int32) [(.int 4), (.int 6), (.int 8), (.int 10), (.int 12), (.int 14), (.int 17)] (.int 0)) (E_r0 : Exa Z h0 r0 cS0) (F_ordinal_r0 : Fld Z h0 r0 cS5 "ordinal" "I" (.int 0)) :
    MetFree l (⟨cS0, "digits", "()I"⟩ : MethodName) (head1 (Jvm.Cond.code (⟨cS0, "digits", "()I"⟩ : MethodName) prog_97_method_6_code 1 (some .int) :: ws) ({ frames := 1, cells := 0, slots := 0, locals := 13 } : Room)) (fun a U => a = #[(.ref r0)] ∧ Z.Warmed39 U.vm ∧ U.heap = h0) (fun _ _ _ _ _ => True) (fun _ U o U' => ∃ v L, o = .returned v ∧ Q_4_0 Z r0 kD w_DIGITS h0 n0 v U'.heap L ∧ FrameEnd U o U' L ({ frames := 1, cells := 0, slots := 0, locals := 13 } : Room).cells ({ frames := 1, cells := 0, slots := 0, locals := 13 } : Room).slots) := by
  refine MetFree.of_bodySF (plainFor_of_name pn_com_example_measurewright_measurewright_cql_Precision) hisR ?_
  intro p e s m args below meth c s₁ Bd hml0 hP hK
  obtain ⟨rfl, hZ, hh⟩ := hP
  have hx := Bd.exec
  have hby := Bd.bytes
  have hml : c.maxLocals = 1 := hml0
  have hown : s.vm.findClass cS0 = some m.cls := findClass_of_methodNamed Bd.named
  have hnm := (name_of_methodNamed Bd.named Bd.method).1
  have X0 : Stand p l e ({ frames := 1, cells := 0, slots := 0, locals := 13 } : Room) s m #[(.ref r0)] below meth c s₁ [] 0 0 := Stand.of_body Bd
  have e0 : s₁.heap = h0 := by rw [← hh, Bd.state]; rfl
  have N0 := Fr.nil n0
  have k0 : ∀ t, OwnS p e below s₁ (mkF m 0 #[rv r0] []) t → OwnS p e below s₁ (entryFrame m #[(.ref r0)] 1) t := fun t k => castTop (ef_4 m r0) k
  obtain ⟨T1, X1, e1, st1⟩ := getS2 X0 hx hZ hown (host := "") (Or.inl (own_at hw 36 rfl)) Via.refl e0 S_DIGITS (g := (mkF m 0 #[rv r0] [])) rfl (hb hby d4_0)
  obtain ⟨cq2, kq2, q2a, q2b, q2c⟩ := isOf hZ e1 E_r0
  obtain ⟨_, _, ⟨T2, L2, j2, i2⟩, -, X2, ⟨Lc2, hQ2, l2, y2, z2⟩, st2⟩ := X1.virtualBackUp hx (owner := cS5) (x := (⟨cS0, "ordinal", "()I"⟩ : MethodName)) (y := (⟨cS5, "ordinal", "()I"⟩ : MethodName)) hown (mvT hZ (own_at hw 38 rfl)) (mvT hZ (own_at hw 39 rfl)) (mvT hZ (own_at hw 40 rfl)) (by decide) (mvT hZ (own_at hw 42 rfl)) (mvT hZ (own_at hw 41 rfl)) (backOf (W := 1) (rm5 l Z a0 hw [] r0 (0 : Int32) h0 n0 Z0 F_ordinal_r0) hZ (own_at hw 43 rfl) (own_at hw 21 rfl) (by decide) (by decide)) q2a q2c (g := (mkF m 4 #[rv r0] [(.ref r0), (.ref w_DIGITS)])) rfl (by rw [hml]; rfl) (Steps.refl _) (argsL := []) (rest := [(.ref w_DIGITS)]) (lenOf pd_0 rfl) rfl (by show 2 * 0 + _ ≤ _; exact Nat.le_of_eq rfl) (hb hby d4_4) (fun _ _ => ⟨rfl, e1, (by decide : 0 + 0 ≤ _), (by decide : 0 + 0 ≤ _)⟩)
  dsimp only [Pt.U, Pt.locs, Pt.cells, Pt.slots] at X2 l2 y2 z2 st2 hQ2
  subst l2 y2 z2
  obtain ⟨rfl, N2q, e2⟩ := hQ2
  have N2 := Fr.app N0 N2q
  obtain ⟨cl_z3, Ar_z3, q_z3, S_z3, N_z3, H_z3, G_z3⟩ := V_w_DIGITS
  have hin4 : ¬ ((0 : Int32) < 0 ∨ cl_z3.slots.size ≤ ((0 : Int32)).toNatClampNeg) := inb_of S_z3 ⟨by decide, by decide⟩
  obtain ⟨fs, hr, hrun, hended, hW, hsame⟩ := X2.leave (v := some (.int 4)) (fun h => by rw [Bd.returns] at h; cases h)
  refine ⟨_, _, k0 _ ?_, hrun, hended, _, _, rfl, ?_, ⟨_, rfl⟩, hW, hsame.mono (by decide) (by decide)⟩
  · show OwnS p e below s₁ (mkF m 0 #[rv r0] []) _
    refine st1 _ ?_
    show OwnS p e below T1 (mkF m 3 #[rv r0] [(.ref w_DIGITS)]) _
    refine XS.aloadN X1.here hx rfl (hb hby d4_3) rfl rfl ?_
    show OwnS p e below T1 (mkF m 4 #[rv r0] [(.ref r0), (.ref w_DIGITS)]) _
    refine st2.trans ?_
    show OwnS p e below T2 (mkF m 7 #[rv r0] [(.int 0), (.ref w_DIGITS)]) _
    refine X2.iaload hx (j := (0 : Int32)) (v := (.int 4)) (by rw [e2]; exact Ar_z3.1) (State.isArrayOf_alike hZ.alike Ar_z3.2.1) Ar_z3.2.2 hin4 (Has.at H_z3 hin4 rfl) (g := (mkF m 7 #[rv r0] [(.int 0), (.ref w_DIGITS)])) rfl rfl (hb hby d4_7) _ ?_
    show OwnS p e below T2 (mkF m 8 #[rv r0] [(.int 4)]) _
    exact retI X2 hx Bd.returns (hb hby d4_8) hr
  · show Q_4_0 Z r0 kD w_DIGITS h0 n0 _ T2.heap _
    rw [e2]
    exact ⟨rfl, N2, rfl⟩
def Q_4_1 (Z : State) (r0 : Addr) (kD : ClassId) (w_DIGITS : Addr) (h0 : Heap) (n0 : Nat) (v : Option Value) (h : Heap) (L : List Loc) : Prop := v = some (.int 6) ∧ Fr n0 L ∧ h = h0
set_option maxRecDepth 65536 in
set_option maxHeartbeats 40000000 in
theorem rm4_1 (l : Launch) (Z : State) (a0 : Array Value) (hw : ∀ d ∈ tables_1, d.before a0 Z = true) (ws : List Jvm.Cond) (r0 : Addr) (kD : ClassId) (w_DIGITS : Addr) (h0 : Heap) (n0 : Nat) (Z0 : n0 ≤ h0.size) (S_DIGITS : Sta Z h0 cS0 "DIGITS" "[I" (.ref w_DIGITS)) (V_w_DIGITS : Arv Z h0 w_DIGITS kD .int (7 : Int32) [(.int 4), (.int 6), (.int 8), (.int 10), (.int 12), (.int 14), (.int 17)] (.int 0)) (E_r0 : Exa Z h0 r0 cS0) (F_ordinal_r0 : Fld Z h0 r0 cS5 "ordinal" "I" (.int 1)) :
    MetFree l (⟨cS0, "digits", "()I"⟩ : MethodName) (head1 (Jvm.Cond.code (⟨cS0, "digits", "()I"⟩ : MethodName) prog_97_method_6_code 1 (some .int) :: ws) ({ frames := 1, cells := 0, slots := 0, locals := 13 } : Room)) (fun a U => a = #[(.ref r0)] ∧ Z.Warmed39 U.vm ∧ U.heap = h0) (fun _ _ _ _ _ => True) (fun _ U o U' => ∃ v L, o = .returned v ∧ Q_4_1 Z r0 kD w_DIGITS h0 n0 v U'.heap L ∧ FrameEnd U o U' L ({ frames := 1, cells := 0, slots := 0, locals := 13 } : Room).cells ({ frames := 1, cells := 0, slots := 0, locals := 13 } : Room).slots) := by
  refine MetFree.of_bodySF (plainFor_of_name pn_com_example_measurewright_measurewright_cql_Precision) hisR ?_
  intro p e s m args below meth c s₁ Bd hml0 hP hK
  obtain ⟨rfl, hZ, hh⟩ := hP
  have hx := Bd.exec
  have hby := Bd.bytes
  have hml : c.maxLocals = 1 := hml0
  have hown : s.vm.findClass cS0 = some m.cls := findClass_of_methodNamed Bd.named
  have hnm := (name_of_methodNamed Bd.named Bd.method).1
  have X0 : Stand p l e ({ frames := 1, cells := 0, slots := 0, locals := 13 } : Room) s m #[(.ref r0)] below meth c s₁ [] 0 0 := Stand.of_body Bd
  have e0 : s₁.heap = h0 := by rw [← hh, Bd.state]; rfl
  have N0 := Fr.nil n0
  have k0 : ∀ t, OwnS p e below s₁ (mkF m 0 #[rv r0] []) t → OwnS p e below s₁ (entryFrame m #[(.ref r0)] 1) t := fun t k => castTop (ef_4 m r0) k
  obtain ⟨T1, X1, e1, st1⟩ := getS2 X0 hx hZ hown (host := "") (Or.inl (own_at hw 36 rfl)) Via.refl e0 S_DIGITS (g := (mkF m 0 #[rv r0] [])) rfl (hb hby d4_0)
  obtain ⟨cq2, kq2, q2a, q2b, q2c⟩ := isOf hZ e1 E_r0
  obtain ⟨_, _, ⟨T2, L2, j2, i2⟩, -, X2, ⟨Lc2, hQ2, l2, y2, z2⟩, st2⟩ := X1.virtualBackUp hx (owner := cS5) (x := (⟨cS0, "ordinal", "()I"⟩ : MethodName)) (y := (⟨cS5, "ordinal", "()I"⟩ : MethodName)) hown (mvT hZ (own_at hw 38 rfl)) (mvT hZ (own_at hw 39 rfl)) (mvT hZ (own_at hw 40 rfl)) (by decide) (mvT hZ (own_at hw 42 rfl)) (mvT hZ (own_at hw 41 rfl)) (backOf (W := 1) (rm5 l Z a0 hw [] r0 (1 : Int32) h0 n0 Z0 F_ordinal_r0) hZ (own_at hw 43 rfl) (own_at hw 21 rfl) (by decide) (by decide)) q2a q2c (g := (mkF m 4 #[rv r0] [(.ref r0), (.ref w_DIGITS)])) rfl (by rw [hml]; rfl) (Steps.refl _) (argsL := []) (rest := [(.ref w_DIGITS)]) (lenOf pd_0 rfl) rfl (by show 2 * 0 + _ ≤ _; exact Nat.le_of_eq rfl) (hb hby d4_4) (fun _ _ => ⟨rfl, e1, (by decide : 0 + 0 ≤ _), (by decide : 0 + 0 ≤ _)⟩)
  dsimp only [Pt.U, Pt.locs, Pt.cells, Pt.slots] at X2 l2 y2 z2 st2 hQ2
  subst l2 y2 z2
  obtain ⟨rfl, N2q, e2⟩ := hQ2
  have N2 := Fr.app N0 N2q
  obtain ⟨cl_z3, Ar_z3, q_z3, S_z3, N_z3, H_z3, G_z3⟩ := V_w_DIGITS
  have hin4 : ¬ ((1 : Int32) < 0 ∨ cl_z3.slots.size ≤ ((1 : Int32)).toNatClampNeg) := inb_of S_z3 ⟨by decide, by decide⟩
  obtain ⟨fs, hr, hrun, hended, hW, hsame⟩ := X2.leave (v := some (.int 6)) (fun h => by rw [Bd.returns] at h; cases h)
  refine ⟨_, _, k0 _ ?_, hrun, hended, _, _, rfl, ?_, ⟨_, rfl⟩, hW, hsame.mono (by decide) (by decide)⟩
  · show OwnS p e below s₁ (mkF m 0 #[rv r0] []) _
    refine st1 _ ?_
    show OwnS p e below T1 (mkF m 3 #[rv r0] [(.ref w_DIGITS)]) _
    refine XS.aloadN X1.here hx rfl (hb hby d4_3) rfl rfl ?_
    show OwnS p e below T1 (mkF m 4 #[rv r0] [(.ref r0), (.ref w_DIGITS)]) _
    refine st2.trans ?_
    show OwnS p e below T2 (mkF m 7 #[rv r0] [(.int 1), (.ref w_DIGITS)]) _
    refine X2.iaload hx (j := (1 : Int32)) (v := (.int 6)) (by rw [e2]; exact Ar_z3.1) (State.isArrayOf_alike hZ.alike Ar_z3.2.1) Ar_z3.2.2 hin4 (Has.at H_z3 hin4 rfl) (g := (mkF m 7 #[rv r0] [(.int 1), (.ref w_DIGITS)])) rfl rfl (hb hby d4_7) _ ?_
    show OwnS p e below T2 (mkF m 8 #[rv r0] [(.int 6)]) _
    exact retI X2 hx Bd.returns (hb hby d4_8) hr
  · show Q_4_1 Z r0 kD w_DIGITS h0 n0 _ T2.heap _
    rw [e2]
    exact ⟨rfl, N2, rfl⟩
def Q_4_2 (Z : State) (r0 : Addr) (kD : ClassId) (w_DIGITS : Addr) (h0 : Heap) (n0 : Nat) (v : Option Value) (h : Heap) (L : List Loc) : Prop := v = some (.int 8) ∧ Fr n0 L ∧ h = h0
set_option maxRecDepth 65536 in
set_option maxHeartbeats 40000000 in
theorem rm4_2 (l : Launch) (Z : State) (a0 : Array Value) (hw : ∀ d ∈ tables_1, d.before a0 Z = true) (ws : List Jvm.Cond) (r0 : Addr) (kD : ClassId) (w_DIGITS : Addr) (h0 : Heap) (n0 : Nat) (Z0 : n0 ≤ h0.size) (S_DIGITS : Sta Z h0 cS0 "DIGITS" "[I" (.ref w_DIGITS)) (V_w_DIGITS : Arv Z h0 w_DIGITS kD .int (7 : Int32) [(.int 4), (.int 6), (.int 8), (.int 10), (.int 12), (.int 14), (.int 17)] (.int 0)) (E_r0 : Exa Z h0 r0 cS0) (F_ordinal_r0 : Fld Z h0 r0 cS5 "ordinal" "I" (.int 2)) :
    MetFree l (⟨cS0, "digits", "()I"⟩ : MethodName) (head1 (Jvm.Cond.code (⟨cS0, "digits", "()I"⟩ : MethodName) prog_97_method_6_code 1 (some .int) :: ws) ({ frames := 1, cells := 0, slots := 0, locals := 13 } : Room)) (fun a U => a = #[(.ref r0)] ∧ Z.Warmed39 U.vm ∧ U.heap = h0) (fun _ _ _ _ _ => True) (fun _ U o U' => ∃ v L, o = .returned v ∧ Q_4_2 Z r0 kD w_DIGITS h0 n0 v U'.heap L ∧ FrameEnd U o U' L ({ frames := 1, cells := 0, slots := 0, locals := 13 } : Room).cells ({ frames := 1, cells := 0, slots := 0, locals := 13 } : Room).slots) := by
  refine MetFree.of_bodySF (plainFor_of_name pn_com_example_measurewright_measurewright_cql_Precision) hisR ?_
  intro p e s m args below meth c s₁ Bd hml0 hP hK
  obtain ⟨rfl, hZ, hh⟩ := hP
  have hx := Bd.exec
  have hby := Bd.bytes
  have hml : c.maxLocals = 1 := hml0
  have hown : s.vm.findClass cS0 = some m.cls := findClass_of_methodNamed Bd.named
  have hnm := (name_of_methodNamed Bd.named Bd.method).1
  have X0 : Stand p l e ({ frames := 1, cells := 0, slots := 0, locals := 13 } : Room) s m #[(.ref r0)] below meth c s₁ [] 0 0 := Stand.of_body Bd
  have e0 : s₁.heap = h0 := by rw [← hh, Bd.state]; rfl
  have N0 := Fr.nil n0
  have k0 : ∀ t, OwnS p e below s₁ (mkF m 0 #[rv r0] []) t → OwnS p e below s₁ (entryFrame m #[(.ref r0)] 1) t := fun t k => castTop (ef_4 m r0) k
  obtain ⟨T1, X1, e1, st1⟩ := getS2 X0 hx hZ hown (host := "") (Or.inl (own_at hw 36 rfl)) Via.refl e0 S_DIGITS (g := (mkF m 0 #[rv r0] [])) rfl (hb hby d4_0)
  obtain ⟨cq2, kq2, q2a, q2b, q2c⟩ := isOf hZ e1 E_r0
  obtain ⟨_, _, ⟨T2, L2, j2, i2⟩, -, X2, ⟨Lc2, hQ2, l2, y2, z2⟩, st2⟩ := X1.virtualBackUp hx (owner := cS5) (x := (⟨cS0, "ordinal", "()I"⟩ : MethodName)) (y := (⟨cS5, "ordinal", "()I"⟩ : MethodName)) hown (mvT hZ (own_at hw 38 rfl)) (mvT hZ (own_at hw 39 rfl)) (mvT hZ (own_at hw 40 rfl)) (by decide) (mvT hZ (own_at hw 42 rfl)) (mvT hZ (own_at hw 41 rfl)) (backOf (W := 1) (rm5 l Z a0 hw [] r0 (2 : Int32) h0 n0 Z0 F_ordinal_r0) hZ (own_at hw 43 rfl) (own_at hw 21 rfl) (by decide) (by decide)) q2a q2c (g := (mkF m 4 #[rv r0] [(.ref r0), (.ref w_DIGITS)])) rfl (by rw [hml]; rfl) (Steps.refl _) (argsL := []) (rest := [(.ref w_DIGITS)]) (lenOf pd_0 rfl) rfl (by show 2 * 0 + _ ≤ _; exact Nat.le_of_eq rfl) (hb hby d4_4) (fun _ _ => ⟨rfl, e1, (by decide : 0 + 0 ≤ _), (by decide : 0 + 0 ≤ _)⟩)
  dsimp only [Pt.U, Pt.locs, Pt.cells, Pt.slots] at X2 l2 y2 z2 st2 hQ2
  subst l2 y2 z2
  obtain ⟨rfl, N2q, e2⟩ := hQ2
  have N2 := Fr.app N0 N2q
  obtain ⟨cl_z3, Ar_z3, q_z3, S_z3, N_z3, H_z3, G_z3⟩ := V_w_DIGITS
  have hin4 : ¬ ((2 : Int32) < 0 ∨ cl_z3.slots.size ≤ ((2 : Int32)).toNatClampNeg) := inb_of S_z3 ⟨by decide, by decide⟩
  obtain ⟨fs, hr, hrun, hended, hW, hsame⟩ := X2.leave (v := some (.int 8)) (fun h => by rw [Bd.returns] at h; cases h)
  refine ⟨_, _, k0 _ ?_, hrun, hended, _, _, rfl, ?_, ⟨_, rfl⟩, hW, hsame.mono (by decide) (by decide)⟩
  · show OwnS p e below s₁ (mkF m 0 #[rv r0] []) _
    refine st1 _ ?_
    show OwnS p e below T1 (mkF m 3 #[rv r0] [(.ref w_DIGITS)]) _
    refine XS.aloadN X1.here hx rfl (hb hby d4_3) rfl rfl ?_
    show OwnS p e below T1 (mkF m 4 #[rv r0] [(.ref r0), (.ref w_DIGITS)]) _
    refine st2.trans ?_
    show OwnS p e below T2 (mkF m 7 #[rv r0] [(.int 2), (.ref w_DIGITS)]) _
    refine X2.iaload hx (j := (2 : Int32)) (v := (.int 8)) (by rw [e2]; exact Ar_z3.1) (State.isArrayOf_alike hZ.alike Ar_z3.2.1) Ar_z3.2.2 hin4 (Has.at H_z3 hin4 rfl) (g := (mkF m 7 #[rv r0] [(.int 2), (.ref w_DIGITS)])) rfl rfl (hb hby d4_7) _ ?_
    show OwnS p e below T2 (mkF m 8 #[rv r0] [(.int 8)]) _
    exact retI X2 hx Bd.returns (hb hby d4_8) hr
  · show Q_4_2 Z r0 kD w_DIGITS h0 n0 _ T2.heap _
    rw [e2]
    exact ⟨rfl, N2, rfl⟩
def Q_4_3 (Z : State) (r0 : Addr) (kD : ClassId) (w_DIGITS : Addr) (h0 : Heap) (n0 : Nat) (v : Option Value) (h : Heap) (L : List Loc) : Prop := v = some (.int 10) ∧ Fr n0 L ∧ h = h0
set_option maxRecDepth 65536 in
set_option maxHeartbeats 40000000 in
theorem rm4_3 (l : Launch) (Z : State) (a0 : Array Value) (hw : ∀ d ∈ tables_1, d.before a0 Z = true) (ws : List Jvm.Cond) (r0 : Addr) (kD : ClassId) (w_DIGITS : Addr) (h0 : Heap) (n0 : Nat) (Z0 : n0 ≤ h0.size) (S_DIGITS : Sta Z h0 cS0 "DIGITS" "[I" (.ref w_DIGITS)) (V_w_DIGITS : Arv Z h0 w_DIGITS kD .int (7 : Int32) [(.int 4), (.int 6), (.int 8), (.int 10), (.int 12), (.int 14), (.int 17)] (.int 0)) (E_r0 : Exa Z h0 r0 cS0) (F_ordinal_r0 : Fld Z h0 r0 cS5 "ordinal" "I" (.int 3)) :
    MetFree l (⟨cS0, "digits", "()I"⟩ : MethodName) (head1 (Jvm.Cond.code (⟨cS0, "digits", "()I"⟩ : MethodName) prog_97_method_6_code 1 (some .int) :: ws) ({ frames := 1, cells := 0, slots := 0, locals := 13 } : Room)) (fun a U => a = #[(.ref r0)] ∧ Z.Warmed39 U.vm ∧ U.heap = h0) (fun _ _ _ _ _ => True) (fun _ U o U' => ∃ v L, o = .returned v ∧ Q_4_3 Z r0 kD w_DIGITS h0 n0 v U'.heap L ∧ FrameEnd U o U' L ({ frames := 1, cells := 0, slots := 0, locals := 13 } : Room).cells ({ frames := 1, cells := 0, slots := 0, locals := 13 } : Room).slots) := by
  refine MetFree.of_bodySF (plainFor_of_name pn_com_example_measurewright_measurewright_cql_Precision) hisR ?_
  intro p e s m args below meth c s₁ Bd hml0 hP hK
  obtain ⟨rfl, hZ, hh⟩ := hP
  have hx := Bd.exec
  have hby := Bd.bytes
  have hml : c.maxLocals = 1 := hml0
  have hown : s.vm.findClass cS0 = some m.cls := findClass_of_methodNamed Bd.named
  have hnm := (name_of_methodNamed Bd.named Bd.method).1
  have X0 : Stand p l e ({ frames := 1, cells := 0, slots := 0, locals := 13 } : Room) s m #[(.ref r0)] below meth c s₁ [] 0 0 := Stand.of_body Bd
  have e0 : s₁.heap = h0 := by rw [← hh, Bd.state]; rfl
  have N0 := Fr.nil n0
  have k0 : ∀ t, OwnS p e below s₁ (mkF m 0 #[rv r0] []) t → OwnS p e below s₁ (entryFrame m #[(.ref r0)] 1) t := fun t k => castTop (ef_4 m r0) k
  obtain ⟨T1, X1, e1, st1⟩ := getS2 X0 hx hZ hown (host := "") (Or.inl (own_at hw 36 rfl)) Via.refl e0 S_DIGITS (g := (mkF m 0 #[rv r0] [])) rfl (hb hby d4_0)
  obtain ⟨cq2, kq2, q2a, q2b, q2c⟩ := isOf hZ e1 E_r0
  obtain ⟨_, _, ⟨T2, L2, j2, i2⟩, -, X2, ⟨Lc2, hQ2, l2, y2, z2⟩, st2⟩ := X1.virtualBackUp hx (owner := cS5) (x := (⟨cS0, "ordinal", "()I"⟩ : MethodName)) (y := (⟨cS5, "ordinal", "()I"⟩ : MethodName)) hown (mvT hZ (own_at hw 38 rfl)) (mvT hZ (own_at hw 39 rfl)) (mvT hZ (own_at hw 40 rfl)) (by decide) (mvT hZ (own_at hw 42 rfl)) (mvT hZ (own_at hw 41 rfl)) (backOf (W := 1) (rm5 l Z a0 hw [] r0 (3 : Int32) h0 n0 Z0 F_ordinal_r0) hZ (own_at hw 43 rfl) (own_at hw 21 rfl) (by decide) (by decide)) q2a q2c (g := (mkF m 4 #[rv r0] [(.ref r0), (.ref w_DIGITS)])) rfl (by rw [hml]; rfl) (Steps.refl _) (argsL := []) (rest := [(.ref w_DIGITS)]) (lenOf pd_0 rfl) rfl (by show 2 * 0 + _ ≤ _; exact Nat.le_of_eq rfl) (hb hby d4_4) (fun _ _ => ⟨rfl, e1, (by decide : 0 + 0 ≤ _), (by decide : 0 + 0 ≤ _)⟩)
  dsimp only [Pt.U, Pt.locs, Pt.cells, Pt.slots] at X2 l2 y2 z2 st2 hQ2
  subst l2 y2 z2
  obtain ⟨rfl, N2q, e2⟩ := hQ2
  have N2 := Fr.app N0 N2q
  obtain ⟨cl_z3, Ar_z3, q_z3, S_z3, N_z3, H_z3, G_z3⟩ := V_w_DIGITS
  have hin4 : ¬ ((3 : Int32) < 0 ∨ cl_z3.slots.size ≤ ((3 : Int32)).toNatClampNeg) := inb_of S_z3 ⟨by decide, by decide⟩
  obtain ⟨fs, hr, hrun, hended, hW, hsame⟩ := X2.leave (v := some (.int 10)) (fun h => by rw [Bd.returns] at h; cases h)
  refine ⟨_, _, k0 _ ?_, hrun, hended, _, _, rfl, ?_, ⟨_, rfl⟩, hW, hsame.mono (by decide) (by decide)⟩
  · show OwnS p e below s₁ (mkF m 0 #[rv r0] []) _
    refine st1 _ ?_
    show OwnS p e below T1 (mkF m 3 #[rv r0] [(.ref w_DIGITS)]) _
    refine XS.aloadN X1.here hx rfl (hb hby d4_3) rfl rfl ?_
    show OwnS p e below T1 (mkF m 4 #[rv r0] [(.ref r0), (.ref w_DIGITS)]) _
    refine st2.trans ?_
    show OwnS p e below T2 (mkF m 7 #[rv r0] [(.int 3), (.ref w_DIGITS)]) _
    refine X2.iaload hx (j := (3 : Int32)) (v := (.int 10)) (by rw [e2]; exact Ar_z3.1) (State.isArrayOf_alike hZ.alike Ar_z3.2.1) Ar_z3.2.2 hin4 (Has.at H_z3 hin4 rfl) (g := (mkF m 7 #[rv r0] [(.int 3), (.ref w_DIGITS)])) rfl rfl (hb hby d4_7) _ ?_
    show OwnS p e below T2 (mkF m 8 #[rv r0] [(.int 10)]) _
    exact retI X2 hx Bd.returns (hb hby d4_8) hr
  · show Q_4_3 Z r0 kD w_DIGITS h0 n0 _ T2.heap _
    rw [e2]
    exact ⟨rfl, N2, rfl⟩
def Q_4_4 (Z : State) (r0 : Addr) (kD : ClassId) (w_DIGITS : Addr) (h0 : Heap) (n0 : Nat) (v : Option Value) (h : Heap) (L : List Loc) : Prop := v = some (.int 12) ∧ Fr n0 L ∧ h = h0
set_option maxRecDepth 65536 in
set_option maxHeartbeats 40000000 in
theorem rm4_4 (l : Launch) (Z : State) (a0 : Array Value) (hw : ∀ d ∈ tables_1, d.before a0 Z = true) (ws : List Jvm.Cond) (r0 : Addr) (kD : ClassId) (w_DIGITS : Addr) (h0 : Heap) (n0 : Nat) (Z0 : n0 ≤ h0.size) (S_DIGITS : Sta Z h0 cS0 "DIGITS" "[I" (.ref w_DIGITS)) (V_w_DIGITS : Arv Z h0 w_DIGITS kD .int (7 : Int32) [(.int 4), (.int 6), (.int 8), (.int 10), (.int 12), (.int 14), (.int 17)] (.int 0)) (E_r0 : Exa Z h0 r0 cS0) (F_ordinal_r0 : Fld Z h0 r0 cS5 "ordinal" "I" (.int 4)) :
    MetFree l (⟨cS0, "digits", "()I"⟩ : MethodName) (head1 (Jvm.Cond.code (⟨cS0, "digits", "()I"⟩ : MethodName) prog_97_method_6_code 1 (some .int) :: ws) ({ frames := 1, cells := 0, slots := 0, locals := 13 } : Room)) (fun a U => a = #[(.ref r0)] ∧ Z.Warmed39 U.vm ∧ U.heap = h0) (fun _ _ _ _ _ => True) (fun _ U o U' => ∃ v L, o = .returned v ∧ Q_4_4 Z r0 kD w_DIGITS h0 n0 v U'.heap L ∧ FrameEnd U o U' L ({ frames := 1, cells := 0, slots := 0, locals := 13 } : Room).cells ({ frames := 1, cells := 0, slots := 0, locals := 13 } : Room).slots) := by
  refine MetFree.of_bodySF (plainFor_of_name pn_com_example_measurewright_measurewright_cql_Precision) hisR ?_
  intro p e s m args below meth c s₁ Bd hml0 hP hK
  obtain ⟨rfl, hZ, hh⟩ := hP
  have hx := Bd.exec
  have hby := Bd.bytes
  have hml : c.maxLocals = 1 := hml0
  have hown : s.vm.findClass cS0 = some m.cls := findClass_of_methodNamed Bd.named
  have hnm := (name_of_methodNamed Bd.named Bd.method).1
  have X0 : Stand p l e ({ frames := 1, cells := 0, slots := 0, locals := 13 } : Room) s m #[(.ref r0)] below meth c s₁ [] 0 0 := Stand.of_body Bd
  have e0 : s₁.heap = h0 := by rw [← hh, Bd.state]; rfl
  have N0 := Fr.nil n0
  have k0 : ∀ t, OwnS p e below s₁ (mkF m 0 #[rv r0] []) t → OwnS p e below s₁ (entryFrame m #[(.ref r0)] 1) t := fun t k => castTop (ef_4 m r0) k
  obtain ⟨T1, X1, e1, st1⟩ := getS2 X0 hx hZ hown (host := "") (Or.inl (own_at hw 36 rfl)) Via.refl e0 S_DIGITS (g := (mkF m 0 #[rv r0] [])) rfl (hb hby d4_0)
  obtain ⟨cq2, kq2, q2a, q2b, q2c⟩ := isOf hZ e1 E_r0
  obtain ⟨_, _, ⟨T2, L2, j2, i2⟩, -, X2, ⟨Lc2, hQ2, l2, y2, z2⟩, st2⟩ := X1.virtualBackUp hx (owner := cS5) (x := (⟨cS0, "ordinal", "()I"⟩ : MethodName)) (y := (⟨cS5, "ordinal", "()I"⟩ : MethodName)) hown (mvT hZ (own_at hw 38 rfl)) (mvT hZ (own_at hw 39 rfl)) (mvT hZ (own_at hw 40 rfl)) (by decide) (mvT hZ (own_at hw 42 rfl)) (mvT hZ (own_at hw 41 rfl)) (backOf (W := 1) (rm5 l Z a0 hw [] r0 (4 : Int32) h0 n0 Z0 F_ordinal_r0) hZ (own_at hw 43 rfl) (own_at hw 21 rfl) (by decide) (by decide)) q2a q2c (g := (mkF m 4 #[rv r0] [(.ref r0), (.ref w_DIGITS)])) rfl (by rw [hml]; rfl) (Steps.refl _) (argsL := []) (rest := [(.ref w_DIGITS)]) (lenOf pd_0 rfl) rfl (by show 2 * 0 + _ ≤ _; exact Nat.le_of_eq rfl) (hb hby d4_4) (fun _ _ => ⟨rfl, e1, (by decide : 0 + 0 ≤ _), (by decide : 0 + 0 ≤ _)⟩)
  dsimp only [Pt.U, Pt.locs, Pt.cells, Pt.slots] at X2 l2 y2 z2 st2 hQ2
  subst l2 y2 z2
  obtain ⟨rfl, N2q, e2⟩ := hQ2
  have N2 := Fr.app N0 N2q
  obtain ⟨cl_z3, Ar_z3, q_z3, S_z3, N_z3, H_z3, G_z3⟩ := V_w_DIGITS
  have hin4 : ¬ ((4 : Int32) < 0 ∨ cl_z3.slots.size ≤ ((4 : Int32)).toNatClampNeg) := inb_of S_z3 ⟨by decide, by decide⟩
  obtain ⟨fs, hr, hrun, hended, hW, hsame⟩ := X2.leave (v := some (.int 12)) (fun h => by rw [Bd.returns] at h; cases h)
  refine ⟨_, _, k0 _ ?_, hrun, hended, _, _, rfl, ?_, ⟨_, rfl⟩, hW, hsame.mono (by decide) (by decide)⟩
  · show OwnS p e below s₁ (mkF m 0 #[rv r0] []) _
    refine st1 _ ?_
    show OwnS p e below T1 (mkF m 3 #[rv r0] [(.ref w_DIGITS)]) _
    refine XS.aloadN X1.here hx rfl (hb hby d4_3) rfl rfl ?_
    show OwnS p e below T1 (mkF m 4 #[rv r0] [(.ref r0), (.ref w_DIGITS)]) _
    refine st2.trans ?_
    show OwnS p e below T2 (mkF m 7 #[rv r0] [(.int 4), (.ref w_DIGITS)]) _
    refine X2.iaload hx (j := (4 : Int32)) (v := (.int 12)) (by rw [e2]; exact Ar_z3.1) (State.isArrayOf_alike hZ.alike Ar_z3.2.1) Ar_z3.2.2 hin4 (Has.at H_z3 hin4 rfl) (g := (mkF m 7 #[rv r0] [(.int 4), (.ref w_DIGITS)])) rfl rfl (hb hby d4_7) _ ?_
    show OwnS p e below T2 (mkF m 8 #[rv r0] [(.int 12)]) _
    exact retI X2 hx Bd.returns (hb hby d4_8) hr
  · show Q_4_4 Z r0 kD w_DIGITS h0 n0 _ T2.heap _
    rw [e2]
    exact ⟨rfl, N2, rfl⟩
def Q_4_5 (Z : State) (r0 : Addr) (kD : ClassId) (w_DIGITS : Addr) (h0 : Heap) (n0 : Nat) (v : Option Value) (h : Heap) (L : List Loc) : Prop := v = some (.int 14) ∧ Fr n0 L ∧ h = h0
set_option maxRecDepth 65536 in
set_option maxHeartbeats 40000000 in
theorem rm4_5 (l : Launch) (Z : State) (a0 : Array Value) (hw : ∀ d ∈ tables_1, d.before a0 Z = true) (ws : List Jvm.Cond) (r0 : Addr) (kD : ClassId) (w_DIGITS : Addr) (h0 : Heap) (n0 : Nat) (Z0 : n0 ≤ h0.size) (S_DIGITS : Sta Z h0 cS0 "DIGITS" "[I" (.ref w_DIGITS)) (V_w_DIGITS : Arv Z h0 w_DIGITS kD .int (7 : Int32) [(.int 4), (.int 6), (.int 8), (.int 10), (.int 12), (.int 14), (.int 17)] (.int 0)) (E_r0 : Exa Z h0 r0 cS0) (F_ordinal_r0 : Fld Z h0 r0 cS5 "ordinal" "I" (.int 5)) :
    MetFree l (⟨cS0, "digits", "()I"⟩ : MethodName) (head1 (Jvm.Cond.code (⟨cS0, "digits", "()I"⟩ : MethodName) prog_97_method_6_code 1 (some .int) :: ws) ({ frames := 1, cells := 0, slots := 0, locals := 13 } : Room)) (fun a U => a = #[(.ref r0)] ∧ Z.Warmed39 U.vm ∧ U.heap = h0) (fun _ _ _ _ _ => True) (fun _ U o U' => ∃ v L, o = .returned v ∧ Q_4_5 Z r0 kD w_DIGITS h0 n0 v U'.heap L ∧ FrameEnd U o U' L ({ frames := 1, cells := 0, slots := 0, locals := 13 } : Room).cells ({ frames := 1, cells := 0, slots := 0, locals := 13 } : Room).slots) := by
  refine MetFree.of_bodySF (plainFor_of_name pn_com_example_measurewright_measurewright_cql_Precision) hisR ?_
  intro p e s m args below meth c s₁ Bd hml0 hP hK
  obtain ⟨rfl, hZ, hh⟩ := hP
  have hx := Bd.exec
  have hby := Bd.bytes
  have hml : c.maxLocals = 1 := hml0
  have hown : s.vm.findClass cS0 = some m.cls := findClass_of_methodNamed Bd.named
  have hnm := (name_of_methodNamed Bd.named Bd.method).1
  have X0 : Stand p l e ({ frames := 1, cells := 0, slots := 0, locals := 13 } : Room) s m #[(.ref r0)] below meth c s₁ [] 0 0 := Stand.of_body Bd
  have e0 : s₁.heap = h0 := by rw [← hh, Bd.state]; rfl
  have N0 := Fr.nil n0
  have k0 : ∀ t, OwnS p e below s₁ (mkF m 0 #[rv r0] []) t → OwnS p e below s₁ (entryFrame m #[(.ref r0)] 1) t := fun t k => castTop (ef_4 m r0) k
  obtain ⟨T1, X1, e1, st1⟩ := getS2 X0 hx hZ hown (host := "") (Or.inl (own_at hw 36 rfl)) Via.refl e0 S_DIGITS (g := (mkF m 0 #[rv r0] [])) rfl (hb hby d4_0)
  obtain ⟨cq2, kq2, q2a, q2b, q2c⟩ := isOf hZ e1 E_r0
  obtain ⟨_, _, ⟨T2, L2, j2, i2⟩, -, X2, ⟨Lc2, hQ2, l2, y2, z2⟩, st2⟩ := X1.virtualBackUp hx (owner := cS5) (x := (⟨cS0, "ordinal", "()I"⟩ : MethodName)) (y := (⟨cS5, "ordinal", "()I"⟩ : MethodName)) hown (mvT hZ (own_at hw 38 rfl)) (mvT hZ (own_at hw 39 rfl)) (mvT hZ (own_at hw 40 rfl)) (by decide) (mvT hZ (own_at hw 42 rfl)) (mvT hZ (own_at hw 41 rfl)) (backOf (W := 1) (rm5 l Z a0 hw [] r0 (5 : Int32) h0 n0 Z0 F_ordinal_r0) hZ (own_at hw 43 rfl) (own_at hw 21 rfl) (by decide) (by decide)) q2a q2c (g := (mkF m 4 #[rv r0] [(.ref r0), (.ref w_DIGITS)])) rfl (by rw [hml]; rfl) (Steps.refl _) (argsL := []) (rest := [(.ref w_DIGITS)]) (lenOf pd_0 rfl) rfl (by show 2 * 0 + _ ≤ _; exact Nat.le_of_eq rfl) (hb hby d4_4) (fun _ _ => ⟨rfl, e1, (by decide : 0 + 0 ≤ _), (by decide : 0 + 0 ≤ _)⟩)
  dsimp only [Pt.U, Pt.locs, Pt.cells, Pt.slots] at X2 l2 y2 z2 st2 hQ2
  subst l2 y2 z2
  obtain ⟨rfl, N2q, e2⟩ := hQ2
  have N2 := Fr.app N0 N2q
  obtain ⟨cl_z3, Ar_z3, q_z3, S_z3, N_z3, H_z3, G_z3⟩ := V_w_DIGITS
  have hin4 : ¬ ((5 : Int32) < 0 ∨ cl_z3.slots.size ≤ ((5 : Int32)).toNatClampNeg) := inb_of S_z3 ⟨by decide, by decide⟩
  obtain ⟨fs, hr, hrun, hended, hW, hsame⟩ := X2.leave (v := some (.int 14)) (fun h => by rw [Bd.returns] at h; cases h)
  refine ⟨_, _, k0 _ ?_, hrun, hended, _, _, rfl, ?_, ⟨_, rfl⟩, hW, hsame.mono (by decide) (by decide)⟩
  · show OwnS p e below s₁ (mkF m 0 #[rv r0] []) _
    refine st1 _ ?_
    show OwnS p e below T1 (mkF m 3 #[rv r0] [(.ref w_DIGITS)]) _
    refine XS.aloadN X1.here hx rfl (hb hby d4_3) rfl rfl ?_
    show OwnS p e below T1 (mkF m 4 #[rv r0] [(.ref r0), (.ref w_DIGITS)]) _
    refine st2.trans ?_
    show OwnS p e below T2 (mkF m 7 #[rv r0] [(.int 5), (.ref w_DIGITS)]) _
    refine X2.iaload hx (j := (5 : Int32)) (v := (.int 14)) (by rw [e2]; exact Ar_z3.1) (State.isArrayOf_alike hZ.alike Ar_z3.2.1) Ar_z3.2.2 hin4 (Has.at H_z3 hin4 rfl) (g := (mkF m 7 #[rv r0] [(.int 5), (.ref w_DIGITS)])) rfl rfl (hb hby d4_7) _ ?_
    show OwnS p e below T2 (mkF m 8 #[rv r0] [(.int 14)]) _
    exact retI X2 hx Bd.returns (hb hby d4_8) hr
  · show Q_4_5 Z r0 kD w_DIGITS h0 n0 _ T2.heap _
    rw [e2]
    exact ⟨rfl, N2, rfl⟩
def Q_4_6 (Z : State) (r0 : Addr) (kD : ClassId) (w_DIGITS : Addr) (h0 : Heap) (n0 : Nat) (v : Option Value) (h : Heap) (L : List Loc) : Prop := v = some (.int 17) ∧ Fr n0 L ∧ h = h0
set_option maxRecDepth 65536 in
set_option maxHeartbeats 40000000 in
theorem rm4_6 (l : Launch) (Z : State) (a0 : Array Value) (hw : ∀ d ∈ tables_1, d.before a0 Z = true) (ws : List Jvm.Cond) (r0 : Addr) (kD : ClassId) (w_DIGITS : Addr) (h0 : Heap) (n0 : Nat) (Z0 : n0 ≤ h0.size) (S_DIGITS : Sta Z h0 cS0 "DIGITS" "[I" (.ref w_DIGITS)) (V_w_DIGITS : Arv Z h0 w_DIGITS kD .int (7 : Int32) [(.int 4), (.int 6), (.int 8), (.int 10), (.int 12), (.int 14), (.int 17)] (.int 0)) (E_r0 : Exa Z h0 r0 cS0) (F_ordinal_r0 : Fld Z h0 r0 cS5 "ordinal" "I" (.int 6)) :
    MetFree l (⟨cS0, "digits", "()I"⟩ : MethodName) (head1 (Jvm.Cond.code (⟨cS0, "digits", "()I"⟩ : MethodName) prog_97_method_6_code 1 (some .int) :: ws) ({ frames := 1, cells := 0, slots := 0, locals := 13 } : Room)) (fun a U => a = #[(.ref r0)] ∧ Z.Warmed39 U.vm ∧ U.heap = h0) (fun _ _ _ _ _ => True) (fun _ U o U' => ∃ v L, o = .returned v ∧ Q_4_6 Z r0 kD w_DIGITS h0 n0 v U'.heap L ∧ FrameEnd U o U' L ({ frames := 1, cells := 0, slots := 0, locals := 13 } : Room).cells ({ frames := 1, cells := 0, slots := 0, locals := 13 } : Room).slots) := by
  refine MetFree.of_bodySF (plainFor_of_name pn_com_example_measurewright_measurewright_cql_Precision) hisR ?_
  intro p e s m args below meth c s₁ Bd hml0 hP hK
  obtain ⟨rfl, hZ, hh⟩ := hP
  have hx := Bd.exec
  have hby := Bd.bytes
  have hml : c.maxLocals = 1 := hml0
  have hown : s.vm.findClass cS0 = some m.cls := findClass_of_methodNamed Bd.named
  have hnm := (name_of_methodNamed Bd.named Bd.method).1
  have X0 : Stand p l e ({ frames := 1, cells := 0, slots := 0, locals := 13 } : Room) s m #[(.ref r0)] below meth c s₁ [] 0 0 := Stand.of_body Bd
  have e0 : s₁.heap = h0 := by rw [← hh, Bd.state]; rfl
  have N0 := Fr.nil n0
  have k0 : ∀ t, OwnS p e below s₁ (mkF m 0 #[rv r0] []) t → OwnS p e below s₁ (entryFrame m #[(.ref r0)] 1) t := fun t k => castTop (ef_4 m r0) k
  obtain ⟨T1, X1, e1, st1⟩ := getS2 X0 hx hZ hown (host := "") (Or.inl (own_at hw 36 rfl)) Via.refl e0 S_DIGITS (g := (mkF m 0 #[rv r0] [])) rfl (hb hby d4_0)
  obtain ⟨cq2, kq2, q2a, q2b, q2c⟩ := isOf hZ e1 E_r0
  obtain ⟨_, _, ⟨T2, L2, j2, i2⟩, -, X2, ⟨Lc2, hQ2, l2, y2, z2⟩, st2⟩ := X1.virtualBackUp hx (owner := cS5) (x := (⟨cS0, "ordinal", "()I"⟩ : MethodName)) (y := (⟨cS5, "ordinal", "()I"⟩ : MethodName)) hown (mvT hZ (own_at hw 38 rfl)) (mvT hZ (own_at hw 39 rfl)) (mvT hZ (own_at hw 40 rfl)) (by decide) (mvT hZ (own_at hw 42 rfl)) (mvT hZ (own_at hw 41 rfl)) (backOf (W := 1) (rm5 l Z a0 hw [] r0 (6 : Int32) h0 n0 Z0 F_ordinal_r0) hZ (own_at hw 43 rfl) (own_at hw 21 rfl) (by decide) (by decide)) q2a q2c (g := (mkF m 4 #[rv r0] [(.ref r0), (.ref w_DIGITS)])) rfl (by rw [hml]; rfl) (Steps.refl _) (argsL := []) (rest := [(.ref w_DIGITS)]) (lenOf pd_0 rfl) rfl (by show 2 * 0 + _ ≤ _; exact Nat.le_of_eq rfl) (hb hby d4_4) (fun _ _ => ⟨rfl, e1, (by decide : 0 + 0 ≤ _), (by decide : 0 + 0 ≤ _)⟩)
  dsimp only [Pt.U, Pt.locs, Pt.cells, Pt.slots] at X2 l2 y2 z2 st2 hQ2
  subst l2 y2 z2
  obtain ⟨rfl, N2q, e2⟩ := hQ2
  have N2 := Fr.app N0 N2q
  obtain ⟨cl_z3, Ar_z3, q_z3, S_z3, N_z3, H_z3, G_z3⟩ := V_w_DIGITS
  have hin4 : ¬ ((6 : Int32) < 0 ∨ cl_z3.slots.size ≤ ((6 : Int32)).toNatClampNeg) := inb_of S_z3 ⟨by decide, by decide⟩
  obtain ⟨fs, hr, hrun, hended, hW, hsame⟩ := X2.leave (v := some (.int 17)) (fun h => by rw [Bd.returns] at h; cases h)
  refine ⟨_, _, k0 _ ?_, hrun, hended, _, _, rfl, ?_, ⟨_, rfl⟩, hW, hsame.mono (by decide) (by decide)⟩
  · show OwnS p e below s₁ (mkF m 0 #[rv r0] []) _
    refine st1 _ ?_
    show OwnS p e below T1 (mkF m 3 #[rv r0] [(.ref w_DIGITS)]) _
    refine XS.aloadN X1.here hx rfl (hb hby d4_3) rfl rfl ?_
    show OwnS p e below T1 (mkF m 4 #[rv r0] [(.ref r0), (.ref w_DIGITS)]) _
    refine st2.trans ?_
    show OwnS p e below T2 (mkF m 7 #[rv r0] [(.int 6), (.ref w_DIGITS)]) _
    refine X2.iaload hx (j := (6 : Int32)) (v := (.int 17)) (by rw [e2]; exact Ar_z3.1) (State.isArrayOf_alike hZ.alike Ar_z3.2.1) Ar_z3.2.2 hin4 (Has.at H_z3 hin4 rfl) (g := (mkF m 7 #[rv r0] [(.int 6), (.ref w_DIGITS)])) rfl rfl (hb hby d4_7) _ ?_
    show OwnS p e below T2 (mkF m 8 #[rv r0] [(.int 17)]) _
    exact retI X2 hx Bd.returns (hb hby d4_8) hr
  · show Q_4_6 Z r0 kD w_DIGITS h0 n0 _ T2.heap _
    rw [e2]
    exact ⟨rfl, N2, rfl⟩
theorem pd_1 : parseMethodDescriptor cS4 = some ⟨[.int], some (.object cS0)⟩ := by decide +kernel
theorem pd_2 : parseMethodDescriptor cS2 = some ⟨[], some (.object cS0)⟩ := by decide +kernel
theorem pd_3 : parseMethodDescriptor "(Ljava/lang/Enum;)I" = some ⟨[(.object cS5)], some .int⟩ := by decide +kernel
theorem ef_0 (m : MethodId) (x0 : Int32) : entryFrame m #[(.int x0)] maxLocals = mkF m 0 #[.val (.int x0), .unset, .unset] [] := by first | (simp [entryFrame, mkF, argsToLocals, Value.category, maxLocals]; done) | rfl
def Q_0 (Z : State) (p0 : Int32) (w_YEAR : Addr) (w_MONTH : Addr) (w_DAY : Addr) (w_HOUR : Addr) (w_MINUTE : Addr) (w_SECOND : Addr) (w_MILLISECOND : Addr) (w_DIGITS : Addr) (kD : ClassId) (mir_Precision : Addr) (h0 : Heap) (n0 : Nat) (v : Option Value) (h : Heap) (L : List Loc) : Prop := v = some (.int 1) ∧ Fr n0 L ∧ True
set_option maxRecDepth 65536 in
set_option maxHeartbeats 40000000 in
theorem rm0 (l : Launch) (Z : State) (a0 : Array Value) (hw : ∀ d ∈ tables_1, d.before a0 Z = true) (ws : List Jvm.Cond) (p0 : Int32) (w_YEAR : Addr) (w_MONTH : Addr) (w_DAY : Addr) (w_HOUR : Addr) (w_MINUTE : Addr) (w_SECOND : Addr) (w_MILLISECOND : Addr) (w_DIGITS : Addr) (kD : ClassId) (mir_Precision : Addr) (h0 : Heap) (n0 : Nat) (Z0 : n0 ≤ h0.size) (S_YEAR : Sta Z h0 cS0 "YEAR" cS3 (.ref w_YEAR)) (S_MONTH : Sta Z h0 cS0 "MONTH" cS3 (.ref w_MONTH)) (S_DAY : Sta Z h0 cS0 "DAY" cS3 (.ref w_DAY)) (S_HOUR : Sta Z h0 cS0 "HOUR" cS3 (.ref w_HOUR)) (S_MINUTE : Sta Z h0 cS0 "MINUTE" cS3 (.ref w_MINUTE)) (S_SECOND : Sta Z h0 cS0 "SECOND" cS3 (.ref w_SECOND)) (S_MILLISECOND : Sta Z h0 cS0 "MILLISECOND" cS3 (.ref w_MILLISECOND)) (E_w_YEAR : Exa Z h0 w_YEAR cS0) (E_w_MONTH : Exa Z h0 w_MONTH cS0) (E_w_DAY : Exa Z h0 w_DAY cS0) (E_w_HOUR : Exa Z h0 w_HOUR cS0) (E_w_MINUTE : Exa Z h0 w_MINUTE cS0) (E_w_SECOND : Exa Z h0 w_SECOND cS0) (E_w_MILLISECOND : Exa Z h0 w_MILLISECOND cS0) (F_ordinal_w_YEAR : Fld Z h0 w_YEAR cS5 "ordinal" "I" (.int 0)) (F_ordinal_w_MONTH : Fld Z h0 w_MONTH cS5 "ordinal" "I" (.int 1)) (F_ordinal_w_DAY : Fld Z h0 w_DAY cS5 "ordinal" "I" (.int 2)) (F_ordinal_w_HOUR : Fld Z h0 w_HOUR cS5 "ordinal" "I" (.int 3)) (F_ordinal_w_MINUTE : Fld Z h0 w_MINUTE cS5 "ordinal" "I" (.int 4)) (F_ordinal_w_SECOND : Fld Z h0 w_SECOND cS5 "ordinal" "I" (.int 5)) (F_ordinal_w_MILLISECOND : Fld Z h0 w_MILLISECOND cS5 "ordinal" "I" (.int 6)) (S_DIGITS : Sta Z h0 cS0 "DIGITS" "[I" (.ref w_DIGITS)) (V_w_DIGITS : Arv Z h0 w_DIGITS kD .int (7 : Int32) [(.int 4), (.int 6), (.int 8), (.int 10), (.int 12), (.int 14), (.int 17)] (.int 0)) (ne_YEAR : ¬ (w_YEAR = w_SECOND)) (ne_MONTH : ¬ (w_MONTH = w_SECOND)) (ne_DAY : ¬ (w_DAY = w_SECOND)) (ne_HOUR : ¬ (w_HOUR = w_SECOND)) (ne_MINUTE : ¬ (w_MINUTE = w_SECOND)) (ne_MILLISECOND : ¬ (w_MILLISECOND = w_SECOND)) (M_mir_Precision : own_Mir Z cS0 mir_Precision) :
    MetFree l x (head1 (Jvm.Cond.code x code maxLocals ret :: ws) room_1) (fun a U => a = #[(.int p0)] ∧ Z.Warmed39 U.vm ∧ U.heap = h0) (fun _ _ _ _ _ => True) (fun _ U o U' => ∃ v L, o = .returned v ∧ Q_0 Z p0 w_YEAR w_MONTH w_DAY w_HOUR w_MINUTE w_SECOND w_MILLISECOND w_DIGITS kD mir_Precision h0 n0 v U'.heap L ∧ FrameEnd U o U' L room_1.cells room_1.slots) := by
  refine MetFree.of_bodySF (plainFor_of_name pn_com_example_measurewright_measurewright_cql_PrecisionCombinedPinLaw) hisR ?_
  intro p e s m args below meth c s₁ Bd hml0 hP hK
  obtain ⟨rfl, hZ, hh⟩ := hP
  have hx := Bd.exec
  have hby := Bd.bytes
  have hml : c.maxLocals = 3 := hml0
  have hown : s.vm.findClass cS1 = some m.cls := findClass_of_methodNamed Bd.named
  have hnm := (name_of_methodNamed Bd.named Bd.method).1
  have X0 : Stand p l e room_1 s m #[(.int p0)] below meth c s₁ [] 0 0 := Stand.of_body Bd
  have e0 : s₁.heap = h0 := by rw [← hh, Bd.state]; rfl
  have N0 := Fr.nil n0
  have k0 : ∀ t, OwnS p e below s₁ (mkF m 0 #[iv p0, .unset, .unset] []) t → OwnS p e below s₁ (entryFrame m #[(.int p0)] maxLocals) t := fun t k => castTop (ef_0 m p0) k
  rcases own_mod7 p0 with hk | hk | hk | hk | hk | hk | hk
  · obtain ⟨_, _, ⟨T1, L1, j1, i1⟩, -, X1, ⟨Lc1, hQ1, l1, y1, z1⟩, st1⟩ := Jvm.LawKit.callS X0 hx (y := (⟨cS1, "pick", cS4⟩ : MethodName)) hown (mvT hZ (own_at hw 0 rfl)) (mvT hZ (own_at hw 1 rfl)) (mvT hZ (own_at hw 2 rfl)) (mvT hZ (own_at hw 3 rfl)) (by decide) (backOf (W := 0) (rm1_0 l Z a0 hw [] p0 w_YEAR h0 n0 Z0 hk S_YEAR) hZ (own_at hw 3 rfl) (own_at hw 2 rfl) (by decide) (by decide)) (g := (mkF m 1 #[iv p0, .unset, .unset] [(.int p0)])) rfl (by rw [hml]; rfl) (argsL := [(.int p0)]) (rest := []) (lenOf pd_1 rfl) rfl (by show 2 * 0 + _ ≤ _; exact Nat.le_of_eq rfl) (hb hby at_1) (fun _ _ => ⟨rfl, e0, (by decide : 0 + 0 ≤ _), (by decide : 0 + 0 ≤ _)⟩)
    dsimp only [Pt.U, Pt.locs, Pt.cells, Pt.slots] at X1 l1 y1 z1 st1 hQ1
    subst l1 y1 z1
    obtain ⟨rfl, N1q, e1⟩ := hQ1
    have N1 := Fr.app N0 N1q
    obtain ⟨cq2, kq2, q2a, q2b, q2c⟩ := isOf hZ e1 E_w_YEAR
    obtain ⟨_, _, ⟨T2, L2, j2, i2⟩, -, X2, ⟨Lc2, hQ2, l2, y2, z2⟩, st2⟩ := X1.virtualBack hx (y := (⟨cS0, "combined", cS2⟩ : MethodName)) (z := (⟨cS0, "combined", cS2⟩ : MethodName)) hown (mvT hZ (own_at hw 8 rfl)) (mvT hZ (own_at hw 9 rfl)) (notFace_of_selects (args := #[]) (mvT hZ (own_at hw 11 rfl))) (mvT hZ (own_at hw 11 rfl)) (mvT hZ (own_at hw 10 rfl)) (by decide) (backOf (W := 0) (rm2_o l Z a0 hw [] w_YEAR w_SECOND h0 n0 Z0 S_SECOND ne_YEAR) hZ (own_at hw 12 rfl) (own_at hw 6 rfl) (by decide) (by decide)) q2a q2c (g := (mkF m 6 #[iv p0, rv w_YEAR, .unset] [(.ref w_YEAR)])) rfl (by rw [hml]; rfl) (Steps.refl _) (argsL := []) (rest := []) (lenOf pd_2 rfl) rfl (by show 2 * 0 + _ ≤ _; exact Nat.le_of_eq rfl) (hb hby at_6) (fun _ _ => ⟨rfl, e1, (by decide : 0 + 0 ≤ _), (by decide : 0 + 0 ≤ _)⟩)
    dsimp only [Pt.U, Pt.locs, Pt.cells, Pt.slots] at X2 l2 y2 z2 st2 hQ2
    subst l2 y2 z2
    obtain ⟨rfl, N2q, e2⟩ := hQ2
    have N2 := Fr.app N1 N2q
    obtain ⟨T3, X3, e3, st3⟩ := getS2 X2 hx hZ hown (host := "") (Or.inl (own_at hw 15 rfl)) Via.refl e2 S_SECOND (g := (mkF m 17 #[iv p0, rv w_YEAR, rv w_YEAR] [(.ref w_YEAR)])) rfl (hb hby at_17)
    obtain ⟨cq4, kq4, q4a, q4b, q4c⟩ := isOf hZ e3 E_w_YEAR
    obtain ⟨_, _, ⟨T4, L4, j4, i4⟩, -, X4, ⟨Lc4, hQ4, l4, y4, z4⟩, st4⟩ := X3.virtualBack hx (y := (⟨cS0, "combined", cS2⟩ : MethodName)) (z := (⟨cS0, "combined", cS2⟩ : MethodName)) hown (mvT hZ (own_at hw 8 rfl)) (mvT hZ (own_at hw 9 rfl)) (notFace_of_selects (args := #[]) (mvT hZ (own_at hw 11 rfl))) (mvT hZ (own_at hw 11 rfl)) (mvT hZ (own_at hw 10 rfl)) (by decide) (backOf (W := 0) (rm2_o l Z a0 hw [] w_YEAR w_SECOND h0 n0 Z0 S_SECOND ne_YEAR) hZ (own_at hw 12 rfl) (own_at hw 6 rfl) (by decide) (by decide)) q4a q4c (g := (mkF m 26 #[iv p0, rv w_YEAR, rv w_YEAR] [(.ref w_YEAR)])) rfl (by rw [hml]; rfl) (Steps.refl _) (argsL := []) (rest := []) (lenOf pd_2 rfl) rfl (by show 2 * 0 + _ ≤ _; exact Nat.le_of_eq rfl) (hb hby at_26) (fun _ _ => ⟨rfl, e3, (by decide : 0 + 0 ≤ _), (by decide : 0 + 0 ≤ _)⟩)
    dsimp only [Pt.U, Pt.locs, Pt.cells, Pt.slots] at X4 l4 y4 z4 st4 hQ4
    subst l4 y4 z4
    obtain ⟨rfl, N4q, e4⟩ := hQ4
    have N4 := Fr.app N2 N4q
    obtain ⟨cq5, kq5, q5a, q5b, q5c⟩ := isOf hZ e4 E_w_YEAR
    obtain ⟨_, _, ⟨T5, L5, j5, i5⟩, -, X5, ⟨Lc5, hQ5, l5, y5, z5⟩, st5⟩ := X4.virtualBackUp hx (owner := cS5) (x := (⟨cS0, "compareTo", "(Ljava/lang/Enum;)I"⟩ : MethodName)) (y := (⟨cS5, "compareTo", "(Ljava/lang/Enum;)I"⟩ : MethodName)) hown (mvT hZ (own_at hw 16 rfl)) (mvT hZ (own_at hw 17 rfl)) (mvT hZ (own_at hw 18 rfl)) (by decide) (mvT hZ (own_at hw 20 rfl)) (mvT hZ (own_at hw 19 rfl)) (backOf (W := 0) (rm3_t l Z a0 hw [] w_YEAR w_YEAR mir_Precision (0 : Int32) (0 : Int32) h0 n0 Z0 E_w_YEAR E_w_YEAR M_mir_Precision F_ordinal_w_YEAR F_ordinal_w_YEAR) hZ (own_at hw 22 rfl) (own_at hw 21 rfl) (by decide) (by decide)) q5a q5c (g := (mkF m 37 #[iv p0, rv w_YEAR, rv w_YEAR] [(.ref w_YEAR), (.ref w_YEAR)])) rfl (by rw [hml]; rfl) (Steps.refl _) (argsL := [(.ref w_YEAR)]) (rest := []) (lenOf pd_3 rfl) rfl (by show 2 * 0 + _ ≤ _; exact Nat.le_of_eq rfl) (hb hby at_37) (fun _ _ => ⟨rfl, e4, (by decide : 0 + 0 ≤ _), (by decide : 0 + 0 ≤ _)⟩)
    dsimp only [Pt.U, Pt.locs, Pt.cells, Pt.slots] at X5 l5 y5 z5 st5 hQ5
    subst l5 y5 z5
    obtain ⟨rfl, N5q, e5⟩ := hQ5
    have N5 := Fr.app N4 N5q
    obtain ⟨cq6, kq6, q6a, q6b, q6c⟩ := isOf hZ e5 E_w_YEAR
    obtain ⟨_, _, ⟨T6, L6, j6, i6⟩, -, X6, ⟨Lc6, hQ6, l6, y6, z6⟩, st6⟩ := X5.virtualBack hx (y := (⟨cS0, "digits", "()I"⟩ : MethodName)) (z := (⟨cS0, "digits", "()I"⟩ : MethodName)) hown (mvT hZ (own_at hw 31 rfl)) (mvT hZ (own_at hw 32 rfl)) (notFace_of_selects (args := #[]) (mvT hZ (own_at hw 34 rfl))) (mvT hZ (own_at hw 34 rfl)) (mvT hZ (own_at hw 33 rfl)) (by decide) (backOf (W := 0) (rm4_0 l Z a0 hw [] w_YEAR kD w_DIGITS h0 n0 Z0 S_DIGITS V_w_DIGITS E_w_YEAR F_ordinal_w_YEAR) hZ (own_at hw 35 rfl) (own_at hw 6 rfl) (by decide) (by decide)) q6a q6c (g := (mkF m 46 #[iv p0, rv w_YEAR, rv w_YEAR] [(.ref w_YEAR)])) rfl (by rw [hml]; rfl) (Steps.refl _) (argsL := []) (rest := []) (lenOf pd_0 rfl) rfl (by show 2 * 0 + _ ≤ _; exact Nat.le_of_eq rfl) (hb hby at_46) (fun _ _ => ⟨rfl, e5, (by decide : 0 + 0 ≤ _), (by decide : 0 + 0 ≤ _)⟩)
    dsimp only [Pt.U, Pt.locs, Pt.cells, Pt.slots] at X6 l6 y6 z6 st6 hQ6
    subst l6 y6 z6
    obtain ⟨rfl, N6q, e6⟩ := hQ6
    have N6 := Fr.app N5 N6q
    obtain ⟨fs, hr, hrun, hended, hW, hsame⟩ := X6.leave (v := some (.int 1)) (fun h => by rw [Bd.returns] at h; cases h)
    refine ⟨_, _, k0 _ ?_, hrun, hended, _, _, rfl, ?_, ⟨_, rfl⟩, hW, hsame.mono (by decide) (by decide)⟩
    · show OwnS p e below s₁ (mkF m 0 #[iv p0, .unset, .unset] []) _
      refine XS.iloadN X0.here hx rfl (hb hby at_0) rfl ?_
      show OwnS p e below s₁ (mkF m 1 #[iv p0, .unset, .unset] [(.int p0)]) _
      refine st1 _ ?_
      show OwnS p e below T1 (mkF m 4 #[iv p0, .unset, .unset] [(.ref w_YEAR)]) _
      refine XS.astoreN X1.here hx rfl (hb hby at_4) rfl rfl (l' := #[iv p0, rv w_YEAR, .unset]) rfl ?_
      show OwnS p e below T1 (mkF m 5 #[iv p0, rv w_YEAR, .unset] []) _
      refine XS.aloadN X1.here hx rfl (hb hby at_5) rfl rfl ?_
      show OwnS p e below T1 (mkF m 6 #[iv p0, rv w_YEAR, .unset] [(.ref w_YEAR)]) _
      refine st2.trans ?_
      show OwnS p e below T2 (mkF m 9 #[iv p0, rv w_YEAR, .unset] [(.ref w_YEAR)]) _
      refine XS.astoreN X2.here hx rfl (hb hby at_9) rfl rfl (l' := #[iv p0, rv w_YEAR, rv w_YEAR]) rfl ?_
      show OwnS p e below T2 (mkF m 10 #[iv p0, rv w_YEAR, rv w_YEAR] []) _
      refine XS.aloadN X2.here hx rfl (hb hby at_10) rfl rfl ?_
      show OwnS p e below T2 (mkF m 11 #[iv p0, rv w_YEAR, rv w_YEAR] [(.ref w_YEAR)]) _
      refine XS.ifnonnullYes X2.here hx rfl (pc0 := 11) (pc' := 16) rfl (hb hby at_11) rfl (by decide) (by decide) ?_
      show OwnS p e below T2 (mkF m 16 #[iv p0, rv w_YEAR, rv w_YEAR] []) _
      refine XS.aloadN X2.here hx rfl (hb hby at_16) rfl rfl ?_
      show OwnS p e below T2 (mkF m 17 #[iv p0, rv w_YEAR, rv w_YEAR] [(.ref w_YEAR)]) _
      refine st3 _ ?_
      show OwnS p e below T3 (mkF m 20 #[iv p0, rv w_YEAR, rv w_YEAR] [(.ref w_SECOND), (.ref w_YEAR)]) _
      refine Jvm.RoadKit.acmp (g := (mkF m 20 #[iv p0, rv w_YEAR, rv w_YEAR] [(.ref w_SECOND), (.ref w_YEAR)])) X3 hx rfl rfl rfl (pc0 := 20) (pc' := 25) (same := false) rfl (hb hby at_20) rfl (decide_eq_false fun q => ne_YEAR (Value.ref.inj q)) (by decide) (by decide) ?_
      show OwnS p e below T3 (mkF m 25 #[iv p0, rv w_YEAR, rv w_YEAR] []) _
      refine XS.aloadN X3.here hx rfl (hb hby at_25) rfl rfl ?_
      show OwnS p e below T3 (mkF m 26 #[iv p0, rv w_YEAR, rv w_YEAR] [(.ref w_YEAR)]) _
      refine st4.trans ?_
      show OwnS p e below T4 (mkF m 29 #[iv p0, rv w_YEAR, rv w_YEAR] [(.ref w_YEAR)]) _
      refine XS.aloadN X4.here hx rfl (hb hby at_29) rfl rfl ?_
      show OwnS p e below T4 (mkF m 30 #[iv p0, rv w_YEAR, rv w_YEAR] [(.ref w_YEAR), (.ref w_YEAR)]) _
      refine Jvm.RoadKit.acmp (g := (mkF m 30 #[iv p0, rv w_YEAR, rv w_YEAR] [(.ref w_YEAR), (.ref w_YEAR)])) X4 hx rfl rfl rfl (pc0 := 30) (pc' := 35) (same := true) rfl (hb hby at_30) rfl (decide_eq_true rfl) (by decide) (by decide) ?_
      show OwnS p e below T4 (mkF m 35 #[iv p0, rv w_YEAR, rv w_YEAR] []) _
      refine XS.aloadN X4.here hx rfl (hb hby at_35) rfl rfl ?_
      show OwnS p e below T4 (mkF m 36 #[iv p0, rv w_YEAR, rv w_YEAR] [(.ref w_YEAR)]) _
      refine XS.aloadN X4.here hx rfl (hb hby at_36) rfl rfl ?_
      show OwnS p e below T4 (mkF m 37 #[iv p0, rv w_YEAR, rv w_YEAR] [(.ref w_YEAR), (.ref w_YEAR)]) _
      refine st5.trans ?_
      show OwnS p e below T5 (mkF m 40 #[iv p0, rv w_YEAR, rv w_YEAR] [(.int 0)]) _
      refine XS.ifYes X5.here hx rfl (pc0 := 40) (pc' := 45) rfl (hb hby at_40) rfl ((if0 _ _).trans (flt (by decide : ¬ ((0 : Int32) < (0 : Int32)))).2.1) (by decide) (by decide) ?_
      show OwnS p e below T5 (mkF m 45 #[iv p0, rv w_YEAR, rv w_YEAR] []) _
      refine XS.aloadN X5.here hx rfl (hb hby at_45) rfl rfl ?_
      show OwnS p e below T5 (mkF m 46 #[iv p0, rv w_YEAR, rv w_YEAR] [(.ref w_YEAR)]) _
      refine st6.trans ?_
      show OwnS p e below T6 (mkF m 49 #[iv p0, rv w_YEAR, rv w_YEAR] [(.int 4)]) _
      refine XS.bipush X6.here hx rfl (hb hby at_49) ?_
      show OwnS p e below T6 (mkF m 51 #[iv p0, rv w_YEAR, rv w_YEAR] [(.int 14), (.int 4)]) _
      refine XS.icmpYes X6.here hx rfl (pc0 := 51) (pc' := 69) rfl (hb hby at_51) rfl (feq (by decide : ¬ ((4 : Int32) = (14 : Int32)))).2 (by decide) (by decide) ?_
      show OwnS p e below T6 (mkF m 69 #[iv p0, rv w_YEAR, rv w_YEAR] []) _
      refine XS.aloadN X6.here hx rfl (hb hby at_69) rfl rfl ?_
      show OwnS p e below T6 (mkF m 70 #[iv p0, rv w_YEAR, rv w_YEAR] [(.ref w_YEAR)]) _
      refine XS.aloadN X6.here hx rfl (hb hby at_70) rfl rfl ?_
      show OwnS p e below T6 (mkF m 71 #[iv p0, rv w_YEAR, rv w_YEAR] [(.ref w_YEAR), (.ref w_YEAR)]) _
      refine Jvm.RoadKit.acmp (g := (mkF m 71 #[iv p0, rv w_YEAR, rv w_YEAR] [(.ref w_YEAR), (.ref w_YEAR)])) X6 hx rfl rfl rfl (pc0 := 71) (pc' := 74) (same := true) rfl (hb hby at_71) rfl (decide_eq_true rfl) (by decide) (by decide) ?_
      show OwnS p e below T6 (mkF m 74 #[iv p0, rv w_YEAR, rv w_YEAR] []) _
      refine XS.iconst X6.here hx rfl (hb hby at_74) ?_
      show OwnS p e below T6 (mkF m 75 #[iv p0, rv w_YEAR, rv w_YEAR] [(.int 1)]) _
      refine XS.goto X6.here hx rfl (pc0 := 75) (pc' := 79) rfl (hb hby at_75) (by decide) (by decide) ?_
      show OwnS p e below T6 (mkF m 79 #[iv p0, rv w_YEAR, rv w_YEAR] [(.int 1)]) _
      exact retN X6 hx (t := .boolean) Bd.returns (by simp) (hb hby at_79) hr
    · show Q_0 Z p0 w_YEAR w_MONTH w_DAY w_HOUR w_MINUTE w_SECOND w_MILLISECOND w_DIGITS kD mir_Precision h0 n0 _ T6.heap _
      rw [e6]
      exact ⟨rfl, N6, trivial⟩
  · obtain ⟨_, _, ⟨T7, L7, j7, i7⟩, -, X7, ⟨Lc7, hQ7, l7, y7, z7⟩, st7⟩ := Jvm.LawKit.callS X0 hx (y := (⟨cS1, "pick", cS4⟩ : MethodName)) hown (mvT hZ (own_at hw 0 rfl)) (mvT hZ (own_at hw 1 rfl)) (mvT hZ (own_at hw 2 rfl)) (mvT hZ (own_at hw 3 rfl)) (by decide) (backOf (W := 0) (rm1_1 l Z a0 hw [] p0 w_MONTH h0 n0 Z0 hk S_MONTH) hZ (own_at hw 3 rfl) (own_at hw 2 rfl) (by decide) (by decide)) (g := (mkF m 1 #[iv p0, .unset, .unset] [(.int p0)])) rfl (by rw [hml]; rfl) (argsL := [(.int p0)]) (rest := []) (lenOf pd_1 rfl) rfl (by show 2 * 0 + _ ≤ _; exact Nat.le_of_eq rfl) (hb hby at_1) (fun _ _ => ⟨rfl, e0, (by decide : 0 + 0 ≤ _), (by decide : 0 + 0 ≤ _)⟩)
    dsimp only [Pt.U, Pt.locs, Pt.cells, Pt.slots] at X7 l7 y7 z7 st7 hQ7
    subst l7 y7 z7
    obtain ⟨rfl, N7q, e7⟩ := hQ7
    have N7 := Fr.app N0 N7q
    obtain ⟨cq8, kq8, q8a, q8b, q8c⟩ := isOf hZ e7 E_w_MONTH
    obtain ⟨_, _, ⟨T8, L8, j8, i8⟩, -, X8, ⟨Lc8, hQ8, l8, y8, z8⟩, st8⟩ := X7.virtualBack hx (y := (⟨cS0, "combined", cS2⟩ : MethodName)) (z := (⟨cS0, "combined", cS2⟩ : MethodName)) hown (mvT hZ (own_at hw 8 rfl)) (mvT hZ (own_at hw 9 rfl)) (notFace_of_selects (args := #[]) (mvT hZ (own_at hw 11 rfl))) (mvT hZ (own_at hw 11 rfl)) (mvT hZ (own_at hw 10 rfl)) (by decide) (backOf (W := 0) (rm2_o l Z a0 hw [] w_MONTH w_SECOND h0 n0 Z0 S_SECOND ne_MONTH) hZ (own_at hw 12 rfl) (own_at hw 6 rfl) (by decide) (by decide)) q8a q8c (g := (mkF m 6 #[iv p0, rv w_MONTH, .unset] [(.ref w_MONTH)])) rfl (by rw [hml]; rfl) (Steps.refl _) (argsL := []) (rest := []) (lenOf pd_2 rfl) rfl (by show 2 * 0 + _ ≤ _; exact Nat.le_of_eq rfl) (hb hby at_6) (fun _ _ => ⟨rfl, e7, (by decide : 0 + 0 ≤ _), (by decide : 0 + 0 ≤ _)⟩)
    dsimp only [Pt.U, Pt.locs, Pt.cells, Pt.slots] at X8 l8 y8 z8 st8 hQ8
    subst l8 y8 z8
    obtain ⟨rfl, N8q, e8⟩ := hQ8
    have N8 := Fr.app N7 N8q
    obtain ⟨T9, X9, e9, st9⟩ := getS2 X8 hx hZ hown (host := "") (Or.inl (own_at hw 15 rfl)) Via.refl e8 S_SECOND (g := (mkF m 17 #[iv p0, rv w_MONTH, rv w_MONTH] [(.ref w_MONTH)])) rfl (hb hby at_17)
    obtain ⟨cq10, kq10, q10a, q10b, q10c⟩ := isOf hZ e9 E_w_MONTH
    obtain ⟨_, _, ⟨T10, L10, j10, i10⟩, -, X10, ⟨Lc10, hQ10, l10, y10, z10⟩, st10⟩ := X9.virtualBack hx (y := (⟨cS0, "combined", cS2⟩ : MethodName)) (z := (⟨cS0, "combined", cS2⟩ : MethodName)) hown (mvT hZ (own_at hw 8 rfl)) (mvT hZ (own_at hw 9 rfl)) (notFace_of_selects (args := #[]) (mvT hZ (own_at hw 11 rfl))) (mvT hZ (own_at hw 11 rfl)) (mvT hZ (own_at hw 10 rfl)) (by decide) (backOf (W := 0) (rm2_o l Z a0 hw [] w_MONTH w_SECOND h0 n0 Z0 S_SECOND ne_MONTH) hZ (own_at hw 12 rfl) (own_at hw 6 rfl) (by decide) (by decide)) q10a q10c (g := (mkF m 26 #[iv p0, rv w_MONTH, rv w_MONTH] [(.ref w_MONTH)])) rfl (by rw [hml]; rfl) (Steps.refl _) (argsL := []) (rest := []) (lenOf pd_2 rfl) rfl (by show 2 * 0 + _ ≤ _; exact Nat.le_of_eq rfl) (hb hby at_26) (fun _ _ => ⟨rfl, e9, (by decide : 0 + 0 ≤ _), (by decide : 0 + 0 ≤ _)⟩)
    dsimp only [Pt.U, Pt.locs, Pt.cells, Pt.slots] at X10 l10 y10 z10 st10 hQ10
    subst l10 y10 z10
    obtain ⟨rfl, N10q, e10⟩ := hQ10
    have N10 := Fr.app N8 N10q
    obtain ⟨cq11, kq11, q11a, q11b, q11c⟩ := isOf hZ e10 E_w_MONTH
    obtain ⟨_, _, ⟨T11, L11, j11, i11⟩, -, X11, ⟨Lc11, hQ11, l11, y11, z11⟩, st11⟩ := X10.virtualBackUp hx (owner := cS5) (x := (⟨cS0, "compareTo", "(Ljava/lang/Enum;)I"⟩ : MethodName)) (y := (⟨cS5, "compareTo", "(Ljava/lang/Enum;)I"⟩ : MethodName)) hown (mvT hZ (own_at hw 16 rfl)) (mvT hZ (own_at hw 17 rfl)) (mvT hZ (own_at hw 18 rfl)) (by decide) (mvT hZ (own_at hw 20 rfl)) (mvT hZ (own_at hw 19 rfl)) (backOf (W := 0) (rm3_t l Z a0 hw [] w_MONTH w_MONTH mir_Precision (1 : Int32) (1 : Int32) h0 n0 Z0 E_w_MONTH E_w_MONTH M_mir_Precision F_ordinal_w_MONTH F_ordinal_w_MONTH) hZ (own_at hw 22 rfl) (own_at hw 21 rfl) (by decide) (by decide)) q11a q11c (g := (mkF m 37 #[iv p0, rv w_MONTH, rv w_MONTH] [(.ref w_MONTH), (.ref w_MONTH)])) rfl (by rw [hml]; rfl) (Steps.refl _) (argsL := [(.ref w_MONTH)]) (rest := []) (lenOf pd_3 rfl) rfl (by show 2 * 0 + _ ≤ _; exact Nat.le_of_eq rfl) (hb hby at_37) (fun _ _ => ⟨rfl, e10, (by decide : 0 + 0 ≤ _), (by decide : 0 + 0 ≤ _)⟩)
    dsimp only [Pt.U, Pt.locs, Pt.cells, Pt.slots] at X11 l11 y11 z11 st11 hQ11
    subst l11 y11 z11
    obtain ⟨rfl, N11q, e11⟩ := hQ11
    have N11 := Fr.app N10 N11q
    obtain ⟨cq12, kq12, q12a, q12b, q12c⟩ := isOf hZ e11 E_w_MONTH
    obtain ⟨_, _, ⟨T12, L12, j12, i12⟩, -, X12, ⟨Lc12, hQ12, l12, y12, z12⟩, st12⟩ := X11.virtualBack hx (y := (⟨cS0, "digits", "()I"⟩ : MethodName)) (z := (⟨cS0, "digits", "()I"⟩ : MethodName)) hown (mvT hZ (own_at hw 31 rfl)) (mvT hZ (own_at hw 32 rfl)) (notFace_of_selects (args := #[]) (mvT hZ (own_at hw 34 rfl))) (mvT hZ (own_at hw 34 rfl)) (mvT hZ (own_at hw 33 rfl)) (by decide) (backOf (W := 0) (rm4_1 l Z a0 hw [] w_MONTH kD w_DIGITS h0 n0 Z0 S_DIGITS V_w_DIGITS E_w_MONTH F_ordinal_w_MONTH) hZ (own_at hw 35 rfl) (own_at hw 6 rfl) (by decide) (by decide)) q12a q12c (g := (mkF m 46 #[iv p0, rv w_MONTH, rv w_MONTH] [(.ref w_MONTH)])) rfl (by rw [hml]; rfl) (Steps.refl _) (argsL := []) (rest := []) (lenOf pd_0 rfl) rfl (by show 2 * 0 + _ ≤ _; exact Nat.le_of_eq rfl) (hb hby at_46) (fun _ _ => ⟨rfl, e11, (by decide : 0 + 0 ≤ _), (by decide : 0 + 0 ≤ _)⟩)
    dsimp only [Pt.U, Pt.locs, Pt.cells, Pt.slots] at X12 l12 y12 z12 st12 hQ12
    subst l12 y12 z12
    obtain ⟨rfl, N12q, e12⟩ := hQ12
    have N12 := Fr.app N11 N12q
    obtain ⟨fs, hr, hrun, hended, hW, hsame⟩ := X12.leave (v := some (.int 1)) (fun h => by rw [Bd.returns] at h; cases h)
    refine ⟨_, _, k0 _ ?_, hrun, hended, _, _, rfl, ?_, ⟨_, rfl⟩, hW, hsame.mono (by decide) (by decide)⟩
    · show OwnS p e below s₁ (mkF m 0 #[iv p0, .unset, .unset] []) _
      refine XS.iloadN X0.here hx rfl (hb hby at_0) rfl ?_
      show OwnS p e below s₁ (mkF m 1 #[iv p0, .unset, .unset] [(.int p0)]) _
      refine st7 _ ?_
      show OwnS p e below T7 (mkF m 4 #[iv p0, .unset, .unset] [(.ref w_MONTH)]) _
      refine XS.astoreN X7.here hx rfl (hb hby at_4) rfl rfl (l' := #[iv p0, rv w_MONTH, .unset]) rfl ?_
      show OwnS p e below T7 (mkF m 5 #[iv p0, rv w_MONTH, .unset] []) _
      refine XS.aloadN X7.here hx rfl (hb hby at_5) rfl rfl ?_
      show OwnS p e below T7 (mkF m 6 #[iv p0, rv w_MONTH, .unset] [(.ref w_MONTH)]) _
      refine st8.trans ?_
      show OwnS p e below T8 (mkF m 9 #[iv p0, rv w_MONTH, .unset] [(.ref w_MONTH)]) _
      refine XS.astoreN X8.here hx rfl (hb hby at_9) rfl rfl (l' := #[iv p0, rv w_MONTH, rv w_MONTH]) rfl ?_
      show OwnS p e below T8 (mkF m 10 #[iv p0, rv w_MONTH, rv w_MONTH] []) _
      refine XS.aloadN X8.here hx rfl (hb hby at_10) rfl rfl ?_
      show OwnS p e below T8 (mkF m 11 #[iv p0, rv w_MONTH, rv w_MONTH] [(.ref w_MONTH)]) _
      refine XS.ifnonnullYes X8.here hx rfl (pc0 := 11) (pc' := 16) rfl (hb hby at_11) rfl (by decide) (by decide) ?_
      show OwnS p e below T8 (mkF m 16 #[iv p0, rv w_MONTH, rv w_MONTH] []) _
      refine XS.aloadN X8.here hx rfl (hb hby at_16) rfl rfl ?_
      show OwnS p e below T8 (mkF m 17 #[iv p0, rv w_MONTH, rv w_MONTH] [(.ref w_MONTH)]) _
      refine st9 _ ?_
      show OwnS p e below T9 (mkF m 20 #[iv p0, rv w_MONTH, rv w_MONTH] [(.ref w_SECOND), (.ref w_MONTH)]) _
      refine Jvm.RoadKit.acmp (g := (mkF m 20 #[iv p0, rv w_MONTH, rv w_MONTH] [(.ref w_SECOND), (.ref w_MONTH)])) X9 hx rfl rfl rfl (pc0 := 20) (pc' := 25) (same := false) rfl (hb hby at_20) rfl (decide_eq_false fun q => ne_MONTH (Value.ref.inj q)) (by decide) (by decide) ?_
      show OwnS p e below T9 (mkF m 25 #[iv p0, rv w_MONTH, rv w_MONTH] []) _
      refine XS.aloadN X9.here hx rfl (hb hby at_25) rfl rfl ?_
      show OwnS p e below T9 (mkF m 26 #[iv p0, rv w_MONTH, rv w_MONTH] [(.ref w_MONTH)]) _
      refine st10.trans ?_
      show OwnS p e below T10 (mkF m 29 #[iv p0, rv w_MONTH, rv w_MONTH] [(.ref w_MONTH)]) _
      refine XS.aloadN X10.here hx rfl (hb hby at_29) rfl rfl ?_
      show OwnS p e below T10 (mkF m 30 #[iv p0, rv w_MONTH, rv w_MONTH] [(.ref w_MONTH), (.ref w_MONTH)]) _
      refine Jvm.RoadKit.acmp (g := (mkF m 30 #[iv p0, rv w_MONTH, rv w_MONTH] [(.ref w_MONTH), (.ref w_MONTH)])) X10 hx rfl rfl rfl (pc0 := 30) (pc' := 35) (same := true) rfl (hb hby at_30) rfl (decide_eq_true rfl) (by decide) (by decide) ?_
      show OwnS p e below T10 (mkF m 35 #[iv p0, rv w_MONTH, rv w_MONTH] []) _
      refine XS.aloadN X10.here hx rfl (hb hby at_35) rfl rfl ?_
      show OwnS p e below T10 (mkF m 36 #[iv p0, rv w_MONTH, rv w_MONTH] [(.ref w_MONTH)]) _
      refine XS.aloadN X10.here hx rfl (hb hby at_36) rfl rfl ?_
      show OwnS p e below T10 (mkF m 37 #[iv p0, rv w_MONTH, rv w_MONTH] [(.ref w_MONTH), (.ref w_MONTH)]) _
      refine st11.trans ?_
      show OwnS p e below T11 (mkF m 40 #[iv p0, rv w_MONTH, rv w_MONTH] [(.int 0)]) _
      refine XS.ifYes X11.here hx rfl (pc0 := 40) (pc' := 45) rfl (hb hby at_40) rfl ((if0 _ _).trans (flt (by decide : ¬ ((0 : Int32) < (0 : Int32)))).2.1) (by decide) (by decide) ?_
      show OwnS p e below T11 (mkF m 45 #[iv p0, rv w_MONTH, rv w_MONTH] []) _
      refine XS.aloadN X11.here hx rfl (hb hby at_45) rfl rfl ?_
      show OwnS p e below T11 (mkF m 46 #[iv p0, rv w_MONTH, rv w_MONTH] [(.ref w_MONTH)]) _
      refine st12.trans ?_
      show OwnS p e below T12 (mkF m 49 #[iv p0, rv w_MONTH, rv w_MONTH] [(.int 6)]) _
      refine XS.bipush X12.here hx rfl (hb hby at_49) ?_
      show OwnS p e below T12 (mkF m 51 #[iv p0, rv w_MONTH, rv w_MONTH] [(.int 14), (.int 6)]) _
      refine XS.icmpYes X12.here hx rfl (pc0 := 51) (pc' := 69) rfl (hb hby at_51) rfl (feq (by decide : ¬ ((6 : Int32) = (14 : Int32)))).2 (by decide) (by decide) ?_
      show OwnS p e below T12 (mkF m 69 #[iv p0, rv w_MONTH, rv w_MONTH] []) _
      refine XS.aloadN X12.here hx rfl (hb hby at_69) rfl rfl ?_
      show OwnS p e below T12 (mkF m 70 #[iv p0, rv w_MONTH, rv w_MONTH] [(.ref w_MONTH)]) _
      refine XS.aloadN X12.here hx rfl (hb hby at_70) rfl rfl ?_
      show OwnS p e below T12 (mkF m 71 #[iv p0, rv w_MONTH, rv w_MONTH] [(.ref w_MONTH), (.ref w_MONTH)]) _
      refine Jvm.RoadKit.acmp (g := (mkF m 71 #[iv p0, rv w_MONTH, rv w_MONTH] [(.ref w_MONTH), (.ref w_MONTH)])) X12 hx rfl rfl rfl (pc0 := 71) (pc' := 74) (same := true) rfl (hb hby at_71) rfl (decide_eq_true rfl) (by decide) (by decide) ?_
      show OwnS p e below T12 (mkF m 74 #[iv p0, rv w_MONTH, rv w_MONTH] []) _
      refine XS.iconst X12.here hx rfl (hb hby at_74) ?_
      show OwnS p e below T12 (mkF m 75 #[iv p0, rv w_MONTH, rv w_MONTH] [(.int 1)]) _
      refine XS.goto X12.here hx rfl (pc0 := 75) (pc' := 79) rfl (hb hby at_75) (by decide) (by decide) ?_
      show OwnS p e below T12 (mkF m 79 #[iv p0, rv w_MONTH, rv w_MONTH] [(.int 1)]) _
      exact retN X12 hx (t := .boolean) Bd.returns (by simp) (hb hby at_79) hr
    · show Q_0 Z p0 w_YEAR w_MONTH w_DAY w_HOUR w_MINUTE w_SECOND w_MILLISECOND w_DIGITS kD mir_Precision h0 n0 _ T12.heap _
      rw [e12]
      exact ⟨rfl, N12, trivial⟩
  · obtain ⟨_, _, ⟨T13, L13, j13, i13⟩, -, X13, ⟨Lc13, hQ13, l13, y13, z13⟩, st13⟩ := Jvm.LawKit.callS X0 hx (y := (⟨cS1, "pick", cS4⟩ : MethodName)) hown (mvT hZ (own_at hw 0 rfl)) (mvT hZ (own_at hw 1 rfl)) (mvT hZ (own_at hw 2 rfl)) (mvT hZ (own_at hw 3 rfl)) (by decide) (backOf (W := 0) (rm1_2 l Z a0 hw [] p0 w_DAY h0 n0 Z0 hk S_DAY) hZ (own_at hw 3 rfl) (own_at hw 2 rfl) (by decide) (by decide)) (g := (mkF m 1 #[iv p0, .unset, .unset] [(.int p0)])) rfl (by rw [hml]; rfl) (argsL := [(.int p0)]) (rest := []) (lenOf pd_1 rfl) rfl (by show 2 * 0 + _ ≤ _; exact Nat.le_of_eq rfl) (hb hby at_1) (fun _ _ => ⟨rfl, e0, (by decide : 0 + 0 ≤ _), (by decide : 0 + 0 ≤ _)⟩)
    dsimp only [Pt.U, Pt.locs, Pt.cells, Pt.slots] at X13 l13 y13 z13 st13 hQ13
    subst l13 y13 z13
    obtain ⟨rfl, N13q, e13⟩ := hQ13
    have N13 := Fr.app N0 N13q
    obtain ⟨cq14, kq14, q14a, q14b, q14c⟩ := isOf hZ e13 E_w_DAY
    obtain ⟨_, _, ⟨T14, L14, j14, i14⟩, -, X14, ⟨Lc14, hQ14, l14, y14, z14⟩, st14⟩ := X13.virtualBack hx (y := (⟨cS0, "combined", cS2⟩ : MethodName)) (z := (⟨cS0, "combined", cS2⟩ : MethodName)) hown (mvT hZ (own_at hw 8 rfl)) (mvT hZ (own_at hw 9 rfl)) (notFace_of_selects (args := #[]) (mvT hZ (own_at hw 11 rfl))) (mvT hZ (own_at hw 11 rfl)) (mvT hZ (own_at hw 10 rfl)) (by decide) (backOf (W := 0) (rm2_o l Z a0 hw [] w_DAY w_SECOND h0 n0 Z0 S_SECOND ne_DAY) hZ (own_at hw 12 rfl) (own_at hw 6 rfl) (by decide) (by decide)) q14a q14c (g := (mkF m 6 #[iv p0, rv w_DAY, .unset] [(.ref w_DAY)])) rfl (by rw [hml]; rfl) (Steps.refl _) (argsL := []) (rest := []) (lenOf pd_2 rfl) rfl (by show 2 * 0 + _ ≤ _; exact Nat.le_of_eq rfl) (hb hby at_6) (fun _ _ => ⟨rfl, e13, (by decide : 0 + 0 ≤ _), (by decide : 0 + 0 ≤ _)⟩)
    dsimp only [Pt.U, Pt.locs, Pt.cells, Pt.slots] at X14 l14 y14 z14 st14 hQ14
    subst l14 y14 z14
    obtain ⟨rfl, N14q, e14⟩ := hQ14
    have N14 := Fr.app N13 N14q
    obtain ⟨T15, X15, e15, st15⟩ := getS2 X14 hx hZ hown (host := "") (Or.inl (own_at hw 15 rfl)) Via.refl e14 S_SECOND (g := (mkF m 17 #[iv p0, rv w_DAY, rv w_DAY] [(.ref w_DAY)])) rfl (hb hby at_17)
    obtain ⟨cq16, kq16, q16a, q16b, q16c⟩ := isOf hZ e15 E_w_DAY
    obtain ⟨_, _, ⟨T16, L16, j16, i16⟩, -, X16, ⟨Lc16, hQ16, l16, y16, z16⟩, st16⟩ := X15.virtualBack hx (y := (⟨cS0, "combined", cS2⟩ : MethodName)) (z := (⟨cS0, "combined", cS2⟩ : MethodName)) hown (mvT hZ (own_at hw 8 rfl)) (mvT hZ (own_at hw 9 rfl)) (notFace_of_selects (args := #[]) (mvT hZ (own_at hw 11 rfl))) (mvT hZ (own_at hw 11 rfl)) (mvT hZ (own_at hw 10 rfl)) (by decide) (backOf (W := 0) (rm2_o l Z a0 hw [] w_DAY w_SECOND h0 n0 Z0 S_SECOND ne_DAY) hZ (own_at hw 12 rfl) (own_at hw 6 rfl) (by decide) (by decide)) q16a q16c (g := (mkF m 26 #[iv p0, rv w_DAY, rv w_DAY] [(.ref w_DAY)])) rfl (by rw [hml]; rfl) (Steps.refl _) (argsL := []) (rest := []) (lenOf pd_2 rfl) rfl (by show 2 * 0 + _ ≤ _; exact Nat.le_of_eq rfl) (hb hby at_26) (fun _ _ => ⟨rfl, e15, (by decide : 0 + 0 ≤ _), (by decide : 0 + 0 ≤ _)⟩)
    dsimp only [Pt.U, Pt.locs, Pt.cells, Pt.slots] at X16 l16 y16 z16 st16 hQ16
    subst l16 y16 z16
    obtain ⟨rfl, N16q, e16⟩ := hQ16
    have N16 := Fr.app N14 N16q
    obtain ⟨cq17, kq17, q17a, q17b, q17c⟩ := isOf hZ e16 E_w_DAY
    obtain ⟨_, _, ⟨T17, L17, j17, i17⟩, -, X17, ⟨Lc17, hQ17, l17, y17, z17⟩, st17⟩ := X16.virtualBackUp hx (owner := cS5) (x := (⟨cS0, "compareTo", "(Ljava/lang/Enum;)I"⟩ : MethodName)) (y := (⟨cS5, "compareTo", "(Ljava/lang/Enum;)I"⟩ : MethodName)) hown (mvT hZ (own_at hw 16 rfl)) (mvT hZ (own_at hw 17 rfl)) (mvT hZ (own_at hw 18 rfl)) (by decide) (mvT hZ (own_at hw 20 rfl)) (mvT hZ (own_at hw 19 rfl)) (backOf (W := 0) (rm3_t l Z a0 hw [] w_DAY w_DAY mir_Precision (2 : Int32) (2 : Int32) h0 n0 Z0 E_w_DAY E_w_DAY M_mir_Precision F_ordinal_w_DAY F_ordinal_w_DAY) hZ (own_at hw 22 rfl) (own_at hw 21 rfl) (by decide) (by decide)) q17a q17c (g := (mkF m 37 #[iv p0, rv w_DAY, rv w_DAY] [(.ref w_DAY), (.ref w_DAY)])) rfl (by rw [hml]; rfl) (Steps.refl _) (argsL := [(.ref w_DAY)]) (rest := []) (lenOf pd_3 rfl) rfl (by show 2 * 0 + _ ≤ _; exact Nat.le_of_eq rfl) (hb hby at_37) (fun _ _ => ⟨rfl, e16, (by decide : 0 + 0 ≤ _), (by decide : 0 + 0 ≤ _)⟩)
    dsimp only [Pt.U, Pt.locs, Pt.cells, Pt.slots] at X17 l17 y17 z17 st17 hQ17
    subst l17 y17 z17
    obtain ⟨rfl, N17q, e17⟩ := hQ17
    have N17 := Fr.app N16 N17q
    obtain ⟨cq18, kq18, q18a, q18b, q18c⟩ := isOf hZ e17 E_w_DAY
    obtain ⟨_, _, ⟨T18, L18, j18, i18⟩, -, X18, ⟨Lc18, hQ18, l18, y18, z18⟩, st18⟩ := X17.virtualBack hx (y := (⟨cS0, "digits", "()I"⟩ : MethodName)) (z := (⟨cS0, "digits", "()I"⟩ : MethodName)) hown (mvT hZ (own_at hw 31 rfl)) (mvT hZ (own_at hw 32 rfl)) (notFace_of_selects (args := #[]) (mvT hZ (own_at hw 34 rfl))) (mvT hZ (own_at hw 34 rfl)) (mvT hZ (own_at hw 33 rfl)) (by decide) (backOf (W := 0) (rm4_2 l Z a0 hw [] w_DAY kD w_DIGITS h0 n0 Z0 S_DIGITS V_w_DIGITS E_w_DAY F_ordinal_w_DAY) hZ (own_at hw 35 rfl) (own_at hw 6 rfl) (by decide) (by decide)) q18a q18c (g := (mkF m 46 #[iv p0, rv w_DAY, rv w_DAY] [(.ref w_DAY)])) rfl (by rw [hml]; rfl) (Steps.refl _) (argsL := []) (rest := []) (lenOf pd_0 rfl) rfl (by show 2 * 0 + _ ≤ _; exact Nat.le_of_eq rfl) (hb hby at_46) (fun _ _ => ⟨rfl, e17, (by decide : 0 + 0 ≤ _), (by decide : 0 + 0 ≤ _)⟩)
    dsimp only [Pt.U, Pt.locs, Pt.cells, Pt.slots] at X18 l18 y18 z18 st18 hQ18
    subst l18 y18 z18
    obtain ⟨rfl, N18q, e18⟩ := hQ18
    have N18 := Fr.app N17 N18q
    obtain ⟨fs, hr, hrun, hended, hW, hsame⟩ := X18.leave (v := some (.int 1)) (fun h => by rw [Bd.returns] at h; cases h)
    refine ⟨_, _, k0 _ ?_, hrun, hended, _, _, rfl, ?_, ⟨_, rfl⟩, hW, hsame.mono (by decide) (by decide)⟩
    · show OwnS p e below s₁ (mkF m 0 #[iv p0, .unset, .unset] []) _
      refine XS.iloadN X0.here hx rfl (hb hby at_0) rfl ?_
      show OwnS p e below s₁ (mkF m 1 #[iv p0, .unset, .unset] [(.int p0)]) _
      refine st13 _ ?_
      show OwnS p e below T13 (mkF m 4 #[iv p0, .unset, .unset] [(.ref w_DAY)]) _
      refine XS.astoreN X13.here hx rfl (hb hby at_4) rfl rfl (l' := #[iv p0, rv w_DAY, .unset]) rfl ?_
      show OwnS p e below T13 (mkF m 5 #[iv p0, rv w_DAY, .unset] []) _
      refine XS.aloadN X13.here hx rfl (hb hby at_5) rfl rfl ?_
      show OwnS p e below T13 (mkF m 6 #[iv p0, rv w_DAY, .unset] [(.ref w_DAY)]) _
      refine st14.trans ?_
      show OwnS p e below T14 (mkF m 9 #[iv p0, rv w_DAY, .unset] [(.ref w_DAY)]) _
      refine XS.astoreN X14.here hx rfl (hb hby at_9) rfl rfl (l' := #[iv p0, rv w_DAY, rv w_DAY]) rfl ?_
      show OwnS p e below T14 (mkF m 10 #[iv p0, rv w_DAY, rv w_DAY] []) _
      refine XS.aloadN X14.here hx rfl (hb hby at_10) rfl rfl ?_
      show OwnS p e below T14 (mkF m 11 #[iv p0, rv w_DAY, rv w_DAY] [(.ref w_DAY)]) _
      refine XS.ifnonnullYes X14.here hx rfl (pc0 := 11) (pc' := 16) rfl (hb hby at_11) rfl (by decide) (by decide) ?_
      show OwnS p e below T14 (mkF m 16 #[iv p0, rv w_DAY, rv w_DAY] []) _
      refine XS.aloadN X14.here hx rfl (hb hby at_16) rfl rfl ?_
      show OwnS p e below T14 (mkF m 17 #[iv p0, rv w_DAY, rv w_DAY] [(.ref w_DAY)]) _
      refine st15 _ ?_
      show OwnS p e below T15 (mkF m 20 #[iv p0, rv w_DAY, rv w_DAY] [(.ref w_SECOND), (.ref w_DAY)]) _
      refine Jvm.RoadKit.acmp (g := (mkF m 20 #[iv p0, rv w_DAY, rv w_DAY] [(.ref w_SECOND), (.ref w_DAY)])) X15 hx rfl rfl rfl (pc0 := 20) (pc' := 25) (same := false) rfl (hb hby at_20) rfl (decide_eq_false fun q => ne_DAY (Value.ref.inj q)) (by decide) (by decide) ?_
      show OwnS p e below T15 (mkF m 25 #[iv p0, rv w_DAY, rv w_DAY] []) _
      refine XS.aloadN X15.here hx rfl (hb hby at_25) rfl rfl ?_
      show OwnS p e below T15 (mkF m 26 #[iv p0, rv w_DAY, rv w_DAY] [(.ref w_DAY)]) _
      refine st16.trans ?_
      show OwnS p e below T16 (mkF m 29 #[iv p0, rv w_DAY, rv w_DAY] [(.ref w_DAY)]) _
      refine XS.aloadN X16.here hx rfl (hb hby at_29) rfl rfl ?_
      show OwnS p e below T16 (mkF m 30 #[iv p0, rv w_DAY, rv w_DAY] [(.ref w_DAY), (.ref w_DAY)]) _
      refine Jvm.RoadKit.acmp (g := (mkF m 30 #[iv p0, rv w_DAY, rv w_DAY] [(.ref w_DAY), (.ref w_DAY)])) X16 hx rfl rfl rfl (pc0 := 30) (pc' := 35) (same := true) rfl (hb hby at_30) rfl (decide_eq_true rfl) (by decide) (by decide) ?_
      show OwnS p e below T16 (mkF m 35 #[iv p0, rv w_DAY, rv w_DAY] []) _
      refine XS.aloadN X16.here hx rfl (hb hby at_35) rfl rfl ?_
      show OwnS p e below T16 (mkF m 36 #[iv p0, rv w_DAY, rv w_DAY] [(.ref w_DAY)]) _
      refine XS.aloadN X16.here hx rfl (hb hby at_36) rfl rfl ?_
      show OwnS p e below T16 (mkF m 37 #[iv p0, rv w_DAY, rv w_DAY] [(.ref w_DAY), (.ref w_DAY)]) _
      refine st17.trans ?_
      show OwnS p e below T17 (mkF m 40 #[iv p0, rv w_DAY, rv w_DAY] [(.int 0)]) _
      refine XS.ifYes X17.here hx rfl (pc0 := 40) (pc' := 45) rfl (hb hby at_40) rfl ((if0 _ _).trans (flt (by decide : ¬ ((0 : Int32) < (0 : Int32)))).2.1) (by decide) (by decide) ?_
      show OwnS p e below T17 (mkF m 45 #[iv p0, rv w_DAY, rv w_DAY] []) _
      refine XS.aloadN X17.here hx rfl (hb hby at_45) rfl rfl ?_
      show OwnS p e below T17 (mkF m 46 #[iv p0, rv w_DAY, rv w_DAY] [(.ref w_DAY)]) _
      refine st18.trans ?_
      show OwnS p e below T18 (mkF m 49 #[iv p0, rv w_DAY, rv w_DAY] [(.int 8)]) _
      refine XS.bipush X18.here hx rfl (hb hby at_49) ?_
      show OwnS p e below T18 (mkF m 51 #[iv p0, rv w_DAY, rv w_DAY] [(.int 14), (.int 8)]) _
      refine XS.icmpYes X18.here hx rfl (pc0 := 51) (pc' := 69) rfl (hb hby at_51) rfl (feq (by decide : ¬ ((8 : Int32) = (14 : Int32)))).2 (by decide) (by decide) ?_
      show OwnS p e below T18 (mkF m 69 #[iv p0, rv w_DAY, rv w_DAY] []) _
      refine XS.aloadN X18.here hx rfl (hb hby at_69) rfl rfl ?_
      show OwnS p e below T18 (mkF m 70 #[iv p0, rv w_DAY, rv w_DAY] [(.ref w_DAY)]) _
      refine XS.aloadN X18.here hx rfl (hb hby at_70) rfl rfl ?_
      show OwnS p e below T18 (mkF m 71 #[iv p0, rv w_DAY, rv w_DAY] [(.ref w_DAY), (.ref w_DAY)]) _
      refine Jvm.RoadKit.acmp (g := (mkF m 71 #[iv p0, rv w_DAY, rv w_DAY] [(.ref w_DAY), (.ref w_DAY)])) X18 hx rfl rfl rfl (pc0 := 71) (pc' := 74) (same := true) rfl (hb hby at_71) rfl (decide_eq_true rfl) (by decide) (by decide) ?_
      show OwnS p e below T18 (mkF m 74 #[iv p0, rv w_DAY, rv w_DAY] []) _
      refine XS.iconst X18.here hx rfl (hb hby at_74) ?_
      show OwnS p e below T18 (mkF m 75 #[iv p0, rv w_DAY, rv w_DAY] [(.int 1)]) _
      refine XS.goto X18.here hx rfl (pc0 := 75) (pc' := 79) rfl (hb hby at_75) (by decide) (by decide) ?_
      show OwnS p e below T18 (mkF m 79 #[iv p0, rv w_DAY, rv w_DAY] [(.int 1)]) _
      exact retN X18 hx (t := .boolean) Bd.returns (by simp) (hb hby at_79) hr
    · show Q_0 Z p0 w_YEAR w_MONTH w_DAY w_HOUR w_MINUTE w_SECOND w_MILLISECOND w_DIGITS kD mir_Precision h0 n0 _ T18.heap _
      rw [e18]
      exact ⟨rfl, N18, trivial⟩
  · obtain ⟨_, _, ⟨T19, L19, j19, i19⟩, -, X19, ⟨Lc19, hQ19, l19, y19, z19⟩, st19⟩ := Jvm.LawKit.callS X0 hx (y := (⟨cS1, "pick", cS4⟩ : MethodName)) hown (mvT hZ (own_at hw 0 rfl)) (mvT hZ (own_at hw 1 rfl)) (mvT hZ (own_at hw 2 rfl)) (mvT hZ (own_at hw 3 rfl)) (by decide) (backOf (W := 0) (rm1_3 l Z a0 hw [] p0 w_HOUR h0 n0 Z0 hk S_HOUR) hZ (own_at hw 3 rfl) (own_at hw 2 rfl) (by decide) (by decide)) (g := (mkF m 1 #[iv p0, .unset, .unset] [(.int p0)])) rfl (by rw [hml]; rfl) (argsL := [(.int p0)]) (rest := []) (lenOf pd_1 rfl) rfl (by show 2 * 0 + _ ≤ _; exact Nat.le_of_eq rfl) (hb hby at_1) (fun _ _ => ⟨rfl, e0, (by decide : 0 + 0 ≤ _), (by decide : 0 + 0 ≤ _)⟩)
    dsimp only [Pt.U, Pt.locs, Pt.cells, Pt.slots] at X19 l19 y19 z19 st19 hQ19
    subst l19 y19 z19
    obtain ⟨rfl, N19q, e19⟩ := hQ19
    have N19 := Fr.app N0 N19q
    obtain ⟨cq20, kq20, q20a, q20b, q20c⟩ := isOf hZ e19 E_w_HOUR
    obtain ⟨_, _, ⟨T20, L20, j20, i20⟩, -, X20, ⟨Lc20, hQ20, l20, y20, z20⟩, st20⟩ := X19.virtualBack hx (y := (⟨cS0, "combined", cS2⟩ : MethodName)) (z := (⟨cS0, "combined", cS2⟩ : MethodName)) hown (mvT hZ (own_at hw 8 rfl)) (mvT hZ (own_at hw 9 rfl)) (notFace_of_selects (args := #[]) (mvT hZ (own_at hw 11 rfl))) (mvT hZ (own_at hw 11 rfl)) (mvT hZ (own_at hw 10 rfl)) (by decide) (backOf (W := 0) (rm2_o l Z a0 hw [] w_HOUR w_SECOND h0 n0 Z0 S_SECOND ne_HOUR) hZ (own_at hw 12 rfl) (own_at hw 6 rfl) (by decide) (by decide)) q20a q20c (g := (mkF m 6 #[iv p0, rv w_HOUR, .unset] [(.ref w_HOUR)])) rfl (by rw [hml]; rfl) (Steps.refl _) (argsL := []) (rest := []) (lenOf pd_2 rfl) rfl (by show 2 * 0 + _ ≤ _; exact Nat.le_of_eq rfl) (hb hby at_6) (fun _ _ => ⟨rfl, e19, (by decide : 0 + 0 ≤ _), (by decide : 0 + 0 ≤ _)⟩)
    dsimp only [Pt.U, Pt.locs, Pt.cells, Pt.slots] at X20 l20 y20 z20 st20 hQ20
    subst l20 y20 z20
    obtain ⟨rfl, N20q, e20⟩ := hQ20
    have N20 := Fr.app N19 N20q
    obtain ⟨T21, X21, e21, st21⟩ := getS2 X20 hx hZ hown (host := "") (Or.inl (own_at hw 15 rfl)) Via.refl e20 S_SECOND (g := (mkF m 17 #[iv p0, rv w_HOUR, rv w_HOUR] [(.ref w_HOUR)])) rfl (hb hby at_17)
    obtain ⟨cq22, kq22, q22a, q22b, q22c⟩ := isOf hZ e21 E_w_HOUR
    obtain ⟨_, _, ⟨T22, L22, j22, i22⟩, -, X22, ⟨Lc22, hQ22, l22, y22, z22⟩, st22⟩ := X21.virtualBack hx (y := (⟨cS0, "combined", cS2⟩ : MethodName)) (z := (⟨cS0, "combined", cS2⟩ : MethodName)) hown (mvT hZ (own_at hw 8 rfl)) (mvT hZ (own_at hw 9 rfl)) (notFace_of_selects (args := #[]) (mvT hZ (own_at hw 11 rfl))) (mvT hZ (own_at hw 11 rfl)) (mvT hZ (own_at hw 10 rfl)) (by decide) (backOf (W := 0) (rm2_o l Z a0 hw [] w_HOUR w_SECOND h0 n0 Z0 S_SECOND ne_HOUR) hZ (own_at hw 12 rfl) (own_at hw 6 rfl) (by decide) (by decide)) q22a q22c (g := (mkF m 26 #[iv p0, rv w_HOUR, rv w_HOUR] [(.ref w_HOUR)])) rfl (by rw [hml]; rfl) (Steps.refl _) (argsL := []) (rest := []) (lenOf pd_2 rfl) rfl (by show 2 * 0 + _ ≤ _; exact Nat.le_of_eq rfl) (hb hby at_26) (fun _ _ => ⟨rfl, e21, (by decide : 0 + 0 ≤ _), (by decide : 0 + 0 ≤ _)⟩)
    dsimp only [Pt.U, Pt.locs, Pt.cells, Pt.slots] at X22 l22 y22 z22 st22 hQ22
    subst l22 y22 z22
    obtain ⟨rfl, N22q, e22⟩ := hQ22
    have N22 := Fr.app N20 N22q
    obtain ⟨cq23, kq23, q23a, q23b, q23c⟩ := isOf hZ e22 E_w_HOUR
    obtain ⟨_, _, ⟨T23, L23, j23, i23⟩, -, X23, ⟨Lc23, hQ23, l23, y23, z23⟩, st23⟩ := X22.virtualBackUp hx (owner := cS5) (x := (⟨cS0, "compareTo", "(Ljava/lang/Enum;)I"⟩ : MethodName)) (y := (⟨cS5, "compareTo", "(Ljava/lang/Enum;)I"⟩ : MethodName)) hown (mvT hZ (own_at hw 16 rfl)) (mvT hZ (own_at hw 17 rfl)) (mvT hZ (own_at hw 18 rfl)) (by decide) (mvT hZ (own_at hw 20 rfl)) (mvT hZ (own_at hw 19 rfl)) (backOf (W := 0) (rm3_t l Z a0 hw [] w_HOUR w_HOUR mir_Precision (3 : Int32) (3 : Int32) h0 n0 Z0 E_w_HOUR E_w_HOUR M_mir_Precision F_ordinal_w_HOUR F_ordinal_w_HOUR) hZ (own_at hw 22 rfl) (own_at hw 21 rfl) (by decide) (by decide)) q23a q23c (g := (mkF m 37 #[iv p0, rv w_HOUR, rv w_HOUR] [(.ref w_HOUR), (.ref w_HOUR)])) rfl (by rw [hml]; rfl) (Steps.refl _) (argsL := [(.ref w_HOUR)]) (rest := []) (lenOf pd_3 rfl) rfl (by show 2 * 0 + _ ≤ _; exact Nat.le_of_eq rfl) (hb hby at_37) (fun _ _ => ⟨rfl, e22, (by decide : 0 + 0 ≤ _), (by decide : 0 + 0 ≤ _)⟩)
    dsimp only [Pt.U, Pt.locs, Pt.cells, Pt.slots] at X23 l23 y23 z23 st23 hQ23
    subst l23 y23 z23
    obtain ⟨rfl, N23q, e23⟩ := hQ23
    have N23 := Fr.app N22 N23q
    obtain ⟨cq24, kq24, q24a, q24b, q24c⟩ := isOf hZ e23 E_w_HOUR
    obtain ⟨_, _, ⟨T24, L24, j24, i24⟩, -, X24, ⟨Lc24, hQ24, l24, y24, z24⟩, st24⟩ := X23.virtualBack hx (y := (⟨cS0, "digits", "()I"⟩ : MethodName)) (z := (⟨cS0, "digits", "()I"⟩ : MethodName)) hown (mvT hZ (own_at hw 31 rfl)) (mvT hZ (own_at hw 32 rfl)) (notFace_of_selects (args := #[]) (mvT hZ (own_at hw 34 rfl))) (mvT hZ (own_at hw 34 rfl)) (mvT hZ (own_at hw 33 rfl)) (by decide) (backOf (W := 0) (rm4_3 l Z a0 hw [] w_HOUR kD w_DIGITS h0 n0 Z0 S_DIGITS V_w_DIGITS E_w_HOUR F_ordinal_w_HOUR) hZ (own_at hw 35 rfl) (own_at hw 6 rfl) (by decide) (by decide)) q24a q24c (g := (mkF m 46 #[iv p0, rv w_HOUR, rv w_HOUR] [(.ref w_HOUR)])) rfl (by rw [hml]; rfl) (Steps.refl _) (argsL := []) (rest := []) (lenOf pd_0 rfl) rfl (by show 2 * 0 + _ ≤ _; exact Nat.le_of_eq rfl) (hb hby at_46) (fun _ _ => ⟨rfl, e23, (by decide : 0 + 0 ≤ _), (by decide : 0 + 0 ≤ _)⟩)
    dsimp only [Pt.U, Pt.locs, Pt.cells, Pt.slots] at X24 l24 y24 z24 st24 hQ24
    subst l24 y24 z24
    obtain ⟨rfl, N24q, e24⟩ := hQ24
    have N24 := Fr.app N23 N24q
    obtain ⟨fs, hr, hrun, hended, hW, hsame⟩ := X24.leave (v := some (.int 1)) (fun h => by rw [Bd.returns] at h; cases h)
    refine ⟨_, _, k0 _ ?_, hrun, hended, _, _, rfl, ?_, ⟨_, rfl⟩, hW, hsame.mono (by decide) (by decide)⟩
    · show OwnS p e below s₁ (mkF m 0 #[iv p0, .unset, .unset] []) _
      refine XS.iloadN X0.here hx rfl (hb hby at_0) rfl ?_
      show OwnS p e below s₁ (mkF m 1 #[iv p0, .unset, .unset] [(.int p0)]) _
      refine st19 _ ?_
      show OwnS p e below T19 (mkF m 4 #[iv p0, .unset, .unset] [(.ref w_HOUR)]) _
      refine XS.astoreN X19.here hx rfl (hb hby at_4) rfl rfl (l' := #[iv p0, rv w_HOUR, .unset]) rfl ?_
      show OwnS p e below T19 (mkF m 5 #[iv p0, rv w_HOUR, .unset] []) _
      refine XS.aloadN X19.here hx rfl (hb hby at_5) rfl rfl ?_
      show OwnS p e below T19 (mkF m 6 #[iv p0, rv w_HOUR, .unset] [(.ref w_HOUR)]) _
      refine st20.trans ?_
      show OwnS p e below T20 (mkF m 9 #[iv p0, rv w_HOUR, .unset] [(.ref w_HOUR)]) _
      refine XS.astoreN X20.here hx rfl (hb hby at_9) rfl rfl (l' := #[iv p0, rv w_HOUR, rv w_HOUR]) rfl ?_
      show OwnS p e below T20 (mkF m 10 #[iv p0, rv w_HOUR, rv w_HOUR] []) _
      refine XS.aloadN X20.here hx rfl (hb hby at_10) rfl rfl ?_
      show OwnS p e below T20 (mkF m 11 #[iv p0, rv w_HOUR, rv w_HOUR] [(.ref w_HOUR)]) _
      refine XS.ifnonnullYes X20.here hx rfl (pc0 := 11) (pc' := 16) rfl (hb hby at_11) rfl (by decide) (by decide) ?_
      show OwnS p e below T20 (mkF m 16 #[iv p0, rv w_HOUR, rv w_HOUR] []) _
      refine XS.aloadN X20.here hx rfl (hb hby at_16) rfl rfl ?_
      show OwnS p e below T20 (mkF m 17 #[iv p0, rv w_HOUR, rv w_HOUR] [(.ref w_HOUR)]) _
      refine st21 _ ?_
      show OwnS p e below T21 (mkF m 20 #[iv p0, rv w_HOUR, rv w_HOUR] [(.ref w_SECOND), (.ref w_HOUR)]) _
      refine Jvm.RoadKit.acmp (g := (mkF m 20 #[iv p0, rv w_HOUR, rv w_HOUR] [(.ref w_SECOND), (.ref w_HOUR)])) X21 hx rfl rfl rfl (pc0 := 20) (pc' := 25) (same := false) rfl (hb hby at_20) rfl (decide_eq_false fun q => ne_HOUR (Value.ref.inj q)) (by decide) (by decide) ?_
      show OwnS p e below T21 (mkF m 25 #[iv p0, rv w_HOUR, rv w_HOUR] []) _
      refine XS.aloadN X21.here hx rfl (hb hby at_25) rfl rfl ?_
      show OwnS p e below T21 (mkF m 26 #[iv p0, rv w_HOUR, rv w_HOUR] [(.ref w_HOUR)]) _
      refine st22.trans ?_
      show OwnS p e below T22 (mkF m 29 #[iv p0, rv w_HOUR, rv w_HOUR] [(.ref w_HOUR)]) _
      refine XS.aloadN X22.here hx rfl (hb hby at_29) rfl rfl ?_
      show OwnS p e below T22 (mkF m 30 #[iv p0, rv w_HOUR, rv w_HOUR] [(.ref w_HOUR), (.ref w_HOUR)]) _
      refine Jvm.RoadKit.acmp (g := (mkF m 30 #[iv p0, rv w_HOUR, rv w_HOUR] [(.ref w_HOUR), (.ref w_HOUR)])) X22 hx rfl rfl rfl (pc0 := 30) (pc' := 35) (same := true) rfl (hb hby at_30) rfl (decide_eq_true rfl) (by decide) (by decide) ?_
      show OwnS p e below T22 (mkF m 35 #[iv p0, rv w_HOUR, rv w_HOUR] []) _
      refine XS.aloadN X22.here hx rfl (hb hby at_35) rfl rfl ?_
      show OwnS p e below T22 (mkF m 36 #[iv p0, rv w_HOUR, rv w_HOUR] [(.ref w_HOUR)]) _
      refine XS.aloadN X22.here hx rfl (hb hby at_36) rfl rfl ?_
      show OwnS p e below T22 (mkF m 37 #[iv p0, rv w_HOUR, rv w_HOUR] [(.ref w_HOUR), (.ref w_HOUR)]) _
      refine st23.trans ?_
      show OwnS p e below T23 (mkF m 40 #[iv p0, rv w_HOUR, rv w_HOUR] [(.int 0)]) _
      refine XS.ifYes X23.here hx rfl (pc0 := 40) (pc' := 45) rfl (hb hby at_40) rfl ((if0 _ _).trans (flt (by decide : ¬ ((0 : Int32) < (0 : Int32)))).2.1) (by decide) (by decide) ?_
      show OwnS p e below T23 (mkF m 45 #[iv p0, rv w_HOUR, rv w_HOUR] []) _
      refine XS.aloadN X23.here hx rfl (hb hby at_45) rfl rfl ?_
      show OwnS p e below T23 (mkF m 46 #[iv p0, rv w_HOUR, rv w_HOUR] [(.ref w_HOUR)]) _
      refine st24.trans ?_
      show OwnS p e below T24 (mkF m 49 #[iv p0, rv w_HOUR, rv w_HOUR] [(.int 10)]) _
      refine XS.bipush X24.here hx rfl (hb hby at_49) ?_
      show OwnS p e below T24 (mkF m 51 #[iv p0, rv w_HOUR, rv w_HOUR] [(.int 14), (.int 10)]) _
      refine XS.icmpYes X24.here hx rfl (pc0 := 51) (pc' := 69) rfl (hb hby at_51) rfl (feq (by decide : ¬ ((10 : Int32) = (14 : Int32)))).2 (by decide) (by decide) ?_
      show OwnS p e below T24 (mkF m 69 #[iv p0, rv w_HOUR, rv w_HOUR] []) _
      refine XS.aloadN X24.here hx rfl (hb hby at_69) rfl rfl ?_
      show OwnS p e below T24 (mkF m 70 #[iv p0, rv w_HOUR, rv w_HOUR] [(.ref w_HOUR)]) _
      refine XS.aloadN X24.here hx rfl (hb hby at_70) rfl rfl ?_
      show OwnS p e below T24 (mkF m 71 #[iv p0, rv w_HOUR, rv w_HOUR] [(.ref w_HOUR), (.ref w_HOUR)]) _
      refine Jvm.RoadKit.acmp (g := (mkF m 71 #[iv p0, rv w_HOUR, rv w_HOUR] [(.ref w_HOUR), (.ref w_HOUR)])) X24 hx rfl rfl rfl (pc0 := 71) (pc' := 74) (same := true) rfl (hb hby at_71) rfl (decide_eq_true rfl) (by decide) (by decide) ?_
      show OwnS p e below T24 (mkF m 74 #[iv p0, rv w_HOUR, rv w_HOUR] []) _
      refine XS.iconst X24.here hx rfl (hb hby at_74) ?_
      show OwnS p e below T24 (mkF m 75 #[iv p0, rv w_HOUR, rv w_HOUR] [(.int 1)]) _
      refine XS.goto X24.here hx rfl (pc0 := 75) (pc' := 79) rfl (hb hby at_75) (by decide) (by decide) ?_
      show OwnS p e below T24 (mkF m 79 #[iv p0, rv w_HOUR, rv w_HOUR] [(.int 1)]) _
      exact retN X24 hx (t := .boolean) Bd.returns (by simp) (hb hby at_79) hr
    · show Q_0 Z p0 w_YEAR w_MONTH w_DAY w_HOUR w_MINUTE w_SECOND w_MILLISECOND w_DIGITS kD mir_Precision h0 n0 _ T24.heap _
      rw [e24]
      exact ⟨rfl, N24, trivial⟩
  · obtain ⟨_, _, ⟨T25, L25, j25, i25⟩, -, X25, ⟨Lc25, hQ25, l25, y25, z25⟩, st25⟩ := Jvm.LawKit.callS X0 hx (y := (⟨cS1, "pick", cS4⟩ : MethodName)) hown (mvT hZ (own_at hw 0 rfl)) (mvT hZ (own_at hw 1 rfl)) (mvT hZ (own_at hw 2 rfl)) (mvT hZ (own_at hw 3 rfl)) (by decide) (backOf (W := 0) (rm1_4 l Z a0 hw [] p0 w_MINUTE h0 n0 Z0 hk S_MINUTE) hZ (own_at hw 3 rfl) (own_at hw 2 rfl) (by decide) (by decide)) (g := (mkF m 1 #[iv p0, .unset, .unset] [(.int p0)])) rfl (by rw [hml]; rfl) (argsL := [(.int p0)]) (rest := []) (lenOf pd_1 rfl) rfl (by show 2 * 0 + _ ≤ _; exact Nat.le_of_eq rfl) (hb hby at_1) (fun _ _ => ⟨rfl, e0, (by decide : 0 + 0 ≤ _), (by decide : 0 + 0 ≤ _)⟩)
    dsimp only [Pt.U, Pt.locs, Pt.cells, Pt.slots] at X25 l25 y25 z25 st25 hQ25
    subst l25 y25 z25
    obtain ⟨rfl, N25q, e25⟩ := hQ25
    have N25 := Fr.app N0 N25q
    obtain ⟨cq26, kq26, q26a, q26b, q26c⟩ := isOf hZ e25 E_w_MINUTE
    obtain ⟨_, _, ⟨T26, L26, j26, i26⟩, -, X26, ⟨Lc26, hQ26, l26, y26, z26⟩, st26⟩ := X25.virtualBack hx (y := (⟨cS0, "combined", cS2⟩ : MethodName)) (z := (⟨cS0, "combined", cS2⟩ : MethodName)) hown (mvT hZ (own_at hw 8 rfl)) (mvT hZ (own_at hw 9 rfl)) (notFace_of_selects (args := #[]) (mvT hZ (own_at hw 11 rfl))) (mvT hZ (own_at hw 11 rfl)) (mvT hZ (own_at hw 10 rfl)) (by decide) (backOf (W := 0) (rm2_o l Z a0 hw [] w_MINUTE w_SECOND h0 n0 Z0 S_SECOND ne_MINUTE) hZ (own_at hw 12 rfl) (own_at hw 6 rfl) (by decide) (by decide)) q26a q26c (g := (mkF m 6 #[iv p0, rv w_MINUTE, .unset] [(.ref w_MINUTE)])) rfl (by rw [hml]; rfl) (Steps.refl _) (argsL := []) (rest := []) (lenOf pd_2 rfl) rfl (by show 2 * 0 + _ ≤ _; exact Nat.le_of_eq rfl) (hb hby at_6) (fun _ _ => ⟨rfl, e25, (by decide : 0 + 0 ≤ _), (by decide : 0 + 0 ≤ _)⟩)
    dsimp only [Pt.U, Pt.locs, Pt.cells, Pt.slots] at X26 l26 y26 z26 st26 hQ26
    subst l26 y26 z26
    obtain ⟨rfl, N26q, e26⟩ := hQ26
    have N26 := Fr.app N25 N26q
    obtain ⟨T27, X27, e27, st27⟩ := getS2 X26 hx hZ hown (host := "") (Or.inl (own_at hw 15 rfl)) Via.refl e26 S_SECOND (g := (mkF m 17 #[iv p0, rv w_MINUTE, rv w_MINUTE] [(.ref w_MINUTE)])) rfl (hb hby at_17)
    obtain ⟨cq28, kq28, q28a, q28b, q28c⟩ := isOf hZ e27 E_w_MINUTE
    obtain ⟨_, _, ⟨T28, L28, j28, i28⟩, -, X28, ⟨Lc28, hQ28, l28, y28, z28⟩, st28⟩ := X27.virtualBack hx (y := (⟨cS0, "combined", cS2⟩ : MethodName)) (z := (⟨cS0, "combined", cS2⟩ : MethodName)) hown (mvT hZ (own_at hw 8 rfl)) (mvT hZ (own_at hw 9 rfl)) (notFace_of_selects (args := #[]) (mvT hZ (own_at hw 11 rfl))) (mvT hZ (own_at hw 11 rfl)) (mvT hZ (own_at hw 10 rfl)) (by decide) (backOf (W := 0) (rm2_o l Z a0 hw [] w_MINUTE w_SECOND h0 n0 Z0 S_SECOND ne_MINUTE) hZ (own_at hw 12 rfl) (own_at hw 6 rfl) (by decide) (by decide)) q28a q28c (g := (mkF m 26 #[iv p0, rv w_MINUTE, rv w_MINUTE] [(.ref w_MINUTE)])) rfl (by rw [hml]; rfl) (Steps.refl _) (argsL := []) (rest := []) (lenOf pd_2 rfl) rfl (by show 2 * 0 + _ ≤ _; exact Nat.le_of_eq rfl) (hb hby at_26) (fun _ _ => ⟨rfl, e27, (by decide : 0 + 0 ≤ _), (by decide : 0 + 0 ≤ _)⟩)
    dsimp only [Pt.U, Pt.locs, Pt.cells, Pt.slots] at X28 l28 y28 z28 st28 hQ28
    subst l28 y28 z28
    obtain ⟨rfl, N28q, e28⟩ := hQ28
    have N28 := Fr.app N26 N28q
    obtain ⟨cq29, kq29, q29a, q29b, q29c⟩ := isOf hZ e28 E_w_MINUTE
    obtain ⟨_, _, ⟨T29, L29, j29, i29⟩, -, X29, ⟨Lc29, hQ29, l29, y29, z29⟩, st29⟩ := X28.virtualBackUp hx (owner := cS5) (x := (⟨cS0, "compareTo", "(Ljava/lang/Enum;)I"⟩ : MethodName)) (y := (⟨cS5, "compareTo", "(Ljava/lang/Enum;)I"⟩ : MethodName)) hown (mvT hZ (own_at hw 16 rfl)) (mvT hZ (own_at hw 17 rfl)) (mvT hZ (own_at hw 18 rfl)) (by decide) (mvT hZ (own_at hw 20 rfl)) (mvT hZ (own_at hw 19 rfl)) (backOf (W := 0) (rm3_t l Z a0 hw [] w_MINUTE w_MINUTE mir_Precision (4 : Int32) (4 : Int32) h0 n0 Z0 E_w_MINUTE E_w_MINUTE M_mir_Precision F_ordinal_w_MINUTE F_ordinal_w_MINUTE) hZ (own_at hw 22 rfl) (own_at hw 21 rfl) (by decide) (by decide)) q29a q29c (g := (mkF m 37 #[iv p0, rv w_MINUTE, rv w_MINUTE] [(.ref w_MINUTE), (.ref w_MINUTE)])) rfl (by rw [hml]; rfl) (Steps.refl _) (argsL := [(.ref w_MINUTE)]) (rest := []) (lenOf pd_3 rfl) rfl (by show 2 * 0 + _ ≤ _; exact Nat.le_of_eq rfl) (hb hby at_37) (fun _ _ => ⟨rfl, e28, (by decide : 0 + 0 ≤ _), (by decide : 0 + 0 ≤ _)⟩)
    dsimp only [Pt.U, Pt.locs, Pt.cells, Pt.slots] at X29 l29 y29 z29 st29 hQ29
    subst l29 y29 z29
    obtain ⟨rfl, N29q, e29⟩ := hQ29
    have N29 := Fr.app N28 N29q
    obtain ⟨cq30, kq30, q30a, q30b, q30c⟩ := isOf hZ e29 E_w_MINUTE
    obtain ⟨_, _, ⟨T30, L30, j30, i30⟩, -, X30, ⟨Lc30, hQ30, l30, y30, z30⟩, st30⟩ := X29.virtualBack hx (y := (⟨cS0, "digits", "()I"⟩ : MethodName)) (z := (⟨cS0, "digits", "()I"⟩ : MethodName)) hown (mvT hZ (own_at hw 31 rfl)) (mvT hZ (own_at hw 32 rfl)) (notFace_of_selects (args := #[]) (mvT hZ (own_at hw 34 rfl))) (mvT hZ (own_at hw 34 rfl)) (mvT hZ (own_at hw 33 rfl)) (by decide) (backOf (W := 0) (rm4_4 l Z a0 hw [] w_MINUTE kD w_DIGITS h0 n0 Z0 S_DIGITS V_w_DIGITS E_w_MINUTE F_ordinal_w_MINUTE) hZ (own_at hw 35 rfl) (own_at hw 6 rfl) (by decide) (by decide)) q30a q30c (g := (mkF m 46 #[iv p0, rv w_MINUTE, rv w_MINUTE] [(.ref w_MINUTE)])) rfl (by rw [hml]; rfl) (Steps.refl _) (argsL := []) (rest := []) (lenOf pd_0 rfl) rfl (by show 2 * 0 + _ ≤ _; exact Nat.le_of_eq rfl) (hb hby at_46) (fun _ _ => ⟨rfl, e29, (by decide : 0 + 0 ≤ _), (by decide : 0 + 0 ≤ _)⟩)
    dsimp only [Pt.U, Pt.locs, Pt.cells, Pt.slots] at X30 l30 y30 z30 st30 hQ30
    subst l30 y30 z30
    obtain ⟨rfl, N30q, e30⟩ := hQ30
    have N30 := Fr.app N29 N30q
    obtain ⟨fs, hr, hrun, hended, hW, hsame⟩ := X30.leave (v := some (.int 1)) (fun h => by rw [Bd.returns] at h; cases h)
    refine ⟨_, _, k0 _ ?_, hrun, hended, _, _, rfl, ?_, ⟨_, rfl⟩, hW, hsame.mono (by decide) (by decide)⟩
    · show OwnS p e below s₁ (mkF m 0 #[iv p0, .unset, .unset] []) _
      refine XS.iloadN X0.here hx rfl (hb hby at_0) rfl ?_
      show OwnS p e below s₁ (mkF m 1 #[iv p0, .unset, .unset] [(.int p0)]) _
      refine st25 _ ?_
      show OwnS p e below T25 (mkF m 4 #[iv p0, .unset, .unset] [(.ref w_MINUTE)]) _
      refine XS.astoreN X25.here hx rfl (hb hby at_4) rfl rfl (l' := #[iv p0, rv w_MINUTE, .unset]) rfl ?_
      show OwnS p e below T25 (mkF m 5 #[iv p0, rv w_MINUTE, .unset] []) _
      refine XS.aloadN X25.here hx rfl (hb hby at_5) rfl rfl ?_
      show OwnS p e below T25 (mkF m 6 #[iv p0, rv w_MINUTE, .unset] [(.ref w_MINUTE)]) _
      refine st26.trans ?_
      show OwnS p e below T26 (mkF m 9 #[iv p0, rv w_MINUTE, .unset] [(.ref w_MINUTE)]) _
      refine XS.astoreN X26.here hx rfl (hb hby at_9) rfl rfl (l' := #[iv p0, rv w_MINUTE, rv w_MINUTE]) rfl ?_
      show OwnS p e below T26 (mkF m 10 #[iv p0, rv w_MINUTE, rv w_MINUTE] []) _
      refine XS.aloadN X26.here hx rfl (hb hby at_10) rfl rfl ?_
      show OwnS p e below T26 (mkF m 11 #[iv p0, rv w_MINUTE, rv w_MINUTE] [(.ref w_MINUTE)]) _
      refine XS.ifnonnullYes X26.here hx rfl (pc0 := 11) (pc' := 16) rfl (hb hby at_11) rfl (by decide) (by decide) ?_
      show OwnS p e below T26 (mkF m 16 #[iv p0, rv w_MINUTE, rv w_MINUTE] []) _
      refine XS.aloadN X26.here hx rfl (hb hby at_16) rfl rfl ?_
      show OwnS p e below T26 (mkF m 17 #[iv p0, rv w_MINUTE, rv w_MINUTE] [(.ref w_MINUTE)]) _
      refine st27 _ ?_
      show OwnS p e below T27 (mkF m 20 #[iv p0, rv w_MINUTE, rv w_MINUTE] [(.ref w_SECOND), (.ref w_MINUTE)]) _
      refine Jvm.RoadKit.acmp (g := (mkF m 20 #[iv p0, rv w_MINUTE, rv w_MINUTE] [(.ref w_SECOND), (.ref w_MINUTE)])) X27 hx rfl rfl rfl (pc0 := 20) (pc' := 25) (same := false) rfl (hb hby at_20) rfl (decide_eq_false fun q => ne_MINUTE (Value.ref.inj q)) (by decide) (by decide) ?_
      show OwnS p e below T27 (mkF m 25 #[iv p0, rv w_MINUTE, rv w_MINUTE] []) _
      refine XS.aloadN X27.here hx rfl (hb hby at_25) rfl rfl ?_
      show OwnS p e below T27 (mkF m 26 #[iv p0, rv w_MINUTE, rv w_MINUTE] [(.ref w_MINUTE)]) _
      refine st28.trans ?_
      show OwnS p e below T28 (mkF m 29 #[iv p0, rv w_MINUTE, rv w_MINUTE] [(.ref w_MINUTE)]) _
      refine XS.aloadN X28.here hx rfl (hb hby at_29) rfl rfl ?_
      show OwnS p e below T28 (mkF m 30 #[iv p0, rv w_MINUTE, rv w_MINUTE] [(.ref w_MINUTE), (.ref w_MINUTE)]) _
      refine Jvm.RoadKit.acmp (g := (mkF m 30 #[iv p0, rv w_MINUTE, rv w_MINUTE] [(.ref w_MINUTE), (.ref w_MINUTE)])) X28 hx rfl rfl rfl (pc0 := 30) (pc' := 35) (same := true) rfl (hb hby at_30) rfl (decide_eq_true rfl) (by decide) (by decide) ?_
      show OwnS p e below T28 (mkF m 35 #[iv p0, rv w_MINUTE, rv w_MINUTE] []) _
      refine XS.aloadN X28.here hx rfl (hb hby at_35) rfl rfl ?_
      show OwnS p e below T28 (mkF m 36 #[iv p0, rv w_MINUTE, rv w_MINUTE] [(.ref w_MINUTE)]) _
      refine XS.aloadN X28.here hx rfl (hb hby at_36) rfl rfl ?_
      show OwnS p e below T28 (mkF m 37 #[iv p0, rv w_MINUTE, rv w_MINUTE] [(.ref w_MINUTE), (.ref w_MINUTE)]) _
      refine st29.trans ?_
      show OwnS p e below T29 (mkF m 40 #[iv p0, rv w_MINUTE, rv w_MINUTE] [(.int 0)]) _
      refine XS.ifYes X29.here hx rfl (pc0 := 40) (pc' := 45) rfl (hb hby at_40) rfl ((if0 _ _).trans (flt (by decide : ¬ ((0 : Int32) < (0 : Int32)))).2.1) (by decide) (by decide) ?_
      show OwnS p e below T29 (mkF m 45 #[iv p0, rv w_MINUTE, rv w_MINUTE] []) _
      refine XS.aloadN X29.here hx rfl (hb hby at_45) rfl rfl ?_
      show OwnS p e below T29 (mkF m 46 #[iv p0, rv w_MINUTE, rv w_MINUTE] [(.ref w_MINUTE)]) _
      refine st30.trans ?_
      show OwnS p e below T30 (mkF m 49 #[iv p0, rv w_MINUTE, rv w_MINUTE] [(.int 12)]) _
      refine XS.bipush X30.here hx rfl (hb hby at_49) ?_
      show OwnS p e below T30 (mkF m 51 #[iv p0, rv w_MINUTE, rv w_MINUTE] [(.int 14), (.int 12)]) _
      refine XS.icmpYes X30.here hx rfl (pc0 := 51) (pc' := 69) rfl (hb hby at_51) rfl (feq (by decide : ¬ ((12 : Int32) = (14 : Int32)))).2 (by decide) (by decide) ?_
      show OwnS p e below T30 (mkF m 69 #[iv p0, rv w_MINUTE, rv w_MINUTE] []) _
      refine XS.aloadN X30.here hx rfl (hb hby at_69) rfl rfl ?_
      show OwnS p e below T30 (mkF m 70 #[iv p0, rv w_MINUTE, rv w_MINUTE] [(.ref w_MINUTE)]) _
      refine XS.aloadN X30.here hx rfl (hb hby at_70) rfl rfl ?_
      show OwnS p e below T30 (mkF m 71 #[iv p0, rv w_MINUTE, rv w_MINUTE] [(.ref w_MINUTE), (.ref w_MINUTE)]) _
      refine Jvm.RoadKit.acmp (g := (mkF m 71 #[iv p0, rv w_MINUTE, rv w_MINUTE] [(.ref w_MINUTE), (.ref w_MINUTE)])) X30 hx rfl rfl rfl (pc0 := 71) (pc' := 74) (same := true) rfl (hb hby at_71) rfl (decide_eq_true rfl) (by decide) (by decide) ?_
      show OwnS p e below T30 (mkF m 74 #[iv p0, rv w_MINUTE, rv w_MINUTE] []) _
      refine XS.iconst X30.here hx rfl (hb hby at_74) ?_
      show OwnS p e below T30 (mkF m 75 #[iv p0, rv w_MINUTE, rv w_MINUTE] [(.int 1)]) _
      refine XS.goto X30.here hx rfl (pc0 := 75) (pc' := 79) rfl (hb hby at_75) (by decide) (by decide) ?_
      show OwnS p e below T30 (mkF m 79 #[iv p0, rv w_MINUTE, rv w_MINUTE] [(.int 1)]) _
      exact retN X30 hx (t := .boolean) Bd.returns (by simp) (hb hby at_79) hr
    · show Q_0 Z p0 w_YEAR w_MONTH w_DAY w_HOUR w_MINUTE w_SECOND w_MILLISECOND w_DIGITS kD mir_Precision h0 n0 _ T30.heap _
      rw [e30]
      exact ⟨rfl, N30, trivial⟩
  · obtain ⟨_, _, ⟨T31, L31, j31, i31⟩, -, X31, ⟨Lc31, hQ31, l31, y31, z31⟩, st31⟩ := Jvm.LawKit.callS X0 hx (y := (⟨cS1, "pick", cS4⟩ : MethodName)) hown (mvT hZ (own_at hw 0 rfl)) (mvT hZ (own_at hw 1 rfl)) (mvT hZ (own_at hw 2 rfl)) (mvT hZ (own_at hw 3 rfl)) (by decide) (backOf (W := 0) (rm1_5 l Z a0 hw [] p0 w_SECOND h0 n0 Z0 hk S_SECOND) hZ (own_at hw 3 rfl) (own_at hw 2 rfl) (by decide) (by decide)) (g := (mkF m 1 #[iv p0, .unset, .unset] [(.int p0)])) rfl (by rw [hml]; rfl) (argsL := [(.int p0)]) (rest := []) (lenOf pd_1 rfl) rfl (by show 2 * 0 + _ ≤ _; exact Nat.le_of_eq rfl) (hb hby at_1) (fun _ _ => ⟨rfl, e0, (by decide : 0 + 0 ≤ _), (by decide : 0 + 0 ≤ _)⟩)
    dsimp only [Pt.U, Pt.locs, Pt.cells, Pt.slots] at X31 l31 y31 z31 st31 hQ31
    subst l31 y31 z31
    obtain ⟨rfl, N31q, e31⟩ := hQ31
    have N31 := Fr.app N0 N31q
    obtain ⟨cq32, kq32, q32a, q32b, q32c⟩ := isOf hZ e31 E_w_SECOND
    obtain ⟨_, _, ⟨T32, L32, j32, i32⟩, -, X32, ⟨Lc32, hQ32, l32, y32, z32⟩, st32⟩ := X31.virtualBack hx (y := (⟨cS0, "combined", cS2⟩ : MethodName)) (z := (⟨cS0, "combined", cS2⟩ : MethodName)) hown (mvT hZ (own_at hw 8 rfl)) (mvT hZ (own_at hw 9 rfl)) (notFace_of_selects (args := #[]) (mvT hZ (own_at hw 11 rfl))) (mvT hZ (own_at hw 11 rfl)) (mvT hZ (own_at hw 10 rfl)) (by decide) (backOf (W := 0) (rm2_s l Z a0 hw [] w_SECOND w_MILLISECOND h0 n0 Z0 S_SECOND S_MILLISECOND) hZ (own_at hw 12 rfl) (own_at hw 6 rfl) (by decide) (by decide)) q32a q32c (g := (mkF m 6 #[iv p0, rv w_SECOND, .unset] [(.ref w_SECOND)])) rfl (by rw [hml]; rfl) (Steps.refl _) (argsL := []) (rest := []) (lenOf pd_2 rfl) rfl (by show 2 * 0 + _ ≤ _; exact Nat.le_of_eq rfl) (hb hby at_6) (fun _ _ => ⟨rfl, e31, (by decide : 0 + 0 ≤ _), (by decide : 0 + 0 ≤ _)⟩)
    dsimp only [Pt.U, Pt.locs, Pt.cells, Pt.slots] at X32 l32 y32 z32 st32 hQ32
    subst l32 y32 z32
    obtain ⟨rfl, N32q, e32⟩ := hQ32
    have N32 := Fr.app N31 N32q
    obtain ⟨T33, X33, e33, st33⟩ := getS2 X32 hx hZ hown (host := "") (Or.inl (own_at hw 15 rfl)) Via.refl e32 S_SECOND (g := (mkF m 17 #[iv p0, rv w_SECOND, rv w_MILLISECOND] [(.ref w_MILLISECOND)])) rfl (hb hby at_17)
    obtain ⟨cq34, kq34, q34a, q34b, q34c⟩ := isOf hZ e33 E_w_MILLISECOND
    obtain ⟨_, _, ⟨T34, L34, j34, i34⟩, -, X34, ⟨Lc34, hQ34, l34, y34, z34⟩, st34⟩ := X33.virtualBack hx (y := (⟨cS0, "combined", cS2⟩ : MethodName)) (z := (⟨cS0, "combined", cS2⟩ : MethodName)) hown (mvT hZ (own_at hw 8 rfl)) (mvT hZ (own_at hw 9 rfl)) (notFace_of_selects (args := #[]) (mvT hZ (own_at hw 11 rfl))) (mvT hZ (own_at hw 11 rfl)) (mvT hZ (own_at hw 10 rfl)) (by decide) (backOf (W := 0) (rm2_o l Z a0 hw [] w_MILLISECOND w_SECOND h0 n0 Z0 S_SECOND ne_MILLISECOND) hZ (own_at hw 12 rfl) (own_at hw 6 rfl) (by decide) (by decide)) q34a q34c (g := (mkF m 26 #[iv p0, rv w_SECOND, rv w_MILLISECOND] [(.ref w_MILLISECOND)])) rfl (by rw [hml]; rfl) (Steps.refl _) (argsL := []) (rest := []) (lenOf pd_2 rfl) rfl (by show 2 * 0 + _ ≤ _; exact Nat.le_of_eq rfl) (hb hby at_26) (fun _ _ => ⟨rfl, e33, (by decide : 0 + 0 ≤ _), (by decide : 0 + 0 ≤ _)⟩)
    dsimp only [Pt.U, Pt.locs, Pt.cells, Pt.slots] at X34 l34 y34 z34 st34 hQ34
    subst l34 y34 z34
    obtain ⟨rfl, N34q, e34⟩ := hQ34
    have N34 := Fr.app N32 N34q
    obtain ⟨cq35, kq35, q35a, q35b, q35c⟩ := isOf hZ e34 E_w_MILLISECOND
    obtain ⟨_, _, ⟨T35, L35, j35, i35⟩, -, X35, ⟨Lc35, hQ35, l35, y35, z35⟩, st35⟩ := X34.virtualBackUp hx (owner := cS5) (x := (⟨cS0, "compareTo", "(Ljava/lang/Enum;)I"⟩ : MethodName)) (y := (⟨cS5, "compareTo", "(Ljava/lang/Enum;)I"⟩ : MethodName)) hown (mvT hZ (own_at hw 16 rfl)) (mvT hZ (own_at hw 17 rfl)) (mvT hZ (own_at hw 18 rfl)) (by decide) (mvT hZ (own_at hw 20 rfl)) (mvT hZ (own_at hw 19 rfl)) (backOf (W := 0) (rm3_t l Z a0 hw [] w_MILLISECOND w_SECOND mir_Precision (6 : Int32) (5 : Int32) h0 n0 Z0 E_w_MILLISECOND E_w_SECOND M_mir_Precision F_ordinal_w_MILLISECOND F_ordinal_w_SECOND) hZ (own_at hw 22 rfl) (own_at hw 21 rfl) (by decide) (by decide)) q35a q35c (g := (mkF m 37 #[iv p0, rv w_SECOND, rv w_MILLISECOND] [(.ref w_SECOND), (.ref w_MILLISECOND)])) rfl (by rw [hml]; rfl) (Steps.refl _) (argsL := [(.ref w_SECOND)]) (rest := []) (lenOf pd_3 rfl) rfl (by show 2 * 0 + _ ≤ _; exact Nat.le_of_eq rfl) (hb hby at_37) (fun _ _ => ⟨rfl, e34, (by decide : 0 + 0 ≤ _), (by decide : 0 + 0 ≤ _)⟩)
    dsimp only [Pt.U, Pt.locs, Pt.cells, Pt.slots] at X35 l35 y35 z35 st35 hQ35
    subst l35 y35 z35
    obtain ⟨rfl, N35q, e35⟩ := hQ35
    have N35 := Fr.app N34 N35q
    obtain ⟨cq36, kq36, q36a, q36b, q36c⟩ := isOf hZ e35 E_w_SECOND
    obtain ⟨_, _, ⟨T36, L36, j36, i36⟩, -, X36, ⟨Lc36, hQ36, l36, y36, z36⟩, st36⟩ := X35.virtualBack hx (y := (⟨cS0, "digits", "()I"⟩ : MethodName)) (z := (⟨cS0, "digits", "()I"⟩ : MethodName)) hown (mvT hZ (own_at hw 31 rfl)) (mvT hZ (own_at hw 32 rfl)) (notFace_of_selects (args := #[]) (mvT hZ (own_at hw 34 rfl))) (mvT hZ (own_at hw 34 rfl)) (mvT hZ (own_at hw 33 rfl)) (by decide) (backOf (W := 0) (rm4_5 l Z a0 hw [] w_SECOND kD w_DIGITS h0 n0 Z0 S_DIGITS V_w_DIGITS E_w_SECOND F_ordinal_w_SECOND) hZ (own_at hw 35 rfl) (own_at hw 6 rfl) (by decide) (by decide)) q36a q36c (g := (mkF m 46 #[iv p0, rv w_SECOND, rv w_MILLISECOND] [(.ref w_SECOND)])) rfl (by rw [hml]; rfl) (Steps.refl _) (argsL := []) (rest := []) (lenOf pd_0 rfl) rfl (by show 2 * 0 + _ ≤ _; exact Nat.le_of_eq rfl) (hb hby at_46) (fun _ _ => ⟨rfl, e35, (by decide : 0 + 0 ≤ _), (by decide : 0 + 0 ≤ _)⟩)
    dsimp only [Pt.U, Pt.locs, Pt.cells, Pt.slots] at X36 l36 y36 z36 st36 hQ36
    subst l36 y36 z36
    obtain ⟨rfl, N36q, e36⟩ := hQ36
    have N36 := Fr.app N35 N36q
    obtain ⟨cq37, kq37, q37a, q37b, q37c⟩ := isOf hZ e36 E_w_MILLISECOND
    obtain ⟨_, _, ⟨T37, L37, j37, i37⟩, -, X37, ⟨Lc37, hQ37, l37, y37, z37⟩, st37⟩ := X36.virtualBack hx (y := (⟨cS0, "digits", "()I"⟩ : MethodName)) (z := (⟨cS0, "digits", "()I"⟩ : MethodName)) hown (mvT hZ (own_at hw 31 rfl)) (mvT hZ (own_at hw 32 rfl)) (notFace_of_selects (args := #[]) (mvT hZ (own_at hw 34 rfl))) (mvT hZ (own_at hw 34 rfl)) (mvT hZ (own_at hw 33 rfl)) (by decide) (backOf (W := 0) (rm4_6 l Z a0 hw [] w_MILLISECOND kD w_DIGITS h0 n0 Z0 S_DIGITS V_w_DIGITS E_w_MILLISECOND F_ordinal_w_MILLISECOND) hZ (own_at hw 35 rfl) (own_at hw 6 rfl) (by decide) (by decide)) q37a q37c (g := (mkF m 55 #[iv p0, rv w_SECOND, rv w_MILLISECOND] [(.ref w_MILLISECOND)])) rfl (by rw [hml]; rfl) (Steps.refl _) (argsL := []) (rest := []) (lenOf pd_0 rfl) rfl (by show 2 * 0 + _ ≤ _; exact Nat.le_of_eq rfl) (hb hby at_55) (fun _ _ => ⟨rfl, e36, (by decide : 0 + 0 ≤ _), (by decide : 0 + 0 ≤ _)⟩)
    dsimp only [Pt.U, Pt.locs, Pt.cells, Pt.slots] at X37 l37 y37 z37 st37 hQ37
    subst l37 y37 z37
    obtain ⟨rfl, N37q, e37⟩ := hQ37
    have N37 := Fr.app N36 N37q
    obtain ⟨fs, hr, hrun, hended, hW, hsame⟩ := X37.leave (v := some (.int 1)) (fun h => by rw [Bd.returns] at h; cases h)
    refine ⟨_, _, k0 _ ?_, hrun, hended, _, _, rfl, ?_, ⟨_, rfl⟩, hW, hsame.mono (by decide) (by decide)⟩
    · show OwnS p e below s₁ (mkF m 0 #[iv p0, .unset, .unset] []) _
      refine XS.iloadN X0.here hx rfl (hb hby at_0) rfl ?_
      show OwnS p e below s₁ (mkF m 1 #[iv p0, .unset, .unset] [(.int p0)]) _
      refine st31 _ ?_
      show OwnS p e below T31 (mkF m 4 #[iv p0, .unset, .unset] [(.ref w_SECOND)]) _
      refine XS.astoreN X31.here hx rfl (hb hby at_4) rfl rfl (l' := #[iv p0, rv w_SECOND, .unset]) rfl ?_
      show OwnS p e below T31 (mkF m 5 #[iv p0, rv w_SECOND, .unset] []) _
      refine XS.aloadN X31.here hx rfl (hb hby at_5) rfl rfl ?_
      show OwnS p e below T31 (mkF m 6 #[iv p0, rv w_SECOND, .unset] [(.ref w_SECOND)]) _
      refine st32.trans ?_
      show OwnS p e below T32 (mkF m 9 #[iv p0, rv w_SECOND, .unset] [(.ref w_MILLISECOND)]) _
      refine XS.astoreN X32.here hx rfl (hb hby at_9) rfl rfl (l' := #[iv p0, rv w_SECOND, rv w_MILLISECOND]) rfl ?_
      show OwnS p e below T32 (mkF m 10 #[iv p0, rv w_SECOND, rv w_MILLISECOND] []) _
      refine XS.aloadN X32.here hx rfl (hb hby at_10) rfl rfl ?_
      show OwnS p e below T32 (mkF m 11 #[iv p0, rv w_SECOND, rv w_MILLISECOND] [(.ref w_MILLISECOND)]) _
      refine XS.ifnonnullYes X32.here hx rfl (pc0 := 11) (pc' := 16) rfl (hb hby at_11) rfl (by decide) (by decide) ?_
      show OwnS p e below T32 (mkF m 16 #[iv p0, rv w_SECOND, rv w_MILLISECOND] []) _
      refine XS.aloadN X32.here hx rfl (hb hby at_16) rfl rfl ?_
      show OwnS p e below T32 (mkF m 17 #[iv p0, rv w_SECOND, rv w_MILLISECOND] [(.ref w_MILLISECOND)]) _
      refine st33 _ ?_
      show OwnS p e below T33 (mkF m 20 #[iv p0, rv w_SECOND, rv w_MILLISECOND] [(.ref w_SECOND), (.ref w_MILLISECOND)]) _
      refine Jvm.RoadKit.acmp (g := (mkF m 20 #[iv p0, rv w_SECOND, rv w_MILLISECOND] [(.ref w_SECOND), (.ref w_MILLISECOND)])) X33 hx rfl rfl rfl (pc0 := 20) (pc' := 25) (same := false) rfl (hb hby at_20) rfl (decide_eq_false fun q => ne_MILLISECOND (Value.ref.inj q)) (by decide) (by decide) ?_
      show OwnS p e below T33 (mkF m 25 #[iv p0, rv w_SECOND, rv w_MILLISECOND] []) _
      refine XS.aloadN X33.here hx rfl (hb hby at_25) rfl rfl ?_
      show OwnS p e below T33 (mkF m 26 #[iv p0, rv w_SECOND, rv w_MILLISECOND] [(.ref w_MILLISECOND)]) _
      refine st34.trans ?_
      show OwnS p e below T34 (mkF m 29 #[iv p0, rv w_SECOND, rv w_MILLISECOND] [(.ref w_MILLISECOND)]) _
      refine XS.aloadN X34.here hx rfl (hb hby at_29) rfl rfl ?_
      show OwnS p e below T34 (mkF m 30 #[iv p0, rv w_SECOND, rv w_MILLISECOND] [(.ref w_MILLISECOND), (.ref w_MILLISECOND)]) _
      refine Jvm.RoadKit.acmp (g := (mkF m 30 #[iv p0, rv w_SECOND, rv w_MILLISECOND] [(.ref w_MILLISECOND), (.ref w_MILLISECOND)])) X34 hx rfl rfl rfl (pc0 := 30) (pc' := 35) (same := true) rfl (hb hby at_30) rfl (decide_eq_true rfl) (by decide) (by decide) ?_
      show OwnS p e below T34 (mkF m 35 #[iv p0, rv w_SECOND, rv w_MILLISECOND] []) _
      refine XS.aloadN X34.here hx rfl (hb hby at_35) rfl rfl ?_
      show OwnS p e below T34 (mkF m 36 #[iv p0, rv w_SECOND, rv w_MILLISECOND] [(.ref w_MILLISECOND)]) _
      refine XS.aloadN X34.here hx rfl (hb hby at_36) rfl rfl ?_
      show OwnS p e below T34 (mkF m 37 #[iv p0, rv w_SECOND, rv w_MILLISECOND] [(.ref w_SECOND), (.ref w_MILLISECOND)]) _
      refine st35.trans ?_
      show OwnS p e below T35 (mkF m 40 #[iv p0, rv w_SECOND, rv w_MILLISECOND] [(.int 1)]) _
      refine XS.ifYes X35.here hx rfl (pc0 := 40) (pc' := 45) rfl (hb hby at_40) rfl ((if0 _ _).trans (flt (by decide : ¬ ((1 : Int32) < (0 : Int32)))).2.1) (by decide) (by decide) ?_
      show OwnS p e below T35 (mkF m 45 #[iv p0, rv w_SECOND, rv w_MILLISECOND] []) _
      refine XS.aloadN X35.here hx rfl (hb hby at_45) rfl rfl ?_
      show OwnS p e below T35 (mkF m 46 #[iv p0, rv w_SECOND, rv w_MILLISECOND] [(.ref w_SECOND)]) _
      refine st36.trans ?_
      show OwnS p e below T36 (mkF m 49 #[iv p0, rv w_SECOND, rv w_MILLISECOND] [(.int 14)]) _
      refine XS.bipush X36.here hx rfl (hb hby at_49) ?_
      show OwnS p e below T36 (mkF m 51 #[iv p0, rv w_SECOND, rv w_MILLISECOND] [(.int 14), (.int 14)]) _
      refine XS.icmpNo X36.here hx rfl (hb hby at_51) rfl (teq (by decide : (14 : Int32) = (14 : Int32))).2 ?_
      show OwnS p e below T36 (mkF m 54 #[iv p0, rv w_SECOND, rv w_MILLISECOND] []) _
      refine XS.aloadN X36.here hx rfl (hb hby at_54) rfl rfl ?_
      show OwnS p e below T36 (mkF m 55 #[iv p0, rv w_SECOND, rv w_MILLISECOND] [(.ref w_MILLISECOND)]) _
      refine st37.trans ?_
      show OwnS p e below T37 (mkF m 58 #[iv p0, rv w_SECOND, rv w_MILLISECOND] [(.int 17)]) _
      refine XS.bipush X37.here hx rfl (hb hby at_58) ?_
      show OwnS p e below T37 (mkF m 60 #[iv p0, rv w_SECOND, rv w_MILLISECOND] [(.int 17), (.int 17)]) _
      refine XS.icmpNo X37.here hx rfl (hb hby at_60) rfl (teq (by decide : (17 : Int32) = (17 : Int32))).2 ?_
      show OwnS p e below T37 (mkF m 63 #[iv p0, rv w_SECOND, rv w_MILLISECOND] []) _
      refine XS.iconst X37.here hx rfl (hb hby at_63) ?_
      show OwnS p e below T37 (mkF m 64 #[iv p0, rv w_SECOND, rv w_MILLISECOND] [(.int 1)]) _
      refine XS.goto X37.here hx rfl (pc0 := 64) (pc' := 68) rfl (hb hby at_64) (by decide) (by decide) ?_
      show OwnS p e below T37 (mkF m 68 #[iv p0, rv w_SECOND, rv w_MILLISECOND] [(.int 1)]) _
      exact retN X37 hx (t := .boolean) Bd.returns (by simp) (hb hby at_68) hr
    · show Q_0 Z p0 w_YEAR w_MONTH w_DAY w_HOUR w_MINUTE w_SECOND w_MILLISECOND w_DIGITS kD mir_Precision h0 n0 _ T37.heap _
      rw [e37]
      exact ⟨rfl, N37, trivial⟩
  · obtain ⟨_, _, ⟨T38, L38, j38, i38⟩, -, X38, ⟨Lc38, hQ38, l38, y38, z38⟩, st38⟩ := Jvm.LawKit.callS X0 hx (y := (⟨cS1, "pick", cS4⟩ : MethodName)) hown (mvT hZ (own_at hw 0 rfl)) (mvT hZ (own_at hw 1 rfl)) (mvT hZ (own_at hw 2 rfl)) (mvT hZ (own_at hw 3 rfl)) (by decide) (backOf (W := 0) (rm1_6 l Z a0 hw [] p0 w_MILLISECOND h0 n0 Z0 hk S_MILLISECOND) hZ (own_at hw 3 rfl) (own_at hw 2 rfl) (by decide) (by decide)) (g := (mkF m 1 #[iv p0, .unset, .unset] [(.int p0)])) rfl (by rw [hml]; rfl) (argsL := [(.int p0)]) (rest := []) (lenOf pd_1 rfl) rfl (by show 2 * 0 + _ ≤ _; exact Nat.le_of_eq rfl) (hb hby at_1) (fun _ _ => ⟨rfl, e0, (by decide : 0 + 0 ≤ _), (by decide : 0 + 0 ≤ _)⟩)
    dsimp only [Pt.U, Pt.locs, Pt.cells, Pt.slots] at X38 l38 y38 z38 st38 hQ38
    subst l38 y38 z38
    obtain ⟨rfl, N38q, e38⟩ := hQ38
    have N38 := Fr.app N0 N38q
    obtain ⟨cq39, kq39, q39a, q39b, q39c⟩ := isOf hZ e38 E_w_MILLISECOND
    obtain ⟨_, _, ⟨T39, L39, j39, i39⟩, -, X39, ⟨Lc39, hQ39, l39, y39, z39⟩, st39⟩ := X38.virtualBack hx (y := (⟨cS0, "combined", cS2⟩ : MethodName)) (z := (⟨cS0, "combined", cS2⟩ : MethodName)) hown (mvT hZ (own_at hw 8 rfl)) (mvT hZ (own_at hw 9 rfl)) (notFace_of_selects (args := #[]) (mvT hZ (own_at hw 11 rfl))) (mvT hZ (own_at hw 11 rfl)) (mvT hZ (own_at hw 10 rfl)) (by decide) (backOf (W := 0) (rm2_o l Z a0 hw [] w_MILLISECOND w_SECOND h0 n0 Z0 S_SECOND ne_MILLISECOND) hZ (own_at hw 12 rfl) (own_at hw 6 rfl) (by decide) (by decide)) q39a q39c (g := (mkF m 6 #[iv p0, rv w_MILLISECOND, .unset] [(.ref w_MILLISECOND)])) rfl (by rw [hml]; rfl) (Steps.refl _) (argsL := []) (rest := []) (lenOf pd_2 rfl) rfl (by show 2 * 0 + _ ≤ _; exact Nat.le_of_eq rfl) (hb hby at_6) (fun _ _ => ⟨rfl, e38, (by decide : 0 + 0 ≤ _), (by decide : 0 + 0 ≤ _)⟩)
    dsimp only [Pt.U, Pt.locs, Pt.cells, Pt.slots] at X39 l39 y39 z39 st39 hQ39
    subst l39 y39 z39
    obtain ⟨rfl, N39q, e39⟩ := hQ39
    have N39 := Fr.app N38 N39q
    obtain ⟨T40, X40, e40, st40⟩ := getS2 X39 hx hZ hown (host := "") (Or.inl (own_at hw 15 rfl)) Via.refl e39 S_SECOND (g := (mkF m 17 #[iv p0, rv w_MILLISECOND, rv w_MILLISECOND] [(.ref w_MILLISECOND)])) rfl (hb hby at_17)
    obtain ⟨cq41, kq41, q41a, q41b, q41c⟩ := isOf hZ e40 E_w_MILLISECOND
    obtain ⟨_, _, ⟨T41, L41, j41, i41⟩, -, X41, ⟨Lc41, hQ41, l41, y41, z41⟩, st41⟩ := X40.virtualBack hx (y := (⟨cS0, "combined", cS2⟩ : MethodName)) (z := (⟨cS0, "combined", cS2⟩ : MethodName)) hown (mvT hZ (own_at hw 8 rfl)) (mvT hZ (own_at hw 9 rfl)) (notFace_of_selects (args := #[]) (mvT hZ (own_at hw 11 rfl))) (mvT hZ (own_at hw 11 rfl)) (mvT hZ (own_at hw 10 rfl)) (by decide) (backOf (W := 0) (rm2_o l Z a0 hw [] w_MILLISECOND w_SECOND h0 n0 Z0 S_SECOND ne_MILLISECOND) hZ (own_at hw 12 rfl) (own_at hw 6 rfl) (by decide) (by decide)) q41a q41c (g := (mkF m 26 #[iv p0, rv w_MILLISECOND, rv w_MILLISECOND] [(.ref w_MILLISECOND)])) rfl (by rw [hml]; rfl) (Steps.refl _) (argsL := []) (rest := []) (lenOf pd_2 rfl) rfl (by show 2 * 0 + _ ≤ _; exact Nat.le_of_eq rfl) (hb hby at_26) (fun _ _ => ⟨rfl, e40, (by decide : 0 + 0 ≤ _), (by decide : 0 + 0 ≤ _)⟩)
    dsimp only [Pt.U, Pt.locs, Pt.cells, Pt.slots] at X41 l41 y41 z41 st41 hQ41
    subst l41 y41 z41
    obtain ⟨rfl, N41q, e41⟩ := hQ41
    have N41 := Fr.app N39 N41q
    obtain ⟨cq42, kq42, q42a, q42b, q42c⟩ := isOf hZ e41 E_w_MILLISECOND
    obtain ⟨_, _, ⟨T42, L42, j42, i42⟩, -, X42, ⟨Lc42, hQ42, l42, y42, z42⟩, st42⟩ := X41.virtualBackUp hx (owner := cS5) (x := (⟨cS0, "compareTo", "(Ljava/lang/Enum;)I"⟩ : MethodName)) (y := (⟨cS5, "compareTo", "(Ljava/lang/Enum;)I"⟩ : MethodName)) hown (mvT hZ (own_at hw 16 rfl)) (mvT hZ (own_at hw 17 rfl)) (mvT hZ (own_at hw 18 rfl)) (by decide) (mvT hZ (own_at hw 20 rfl)) (mvT hZ (own_at hw 19 rfl)) (backOf (W := 0) (rm3_t l Z a0 hw [] w_MILLISECOND w_MILLISECOND mir_Precision (6 : Int32) (6 : Int32) h0 n0 Z0 E_w_MILLISECOND E_w_MILLISECOND M_mir_Precision F_ordinal_w_MILLISECOND F_ordinal_w_MILLISECOND) hZ (own_at hw 22 rfl) (own_at hw 21 rfl) (by decide) (by decide)) q42a q42c (g := (mkF m 37 #[iv p0, rv w_MILLISECOND, rv w_MILLISECOND] [(.ref w_MILLISECOND), (.ref w_MILLISECOND)])) rfl (by rw [hml]; rfl) (Steps.refl _) (argsL := [(.ref w_MILLISECOND)]) (rest := []) (lenOf pd_3 rfl) rfl (by show 2 * 0 + _ ≤ _; exact Nat.le_of_eq rfl) (hb hby at_37) (fun _ _ => ⟨rfl, e41, (by decide : 0 + 0 ≤ _), (by decide : 0 + 0 ≤ _)⟩)
    dsimp only [Pt.U, Pt.locs, Pt.cells, Pt.slots] at X42 l42 y42 z42 st42 hQ42
    subst l42 y42 z42
    obtain ⟨rfl, N42q, e42⟩ := hQ42
    have N42 := Fr.app N41 N42q
    obtain ⟨cq43, kq43, q43a, q43b, q43c⟩ := isOf hZ e42 E_w_MILLISECOND
    obtain ⟨_, _, ⟨T43, L43, j43, i43⟩, -, X43, ⟨Lc43, hQ43, l43, y43, z43⟩, st43⟩ := X42.virtualBack hx (y := (⟨cS0, "digits", "()I"⟩ : MethodName)) (z := (⟨cS0, "digits", "()I"⟩ : MethodName)) hown (mvT hZ (own_at hw 31 rfl)) (mvT hZ (own_at hw 32 rfl)) (notFace_of_selects (args := #[]) (mvT hZ (own_at hw 34 rfl))) (mvT hZ (own_at hw 34 rfl)) (mvT hZ (own_at hw 33 rfl)) (by decide) (backOf (W := 0) (rm4_6 l Z a0 hw [] w_MILLISECOND kD w_DIGITS h0 n0 Z0 S_DIGITS V_w_DIGITS E_w_MILLISECOND F_ordinal_w_MILLISECOND) hZ (own_at hw 35 rfl) (own_at hw 6 rfl) (by decide) (by decide)) q43a q43c (g := (mkF m 46 #[iv p0, rv w_MILLISECOND, rv w_MILLISECOND] [(.ref w_MILLISECOND)])) rfl (by rw [hml]; rfl) (Steps.refl _) (argsL := []) (rest := []) (lenOf pd_0 rfl) rfl (by show 2 * 0 + _ ≤ _; exact Nat.le_of_eq rfl) (hb hby at_46) (fun _ _ => ⟨rfl, e42, (by decide : 0 + 0 ≤ _), (by decide : 0 + 0 ≤ _)⟩)
    dsimp only [Pt.U, Pt.locs, Pt.cells, Pt.slots] at X43 l43 y43 z43 st43 hQ43
    subst l43 y43 z43
    obtain ⟨rfl, N43q, e43⟩ := hQ43
    have N43 := Fr.app N42 N43q
    obtain ⟨fs, hr, hrun, hended, hW, hsame⟩ := X43.leave (v := some (.int 1)) (fun h => by rw [Bd.returns] at h; cases h)
    refine ⟨_, _, k0 _ ?_, hrun, hended, _, _, rfl, ?_, ⟨_, rfl⟩, hW, hsame.mono (by decide) (by decide)⟩
    · show OwnS p e below s₁ (mkF m 0 #[iv p0, .unset, .unset] []) _
      refine XS.iloadN X0.here hx rfl (hb hby at_0) rfl ?_
      show OwnS p e below s₁ (mkF m 1 #[iv p0, .unset, .unset] [(.int p0)]) _
      refine st38 _ ?_
      show OwnS p e below T38 (mkF m 4 #[iv p0, .unset, .unset] [(.ref w_MILLISECOND)]) _
      refine XS.astoreN X38.here hx rfl (hb hby at_4) rfl rfl (l' := #[iv p0, rv w_MILLISECOND, .unset]) rfl ?_
      show OwnS p e below T38 (mkF m 5 #[iv p0, rv w_MILLISECOND, .unset] []) _
      refine XS.aloadN X38.here hx rfl (hb hby at_5) rfl rfl ?_
      show OwnS p e below T38 (mkF m 6 #[iv p0, rv w_MILLISECOND, .unset] [(.ref w_MILLISECOND)]) _
      refine st39.trans ?_
      show OwnS p e below T39 (mkF m 9 #[iv p0, rv w_MILLISECOND, .unset] [(.ref w_MILLISECOND)]) _
      refine XS.astoreN X39.here hx rfl (hb hby at_9) rfl rfl (l' := #[iv p0, rv w_MILLISECOND, rv w_MILLISECOND]) rfl ?_
      show OwnS p e below T39 (mkF m 10 #[iv p0, rv w_MILLISECOND, rv w_MILLISECOND] []) _
      refine XS.aloadN X39.here hx rfl (hb hby at_10) rfl rfl ?_
      show OwnS p e below T39 (mkF m 11 #[iv p0, rv w_MILLISECOND, rv w_MILLISECOND] [(.ref w_MILLISECOND)]) _
      refine XS.ifnonnullYes X39.here hx rfl (pc0 := 11) (pc' := 16) rfl (hb hby at_11) rfl (by decide) (by decide) ?_
      show OwnS p e below T39 (mkF m 16 #[iv p0, rv w_MILLISECOND, rv w_MILLISECOND] []) _
      refine XS.aloadN X39.here hx rfl (hb hby at_16) rfl rfl ?_
      show OwnS p e below T39 (mkF m 17 #[iv p0, rv w_MILLISECOND, rv w_MILLISECOND] [(.ref w_MILLISECOND)]) _
      refine st40 _ ?_
      show OwnS p e below T40 (mkF m 20 #[iv p0, rv w_MILLISECOND, rv w_MILLISECOND] [(.ref w_SECOND), (.ref w_MILLISECOND)]) _
      refine Jvm.RoadKit.acmp (g := (mkF m 20 #[iv p0, rv w_MILLISECOND, rv w_MILLISECOND] [(.ref w_SECOND), (.ref w_MILLISECOND)])) X40 hx rfl rfl rfl (pc0 := 20) (pc' := 25) (same := false) rfl (hb hby at_20) rfl (decide_eq_false fun q => ne_MILLISECOND (Value.ref.inj q)) (by decide) (by decide) ?_
      show OwnS p e below T40 (mkF m 25 #[iv p0, rv w_MILLISECOND, rv w_MILLISECOND] []) _
      refine XS.aloadN X40.here hx rfl (hb hby at_25) rfl rfl ?_
      show OwnS p e below T40 (mkF m 26 #[iv p0, rv w_MILLISECOND, rv w_MILLISECOND] [(.ref w_MILLISECOND)]) _
      refine st41.trans ?_
      show OwnS p e below T41 (mkF m 29 #[iv p0, rv w_MILLISECOND, rv w_MILLISECOND] [(.ref w_MILLISECOND)]) _
      refine XS.aloadN X41.here hx rfl (hb hby at_29) rfl rfl ?_
      show OwnS p e below T41 (mkF m 30 #[iv p0, rv w_MILLISECOND, rv w_MILLISECOND] [(.ref w_MILLISECOND), (.ref w_MILLISECOND)]) _
      refine Jvm.RoadKit.acmp (g := (mkF m 30 #[iv p0, rv w_MILLISECOND, rv w_MILLISECOND] [(.ref w_MILLISECOND), (.ref w_MILLISECOND)])) X41 hx rfl rfl rfl (pc0 := 30) (pc' := 35) (same := true) rfl (hb hby at_30) rfl (decide_eq_true rfl) (by decide) (by decide) ?_
      show OwnS p e below T41 (mkF m 35 #[iv p0, rv w_MILLISECOND, rv w_MILLISECOND] []) _
      refine XS.aloadN X41.here hx rfl (hb hby at_35) rfl rfl ?_
      show OwnS p e below T41 (mkF m 36 #[iv p0, rv w_MILLISECOND, rv w_MILLISECOND] [(.ref w_MILLISECOND)]) _
      refine XS.aloadN X41.here hx rfl (hb hby at_36) rfl rfl ?_
      show OwnS p e below T41 (mkF m 37 #[iv p0, rv w_MILLISECOND, rv w_MILLISECOND] [(.ref w_MILLISECOND), (.ref w_MILLISECOND)]) _
      refine st42.trans ?_
      show OwnS p e below T42 (mkF m 40 #[iv p0, rv w_MILLISECOND, rv w_MILLISECOND] [(.int 0)]) _
      refine XS.ifYes X42.here hx rfl (pc0 := 40) (pc' := 45) rfl (hb hby at_40) rfl ((if0 _ _).trans (flt (by decide : ¬ ((0 : Int32) < (0 : Int32)))).2.1) (by decide) (by decide) ?_
      show OwnS p e below T42 (mkF m 45 #[iv p0, rv w_MILLISECOND, rv w_MILLISECOND] []) _
      refine XS.aloadN X42.here hx rfl (hb hby at_45) rfl rfl ?_
      show OwnS p e below T42 (mkF m 46 #[iv p0, rv w_MILLISECOND, rv w_MILLISECOND] [(.ref w_MILLISECOND)]) _
      refine st43.trans ?_
      show OwnS p e below T43 (mkF m 49 #[iv p0, rv w_MILLISECOND, rv w_MILLISECOND] [(.int 17)]) _
      refine XS.bipush X43.here hx rfl (hb hby at_49) ?_
      show OwnS p e below T43 (mkF m 51 #[iv p0, rv w_MILLISECOND, rv w_MILLISECOND] [(.int 14), (.int 17)]) _
      refine XS.icmpYes X43.here hx rfl (pc0 := 51) (pc' := 69) rfl (hb hby at_51) rfl (feq (by decide : ¬ ((17 : Int32) = (14 : Int32)))).2 (by decide) (by decide) ?_
      show OwnS p e below T43 (mkF m 69 #[iv p0, rv w_MILLISECOND, rv w_MILLISECOND] []) _
      refine XS.aloadN X43.here hx rfl (hb hby at_69) rfl rfl ?_
      show OwnS p e below T43 (mkF m 70 #[iv p0, rv w_MILLISECOND, rv w_MILLISECOND] [(.ref w_MILLISECOND)]) _
      refine XS.aloadN X43.here hx rfl (hb hby at_70) rfl rfl ?_
      show OwnS p e below T43 (mkF m 71 #[iv p0, rv w_MILLISECOND, rv w_MILLISECOND] [(.ref w_MILLISECOND), (.ref w_MILLISECOND)]) _
      refine Jvm.RoadKit.acmp (g := (mkF m 71 #[iv p0, rv w_MILLISECOND, rv w_MILLISECOND] [(.ref w_MILLISECOND), (.ref w_MILLISECOND)])) X43 hx rfl rfl rfl (pc0 := 71) (pc' := 74) (same := true) rfl (hb hby at_71) rfl (decide_eq_true rfl) (by decide) (by decide) ?_
      show OwnS p e below T43 (mkF m 74 #[iv p0, rv w_MILLISECOND, rv w_MILLISECOND] []) _
      refine XS.iconst X43.here hx rfl (hb hby at_74) ?_
      show OwnS p e below T43 (mkF m 75 #[iv p0, rv w_MILLISECOND, rv w_MILLISECOND] [(.int 1)]) _
      refine XS.goto X43.here hx rfl (pc0 := 75) (pc' := 79) rfl (hb hby at_75) (by decide) (by decide) ?_
      show OwnS p e below T43 (mkF m 79 #[iv p0, rv w_MILLISECOND, rv w_MILLISECOND] [(.int 1)]) _
      exact retN X43 hx (t := .boolean) Bd.returns (by simp) (hb hby at_79) hr
    · show Q_0 Z p0 w_YEAR w_MONTH w_DAY w_HOUR w_MINUTE w_SECOND w_MILLISECOND w_DIGITS kD mir_Precision h0 n0 _ T43.heap _
      rw [e43]
      exact ⟨rfl, N43, trivial⟩
set_option maxRecDepth 65536 in
set_option maxHeartbeats 40000000 in
theorem comes_1 {Post : Tables → Env → Array Value → State → Outcome → State → Prop} (hpost : ∀ tb e args s v u, (limb_1_1.after args s (.returned v) u = true ∧ limb_1_2.after args s (.returned v) u = true ∧ True) → FrameEnd s (.returned v) u (Jvm.fieldLocs frame_1_writes args s ++ Jvm.arrayLocs frame_1_arrays args s ++ Jvm.staticLocs frame_1_statics s) 0 0 → Post tb e args s (.returned v) u) :
    ArmFor flags0 classFile x code maxLocals ret World_1 tables_1 room_1 Calls_1 rest_1 Pre_1 Post := by
  intro l hfl _ _ p e ha hc hk s m args below hf hA hF happ hP
  obtain ⟨hcalls, hrest, hpre⟩ := hP
  obtain ⟨-, -, -, hnamed, -, -, -, hat⟩ := (Spec.applies_iff hf).mp happ
  obtain ⟨hg, hn⟩ := and_e (Cond.before_iff.mp (show (Jvm.Cond.and given_1 narrow_1).before args s = true from hpre))
  have hw := fun d (hd : d ∈ tables_1) => atoms_spec (ws := Jvm.Cond.code x code maxLocals ret :: tables_1) hat d (List.mem_cons_of_mem _ hd)
  have hfit : Fit s := fun {y c} hc i hi => by
    obtain ⟨ha, rfl⟩ := Array.getElem?_eq_some_iff.mp hc
    have q := List.all_eq_true.mp ((Array.all_eq_true_iff_forall_mem.mp hF) _ (Array.getElem_mem ha)) i (List.mem_range.mpr hi)
    simpa [Array.getElem?_eq_getElem hi] using q
  obtain ⟨cj1, cj2⟩ := and_e hg
  obtain ⟨cj3, cj4⟩ := and_e hn
  obtain ⟨cj5, cj6⟩ := and_e cj4
  obtain ⟨cj7, cj8⟩ := and_e cj6
  obtain ⟨cj9, cj10⟩ := and_e cj8
  obtain ⟨cj11, cj12⟩ := and_e cj10
  obtain ⟨cj13, cj14⟩ := and_e cj12
  obtain ⟨cj15, cj16⟩ := and_e cj14
  obtain ⟨cj17, cj18⟩ := and_e cj16
  obtain ⟨cj19, cj20⟩ := and_e cj18
  obtain ⟨cj21, cj22⟩ := and_e cj20
  obtain ⟨cj23, cj24⟩ := and_e cj22
  obtain ⟨cj25, cj26⟩ := and_e cj24
  obtain ⟨cj27, cj28⟩ := and_e cj26
  obtain ⟨cj29, cj30⟩ := and_e cj28
  obtain ⟨cj31, cj32⟩ := and_e cj30
  obtain ⟨cj33, cj34⟩ := and_e cj32
  obtain ⟨cj35, cj36⟩ := and_e cj34
  obtain ⟨cj37, cj38⟩ := and_e cj36
  obtain ⟨cj39, cj40⟩ := and_e cj38
  obtain ⟨cj41, cj42⟩ := and_e cj40
  obtain ⟨cj43, cj44⟩ := and_e cj42
  obtain ⟨cj45, cj46⟩ := and_e cj44
  obtain ⟨w0, rfl⟩ : ∃ w0 : Value, args = #[w0] := by
    have hs : args.size = 1 := by simpa [Cond.value, given_1] using cj1
    obtain ⟨L⟩ := args
    match L, hs with
    | [w0], _ => exact ⟨w0, rfl⟩
  obtain ⟨i0, ei0⟩ := is_v cj2
  obtain rfl : w0 = (.int i0) := Option.some.inj ei0
  obtain ⟨w_YEAR, ev_YEAR⟩ := exa_v cj3
  have S_YEAR : Sta s s.heap cS0 "YEAR" cS3 (.ref w_YEAR) := Sta.start ev_YEAR (Or.inr ⟨(own_at hw 6 rfl), (own_at hw 7 rfl)⟩)
  have E_w_YEAR : Exa s s.heap w_YEAR cS0 := Exa.start ev_YEAR cj3
  obtain ⟨w_SECOND, ev_SECOND⟩ := exa_v cj5
  have S_SECOND : Sta s s.heap cS0 "SECOND" cS3 (.ref w_SECOND) := Sta.start ev_SECOND (Or.inr ⟨(own_at hw 6 rfl), (own_at hw 14 rfl)⟩)
  have E_w_SECOND : Exa s s.heap w_SECOND cS0 := Exa.start ev_SECOND cj5
  obtain ⟨w_DIGITS, ev_DIGITS⟩ := arr_v cj11
  have S_DIGITS : Sta s s.heap cS0 "DIGITS" "[I" (.ref w_DIGITS) := Sta.start ev_DIGITS (Or.inr ⟨(own_at hw 6 rfl), (own_at hw 37 rfl)⟩)
  obtain ⟨cl_DIGITS, Ar_DIGITS⟩ := Arr.start ev_DIGITS cj11
  obtain ⟨w_HOUR, ev_HOUR⟩ := exa_v cj15
  have S_HOUR : Sta s s.heap cS0 "HOUR" cS3 (.ref w_HOUR) := Sta.start ev_HOUR (Or.inr ⟨(own_at hw 6 rfl), (own_at hw 45 rfl)⟩)
  have E_w_HOUR : Exa s s.heap w_HOUR cS0 := Exa.start ev_HOUR cj15
  obtain ⟨w_MILLISECOND, ev_MILLISECOND⟩ := exa_v cj19
  have S_MILLISECOND : Sta s s.heap cS0 "MILLISECOND" cS3 (.ref w_MILLISECOND) := Sta.start ev_MILLISECOND (Or.inr ⟨(own_at hw 6 rfl), (own_at hw 47 rfl)⟩)
  have E_w_MILLISECOND : Exa s s.heap w_MILLISECOND cS0 := Exa.start ev_MILLISECOND cj19
  obtain ⟨w_MINUTE, ev_MINUTE⟩ := exa_v cj23
  have S_MINUTE : Sta s s.heap cS0 "MINUTE" cS3 (.ref w_MINUTE) := Sta.start ev_MINUTE (Or.inr ⟨(own_at hw 6 rfl), (own_at hw 50 rfl)⟩)
  have E_w_MINUTE : Exa s s.heap w_MINUTE cS0 := Exa.start ev_MINUTE cj23
  obtain ⟨w_DAY, ev_DAY⟩ := exa_v cj27
  have S_DAY : Sta s s.heap cS0 "DAY" cS3 (.ref w_DAY) := Sta.start ev_DAY (Or.inr ⟨(own_at hw 6 rfl), (own_at hw 52 rfl)⟩)
  have E_w_DAY : Exa s s.heap w_DAY cS0 := Exa.start ev_DAY cj27
  obtain ⟨w_MONTH, ev_MONTH⟩ := exa_v cj31
  have S_MONTH : Sta s s.heap cS0 "MONTH" cS3 (.ref w_MONTH) := Sta.start ev_MONTH (Or.inr ⟨(own_at hw 6 rfl), (own_at hw 54 rfl)⟩)
  have E_w_MONTH : Exa s s.heap w_MONTH cS0 := Exa.start ev_MONTH cj31
  have F_ordinal_w_YEAR : Fld s s.heap w_YEAR cS5 "ordinal" "I" (.int (0 : Int32)) := Fld.start ((fld_at ev_YEAR).symm.trans (own_eq_int cj7))
  have F_ordinal_w_SECOND : Fld s s.heap w_SECOND cS5 "ordinal" "I" (.int (5 : Int32)) := Fld.start ((fld_at ev_SECOND).symm.trans (own_eq_int cj9))
  have F_ordinal_w_HOUR : Fld s s.heap w_HOUR cS5 "ordinal" "I" (.int (3 : Int32)) := Fld.start ((fld_at ev_HOUR).symm.trans (own_eq_int cj17))
  have F_ordinal_w_MILLISECOND : Fld s s.heap w_MILLISECOND cS5 "ordinal" "I" (.int (6 : Int32)) := Fld.start ((fld_at ev_MILLISECOND).symm.trans (own_eq_int cj21))
  have F_ordinal_w_MINUTE : Fld s s.heap w_MINUTE cS5 "ordinal" "I" (.int (4 : Int32)) := Fld.start ((fld_at ev_MINUTE).symm.trans (own_eq_int cj25))
  have F_ordinal_w_DAY : Fld s s.heap w_DAY cS5 "ordinal" "I" (.int (2 : Int32)) := Fld.start ((fld_at ev_DAY).symm.trans (own_eq_int cj29))
  have F_ordinal_w_MONTH : Fld s s.heap w_MONTH cS5 "ordinal" "I" (.int (1 : Int32)) := Fld.start ((fld_at ev_MONTH).symm.trans (own_eq_int cj33))
  obtain ⟨sz_DIGITS, le_DIGITS⟩ := own_len (own_eq_int cj13) ev_DIGITS (Arr.fin (Vm.Alike.refl _) Ar_DIGITS)
  have el_DIGITS_0 : cl_DIGITS.slots[0]? = some (.int (4 : Int32)) := (elem_in (own_eq_int cj35) ev_DIGITS (Term.int_eval (0 : Int32)) Ar_DIGITS.1).2
  have el_DIGITS_1 : cl_DIGITS.slots[1]? = some (.int (6 : Int32)) := (elem_in (own_eq_int cj37) ev_DIGITS (Term.int_eval (1 : Int32)) Ar_DIGITS.1).2
  have el_DIGITS_2 : cl_DIGITS.slots[2]? = some (.int (8 : Int32)) := (elem_in (own_eq_int cj39) ev_DIGITS (Term.int_eval (2 : Int32)) Ar_DIGITS.1).2
  have el_DIGITS_3 : cl_DIGITS.slots[3]? = some (.int (10 : Int32)) := (elem_in (own_eq_int cj41) ev_DIGITS (Term.int_eval (3 : Int32)) Ar_DIGITS.1).2
  have el_DIGITS_4 : cl_DIGITS.slots[4]? = some (.int (12 : Int32)) := (elem_in (own_eq_int cj43) ev_DIGITS (Term.int_eval (4 : Int32)) Ar_DIGITS.1).2
  have el_DIGITS_5 : cl_DIGITS.slots[5]? = some (.int (14 : Int32)) := (elem_in (own_eq_int cj45) ev_DIGITS (Term.int_eval (5 : Int32)) Ar_DIGITS.1).2
  have el_DIGITS_6 : cl_DIGITS.slots[6]? = some (.int (17 : Int32)) := (elem_in (own_eq_int cj46) ev_DIGITS (Term.int_eval (6 : Int32)) Ar_DIGITS.1).2
  have V_w_DIGITS : Arv s s.heap w_DIGITS cl_DIGITS.cls .int (7 : Int32) [(.int 4), (.int 6), (.int 8), (.int 10), (.int 12), (.int 14), (.int 17)] (.int 0) := Arv.start hfit Ar_DIGITS sz_DIGITS le_DIGITS (by decide) rfl ⟨el_DIGITS_0, el_DIGITS_1, el_DIGITS_2, el_DIGITS_3, el_DIGITS_4, el_DIGITS_5, el_DIGITS_6, trivial⟩
  obtain ⟨cM, kM, mir_Precision, hM⟩ := hcalls.1
  have M_mir_Precision : own_Mir s cS0 mir_Precision := ⟨cM, kM, hM.1, hM.2.1, hM.2.2.1⟩
  obtain ⟨kD, hkD⟩ : ∃ z, z = cl_DIGITS.cls := ⟨_, rfl⟩
  rw [← hkD] at V_w_DIGITS
  obtain ⟨n, o, h1, h2, h3, _, L, rfl, ⟨rfl, N, -⟩, hq⟩ := rm0 l s _ hw tables_1 i0 w_YEAR w_MONTH w_DAY w_HOUR w_MINUTE w_SECOND w_MILLISECOND w_DIGITS kD mir_Precision s.heap s.heap.size (Nat.le_refl _) S_YEAR S_MONTH S_DAY S_HOUR S_MINUTE S_SECOND S_MILLISECOND E_w_YEAR E_w_MONTH E_w_DAY E_w_HOUR E_w_MINUTE E_w_SECOND E_w_MILLISECOND F_ordinal_w_YEAR F_ordinal_w_MONTH F_ordinal_w_DAY F_ordinal_w_HOUR F_ordinal_w_MINUTE F_ordinal_w_SECOND F_ordinal_w_MILLISECOND S_DIGITS V_w_DIGITS (Fld.ne F_ordinal_w_YEAR F_ordinal_w_SECOND (by decide)) (Fld.ne F_ordinal_w_MONTH F_ordinal_w_SECOND (by decide)) (Fld.ne F_ordinal_w_DAY F_ordinal_w_SECOND (by decide)) (Fld.ne F_ordinal_w_HOUR F_ordinal_w_SECOND (by decide)) (Fld.ne F_ordinal_w_MINUTE F_ordinal_w_SECOND (by decide)) (Fld.ne F_ordinal_w_MILLISECOND F_ordinal_w_SECOND (by decide)) M_mir_Precision p e ha hc hk s m _ below hf ((Spec.applies_iff_loose hf).mp happ).1 ⟨rfl, State.Warmed39.refl s, rfl⟩ trivial
  refine ⟨n, _, h1, h2, h3, hpost _ _ _ _ _ _ ⟨Cond.after_iff.mpr rfl, Cond.after_iff.mpr (eq_i res_at (Term.int_eval (1)) rfl), trivial⟩ ⟨hq.1, hq.2.1, (hq.2.2.sift fun y hy => Or.inr (N y hy)).mono (by decide) (by decide)⟩⟩
theorem main_1_1 : Claimed_1_1 := comes_1 fun _ _ _ _ _ _ h hF => ⟨h.1, hF⟩
theorem main_1_2 : Claimed_1_2 := comes_1 fun _ _ _ _ _ _ h hF => ⟨h.2.1, hF⟩
end Jvm.Pilot.@@N@@
namespace Jvm.Pilot.@@N@@
open Jvm Jvm.ClassFile Sem Op Lib Jvm.Free Jvm.Stand Jvm.Pilot.@@N@@.Jvm.D
/-! MADE BY PROGRAM (witnessworld.py) out of the Statement's table words and the real class files: 12 classes; the members and pool entries that the words name. The judged class is class 1, her method 2. -/
namespace start1
open Jvm.ClassFile
def u (s : String) : CpInfo := .utf8 (stringToUtf16 s)
/-- a pool by its gaps: so many unusable entries, then the entry; so many at the end -/
def gap : Nat → List CpInfo → List CpInfo
  | 0, r => r
  | n + 1, r => .unusable :: gap n r
def poolList (es : List (Nat × CpInfo)) (last : Nat) : List CpInfo := es.foldr (fun e r => gap e.1 (e.2 :: r)) (gap last [])
def pool (es : List (Nat × CpInfo)) (last : Nat) : Array CpInfo := ⟨poolList es last⟩
def fileOf (pool : Array CpInfo) (this : Nat) (attrs : Array Attribute := #[]) (ms : Array MethodInfo := #[]) (fl : Nat := 33) (sup : Nat := 0) (ifs : Array Nat := #[]) (fds : Array FieldInfo := #[]) : ClassFile where
  minorVersion := 0
  majorVersion := 65
  constantPool := pool
  accessFlags := fl
  thisClass := this
  superClass := sup
  interfaces := ifs
  fields := fds
  methods := ms
  attributes := attrs
def plain (name : String) (sup : Option ClassId) : Class where
  name := name
  kind := .ordinary
  loader := none
  accessFlags := 33
  super := sup
  interfaces := #[]
  cf := none
  fields := #[]
  methods := #[]
  instanceTypes := #[]
  staticTypes := #[]
  resolved := #[]
  callSites := []
  init := .initialized
  statics := none
  mirror := none

def pool0 : Array CpInfo := pool [(5, u "<init>"), (0, u "()V"), (1, .class_ 10), (1, u "java/lang/Object"), (0, u "getClass"), (0, u "()Ljava/lang/Class;")] 111

def k0m0 : Method := { name := "<init>", desc := "()V", sig := { parameters := [], returnType := none }, accessFlags := 1, code := none }
def k0m1 : Method := { name := "getClass", desc := "()Ljava/lang/Class;", sig := { parameters := [], returnType := some (.object "java/lang/Class") }, accessFlags := 273, code := none }
/-- java/lang/Object -/
def k0 : Class := { plain "java/lang/Object" none with
  accessFlags := 33
  interfaces := #[]
  cf := some (fileOf pool0 8 #[] #[{ accessFlags := 1, nameIndex := 5, descriptorIndex := 6, attributes := #[] }, { accessFlags := 273, nameIndex := 11, descriptorIndex := 12, attributes := #[] }] 33 0 #[] #[])
  fields := #[]
  methods := #[k0m0, k0m1]
  instanceTypes := #[]
  staticTypes := #[]
  resolved := Array.replicate 124 none
  statics := none }

def pool1 : Array CpInfo := pool [(2, .class_ 4), (1, u "java/lang/Object"), (0, u "<init>"), (0, u "()V"), (0, .integer 2147483647), (0, .fieldref 9 10), (0, .class_ 11), (0, .nameAndType 12 13), (0, u "com/example/measurewright/measurewright/cql/Precision"), (0, u "YEAR"), (0, u "Lcom/example/measurewright/measurewright/cql/Precision;"), (0, .fieldref 9 15), (0, .nameAndType 16 13), (0, u "MONTH"), (0, .fieldref 9 18), (0, .nameAndType 19 13), (0, u "DAY"), (0, .fieldref 9 21), (0, .nameAndType 22 13), (0, u "HOUR"), (0, .fieldref 9 24), (0, .nameAndType 25 13), (0, u "MINUTE"), (0, .fieldref 9 27), (0, .nameAndType 28 13), (0, u "SECOND"), (0, .fieldref 9 30), (0, .nameAndType 31 13), (0, u "MILLISECOND"), (0, .methodref 33 34), (0, .class_ 35), (0, .nameAndType 36 37), (0, u "com/example/measurewright/measurewright/cql/PrecisionCombinedPinLaw"), (0, u "pick"), (0, u "(I)Lcom/example/measurewright/measurewright/cql/Precision;"), (0, .methodref 9 39), (0, .nameAndType 40 41), (0, u "combined"), (0, u "()Lcom/example/measurewright/measurewright/cql/Precision;"), (0, .methodref 9 43), (0, .nameAndType 44 45), (0, u "compareTo"), (0, u "(Ljava/lang/Enum;)I"), (0, .methodref 9 47), (0, .nameAndType 48 49), (0, u "digits"), (0, u "()I"), (3, u "law"), (0, u "(I)Z")] 2

def k1m0 : Method := { name := "<init>", desc := "()V", sig := { parameters := [], returnType := none }, accessFlags := 2, code := none }
def k1c1 : Code := { maxStack := 2, maxLocals := 2, code := method_2_code, exceptionTable := #[], attributes := #[] }
def k1m1 : Method := { name := "pick", desc := "(I)Lcom/example/measurewright/measurewright/cql/Precision;", sig := { parameters := [.int], returnType := some (.object "com/example/measurewright/measurewright/cql/Precision") }, accessFlags := 10, code := some k1c1 }
def k1c2 : Code := { maxStack := 2, maxLocals := 3, code := code, exceptionTable := #[], attributes := #[] }
def k1m2 : Method := { name := "law", desc := "(I)Z", sig := { parameters := [.int], returnType := some .boolean }, accessFlags := 9, code := some k1c2 }
/-- com/example/measurewright/measurewright/cql/PrecisionCombinedPinLaw -/
def k1 : Class := { plain "com/example/measurewright/measurewright/cql/PrecisionCombinedPinLaw" (some 0) with
  accessFlags := 49
  interfaces := #[]
  cf := some (fileOf pool1 33 #[] #[{ accessFlags := 2, nameIndex := 5, descriptorIndex := 6, attributes := #[] }, { accessFlags := 10, nameIndex := 36, descriptorIndex := 37, attributes := #[] }, { accessFlags := 9, nameIndex := 53, descriptorIndex := 54, attributes := #[] }] 49 2 #[] #[])
  fields := #[]
  methods := #[k1m0, k1m1, k1m2]
  instanceTypes := #[]
  staticTypes := #[]
  resolved := Array.replicate 57 none
  statics := none }

def pool2 : Array CpInfo := pool [(1, .class_ 2), (0, u "java/lang/constant/Constable"), (0, .class_ 4), (0, u "java/lang/Object")] 6

/-- java/lang/constant/Constable -/
def k2 : Class := { plain "java/lang/constant/Constable" (some 0) with
  accessFlags := 1537
  interfaces := #[]
  cf := some (fileOf pool2 1 #[] #[] 1537 3 #[] #[])
  fields := #[]
  methods := #[]
  instanceTypes := #[]
  staticTypes := #[]
  resolved := Array.replicate 11 none
  statics := none }

def pool3 : Array CpInfo := pool [(1, .class_ 2), (0, u "java/lang/Comparable"), (0, .class_ 4), (0, u "java/lang/Object")] 7

/-- java/lang/Comparable -/
def k3 : Class := { plain "java/lang/Comparable" (some 0) with
  accessFlags := 1537
  interfaces := #[]
  cf := some (fileOf pool3 1 #[] #[] 1537 3 #[] #[])
  fields := #[]
  methods := #[]
  instanceTypes := #[]
  staticTypes := #[]
  resolved := Array.replicate 12 none
  statics := none }

def pool4 : Array CpInfo := pool [(1, .class_ 2), (0, u "java/io/Serializable"), (0, .class_ 4), (0, u "java/lang/Object")] 2

/-- java/io/Serializable -/
def k4 : Class := { plain "java/io/Serializable" (some 0) with
  accessFlags := 1537
  interfaces := #[]
  cf := some (fileOf pool4 1 #[] #[] 1537 3 #[] #[])
  fields := #[]
  methods := #[]
  instanceTypes := #[]
  staticTypes := #[]
  resolved := Array.replicate 7 none
  statics := none }

def pool5 : Array CpInfo := pool [(2, .class_ 4), (1, u "java/lang/Enum"), (0, u "name"), (0, u "Ljava/lang/String;"), (0, .fieldref 2 8), (0, .nameAndType 9 10), (0, u "ordinal"), (0, u "I"), (1, .class_ 14), (1, u "java/lang/Object"), (4, u "hash"), (9, .methodref 12 30), (0, .nameAndType 31 32), (0, u "getClass"), (0, u "()Ljava/lang/Class;"), (70, u "compareTo"), (0, u "(Ljava/lang/Enum;)I"), (1, .class_ 108), (1, u "java/lang/Enum$EnumDesc"), (2, .class_ 112), (0, u "java/lang/constant/Constable"), (0, .class_ 114), (0, u "java/lang/Comparable"), (0, .class_ 116), (0, u "java/io/Serializable"), (9, u "()I")] 77

def k5c0 : Code := { maxStack := 1, maxLocals := 1, code := jdk_37_method_2_code, exceptionTable := #[], attributes := #[] }
def k5m0 : Method := { name := "ordinal", desc := "()I", sig := { parameters := [], returnType := some .int }, accessFlags := 17, code := some k5c0 }
def k5c1 : Code := { maxStack := 2, maxLocals := 4, code := jdk_37_method_8_code, exceptionTable := #[], attributes := #[] }
def k5m1 : Method := { name := "compareTo", desc := "(Ljava/lang/Enum;)I", sig := { parameters := [(.object "java/lang/Enum")], returnType := some .int }, accessFlags := 17, code := some k5c1 }
/-- java/lang/Enum -/
def k5 : Class := { plain "java/lang/Enum" (some 0) with
  accessFlags := 1057
  interfaces := #[2, 3, 4]
  cf := some (fileOf pool5 2 #[.nestMembers #[106]] #[{ accessFlags := 17, nameIndex := 9, descriptorIndex := 126, attributes := #[] }, { accessFlags := 17, nameIndex := 103, descriptorIndex := 104, attributes := #[] }] 1057 12 #[111, 113, 115] #[{ accessFlags := 18, nameIndex := 5, descriptorIndex := 6, attributes := #[] }, { accessFlags := 18, nameIndex := 9, descriptorIndex := 10, attributes := #[] }, { accessFlags := 2, nameIndex := 19, descriptorIndex := 10, attributes := #[] }])
  fields := #[{ name := "name", type := (.object "java/lang/String"), accessFlags := 18, slot := 0, constantValue := 0 }, { name := "ordinal", type := .int, accessFlags := 18, slot := 1, constantValue := 0 }, { name := "hash", type := .int, accessFlags := 2, slot := 2, constantValue := 0 }]
  methods := #[k5m0, k5m1]
  instanceTypes := #[(.object "java/lang/String"), .int, .int]
  staticTypes := #[]
  resolved := Array.replicate 204 none
  statics := none }

def pool6 : Array CpInfo := pool [(1, .class_ 2), (0, u "com/example/measurewright/measurewright/cql/Precision"), (2, u "YEAR"), (0, u "Lcom/example/measurewright/measurewright/cql/Precision;"), (2, u "MONTH"), (2, u "DAY"), (2, u "HOUR"), (2, u "MINUTE"), (0, .fieldref 1 20), (0, .nameAndType 21 6), (0, u "SECOND"), (0, .fieldref 1 23), (0, .nameAndType 24 6), (0, u "MILLISECOND"), (2, u "$VALUES"), (0, u "[Lcom/example/measurewright/measurewright/cql/Precision;"), (6, .class_ 37), (1, u "java/lang/Enum"), (24, u "UNITS"), (0, u "[Ljava/time/temporal/ChronoUnit;"), (0, .methodref 1 65), (0, .nameAndType 66 67), (0, u "ordinal"), (0, u "()I"), (0, .fieldref 1 69), (0, .nameAndType 70 71), (0, u "DIGITS"), (0, u "[I"), (2, u "FIELDS"), (0, u "[Ljava/time/temporal/ChronoField;"), (84, u "digits"), (2, u "combined"), (0, u "()Lcom/example/measurewright/measurewright/cql/Precision;")] 8

def k6c0 : Code := { maxStack := 2, maxLocals := 1, code := prog_97_method_6_code, exceptionTable := #[], attributes := #[] }
def k6m0 : Method := { name := "digits", desc := "()I", sig := { parameters := [], returnType := some .int }, accessFlags := 0, code := some k6c0 }
def k6c1 : Code := { maxStack := 2, maxLocals := 1, code := prog_97_method_8_code, exceptionTable := #[], attributes := #[] }
def k6m1 : Method := { name := "combined", desc := "()Lcom/example/measurewright/measurewright/cql/Precision;", sig := { parameters := [], returnType := some (.object "com/example/measurewright/measurewright/cql/Precision") }, accessFlags := 0, code := some k6c1 }
/-- com/example/measurewright/measurewright/cql/Precision -/
def k6 : Class := { plain "com/example/measurewright/measurewright/cql/Precision" (some 5) with
  accessFlags := 16433
  interfaces := #[]
  cf := some (fileOf pool6 1 #[] #[{ accessFlags := 0, nameIndex := 160, descriptorIndex := 67, attributes := #[] }, { accessFlags := 0, nameIndex := 163, descriptorIndex := 164, attributes := #[] }] 16433 35 #[] #[{ accessFlags := 16409, nameIndex := 5, descriptorIndex := 6, attributes := #[] }, { accessFlags := 16409, nameIndex := 9, descriptorIndex := 6, attributes := #[] }, { accessFlags := 16409, nameIndex := 12, descriptorIndex := 6, attributes := #[] }, { accessFlags := 16409, nameIndex := 15, descriptorIndex := 6, attributes := #[] }, { accessFlags := 16409, nameIndex := 18, descriptorIndex := 6, attributes := #[] }, { accessFlags := 16409, nameIndex := 21, descriptorIndex := 6, attributes := #[] }, { accessFlags := 16409, nameIndex := 24, descriptorIndex := 6, attributes := #[] }, { accessFlags := 26, nameIndex := 62, descriptorIndex := 63, attributes := #[] }, { accessFlags := 26, nameIndex := 70, descriptorIndex := 71, attributes := #[] }, { accessFlags := 26, nameIndex := 74, descriptorIndex := 75, attributes := #[] }, { accessFlags := 4122, nameIndex := 27, descriptorIndex := 28, attributes := #[] }])
  fields := #[{ name := "YEAR", type := (.object "com/example/measurewright/measurewright/cql/Precision"), accessFlags := 16409, slot := 0, constantValue := 0 }, { name := "MONTH", type := (.object "com/example/measurewright/measurewright/cql/Precision"), accessFlags := 16409, slot := 1, constantValue := 0 }, { name := "DAY", type := (.object "com/example/measurewright/measurewright/cql/Precision"), accessFlags := 16409, slot := 2, constantValue := 0 }, { name := "HOUR", type := (.object "com/example/measurewright/measurewright/cql/Precision"), accessFlags := 16409, slot := 3, constantValue := 0 }, { name := "MINUTE", type := (.object "com/example/measurewright/measurewright/cql/Precision"), accessFlags := 16409, slot := 4, constantValue := 0 }, { name := "SECOND", type := (.object "com/example/measurewright/measurewright/cql/Precision"), accessFlags := 16409, slot := 5, constantValue := 0 }, { name := "MILLISECOND", type := (.object "com/example/measurewright/measurewright/cql/Precision"), accessFlags := 16409, slot := 6, constantValue := 0 }, { name := "UNITS", type := (.array (.object "java/time/temporal/ChronoUnit")), accessFlags := 26, slot := 7, constantValue := 0 }, { name := "DIGITS", type := (.array .int), accessFlags := 26, slot := 8, constantValue := 0 }, { name := "FIELDS", type := (.array (.object "java/time/temporal/ChronoField")), accessFlags := 26, slot := 9, constantValue := 0 }, { name := "$VALUES", type := (.array (.object "com/example/measurewright/measurewright/cql/Precision")), accessFlags := 4122, slot := 10, constantValue := 0 }]
  methods := #[k6m0, k6m1]
  instanceTypes := #[(.object "java/lang/String"), .int, .int]
  staticTypes := #[(.object "com/example/measurewright/measurewright/cql/Precision"), (.object "com/example/measurewright/measurewright/cql/Precision"), (.object "com/example/measurewright/measurewright/cql/Precision"), (.object "com/example/measurewright/measurewright/cql/Precision"), (.object "com/example/measurewright/measurewright/cql/Precision"), (.object "com/example/measurewright/measurewright/cql/Precision"), (.object "com/example/measurewright/measurewright/cql/Precision"), (.array (.object "java/time/temporal/ChronoUnit")), (.array .int), (.array (.object "java/time/temporal/ChronoField")), (.array (.object "com/example/measurewright/measurewright/cql/Precision"))]
  resolved := Array.replicate 173 none
  statics := some 0
  mirror := some 9 }

def pool7 : Array CpInfo := pool [(1, u "java/lang/Cloneable"), (0, .class_ 1), (0, u "java/lang/Object"), (0, .class_ 3)] 3

/-- java/lang/Cloneable -/
def k7 : Class := { plain "java/lang/Cloneable" (some 0) with
  accessFlags := 1537
  interfaces := #[]
  cf := some (fileOf pool7 2 #[] #[] 1537 4 #[] #[])
  fields := #[]
  methods := #[]
  instanceTypes := #[]
  staticTypes := #[]
  resolved := Array.replicate 8 none
  statics := none }

/-- the primitive byte -/
def k8 : Class := { plain "byte" none with kind := .primitive 'B', accessFlags := 0x411 }
/-- [B -/
def k9 : Class := { plain "[B" (some 0) with kind := .array 8 .byte, interfaces := #[7, 4], accessFlags := 1041 }

/-- the primitive int -/
def k10 : Class := { plain "int" none with kind := .primitive 'I', accessFlags := 0x411 }
/-- [I -/
def k11 : Class := { plain "[I" (some 0) with kind := .array 10 .int, interfaces := #[7, 4], accessFlags := 1041 }

def heap : Heap := #[{ cls := 6, slots := #[.ref 1, .ref 2, .ref 3, .ref 4, .ref 5, .ref 6, .ref 7, .null, .ref 8, .null, .null], vm := .statics 6 },
  { cls := 6, slots := #[.null, .int 0, .int 0], vm := .none },
  { cls := 6, slots := #[.null, .int 1, .int 0], vm := .none },
  { cls := 6, slots := #[.null, .int 2, .int 0], vm := .none },
  { cls := 6, slots := #[.null, .int 3, .int 0], vm := .none },
  { cls := 6, slots := #[.null, .int 4, .int 0], vm := .none },
  { cls := 6, slots := #[.null, .int 5, .int 0], vm := .none },
  { cls := 6, slots := #[.null, .int 6, .int 0], vm := .none },
  { cls := 11, slots := #[.int 4, .int 6, .int 8, .int 10, .int 12, .int 14, .int 17], vm := .none },
  { cls := 0, slots := #[], vm := .mirror 6 }]
def classes : Array Class := #[k0, k1, k2, k3, k4, k5, k6, k7, k8, k9, k10, k11]
def interned : List (Array UInt16 × Addr) := []
def slotsUsed : Nat := 39
def theMethod : MethodId := ⟨1, 2⟩
def args0 : Array Value := #[.int 5]
def aboutOver (below : List Frame) : State where
  vm := { classes := classes, interned := interned.toArray }
  heap := heap
  slotsUsed := slotsUsed
  threads := #[{ frames := .invoking theMethod args0 :: below }]
def below0 : List Frame := [.native { method := ⟨0, 0⟩, args := #[] }]
def about1 : State := aboutOver below0
def p0 : Program := .bare "" "" ""
def e0 : Env := launch0.env 0 0 0
theorem w_frames : about1.frames = Frame.invoking theMethod args0 :: below0 := rfl
set_option maxRecDepth 65536 in
theorem w_args : argsFit about1.vm theMethod args0 = true := by decide +kernel
set_option maxRecDepth 65536 in
theorem w_heap : heapFits about1 = true := by decide +kernel
set_option maxRecDepth 65536 in
theorem w_runnable : about1.curStatus? = some .runnable := by decide +kernel
set_option maxRecDepth 65536 in
theorem w_alone : about1.alone = true := by decide +kernel
set_option maxRecDepth 65536 in
theorem w_named : about1.methodNamed? x = some theMethod := by decide +kernel
set_option maxRecDepth 65536 in
theorem w_hears : about1.hears theMethod below0 = true := by decide +kernel
set_option maxRecDepth 65536 in
theorem w_ripe : about1.ripe theMethod args0 below0 = true := by decide +kernel
theorem w_running : about1.status = .running := rfl
set_option maxRecDepth 65536 in
theorem w_room : about1.hasRoom e0.platform room_1 = true :=
  launch0.hasRoom_least _ room_1 (by decide +kernel) (by decide +kernel) (by decide +kernel) (by decide +kernel) (by decide +kernel) (by decide +kernel)
theorem allAtoms_all (ts : List Jvm.Cond) (a : Array Jvm.Value) (st : Jvm.State) : (allAtoms ts).before a st = ts.all (fun c => c.before a st) := by
  induction ts with
  | nil => rfl
  | cons c t ih =>
    show (Jvm.Cond.and c (allAtoms t)).before a st = _
    rw [Jvm.Cond.before_and, ih, List.all_cons]
def words1 : List Jvm.Cond := Jvm.Cond.code x code maxLocals ret :: tables_1
/-- a 'code' word, met by the world's own term for the bytes: nothing is compared byte by byte -/
theorem code_word {y : MethodName} {bytes : ByteArray} {mx : Nat} {rt : Option FieldType} {a : Array Value} {s : State} {m : MethodId} {meth : Method} {c : Code} (h1 : s.methodNamed? y = some m) (h2 : s.vm.method? m = some meth) (h3 : meth.code = some c) (h4 : c.code = bytes)
    (h5 : (c.maxLocals == mx && c.exceptionTable.isEmpty && decide (c.maxStack ≤ mostOperands) && decide (meth.sig.returnType = rt) && !meth.locks && decide (parseMethodDescriptor y.desc = some meth.sig)) = true) : (Jvm.Cond.code y bytes mx rt).before a s = true := by
  simp only [Bool.and_eq_true, beq_iff_eq, Bool.not_eq_true', decide_eq_true_eq] at h5
  obtain ⟨⟨⟨⟨⟨g1, g2⟩, g3⟩, g4⟩, g5⟩, g6⟩ := h5
  simp [Cond.before, Cond.holds, Cond.value, h1, h2, h3, h4, g1, g2, g3, g4, g5, g6]
def isCode : Jvm.Cond → Bool
  | .code _ _ _ _ => true
  | _ => false
theorem all_split {L : List Jvm.Cond} {P : Jvm.Cond → Bool} (h1 : L.all (fun c => isCode c || P c) = true) (h2 : ∀ c ∈ L.filter isCode, P c = true) : L.all P = true := by
  refine List.all_eq_true.mpr fun c hc => ?_
  have h := List.all_eq_true.mp h1 c hc
  rcases Bool.eq_false_or_eq_true (isCode c) with hi | hi
  · exact h2 c (List.mem_filter.mpr ⟨hc, hi⟩)
  · simpa [hi] using h
set_option maxRecDepth 65536 in
theorem w_c0 : (Jvm.Cond.code x code maxLocals ret).before args0 about1 = true := code_word (m := ⟨1, 2⟩) (meth := k1m2) (c := k1c2) (by decide +kernel) rfl rfl rfl (by decide +kernel)
set_option maxRecDepth 65536 in
theorem w_c1 : (Jvm.Cond.code ({ cls := "com/example/measurewright/measurewright/cql/PrecisionCombinedPinLaw", name := "pick", desc := "(I)Lcom/example/measurewright/measurewright/cql/Precision;" } : Jvm.MethodName) method_2_code (2 : Nat) (Option.some (Jvm.ClassFile.FieldType.object "com/example/measurewright/measurewright/cql/Precision"))).before args0 about1 = true := code_word (m := ⟨1, 1⟩) (meth := k1m1) (c := k1c1) (by decide +kernel) rfl rfl rfl (by decide +kernel)
set_option maxRecDepth 65536 in
theorem w_c2 : (Jvm.Cond.code ({ cls := "com/example/measurewright/measurewright/cql/Precision", name := "combined", desc := "()Lcom/example/measurewright/measurewright/cql/Precision;" } : Jvm.MethodName) prog_97_method_8_code (1 : Nat) (Option.some (Jvm.ClassFile.FieldType.object "com/example/measurewright/measurewright/cql/Precision"))).before args0 about1 = true := code_word (m := ⟨6, 1⟩) (meth := k6m1) (c := k6c1) (by decide +kernel) rfl rfl rfl (by decide +kernel)
set_option maxRecDepth 65536 in
theorem w_c3 : (Jvm.Cond.code ({ cls := "java/lang/Enum", name := "compareTo", desc := "(Ljava/lang/Enum;)I" } : Jvm.MethodName) jdk_37_method_8_code (4 : Nat) (Option.some Jvm.ClassFile.FieldType.int)).before args0 about1 = true := code_word (m := ⟨5, 1⟩) (meth := k5m1) (c := k5c1) (by decide +kernel) rfl rfl rfl (by decide +kernel)
set_option maxRecDepth 65536 in
theorem w_c4 : (Jvm.Cond.code ({ cls := "com/example/measurewright/measurewright/cql/Precision", name := "digits", desc := "()I" } : Jvm.MethodName) prog_97_method_6_code (1 : Nat) (Option.some Jvm.ClassFile.FieldType.int)).before args0 about1 = true := code_word (m := ⟨6, 0⟩) (meth := k6m0) (c := k6c0) (by decide +kernel) rfl rfl rfl (by decide +kernel)
set_option maxRecDepth 65536 in
theorem w_c5 : (Jvm.Cond.code ({ cls := "java/lang/Enum", name := "ordinal", desc := "()I" } : Jvm.MethodName) jdk_37_method_2_code (1 : Nat) (Option.some Jvm.ClassFile.FieldType.int)).before args0 about1 = true := code_word (m := ⟨5, 0⟩) (meth := k5m0) (c := k5c0) (by decide +kernel) rfl rfl rfl (by decide +kernel)
def codes1 : List Jvm.Cond := [Jvm.Cond.code x code maxLocals ret, Jvm.Cond.code ({ cls := "com/example/measurewright/measurewright/cql/PrecisionCombinedPinLaw", name := "pick", desc := "(I)Lcom/example/measurewright/measurewright/cql/Precision;" } : Jvm.MethodName) method_2_code (2 : Nat) (Option.some (Jvm.ClassFile.FieldType.object "com/example/measurewright/measurewright/cql/Precision")), Jvm.Cond.code ({ cls := "com/example/measurewright/measurewright/cql/Precision", name := "combined", desc := "()Lcom/example/measurewright/measurewright/cql/Precision;" } : Jvm.MethodName) prog_97_method_8_code (1 : Nat) (Option.some (Jvm.ClassFile.FieldType.object "com/example/measurewright/measurewright/cql/Precision")), Jvm.Cond.code ({ cls := "java/lang/Enum", name := "compareTo", desc := "(Ljava/lang/Enum;)I" } : Jvm.MethodName) jdk_37_method_8_code (4 : Nat) (Option.some Jvm.ClassFile.FieldType.int), Jvm.Cond.code ({ cls := "com/example/measurewright/measurewright/cql/Precision", name := "digits", desc := "()I" } : Jvm.MethodName) prog_97_method_6_code (1 : Nat) (Option.some Jvm.ClassFile.FieldType.int), Jvm.Cond.code ({ cls := "java/lang/Enum", name := "ordinal", desc := "()I" } : Jvm.MethodName) jdk_37_method_2_code (1 : Nat) (Option.some Jvm.ClassFile.FieldType.int)]
set_option maxRecDepth 65536 in
theorem codes_eq : words1.filter isCode = codes1 := rfl
theorem w_codes : ∀ c ∈ words1.filter isCode, c.before args0 about1 = true := by
  rw [codes_eq]
  intro c hc
  simp only [codes1, List.mem_cons, List.not_mem_nil, or_false] at hc
  rcases hc with rfl | rfl | rfl | rfl | rfl | rfl
  · exact w_c0
  · exact w_c1
  · exact w_c2
  · exact w_c3
  · exact w_c4
  · exact w_c5
set_option maxRecDepth 65536 in
theorem w_t1 : (words1.take 24).all (fun c => isCode c || c.before args0 about1) = true := by decide +kernel
set_option maxRecDepth 65536 in
theorem w_t2 : ((words1.drop 24).take 24).all (fun c => isCode c || c.before args0 about1) = true := by decide +kernel
set_option maxRecDepth 65536 in
theorem w_t3 : ((words1.drop 24).drop 24).all (fun c => isCode c || c.before args0 about1) = true := by decide +kernel
theorem w_tables : (allAtoms (Jvm.Cond.code x code maxLocals ret :: tables_1)).before args0 about1 = true := by
  rw [allAtoms_all]
  show words1.all (fun c => c.before args0 about1) = true
  refine all_split ?_ w_codes
  rw [← List.take_append_drop 24 words1, List.all_append, w_t1, ← List.take_append_drop 24 (words1.drop 24), List.all_append, w_t2, w_t3]
  rfl
set_option maxRecDepth 65536 in
theorem w_case : (Jvm.Cond.and given_1 narrow_1).before args0 about1 = true := by decide +kernel
theorem w_applies : (headSpec (Jvm.Cond.code x code maxLocals ret :: tables_1) room_1).applies x e0.platform about1 = true :=
  (Spec.applies_iff w_frames).mpr ⟨w_running, w_runnable, w_alone, w_named, w_hears, w_ripe, w_room, w_tables⟩
theorem atStart : AtStart classFile x code maxLocals ret World_1 tables_1 room_1 Calls_1 rest_1 Pre_1 launch0 p0 e0 about1 theMethod args0 below0 :=
  ⟨lists_1, trivial, launch0.admits_env _ _ _, launch0.least_env, fairChoices_fair.cas, fairChoices_fair.clock, w_frames, w_args, w_heap, w_applies, ⟨⟨6, k6, 9, by decide +kernel, rfl, rfl, _, rfl, rfl⟩, trivial⟩, trivial, w_case⟩
end start1
theorem witness_1 : WitnessClaimed_1 := ⟨start1.p0, start1.e0, start1.about1, start1.theMethod, start1.args0, start1.below0, start1.atStart⟩
end Jvm.Pilot.@@N@@
